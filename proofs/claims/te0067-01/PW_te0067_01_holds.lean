import PyProof.Rows.All
import Wide.All
import OpenK.AllK
import KE.KSuper
import KE.KRevIter
import PyProof.Draws
import PyProof.Rows.SumAny
import PyProof.Rows.Range3
import PyProof.DefCall
import KE.KDictIter
import PyProof.ForAppend
import PyProof.AutoSeq1
import PyProof.FactsAll.list_3
import PyProof.FactsAll.list_4
import PyProof.StrLawsIn
import PyProof.StrLawsTight
import PyProof.StrLawsChain
import PyProof.StrCalls2
import PyProof.Rows.StrNews2
import KE.KxFormat
import PyProof.CollectIter
import PyProof.JoinWalk
import PyProof.GenCompD
import PyProof.Rows.GenRows
import PyProof.DictTable
import PyProof.CompFree
import OpenK.KMake
import PyProof.InstStoreFacts
import OpenK.KOwn
import PyProof.ExcInit
import OpenK.KMore
import PyProof.TableCode
import Wide.FinOn
import OpenK.XGo
import PyProof.StrLawsFrom
import KE.KNest
import PySem.Challenge.RW_te0067_01
set_option maxHeartbeats 4000000
set_option genSizeOf false
set_option genInjectivity false
set_option bootstrap.genMatcherCode false
set_option Elab.async false
set_option tactic.hygienic false
set_option maxRecDepth 100000
set_option linter.all false
open PySem PySem.W PyProof.Rows PySem.Calls PySem.SeqAt PySem.W.X
namespace Mine.Internal
section
set_option backward.match.sparseCases false
universe u
theorem hR{G:Prop}(h:∀R:Prop,(G→R)→R):G:=h G id
abbrev aa:=@Bool.and_eq_true_iff
abbrev ac:=@Nat.le_trans
abbrev ag:=@Nat.le_of_ble_eq_true
abbrev aj:=@Nat.eq_of_beq_eq_true
abbrev am:=@List.append_assoc
abbrev ao:=@Bool.not_eq_true'
abbrev aq:=@List.length_append
abbrev au:=@List.length_map
abbrev aw:=@Option.bind_eq_some_iff
abbrev ax:=@List.append_nil
abbrev ay:=@Option.map_eq_some_iff
abbrev aA:=@Nat.le_add_right
abbrev aB:=@List.all_eq_true
abbrev aC:=@Nat.le_refl
abbrev aD:=@List.prefix_refl
abbrev aE:=@List.isEmpty_iff
abbrev aI:=@Bool.and_eq_true
abbrev aJ:=@Nat.le_of_eq
abbrev aK:=@List.mem_cons_of_mem
abbrev aL:=@List.mem_cons
abbrev aN:=@Option.bind_some
abbrev aO:=@Option.isNone_iff_eq_none
abbrev aQ:=@Nat.succ_le_succ
abbrev aR:=@Nat.lt_of_le_of_lt
abbrev aV:=@Nat.lt_of_succ_lt_succ
abbrev aW:=@Nat.le_succ_of_le
abbrev aY:=@Nat.le_of_lt
abbrev a9:=@Nat.lt_irrefl
abbrev be:=@Nat.le_add_left
abbrev bg:=@Nat.le_of_succ_le_succ
abbrev bq:=@List.lookup_cons
abbrev br:=@List.cons_ne_nil
abbrev bt:=@Nat.zero_le
abbrev bv:=@Nat.le_of_succ_le
abbrev bw:=@List.mem_map
abbrev bA:=@List.mem_cons_self
abbrev bD:=@Nat.zero_add
abbrev bL:=@Option.isSome_iff_exists
abbrev bQ:=@Nat.add_right_comm
abbrev bS:=@Nat.add_assoc
abbrev bX:=@List.any_eq_true
abbrev cg:=@Nat.not_lt_zero
abbrev ch:=@List.map_append
abbrev cj:=@Nat.le_succ
abbrev cm:=@Nat.add_sub_cancel_left
abbrev cn:=@List.drop_eq_nil_iff
abbrev cq:=@Bool.or_eq_false_iff
abbrev cw:=@List.map_cons
abbrev cy:=@Nat.ne_of_lt
abbrev cz:=@Nat.ble_eq
abbrev cA:=@Nat.add_comm
abbrev cB:=@List.getD_eq_getElem?_getD
abbrev cC:=@List.drop_drop
abbrev cD:=@Bool.eq_false_iff
abbrev cE:=@List.length_reverse
abbrev cF:=@List.filterMap_cons
abbrev cG:=@List.find?_cons
abbrev cJ:=@List.getElem?_eq_some_iff
abbrev cM:=@List.mem_singleton
abbrev cN:=@List.length_cons
abbrev dk:=@Nat.lt_succ_self
abbrev dq:=@List.dropWhile_cons_of_pos
abbrev dz:=@List.getElem?_eq_none_iff
abbrev dA:=@List.nodup_cons
abbrev dB:=@Bool.or_eq_true
abbrev dG:=@Nat.beq_refl
abbrev dL:=@Bool.or_false
abbrev dO:=@List.takeWhile_append_dropWhile
abbrev dQ:=@Nat.add_le_add_left
abbrev dX:=@List.length_eq_zero_iff
abbrev dY:=@List.length_drop
abbrev er:=@List.eq_nil_of_length_eq_zero
abbrev et:=@Nat.lt_of_lt_of_le
abbrev eu:=@Int.natCast_nonneg
abbrev eD:=@Nat.lt_succ_of_lt
abbrev eE:=@List.size_toArray
abbrev eF:=@List.reverse_cons
abbrev eG:=@List.any_eq_false
abbrev eX:=@List.drop_left
abbrev eY:=@List.dropWhile_cons_of_neg
abbrev fq:=@Nat.succ_ne_self
abbrev ft:=@List.not_mem_nil
abbrev fO:=@Option.eq_some_of_isSome
abbrev fP:=@List.getElem?_eq_getElem
abbrev fV:=@Bool.false_eq_true
abbrev gY:=@Nat.lt_of_succ_lt
abbrev gZ:=@Nat.add_le_add
abbrev g8:=@Int.toNat_natCast
abbrev iF:=@Nat.ble_eq_true_of_le
abbrev iL:=@List.map_drop
abbrev iM:=@List.any_cons
abbrev iO:=@Bool.not_true
abbrev iP:=@Bool.false_or
abbrev jg:=@Nat.not_succ_le_zero
abbrev jh:=@List.mem_append_left
abbrev jB:=@List.forIn_cons
abbrev kY:=@List.zip_nil_right
abbrev kZ:=@List.prefix_append
abbrev k4:=@List.mem_filterMap
abbrev k9:=@Bool.false_ne_true
abbrev k_:=@Bool.and_false
abbrev l9:=@Option.not_isSome
abbrev ml:=@Bool.and_true
abbrev oH:=@Nat.succ_ne_zero
abbrev oJ:=@Nat.not_le_of_lt
abbrev o6:=@List.map_map
abbrev o7:=@Int.add_comm
abbrev uw:=@Nat.not_succ_le_self
abbrev uz:=@List.forall_mem_cons
abbrev uA:=@List.forIn_nil
abbrev x8:=@List.map_take
abbrev x9:=@Int.ofNat_inj
abbrev x_:=@Int.add_assoc
abbrev zF:=@Nat.sub_add_cancel
abbrev zJ:=@Int.add_sub_cancel
abbrev Dz:=@Nat.lt_or_ge
abbrev DA:=@Nat.add_sub_of_le
abbrev DC:=@List.drop_sublist
abbrev DD:=@Int.ofNat_lt
abbrev DE:=@Int.ofNat_le
abbrev DF:=@Int.add_zero
abbrev G4:=@List.map_fst_zip
abbrev H2:=@List.getLast?_eq_some_getLast
abbrev Kk:=@Nat.min_eq_left
abbrev Km:=@Int.natCast_pos
abbrev M3:=@List.take_left
abbrev M4:=@List.takeWhile_cons_of_pos
abbrev M5:=@List.takeWhile_cons_of_neg
abbrev M6:=@List.mem_range
abbrev NI:=@List.getLastD_eq_getLast?
abbrev NJ:=@List.findIdx?_eq_none_iff
abbrev P0:=@List.drop_nil
abbrev P3:=@Int.neg_nonpos_of_nonneg
inductive V where
  |none
  |bool (b:Bool)
  |int (i:Int)
  |str (s:List Nat)
  |tup (l:List V)
  |lst (l:List V)
  |own (l:List V)
  |rcd (c:Nat) (l:List V)
  |inst (r:Nat)
  |meth (f:Nat) (r:Nat)
  |glob (a:Nat)
  |bi (id:String)
  |ty (n:String)
  |itr (d:Nat) (l:List V) (e:Nat) (x:V)
  |rng (l:List V)
  |dct (ks:List (List Nat)) (vs:List V)
  |gone
noncomputable def j9:V→Option Int
  |.int i=>some i
  |_=>Option.none
noncomputable def l7:V→Option (List Nat)
  |.str s=>some s
  |_=>Option.none
noncomputable def KV:V→Option Bool
  |.bool s=>some s
  |_=>Option.none
noncomputable def GK:V→Option (List V)
  |.tup s=>some s
  |_=>Option.none
noncomputable def uJ:V→Option Nat
  |.inst s=>some s
  |_=>Option.none
noncomputable def ry:V→Option Nat
  |.glob s=>some s
  |_=>Option.none
noncomputable def rB:V→Option String
  |.bi s=>some s
  |_=>Option.none
noncomputable def J9:V→Option String
  |.ty s=>some s
  |_=>Option.none
noncomputable def Dm:V→Option (List (List Nat)×List V)
  |.dct k v=>some (k,v)
  |_=>Option.none
noncomputable def KU:V→Option (Nat×List V)
  |.rcd k v=>some (k,v)
  |_=>Option.none
noncomputable def NE:V→Option (Nat×Nat)
  |.meth k v=>some (k,v)
  |_=>Option.none
noncomputable def Fw (v:V):=Nat.beq v.ctorIdx 0
noncomputable def fb:V→Option (List V)
  |.lst l=>some l
  |.own l=>some l
  |_=>Option.none
noncomputable def xO:V→Option (List V)
  |.own l=>some l
  |_=>Option.none
noncomputable def asL:V→Option (List V)
  |.lst l=>some l
  |_=>Option.none
noncomputable def aM {α:Type} b (x:Option α):=match b with
  |true=>x
  |false=>Option.none
noncomputable def AQ {α:Type} (x y:Option α):=match x with
  |some a=>some a
  |Option.none=>y
noncomputable def oC {α:Type} {β:Type u} (o:Option α) (f:α→β) (g:β):=match o with
  |some a=>f a
  |Option.none=>g
open Classical in
noncomputable def jN (a b:V):=decide (a=b)
open Classical in
theorem aH a:jN a a=true:=decide_eq_true rfl
open Classical in
theorem Ij {a b} (h:jN a b=true):a=b:=of_decide_eq_true h
noncomputable def ys (s:Str):=s.cps.toList
noncomputable def wZ (s:Str):=s.cps.toList.foldl (fun h c=>h*1114113+c+1) 0
noncomputable def bx (a b:Str):Bool:=match Nat.beq (wZ a) (wZ b) with
  |true=>decide (a=b)
  |false=>false
noncomputable def lk {α:Type} (x:Str):List (Str×α)→Option α
  |[]=>.none
  |p::r=>match bx p.1 x with|true=>some p.2|false=>lk x r
noncomputable def put {α:Type} (x:Str) (v:α):List (Str×α)→List (Str×α)
  |[]=>[(x,v)]
  |p::r=>match bx p.1 x with|true=>(p.1,v)::r|false=>p::put x v r
inductive di where
  |empty|taken
  |live (c:Nat) (attrs:List (Str×V))
structure St where
  rho:List (Str×V)
  sc:List (Str×NameKind)
  r0:di
  r1:di
  r2:di
  r3:di
  outs:List V
  orc:List V
  md:Bool
  ob:Bool
  dp:Nat
  hd:Bool
noncomputable def wK (s:St) b:={s with ob:=b}
noncomputable def iX (s:St) l:={s with rho:=l}
noncomputable def LS (s:St) l:={s with orc:=l}
noncomputable def ve (s:St) l:={s with outs:=l}
noncomputable def Js (s:St) b:={s with hd:=b}
noncomputable def r3S (s:St) x:={s with r3:=x}
noncomputable def St.reg (s:St)
  |0=>s.r0|1=>s.r1|2=>s.r2|3=>s.r3|_=>.taken
noncomputable def St.setReg (s:St)
  |0,x=>{s with r0:=x}|1,x=>{s with r1:=x}|2,x=>{s with r2:=x}|3,x=>{s with r3:=x}|_,_=>s
noncomputable def bad (x:Str):=match x.cps.toList with
  |95::95::_=>true
  |_=>false
noncomputable def fc {α:Type}:List α→Option α
  |[x]=>some x
  |_=>Option.none
noncomputable def Fy (k:Nat) (e:Expr):=Nat.beq e.ctorIdx k
noncomputable def jt:Expr→Option (Str×Pos)
  |.Name x p=>some (x,p)
  |_=>none
noncomputable def oS:Expr→Option (Expr×Str×Pos)
  |.Attribute o a p=>some (o,a,p)
  |_=>none
noncomputable def NA:Expr→Option Const
  |.Constant c _ _=>some c
  |_=>none
noncomputable def Gx:Expr→Option (Expr×List Expr×List Keyword×Pos)
  |.Call f a k p=>some (f,a,k,p)
  |_=>none
noncomputable def Hd:Expr→Option (List Expr×Nat×Pos)
  |.Tuple l k p=>some (l,k,p)
  |_=>none
noncomputable def I_:Expr→Option (Expr×List Comprehension×Scope)
  |.ListComp e g s _=>some (e,g,s)
  |_=>none
noncomputable def gxE:Expr→Option (Expr×List Comprehension×Scope)
  |.GeneratorExp e g s _=>some (e,g,s)
  |_=>none
noncomputable def Nn:Expr→Option (Option Expr×Option Expr×Option Expr)
  |.Slice a b c _=>some (a,b,c)
  |_=>none
noncomputable def LA:Expr→Option (Expr×Expr)
  |.Subscript o i _=>some (o,i)
  |_=>none
noncomputable def unE:Expr→Option (UnaryOp×Expr)
  |.UnaryOp o e _=>some (o,e)
  |_=>none
noncomputable def Nj:Expr→Option (Option Expr)
  |.Yield e _=>some e
  |_=>none
noncomputable def KI:UnaryOp→Bool
  |.USub=>true
  |_=>false
noncomputable def BG:UnaryOp→Bool
  |.Not=>true
  |_=>false
noncomputable def cI:Const→Option Int
  |.int i=>some i
  |_=>none
noncomputable def cS:Const→Option Str
  |.str i=>some i
  |_=>none
noncomputable def Ox e:=(unE e).bind fun q=>match KI q.1 with
  |true=>some q.2
  |false=>none
noncomputable def smp e:=Fy 19 e||(Fy 23 e||match Ox e with|some c=>Fy 19 c|none=>false)
noncomputable def jb e:=Fy 23 e
noncomputable def noI:Nat→V→Bool
  |0,_=>false
  |n+1,v=>match v with
   |.none|.bool _|.int _|.str _|.glob _|.bi _|.ty _|.rng _=>true
   |.tup l|.lst l|.rcd _ l=>l.all (noI n)
   |_=>false
noncomputable def Jw:V→Option V
  |.own l=>some (.lst l)
  |.itr _ _ _ _|.dct _ _|.gone=>Option.none
  |v=>some v
noncomputable def av a b:=match b with
  |true=>a
  |false=>false
theorem kW {a b}:av a b=true↔a=true∧b=true:=by cases a<;>cases b<;>decide
noncomputable def isB (o:Option _) b:=match b with
  |true=>(match o with|some x=>x|.none=>false)
  |false=>(match o with|some x=>!x|.none=>false)
set_option tactic.hygienic true in
theorem FF {o} {b} (h:isB o b=true):o=some b:=by
  cases b<;>cases o<;>first|trivial|(rename_i x;cases x<;>first|rfl|trivial)
inductive Fl where
  |next|brk|cont|ret (v:V)
inductive lM (α:Type) where
  |ok (a:α) (s:St)
  |err (c:Nat) (x:V) (s:St)
  |stuck (w:String)
noncomputable def lM.bind {α β}:lM α→(α→St→lM β)→lM β
  |.ok a s,k=>k a s
  |.err c x s,_=>.err c x s
  |.stuck w,_=>.stuck w
structure FI where
  params:List Str
  dflts:List V
  body:List Stmt
  names:List (Str×NameKind)
  gen:Bool:=false
  dp:Nat:=0
  law:Bool:=false
  fence:Bool:=false
  cls:Option Nat:=none
structure PT where
  fn:Nat→Option FI
  meth:Nat→Str→Option V
  glob:Str→Option V
  flds:Nat→List Str
  regf:Nat→List Str
  regOf:Nat→Option Nat
  sup:Nat→Str→Option Nat
  cErr:Nat
theorem aX {α:Type u} {x:α} {R:Prop} (h:none=some x):R:=nomatch h
theorem bG {R:Prop} (h:false=true):R:=nomatch h
structure Le (s s':St):Prop where
  ob:s'.ob=true→s.ob=true
  ou:s.outs<+:s'.outs
theorem Le.refl s:Le s s:=⟨id,aD _⟩
theorem Le.trans {a b c} (x:Le a b) (y:Le b c):Le a c:=⟨fun h=>x.ob (y.ob h),x.ou.trans y.ou⟩
noncomputable def G6 {α} (s:St):lM α→Prop
  |.ok _ s'=>Le s s'
  |.err _ _ s'=>Le s s'
  |.stuck _=>True
theorem G6.pre {α} {s s'} {o:lM α} (h:Le s s') (g:G6 s' o):G6 s o:=o.casesOn (fun ζ ζ=>h.trans) (fun ζ ζ ζ=>h.trans) (fun ζ=>id) g
structure Tr (α:Type) where
  run:St→lM α
  mo:∀s,G6 s (run s)
noncomputable instance {α:Type}:CoeFun (Tr α) fun ζ=>St→lM α:=⟨Tr.run⟩
section
variable {α β:Type}
noncomputable def rT (a:α):Tr α:=⟨fun s=>.ok a s,.refl⟩
noncomputable def sT (w:String):Tr α:=⟨fun ζ=>.stuck w,fun ζ=>trivial⟩
noncomputable def Tr.bind (x:Tr α) (k:α→Tr β):Tr β:=⟨fun s=>(x.run s).bind fun a s=>(k a).run s,fun s=>by
  have:=x.mo s
  revert this
  induction x.run s with
  |ok a s'=>exact fun h=>((k a).mo s').pre h
  |err=>exact id
  |stuck=>exact id⟩
noncomputable def aT (f:St→Tr α):Tr α:=⟨fun s=>(f s).run s,fun s=>(f s).mo s⟩
noncomputable def uT (f:St→St) (h:∀s,Le s (f s)) (x:Tr α):Tr α:=⟨fun s=>x.run _,fun s=>(x.mo _).pre (h s)⟩
noncomputable def nT b (x:Tr α):=uT (fun s=>wK s (av _ b)) (fun ζ=>⟨fun h=>(kW.mp h).1,aD _⟩) x
noncomputable def pT n v (x:Tr α):=uT (fun s=>iX s (put n v s.rho)) (fun ζ=>⟨id,aD _⟩) x
noncomputable def gT b (w:String) (x:Tr α):=match b with|true=>x|false=>sT w
noncomputable def oT (o:Option α) (w:String) (k:α→Tr β):=match o with|some a=>k a|none=>sT w
noncomputable def MJ n (k:Nat→Tr α):=match n with
  |0=>sT "depth"
  |n+1=>k n
noncomputable def eT (c:Nat) (v:V):Tr α:=⟨fun s=>.err c v s,.refl⟩
noncomputable def pX (f:St→St) (g:St→St→St) (hg:∀s s',Le (f s) s'→Le s (g s s')) (x:Tr α):Tr α:=⟨fun s=>match x.run _ with
  |.ok a s'=>.ok a _
  |.err c v s'=>.err c v _
  |.stuck w=>.stuck w,fun s=>by
  have:=x.mo (f s)
  revert this
  induction x.run _ with
  |ok a s'=>exact hg s s'
  |err c v s'=>exact hg s s'
  |stuck=>exact id⟩
noncomputable def cT (x:Tr α) (k:Nat→V→Tr α):Tr α:=⟨fun s=>match x.run s with
  |.err c v s'=>(k c v).run s'
  |o=>o,fun s=>by
  have:=x.mo s
  revert this
  induction x.run s with
  |ok a s'=>exact id
  |err c v s'=>exact fun h=>((k c v).mo s').pre h
  |stuck=>exact id⟩
noncomputable def noErr (x:Tr α):=cT x fun ζ ζ=>sT "err"
noncomputable def B4 (f:St→St) (g:St→St→St) (hg:∀s s',Le (f s) s'→Le s (g s s')) (d:Nat) (x:Tr Fl):Tr V:=⟨fun s=>match x.run _ with
  |.ok Fl.next s'=>.ok (.itr d s'.outs 0 .none) _
  |.ok _ _=>.stuck "gen return"
  |.err c v s'=>.ok (.itr d s'.outs c v) _
  |.stuck w=>.stuck w,fun s=>by
  have:=x.mo (f s)
  revert this
  induction x.run _ with
  |ok a s'=>cases a<;>first|exact fun ζ=>trivial|exact hg s s'
  |err c v s'=>exact hg s s'
  |stuck=>exact id⟩
end
structure dN where
  ev:Expr→Tr V
  tr:Expr→Tr Bool
  ex:List Stmt→Tr Fl
  call:V→List V→List (Str×V)→Tr V
noncomputable def fH (eq:V→V→Option Bool):List V→List V→Option Bool
  |[],b=>some b.isEmpty
  |a::as,b=>match b with
   |[]=>some false
   |b::bs=>(eq a b).bind fun x=>(fH eq as bs).bind fun y=>some (x&&y)
noncomputable def eqS a b:=oC (j9 a) (fun x=>(j9 b).bind fun y=>some (decide (x=y))) ((KV a).bind fun x=>(KV b).bind fun y=>some (x==y))
noncomputable def My x b:=oC (l7 b) (fun y=>some (decide (x=y))) ((GK b).bind fun ζ=>some false)
noncomputable def Mx eq x b:=oC (GK b) (fH eq x) ((l7 b).bind fun ζ=>some false)
noncomputable def zT:Nat→V→V→Option Bool
  |0,_,_=>Option.none
  |n+1,a,b=>oC (fb a) (fun x=>(fb b).bind (fH (zT n) x)) (oC (GK a) (fun x=>Mx (zT n) x b) (oC (l7 a) (fun x=>My x b) (eqS a b)))
noncomputable def mq v:=AQ (KV v) (AQ ((fb v).bind fun l=>some (!l.isEmpty)) (oC (KU v) (fun ζ=>some true) (oC (NE v) (fun ζ=>some true) (aM (Fw v) (some false)))))
noncomputable def Mm (x y:List Nat):=match y with
  |[]=>x.isEmpty
  |c::r=>x.isPrefixOf (c::r)||Mm x r
noncomputable def nP (x:V):List V→Option Bool
  |[]=>(l7 x).bind fun ζ=>some false
  |y::r=>(zT 100 y x).bind fun a=>(nP x r).bind fun b=>some (a||b)
noncomputable def jy (i:Int) (n:Nat):=(if i<0 then max 0 (i+n) else min i n).toNat
noncomputable def oQ {α:Type} (l:List α) (lo hi:Option _):=
  let a:=match lo with|some i=>jy i l.length|.none=>0
  let b:=match hi with|some i=>jy i l.length|.none=>l.length
  (l.drop a).take (b -a)
noncomputable def rO (i:Int) (n:Nat):=(if i<0 then i+n else i).toNat
noncomputable def pS (i:Int) (n:Nat):=decide (-n≤i)&&decide (i<n)
noncomputable def dy (x y:List Nat):Nat→Option Nat
  |k=>match y with
   |[]=>if x.isEmpty then some k else Option.none
   |c::r=>if x.isPrefixOf (c::r) then some k else dy x r (k+1)
noncomputable def bN (c:Nat):List Nat→List Nat→List (List Nat)
  |cur,[]=>[cur]
  |cur,x::r=>if x=c then cur::bN c [] r else bN c (cur++[x]) r
noncomputable def b_ (sep:List Nat):List (List Nat)→List Nat
  |[]=>[]
  |[x]=>x
  |x::r=>x++sep++b_ sep r
noncomputable def jY:Nat→List Nat→List Nat
  |_,[]=>[]
  |col,c::r=>if c=9 then List.replicate (8 -col%8) 32++jY ((col/8+1)*8) r
   else if c=10∨c=13 then c::jY 0 r else c::jY (col+1) r
noncomputable def iU:List V→Option (List (List Nat))
  |[]=>some []
  |.str s::r=>(iU r).map (s::·)
  |_::_=>Option.none
noncomputable def jX:List V→Option (List Int)
  |[]=>some []
  |.int s::r=>(jX r).map (s::·)
  |_::_=>Option.none
noncomputable def f_:V→Option (Nat×List V×Nat×V)
  |.lst l=>some (0,l,0,.none)
  |.own l=>some (0,l,0,.none)
  |.str s=>some (0,s.map fun c=>.str [c],0,.none)
  |.rng l=>some (0,l,0,.none)
  |.itr d l e x=>some (d,l,e,x)
  |_=>Option.none
noncomputable def frz:V→V
  |.own l=>.lst l
  |v=>v
noncomputable def plain:V→Bool
  |.own _|.itr _ _ _ _|.dct _ _|.gone=>false
  |_=>true
noncomputable def cQ (a b st:Int):Nat→List V
  |0=>[]
  |n+1=>if a<b then .int a::cQ (a+st) b st n else[]
noncomputable def KG (k:List Nat):List (List Nat)→List V→Option V
  |[],_=>Option.none
  |a::as,l=>match l with
   |v::vs=>cond (decide (a=k)) (some v) (KG k as vs)
   |[]=>Option.none
noncomputable def lp (k:List Nat) (v:V):List (List Nat)→List V→List (List Nat)×List V
  |a::as,x::xs=>if a=k then(a::as,v::xs) else let (p,q):=lp k v as xs;(a::p,x::q)
  |_,_=>([k],[v])
noncomputable def Jl a b (k:Int→Int→Option V):=(j9 a).bind fun x=>(j9 b).bind (k x)
noncomputable def yj (a b:V):Option V:=(l7 a).bind fun x=>(l7 b).bind fun y=>some (.str (x++y))
noncomputable def L2 (a b:V):Option V:=(fb a).bind fun x=>(fb b).bind fun y=>some (.own (x++y))
noncomputable def De (op:Operator) (a b:V):=match op with
  |.Add=>AQ (Jl a b fun x y=>some (.int (x+y))) (AQ (yj a b) (L2 a b))
  |.Mod=>Jl a b fun x y=>aM (decide (0<y)) (some (.int (x.fmod y)))
  |_=>Option.none
noncomputable def s8 v:=oC (fb v) (fun l=>Nat.ble l.length 1000000) true
noncomputable def AC v:=oC (fb v) (fun l=>Nat.ble l.length 1000000) (oC (l7 v) (fun l=>Nat.ble l.length 1000000) true)
noncomputable def J1 a b (k:Int→Int→Bool):=(j9 a).bind fun x=>(j9 b).bind fun y=>some (k x y)
noncomputable def isV a b:=aM (Fw b) (oC (KU a) (fun ζ=>some false) (aM (Fw a) (some true)))
noncomputable def one:List Nat→Option Nat
  |[c]=>some c
  |_=>Option.none
noncomputable def Nv a b:=(l7 a).bind fun x=>oC (Dm b) (fun d=>some (d.1.any fun k=>decide (k=x))) ((l7 b).bind fun y=>(one x).bind fun c=>some (y.any (Nat.beq c)))
noncomputable def E7 (o:Option _):=o.bind fun b=>some (!b)
noncomputable def CU (op:CmpOp) (a b:V):=match op with
  |.Eq=>zT 100 a b
  |.NotEq=>E7 (zT 100 a b)
  |.Lt=>J1 a b fun x y=>decide (x<y)
  |.GtE=>J1 a b fun x y=>decide (y≤x)
  |.Is=>isV a b
  |.In=>oC (fb b) (nP a) (Nv a b)
  |.NotIn=>E7 (Nv a b)
  |_=>Option.none
noncomputable def ae s:=Str.ofString s
section
variable (P:PT) (r:dN)
noncomputable def IU (k:V→Tr α):=aT fun s=>match s.orc with
  |w::o=>uT (fun s=>LS s o) (fun ζ=>⟨id,aD _⟩) (k w)
  |[]=>sT "oracle"
noncomputable def Ej v:=aT fun s=>cond s.md (IU fun w=>oT (KV w) "oracle" fun b=>nT (isB (mq v) b) (nT (s8 v) (rT b)))
  (oT (mq v) "truth" fun b=>nT (s8 v) (rT b))
noncomputable def E3 v:=aT fun s=>cond s.md (IU fun w=>nT (jN v w) (rT w)) (rT v)
noncomputable def Jh (v:V):=Nat.beq v.ctorIdx 16
noncomputable def pk (o:Option V):=o.bind fun v=>aM (!Jh v) (some v)
noncomputable def uG x (s:St):=aM (!bad x) (lk x s.rho)
noncomputable def lS:di→Option (Nat×List (Str×V))
  |.live c l=>some (c,l)
  |_=>Option.none
noncomputable def gr e s:=(jt e).bind fun y=>(uG y.1 s).bind fun v=>(uJ v).bind fun i=>(lS (s.reg i)).bind fun q=>some (i,q)
noncomputable def eP e s:=oC (jt e) (fun x=>pk (uG x.1 s)) ((oS e).bind fun q=>(gr q.1 s).bind fun x=>pk (lk q.2.1 x.2.2))
noncomputable def poke e v s:=oC (jt e) (fun x=>some (iX s (put x.1 v s.rho))) ((oS e).bind fun q=>(gr q.1 s).bind fun x=>some (s.setReg x.1 (.live x.2.1 (put q.2.1 v x.2.2))))
theorem lj s k x:Le s (s.setReg k x):=by
  match k with|0=>exact⟨id,aD _⟩|1=>exact⟨id,aD _⟩|2=>exact⟨id,aD _⟩|3=>exact⟨id,aD _⟩|_+4=>exact .refl s
theorem E1 e v s s' (h:poke e v s=some s'):Le s s':=by
  unfold poke at h
  revert h
  induction jt e with
  |some x=>exact fun h=>Option.some.inj h▸⟨id,aD _⟩
  |none=>
   intro h
   obtain⟨q,_,h⟩:=aw.mp h
   obtain⟨x,_,h⟩:=aw.mp h
   exact Option.some.inj h▸lj _ _ _
noncomputable def iC (e:Expr) (v:V) (x:Tr α):Tr α:=⟨fun s=>match poke e v s with
  |some s'=>x.run s'
  |.none=>.stuck "poke",fun s=>by
  have:=E1 e v s
  revert this
  induction poke e v s with
  |none=>exact fun ζ=>trivial
  |some s'=>exact fun q=>(x.mo s').pre (q s' rfl)⟩
noncomputable def HJ (o:Option NameKind):=decide (o=some .globalImplicit)
noncomputable def Od x (s:St):=aM (!bad x) (oC (lk x s.rho) (fun v=>aM (plain v) (some v)) (aM (HJ (lk x s.sc)) (P.glob x)))
noncomputable def om:V→Option (Nat×List V×Nat×V)
  |.itr d l e x=>some (d,l,e,x)
  |_=>Option.none
noncomputable def nq x:=aT fun s=>oC (Od P x s) rT (gT (!bad x) "name" (oT (lk x s.rho) "name" fun v=>oC (xO v) (fun l=>pT x (.lst l) (rT (.lst l))) (oT (om v) "name" fun ζ=>pT x .gone (rT v))))
noncomputable def ri:Const→Option V
  |.none=>some .none
  |.bool b=>some (.bool b)
  |.int i=>some (.int i)
  |.str x=>some (.str (ys x))
  |_=>Option.none
noncomputable def hZ e:=!Fy 22 e
noncomputable def LV (v:V):Tr V:=oT (j9 v) "neg" fun i=>rT (.int (-i))
noncomputable def tV e:=(NA e).bind cI
noncomputable def lg e s:=oC (NA e) ri (oC (jt e) (fun x=>Od P x.1 s) ((Ox e).bind fun c=>(tV c).bind fun i=>some (.int (-i))))
noncomputable def sB:List Expr→St→Option (List V)
  |[],_=>some []
  |e::es,s=>(lg P e s).bind fun v=>(sB es s).bind fun vs=>some (v::vs)
noncomputable def q9 (f:V→V):List Expr→Tr (List V)
  |[]=>rT []
  |e::es=>gT (hZ e) "star" ((r.ev e).bind fun v=>(q9 f es).bind fun vs=>rT (f v::vs))
noncomputable def uH es:=(q9 r frz es).bind fun vs=>gT (vs.all plain) "plain" (rT vs)
noncomputable def zS:List Keyword→Tr (List (Str×V))
  |[]=>rT []
  |k::ks=>gT ks.isEmpty "kw" (oT k.arg "kw" fun n=>(r.ev k.value).bind fun v=>gT (plain (frz v)) "plain" (rT [(n,frz v)]))
noncomputable def idxOf (x:Str):List Str→List V→Option V
  |n::ns,v::vs=>match bx n x with|true=>some v|false=>idxOf x ns vs
  |_,_=>Option.none
noncomputable def live i (k:Nat→List _→Tr α):=aT fun s=>oT (lS (s.reg i)) "inst" fun q=>k q.1 q.2
noncomputable def wJ i v:=oC (ry v) (fun f=>.meth f i) v
noncomputable def v6 v a:=oC (KU v) (fun x=>oT (idxOf a (P.flds x.1) x.2) "field" rT) (oT (uJ v) "attrOf" fun i=>live i fun c at_=>
  oC (lk a at_) (fun v=>gT (plain v) "own attr" (rT v)) (oT (P.meth c a) "attr" fun v=>rT (wJ i v)))
noncomputable def Nz k n:=pS k n&&Nat.ble n 1000000
noncomputable def Bw (l:List V) k:=nT (Nz k l.length) (rT (l.getD (rO k l.length) .gone))
noncomputable def Mb b k:=oC (fb b) (fun l=>Bw l k) (oC (GK b) (fun l=>Bw l k) (oT (l7 b) "itemAt" fun l=>nT (Nz k l.length) (rT (.str ((l.drop (rO k l.length)).take 1)))))
noncomputable def HH j i:=live j fun c ζ=>oT (P.meth c (ae "__getitem__")) "getitem" fun g=>oT (ry g) "getitem" fun f=>gT (plain i) "getitem" (r.call (.glob f) [.inst j,i] [])
noncomputable def HI b i:=oT (Dm b) "itemAt" fun d=>oT (l7 i) "itemAt" fun k=>oT (KG k d.1 d.2) "key" rT
noncomputable def vy b i:=oC (uJ b) (fun j=>HH P r j i) (oC (j9 i) (Mb b) (HI b i))
noncomputable def Hn (b:V) (lo hi:Option Int):Tr V:=oC (fb b) (fun l=>nT (Nat.ble l.length 1000000) (rT (.own (oQ l lo hi)))) (oT (l7 b) "slcAt" fun l=>nT (Nat.ble l.length 1000000) (rT (.str (oQ l lo hi))))
noncomputable def ny:Option Expr→Tr (Option Int)
  |.none=>rT Option.none
  |some e=>(r.ev e).bind fun v=>oT (j9 v) "slice part" fun i=>rT (some i)
noncomputable def IC i (b:Tr V):=oC (Nn i) (fun q=>gT q.2.2.isNone "step" ((ny r q.1).bind fun lo=>(ny r q.2.1).bind fun hi=>b.bind fun b=>Hn b lo hi)) ((r.ev i).bind fun k=>b.bind fun b=>vy P r b k)
noncomputable def pH:V→Bool
  |.bi _=>false
  |.gone=>false
  |_=>true
noncomputable def tj (o:Option NameKind):=decide (o=some .local)||decide (o=some .cell)
noncomputable def iK (t:Expr) (v:V):Tr Unit:=match jt t with
  |some x=>aT fun s=>gT (tj (lk x.1 s.sc)) "asg kind" (pT x.1 v (rT ()))
  |.none=>oT (oS t) "asg" fun q=>aT fun s=>oT (gr q.1 s) "inst" fun x=>gT ((P.flds x.2.1++P.regf x.2.1).any (bx q.2.1)&&Nat.blt x.2.2.length 100&&pH v) "asg field" (uT (fun s=>s.setReg x.1 (.live x.2.1 (put q.2.1 v x.2.2))) (fun ζ=>lj _ _ _) (rT ()))
noncomputable def fC:List Expr→Option (List Str)
  |[]=>some []
  |e::r=>(jt e).bind fun x=>(fC r).map (x.1::·)
noncomputable def vM:List Str→Bool
  |[]=>true
  |x::r=>!(r.any (bx x))&&vM r
noncomputable def jm (ts:List Expr):Bool:=match fC ts with
  |some l=>vM l&&Nat.blt l.length 100
  |.none=>false
noncomputable def r9 (es:List _):=es.all (foldedForSure 8)||!(es.all (constantsAlone 8))
noncomputable def rt:List Expr→List V→Tr Unit
  |[],[]=>rT ()
  |t::ts,v::vs=>(iK P t v).bind fun ζ=>rt ts vs
  |_,_=>sT "asgs"
noncomputable def im (t:Expr) (v:V):Tr Unit:=match Hd t with
  |some ts=>oT (GK v) "unpack" fun vs=>aT fun s=>gT (jm ts.1&&(Nat.beq ts.1.length vs.length&&!s.hd)) "targets" (rt P ts.1 vs)
  |.none=>iK P t v
noncomputable def fF e:=!Fy 7 e
noncomputable def JH e:=gT (fF e) "set" (aT fun s=>oC ((jt e).bind fun x=>(uG x.1 s).bind Dm) (fun d=>rT (.dct d.1 d.2)) (r.ev e))
noncomputable def kQ (ifs:List _):=match ifs with
  |[]=>rT true
  |c::cs=>gT cs.isEmpty "comp ifs" (r.tr c)
noncomputable def dT (t:Expr) (ifs:List Expr) (elt:Expr):List V→List V→Tr (List V)
  |[],bW=>rT bW
  |v::vs,bW=>(iK P t v).bind fun ζ=>(kQ r ifs).bind fun b=>cond b
   ((r.ev elt).bind fun x=>gT (plain (frz x)&&Nat.blt bW.length 1000000) "comp item" (dT t ifs elt vs (bW++[frz x])))
   (dT t ifs elt vs bW)
noncomputable def qN:NameKind→Bool
  |.free=>true
  |_=>false
noncomputable def lY rho (names:List (Str×NameKind)):=names.filterMap fun p=>aM (qN p.2) ((lk p.1 rho).bind fun v=>(Jw v).map (p.1,·))
noncomputable def dr rho (F:List (Str×V)):=F.foldr (fun p rho=>put p.1 p.2 rho) rho
noncomputable def CO (osc:List (Str×NameKind)) (p:Str×NameKind):=cond (qN p.2) (decide (lk p.1 osc=some .cell)) (decide (p.2=.local)||decide (p.2=.globalImplicit))
noncomputable def lE (sc:Scope) x osc:=sc.kind==.function&&((sc.names.lookup x==some NameKind.local)&&(vM (sc.names.map (·.1))&&sc.names.all (CO osc)))
noncomputable def St.hide (s:St):={s with r0:=.taken,r1:=.taken,r2:=.taken,r3:=.taken}
noncomputable def j4 (sc:Scope) (s:St):={s.hide with rho:=lY s.rho sc.names,sc:=sc.names}
noncomputable def lF (sc:Scope) (s s':St):={s with rho:=dr s.rho (lY s.rho sc.names),orc:=s'.orc,ob:=s'.ob}
noncomputable def tR t ifs elt sc src:=oT (f_ src) "comp source" fun q=>aT fun s=>gT (Nat.beq q.2.2.1 0&&(!s.hd&&Nat.blt q.1 s.dp)) "comp source"
  (pX (j4 sc) (lF sc) (fun ζ ζ h=>⟨h.ob,aD _⟩) (noErr ((dT P r t ifs elt q.2.1 []).bind fun out=>gT (out.all (noI 20)) "comp value" (rT out))))
noncomputable def rj (elt:Expr) (gens:List Comprehension) sc:=oT (fc gens) "comp" fun g=>oT (jt g.target) "comp" fun x=>aT fun s=>gT (decide (g.is_async=0)&&(lE sc x.1 s.sc&&fF g.iter)) "comp" ((r.ev g.iter).bind (tR P r g.target g.ifs elt sc))
noncomputable def Be (v:V):Option Nat:=match fb v with
  |some l=>some l.length
  |.none=>(l7 v).map List.length
noncomputable def Mg (v:V):Bool:=match j9 v with|some i=>decide (i=0)|.none=>false
noncomputable def Jf (v:V):Bool:=match j9 v with|some i=>decide (i=-1)|.none=>false
noncomputable def Hq (o:Expr) (l:List V) (v:V):Tr V:=match Mg v with
  |true=>match l with
   |x::xs=>iC o (.own xs) (nT (Nat.ble xs.length 1000000) (rT x))
   |[]=>sT "pop"
  |false=>gT (Jf v) "listMeth" (iC o (.own l.dropLast) (nT (!l.isEmpty&&Nat.ble l.length 1000000) (E3 (l.getLastD .gone))))
noncomputable def II (o:Expr) (n:Nat) (w:List V):Tr V:=iC o (.own w) (nT (Nat.ble n 1000000) (rT .none))
noncomputable def eU (o:Expr) (l:List V) (name:Str) (args:List V):Tr V:=match bx name (ae "append") with
  |true=>oT (fc args) "listMeth" fun v=>II o l.length (l++[frz v])
  |false=>match bx name (ae "pop") with
   |true=>oT (fc args) "listMeth" (Hq o l)
   |false=>match bx name (ae "insert") with
    |true=>match args with
     |[z,v]=>gT (Mg z) "listMeth" (II o l.length (frz v::l))
     |_=>sT "listMeth"
    |false=>gT (bx name (ae "clear")&&args.isEmpty) "listMeth" (II o l.length [])
noncomputable def Bp (x:List Nat) (v:V):Tr V:=match fb v with
  |some l=>oT (iU l) "join" fun ss=>nT (Nat.ble x.length 100000&&Nat.ble (b_ x ss).length 1000000) (rT (.str (b_ x ss)))
  |.none=>oT (l7 v) "join" fun l=>aT fun s=>gT (!s.hd) "join in a handler" (nT (Nat.ble x.length 100000&&(Nat.ble l.length 1000000&&Nat.ble (b_ x (l.map fun c=>[c])).length 1000000)) (rT (.str (b_ x (l.map fun c=>[c])))))
noncomputable def Mt (o:Option Nat):V:=.int (match o with|some k=>k|.none=>-1)
noncomputable def HM (x:List _) (args:List V):=match args with
  |[v,i]=>oT (l7 v) "find" fun y=>oT (j9 i) "find" fun k=>nT (decide (0≤k)&&(decide (k≤x.length)&&Nat.ble x.length 1000000)) (rT (Mt (dy y (x.drop k.toNat) k.toNat)))
  |_=>sT "find"
noncomputable def ez (x:List Nat) (name:Str) (args:List V):Tr V:=match bx name (ae "join") with
  |true=>oT (fc args) "strMeth" (Bp x)
  |false=>match bx name (ae "find") with
   |true=>HM x args
   |false=>match bx name (ae "split") with
    |true=>oT (fc args) "strMeth" fun v=>oT (l7 v) "split" fun y=>oT (one y) "split" fun c=>nT (Nat.ble x.length 1000000) (rT (.own ((bN c [] x).map .str)))
    |false=>match bx name (ae "expandtabs") with
     |true=>gT args.isEmpty "strMeth" (nT (!x.any (Nat.beq 9)&&Nat.ble x.length 1000000) (rT (.str x)))
     |false=>gT (bx name (ae "format")&&decide (x=[69,120,112,101,99,116,101,100,32,123,125])) "strMeth" (oT (fc args) "format" fun v=>oT (l7 v) "format" fun y=>
      nT (Nat.ble y.length 100000) (rT (.str ([69,120,112,101,99,116,101,100,32]++y))))
noncomputable def jF (a b c:Int):=decide (0<c)&&(Nat.ble a.natAbs 1000000&&(Nat.ble b.natAbs 1000000&&Nat.ble c.natAbs 1000000))
noncomputable def rng (a b c:Int):Tr V:=nT (jF a b c) (rT (.rng (cQ a b c (b -a).toNat)))
noncomputable def J3 (id:String) (args:List V):Tr V:=match args with
  |[a]=>if id="len" then oT (Be a) "len" fun n=>nT (Nat.ble n 1000000) (rT (.int n))
   else if id="sum" then gT (plain a) "sum" (oT (fb a) "sum" fun l=>oT (jX l) "sum" fun is=>rT (.int is.sum))
   else sT "builtin"
  |[a,b]=>if id="max" then oT (j9 a) "max" fun a=>oT (j9 b) "max" fun b=>rT (.int (if a<b then b else a)) else sT "builtin2"
  |_=>sT "builtinN"
noncomputable def OV (v:V):Bool:=match j9 v with|some i=>decide (i=1)|.none=>false
noncomputable def Mz (q:Nat×List V×Nat×V):V:=.itr (q.1+1) (q.2.1.mapIdx fun i v=>.tup [.int (1+i),v]) q.2.2.1 q.2.2.2
noncomputable def tyV n (args:List V):=
  if n="range" then match args with
   |[a]=>oT (j9 a) "type" fun a=>rng 0 a 1
   |[a,b]=>oT (j9 a) "type" fun a=>oT (j9 b) "type" fun b=>rng a b 1
   |[a,b,c]=>oT (j9 a) "type" fun a=>oT (j9 b) "type" fun b=>oT (j9 c) "type" fun c=>rng a b c
   |_=>sT "type"
  else match args with
    |[a,b]=>if n="enumerate" then gT (OV b) "type" (oT (f_ a) "enumerate" fun q=>rT (Mz q)) else sT "type"
    |_=>sT "type"
noncomputable def builtin (v:V) (args:List V):Tr V:=match rB v with
  |some id=>J3 id args
  |.none=>oT (J9 v) "no function" fun n=>tyV n args
noncomputable def addD {α}:List (Str×α)→List (Str×α)→List (Str×α)
  |[],sl=>sl
  |p::r,sl=>addD r (cond (lk p.1 sl).isNone (sl++[p]) sl)
noncomputable def Bm {α} (ps:List _) (sl kw:List (Str×α)):=match kw with
  |[]=>true
  |p::r=>r.isEmpty&&(ps.any (bx p.1)&&(lk p.1 sl).isNone)
noncomputable def lV {α} (sl:List (Str×α)) (ps:List _):=ps.filterMap fun n=>(lk n sl).map (n,·)
noncomputable def Df {α} (ps:List _) sl (D:List α):=aM ((ps.take (ps.length -D.length)).all fun n=>(lk n sl).isSome) (some (lV (addD ((ps.drop (ps.length -D.length)).zip D) sl) ps))
noncomputable def dm {α} ps (args:List α) (dfl:List α) kw:=
  aM (Nat.ble args.length ps.length&&Bm ps (ps.zip args) kw) (Df ps (ps.zip args++kw) (dfl.drop (dfl.length -ps.length)))
noncomputable def CW (o:Option Nat):List (Str×V):=oC o (fun c=>[(ae "__class__",.glob c)]) []
noncomputable def kU (fi:FI) b:=b++CW fi.cls
noncomputable def nk:List V→List Nat
  |[]=>[]
  |.inst r::l=>r::nk l
  |.meth _ r::l=>r::nk l
  |_::l=>nk l
noncomputable def St.reach (s:St) args:=
  let a:=nk args
  a++a.flatMap fun r=>match s.reg r with
   |.live _ at_=>nk (at_.map (·.2))
   |_=>[]
noncomputable def xf (l:List Nat) (r:Nat):=l.any (Nat.beq r)
noncomputable def KJ (rs:List Nat) (k:Nat) (x:di):di:=match xf rs k with|true=>x|false=>.taken
noncomputable def yD (rs:List Nat) (k:Nat) (x:di):di:=match xf rs k with|true=>.taken|false=>x
noncomputable def jH (fi:FI) (b:List (Str×V)) (rs:List Nat) (s:St):St:={rho:=kU fi b,sc:=fi.names,r0:=KJ rs 0 s.r0,r1:=KJ rs 1 s.r1,r2:=KJ rs 2 s.r2,r3:=.empty,outs:=[],orc:=s.orc,md:=fi.law,ob:=s.ob,dp:=fi.dp,hd:=false}
noncomputable def jI rs (s s':St):={s with r0:=yD rs 0 s.r0,r1:=yD rs 1 s.r1,r2:=yD rs 2 s.r2,orc:=s'.orc,ob:=s'.ob}
noncomputable def fh fi b dp (s:St):={s with rho:=kU fi b,sc:=fi.names,outs:=[],md:=fi.law,dp:=dp}
noncomputable def eJ (s s':St):={s' with rho:=s.rho,sc:=s.sc,outs:=s.outs,md:=s.md,dp:=s.dp}
noncomputable def iI:Fl→V
  |.ret v=>v
  |_=>.none
noncomputable def Jj:di→Bool
  |.empty=>true
  |_=>false
noncomputable def eH (ex:List _→Tr Fl) fi args kw:=oT (dm fi.params args fi.dflts kw) "bind" fun b=>cond fi.gen
  (aT fun s=>gT (!xf (s.reach args) 3&&Jj s.r3) "gen" (B4 (jH fi b (s.reach args)) (jI (s.reach args)) (fun ζ ζ h=>⟨h.ob,aD _⟩) fi.dp (ex fi.body)))
  (aT fun s=>MJ s.dp fun dp=>pX (fh fi b dp) eJ (fun ζ ζ h=>⟨h.ob,aD _⟩) ((ex fi.body).bind fun fl=>rT (iI fl)))
noncomputable def pU:di→di
  |.empty=>.empty
  |_=>.taken
noncomputable def eW (s:St):={s with rho:=[],r0:=pU s.r0,r1:=pU s.r1,r2:=pU s.r2,r3:=pU s.r3}
noncomputable def pP (s s':St):={s with orc:=s'.orc,ob:=s'.ob}
noncomputable def Nu (k:Tr V) (args:List V) (kw:List (Str×V)):=gT (args.all (noI 20)&&kw.all fun p=>noI 20 p.2) "iso args"
  (pX eW pP (fun ζ ζ h=>⟨h.ob,aD _⟩) (noErr (k.bind fun v=>gT (noI 20 v) "iso value" (rT v))))
noncomputable def qT (at_:List (Str×V)):List Str→Option (List V)
  |[]=>some []
  |n::ns=>(lk n at_).bind fun v=>(qT at_ ns).map (v::·)
noncomputable def make (a k:Nat) (args:List V) (kw:List (Str×V)):Tr V:=aT fun s=>gT (Jj (s.reg k)) "register" (oT (P.meth a (ae "__init__")) "init" fun g=>
  uT (fun s=>s.setReg k (.live a [])) (fun ζ=>lj _ _ _) ((r.call g (.inst k::args) kw).bind fun v=>gT (Fw v) "init value" (rT (.inst k))))
noncomputable def Hv a args kw:=
  Nu ((make P r a 3 args kw).bind fun ζ=>live 3 fun cl at_=>oT (qT at_ (P.flds a)) "fields" fun vs=>gT (decide (cl=a)&&vs.all plain) "record" (uT (fun s=>r3S s .taken) (fun ζ=>⟨id,aD _⟩) (rT (.rcd a vs)))) args kw
noncomputable def jx (again:Tr Fl) (fl:Fl):=match fl with
  |.next=>again
  |.cont=>again
  |.brk=>rT .next
  |.ret v=>rT (.ret v)
noncomputable def dC k (fl:Fl):=match fl with
  |.next=>k
  |fl=>rT fl
noncomputable def forL (t:Expr) (body:List Stmt) (e:Nat) (x:V):List V→Tr Fl
  |[]=>cond (Nat.beq e 0) (rT .next) (eT e x)
  |v::vs=>(im P t v).bind fun ζ=>(r.ex body).bind (jx (forL t body e x vs))
noncomputable def tG t body src:=oT (f_ src) "for" fun q=>aT fun s=>gT (Nat.blt q.1 s.dp&&!s.hd) "depth" (forL P r t body q.2.2.1 q.2.2.2 q.2.1)
noncomputable def ki t body
  |0=>sT "while"
  |n+1=>(r.tr t).bind fun b=>cond b ((r.ex body).bind (jx (ki t body n))) (rT .next)
noncomputable def JV e:=(NA e).bind fun c=>(cS c).map ys
noncomputable def n7:List Expr→Option (List (List Nat))
  |[]=>some []
  |e::r=>(JV e).bind fun x=>(n7 r).map (x::·)
noncomputable def il (e:Expr):Bool:=match Gx e with
  |some q=>!(Fy 23 q.1&&(q.2.1.isEmpty&&q.2.2.1.isEmpty))
  |.none=>true
noncomputable def ej (a:Str):List V→Option (List (List Nat))
  |[]=>some []
  |v::r=>(KU v).bind fun q=>(idxOf a (P.flds q.1) q.2).bind fun w=>(l7 w).bind fun x=>(ej a r).map (x::·)
noncomputable def Mr (sc:Scope) y:=!sc.isCoroutine&&(sc.kind==.function&&(sc.names.all (fun p=>p.2==NameKind.local)&&((sc.names.lookup (ae ".0")==some NameKind.local)&&(sc.names.lookup y==some NameKind.local))))
noncomputable def nQ elt (gens:List Comprehension) sc s:=(fc gens).bind fun g=>(oS elt).bind fun a=>(jt a.1).bind fun x=>(jt g.target).bind fun y=>
  aM (decide (g.is_async=0)&&(g.ifs.isEmpty&&((oS g.iter).isSome&&(bx x.1 y.1&&(!bad x.1&&(Mr sc y.1&&!s.hd)))))) ((eP g.iter s).bind fun v=>(xO v).bind (ej P a.2.1))
noncomputable def ja e:=(Gx e).bind fun q=>(oS q.1).bind fun a=>(JV a.1).bind fun x=>(fc q.2.1).bind fun g=>(gxE g).bind fun g=>
  match q.2.2.1.isEmpty&&(bx a.2.1 (ae "join")&&Nat.beq a.2.2.endLine q.2.2.2.line) with
    |true=>some (x,g)
    |false=>Option.none
noncomputable def kI (e:Expr):Bool:=match Gx e with
  |some q=>match jt q.1 with
   |some x=>bx x.1 (ae "super")&&(q.2.1.isEmpty&&q.2.2.1.isEmpty)
   |.none=>false
  |.none=>false
noncomputable def FE e:=Fy 19 e
noncomputable def Hu (a:Expr) (q:Nat×List V×Nat×V) (dv:V):Tr V:=match q.2.1 with
  |v::vs=>iC a (.itr q.1 vs q.2.2.1 q.2.2.2) (rT v)
  |[]=>gT (Nat.beq q.2.2.1 0) "next err" (iC a (.itr q.1 [] q.2.2.1 q.2.2.2) (rT dv))
noncomputable def C8 (id:String) (args:List Expr):Tr V:=match args with
  |[a]=>aT fun s=>match(match decide (id="len") with|true=>eP a s|false=>Option.none) with
   |some v=>J3 id [v]
   |.none=>(q9 r frz [a]).bind (J3 id)
  |[a,d]=>aT fun s=>match(match decide (id="next") with|true=>(eP a s).bind om|false=>Option.none) with
   |some q=>gT (Nat.blt q.1 s.dp&&FE d) "depth" (oT (lg P d s) "smp" (Hu a q))
   |.none=>(q9 r frz [a,d]).bind (J3 id)
  |args=>(q9 r frz args).bind (J3 id)
noncomputable def mI args kw fv:=
  gT (plain fv) "callee" ((q9 r frz args).bind fun vs=>(zS r kw).bind fun ks=>r.call fv vs ks)
noncomputable def t7 (args:List Expr) (kw:List Keyword) (fv:V):Tr V:=match rB fv with
  |some id=>aT fun s=>gT (kw.isEmpty&&!s.hd) "kw" (C8 P r id args)
  |.none=>mI r args kw fv
noncomputable def wY n:=bx n (ae "append")||(bx n (ae "pop")||(bx n (ae "insert")||bx n (ae "clear")))
noncomputable def se n:=bx n (ae "join")||(bx n (ae "find")||(bx n (ae "split")||(bx n (ae "expandtabs")||bx n (ae "format"))))
noncomputable def sS o (k:List V→Tr V):=aT fun s=>oT ((eP o s).bind xO) "list method" k
noncomputable def C6 (o:Expr) (name:Str) (args:List Expr):Tr V:=match jb o with
  |true=>(uH r args).bind fun vs=>sS o fun l=>eU o l name vs
  |false=>aT fun s=>oT (sB P args s) "list method of an attribute" fun vs=>sS o fun l=>eU o l name vs
noncomputable def p7 i name args kw:=live i fun c at_=>gT (lk name at_).isNone "method" (oT ((P.meth c name).bind ry) "method" fun f=>
  (q9 r frz args).bind fun vs=>(zS r kw).bind fun ks=>r.call (.glob f) ([.inst i]++vs) ks)
noncomputable def gf name args:=aT fun s=>oT ((lk (ae "__class__") s.rho).bind ry) "super" fun c=>oT ((lk (ae "self") s.rho).bind uJ) "super" fun i=>
  oT (P.sup c name) "super" fun g=>live i fun cl ζ=>gT (Nat.beq cl c) "super" (mI r args [] (.meth g i))
noncomputable def yV (l:List Expr):Bool:=match fc l with
  |some e=>Fy 11 e
  |.none=>false
noncomputable def C2 (name:Str) (args:List Expr) (kw:List Keyword) (v:V):Tr V:=match l7 v with
  |some x=>gT (kw.isEmpty&&se name) "kw" ((uH r args).bind (ez x name))
  |.none=>oT (uJ v) "method call" fun i=>p7 P r i name args kw
noncomputable def p6 o name args kw:=gT (il o&&!yV args) "super" (aT fun s=>match(eP o s).bind xO with
  |some _=>gT (kw.isEmpty&&wY name) "kw" (C6 P r o name args)
  |.none=>match(eP o s).bind uJ with
   |some i=>p7 P r i name args kw
   |.none=>(r.ev o).bind (C2 P r name args kw))
noncomputable def Hr o:=aT fun s=>oT (eP o s) "subscript" rT
noncomputable def Lr o i:=aT fun s=>oC (eP o s) (fun B=>cond (jb o) (IC P r i (Hr o)) (oT (lg P i s) "subscript of an attribute" fun k=>vy P r B k)) ((r.ev o).bind fun b=>IC P r i (rT b))
noncomputable def named:Keyword→Bool
  |⟨some _,_,_⟩=>true
  |_=>false
noncomputable def cu (args:List _) (kw:List _):=Nat.blt (args.length+kw.length) 20&&(args.all hZ&&kw.all named)
noncomputable def nY op a b:=oT (De op a b) "binop" fun v=>nT (AC v) (rT v)
noncomputable def sx (op:BoolOp) (t:Bool):=match op with
  |.And=>!t
  |.Or=>t
noncomputable def Mf:BoolOp→Bool
  |.And=>true
  |.Or=>false
noncomputable def Cs op v k:=(Ej v).bind fun t=>cond (sx op t) (rT v) k
noncomputable def jJ op a b:=oT (CU op a b) "cmpop" rT
noncomputable def Eh {α:Type}:List α→Option (α×α)
  |[x,y]=>some (x,y)
  |_=>Option.none
noncomputable def Cq (ks:List (List Nat)) (vs:List (List Nat)):Tr V:=gT (Nat.beq ks.length vs.length&&(Nat.ble ks.length 15&&decide (ks.Pairwise (· ≠·)))) "dict" (rT (.dct ks (vs.map .str)))
noncomputable def dh (e:Expr):Tr V:=match e with
  |.Constant c _ _=>oT (ri c) "const" rT
  |.Name x _=>nq P x
  |.BinOp l op q _=>(r.ev l).bind fun a=>(r.ev q).bind fun b=>nY op a b
  |.UnaryOp op x _=>gT (KI op) "ev" ((r.ev x).bind LV)
  |.BoolOp op vs _=>oT (Eh vs) "boolop" fun q=>(r.ev q.1).bind fun v=>Cs op v (r.ev q.2)
  |.IfExp t a b _=>(r.tr t).bind fun c=>cond c (r.ev a) (r.ev b)
  |.Compare l ops qs _=>oT (fc ops) "cmp" fun op=>oT (fc qs) "cmp" fun q=>gT (fF q) "set" ((r.ev l).bind fun a=>(JH r q).bind fun b=>(jJ op a b).bind fun c=>rT (.bool c))
  |.Tuple es _ _=>(uH r es).bind fun vs=>gT (Nat.ble vs.length 1000) "long" (rT (.tup vs))
  |.List es _=>(uH r es).bind fun vs=>gT (Nat.ble vs.length 1000) "long" (rT (.own vs))
  |.Dict ks vs _=>oT (n7 (ks.map fun k=>k.getD (.Constant .none 0 default))) "dict" fun ks=>oT (n7 vs) "dict" fun vs=>Cq ks vs
  |.ListComp elt gens sc _=>(rj P r elt gens sc).bind fun l=>rT (.own l)
  |.Attribute o a _=>gT (il o) "base" ((r.ev o).bind fun v=>v6 P v a)
  |.Subscript o i _=>(Lr P r o i).bind E3
  |.Call f args kw p=>gT (cu args kw) "call args" (match oS f with
   |some q=>gT (Nat.beq q.2.2.endLine p.line) "call line" (p6 P r q.1 q.2.1 args kw)
   |.none=>(r.ev f).bind (t7 P r args kw))
  |_=>sT "ev"
noncomputable def GT (op:BoolOp):List Expr→Tr Bool
  |[]=>rT (Mf op)
  |e::es=>(r.tr e).bind fun b=>cond (sx op b) (rT b) (GT op es)
noncomputable def He e:=aT fun s=>oC (eP e s) Ej ((r.ev e).bind Ej)
noncomputable def Ah (P:PT) (r:dN) (e:Expr):=match e with
  |.UnaryOp op x _=>gT (BG op) "tr" ((r.tr x).bind fun b=>rT (!b))
  |.BoolOp op vs _=>GT r op vs
  |.Compare l ops qs _=>oT (fc ops) "cmp" fun op=>oT (fc qs) "cmp" fun q=>gT (fF q) "set" ((r.ev l).bind fun a=>(JH r q).bind fun b=>(jJ op a b).bind fun c=>Ej (.bool c))
  |.Constant _ _ _|.Name _ _|.Attribute _ _ _|.Call _ _ _ _|.Subscript _ _ _=>He r e
  |_=>sT "tr"
noncomputable def KM n (s:St):=aM (!bad n&&HJ (lk n s.sc)) (P.glob n)
noncomputable def mF (c:Nat) (hs:List ExceptHandler):=oT (fc hs) "handler" fun h=>match h with
  |.ExceptHandler e x body _=>oT (e.bind jt) "handler" fun n=>aT fun s=>oT ((KM P n.1 s).bind ry) "handler" fun a=>gT (x.isNone&&(!body.isEmpty&&(decide (a=P.cErr)&&Nat.beq c 1))) "handler"
   (pX (fun s=>Js s true) (fun ζ s'=>Js s' false) (fun ζ ζ h=>⟨h.ob,h.ou⟩) (noErr (r.ex body)))
noncomputable def J_:Stmt→Option (List Expr×Expr×Pos)
  |.Assign ts e p=>some (ts,e,p)
  |_=>Option.none
noncomputable def zg st:=(J_ st).bind fun q=>(fc q.1).bind fun t=>(oS t).bind fun a=>(jt a.1).bind fun y=>(jt q.2.1).map fun x=>(y.1,a.2.1,x.1)
noncomputable def Mc:Fl→Bool
  |.next=>true
  |_=>false
noncomputable def JC:List Stmt→Tr Unit
  |[]=>rT ()
  |st::rest=>match zg st with
   |some q=>aT fun s=>oT ((uG q.1 s).bind uJ) "raise" fun i=>oT (uG q.2.2 s) "raise" fun v=>gT (Nat.beq i 3&&plain (frz v)) "raise" (JC rest)
   |.none=>(r.ex [st]).bind fun fl=>gT (Mc fl) "raise" (JC rest)
noncomputable def Cw (fi:FI) b dp (s:St):={s.hide with rho:=b,sc:=fi.names,outs:=[],md:=fi.law,dp:=dp}
noncomputable def E5 (s s':St):={s with orc:=s'.orc,ob:=s'.ob}
noncomputable def Hw (vs:List V):Tr Fl:=oT ((P.meth P.cErr (ae "__init__")).bind ry) "raise" fun f=>oT (P.fn f) "raise" fun fi=>oT (dm fi.params (.inst 3::vs) fi.dflts []) "raise" fun b=>aT fun s=>MJ s.dp fun dp=>
  gT (Jj s.r3&&(!fi.gen&&fi.cls.isNone)) "raise" ((pX (Cw fi b dp) E5 (fun ζ ζ h=>⟨h.ob,aD _⟩) (noErr (JC r fi.body))).bind fun ζ=>eT 1 .none)
noncomputable def setItem (o:Expr) (v k:V):Tr Fl:=aT fun s=>oT ((eP o s).bind Dm) "setitem" fun d=>oT (l7 k) "setitem" fun k=>gT (plain v) "setitem" (iC o (.dct (lp k v d.1 d.2).1 (lp k v d.1 d.2).2) (nT (Nat.ble d.1.length 1000) (rT .next)))
noncomputable def w0:V→Bool
  |.int _=>true
  |.str _=>true
  |_=>false
noncomputable def qX:V→Bool
  |.none=>true
  |.bool _=>true
  |.rcd _ _=>true
  |_=>false
noncomputable def E9 (e:Expr):=!(Nat.ble 8 e.ctorIdx&&Nat.ble e.ctorIdx 10)
noncomputable def de (x:Tr Unit):Tr Fl:=x.bind fun ζ=>rT .next
noncomputable def Ci (t:Expr) (ts:List Expr) (v:Expr):Tr Fl:=match Hd v with
  |some es=>aT fun s=>gT (jm ts&&(r9 es.1&&(Nat.beq ts.length es.1.length&&!s.hd))) "targets" ((q9 r id es.1).bind fun vs=>de (rt P ts vs))
  |.none=>gT (E9 v) "comp" ((r.ev v).bind fun v=>de (im P t v))
noncomputable def Cj (t:Expr) (v:Expr):Tr Fl:=match Hd t with
  |some ts=>Ci P r t ts.1 v
  |.none=>match LA t with
   |some q=>aT fun s=>oT (lg P v s) "setitem" fun v=>oT (lg P q.2 s) "setitem" (setItem q.1 v)
   |.none=>match I_ v with
    |some q=>gT (jb t) "target" ((rj P r q.1 q.2.1 q.2.2).bind fun l=>de (iK P t (.own l)))
    |.none=>gT (E9 v) "comp" ((r.ev v).bind fun v=>de (iK P t v))
noncomputable def J7 t x v:=aT fun s=>oT (uG x s) "aug" fun old=>gT (w0 old) "aug" ((r.ev v).bind fun b=>(nY .Add old b).bind fun n=>de (iK P t n))
noncomputable def vK (e:Expr):Tr Fl:=match Nj e with
  |some e=>oT e "yield" fun e=>(r.ev e).bind fun v=>aT fun s=>gT (noI 20 v&&!s.hd) "yield" (uT (fun s=>ve s (s.outs++[v])) (fun ζ=>⟨id,kZ _ _⟩) (rT .next))
  |.none=>gT (E9 e) "comp" ((r.ev e).bind fun v=>gT (qX v) "expr" (rT .next))
noncomputable def Oz e:=(Gx e).bind fun q=>(jt q.1).bind fun n=>match q.2.2.1.isEmpty with
  |true=>some (n.1,q.2.1)
  |false=>Option.none
noncomputable def xx e:=oT (Oz e) "raise" fun q=>aT fun s=>oT ((KM P q.1 s).bind ry) "raise" fun a=>gT (!s.hd&&(decide (a=P.cErr)&&cu q.2 [])) "raise" ((uH r q.2).bind (Hw P r))
noncomputable def tL (e:Expr):Tr Fl:=oT (Oz e) "assert" fun q=>oT (Eh q.2) "assert" fun xc=>oT (jt xc.1) "assert" fun x=>oT (jt xc.2) "assert" fun c=>aT fun s=>
  oT ((KM P q.1 s).bind rB) "assert" fun id=>oT ((uG x.1 s).bind KU) "assert" fun q=>oT ((KM P c.1 s).bind ry) "assert" fun c=>gT (decide (id="isinstance")&&decide (q.1=c)) "assert" (rT .next)
noncomputable def oR (st:Stmt):=match st with
  |.Expr e _=>vK r e
  |.Pass _=>rT .next
  |.Break _=>rT .brk
  |.Continue _=>rT .cont
  |.Return e _=>match e with
   |some e=>(r.ev e).bind fun v=>rT (.ret (frz v))
   |.none=>rT (.ret .none)
  |.Assign ts v _=>oT (fc ts) "targets" fun t=>Cj P r t v
  |.AugAssign t op v _=>match op with
   |.Add=>match jt t with
    |some x=>J7 P r t x.1 v
    |.none=>oT (oS t) "aug" fun q=>oT (tV v) "aug" fun j=>aT fun s=>oT (gr q.1 s) "aug" fun z=>oT ((lk q.2.1 z.2.2).bind j9) "aug" fun i=>de (iK P t (.int (i+j)))
   |_=>sT "aug"
  |.If t a b _=>(r.tr t).bind fun c=>cond c (r.ex a) (r.ex b)
  |.While t body els _=>gT els.isEmpty "stmt" (ki r t body 100000)
  |.For t it body els _=>gT els.isEmpty "stmt" (gT (fF it) "set" ((r.ev it).bind (tG P r t body)))
  |.Raise e c _=>gT c.isNone "stmt" (oT e "stmt" (xx P r))
  |.Assert e _ _=>tL P e
  |_=>sT "stmt"
noncomputable def bB:List Stmt→Tr Fl
  |[]=>rT .next
  |st::rest=>(oR P r st).bind (dC (bB rest))
noncomputable def dH e:=(Gx e).bind fun q=>(oS q.1).bind fun a=>match kI a.1&&(q.2.2.1.isEmpty&&(Nat.beq a.2.2.endLine q.2.2.2.line&&cu q.2.1 [])) with
  |true=>some (a.2.1,q.2.1)
  |false=>Option.none
noncomputable def nJ t x l:=nT (Nat.ble x.length 100000&&(Nat.ble l.length 1000000&&Nat.ble (b_ x l).length 1000000)) (de (iK P t (.str (b_ x l))))
noncomputable def exE:Stmt→Option Expr
  |.Expr e _=>some e
  |_=>none
noncomputable def itE:Stmt→Option Expr
  |.For _ e _ _ _=>some e
  |_=>none
noncomputable def Jr:ExceptHandler→List Stmt
  |.ExceptHandler _ _ b _=>b
noncomputable def uV:Stmt→List (List Stmt)
  |.If _ a b _=>[a,b]
  |.While _ a _ _=>[a]
  |.For _ _ a _ _=>[a]
  |.Try a hs _ _ _=>a::hs.map Jr
  |_=>[]
noncomputable def lr:Nat→List Stmt→Bool
  |0,_=>false
  |n+1,l=>l.all fun st=>((exE st).bind Nj).isNone&&(uV st).all (lr n)
noncomputable def HP body hs (els fin:List Stmt):=aT fun s=>gT (els.isEmpty&&(fin.isEmpty&&(!s.hd&&(!hs.isEmpty&&(lr 90 body&&hs.all fun h=>lr 90 (Jr h)))))) "stmt" (cT (r.ex body) fun c ζ=>mF P r c hs)
noncomputable def jw (st:Stmt):Tr Fl:=match st with
  |.Expr e p=>match dH e with
   |some q=>(gf P r q.1 q.2).bind fun v=>gT (Fw v) "super value" (rT .next)
   |.none=>oR P r (.Expr e p)
  |.For t it body els p=>match dH it with
   |some q=>gT els.isEmpty "stmt" ((gf P r q.1 q.2).bind (tG P r t body))
   |.none=>oR P r (.For t it body els p)
  |.Assign ts e p=>match ja e with
   |some q=>oT (fc ts) "genexp" fun t=>aT fun s=>oT (nQ P q.2.1 q.2.2.1 q.2.2.2 s) "genexp" (nJ P t q.1)
   |.none=>oR P r (.Assign ts e p)
  |.Try body hs els fin _=>HP P r body hs els fin
  |st=>oR P r st
noncomputable def aF:List Stmt→Tr Fl
  |[]=>rT .next
  |st::rest=>(jw P r st).bind (dC (aF rest))
noncomputable def gg (a:Nat) (args:List V) (kw:List (Str×V)):Tr V:=match P.fn a with
  |some fi=>cond fi.fence (Nu (eH (aF P r) fi args kw) args kw) (eH (aF P r) fi args kw)
  |.none=>oT (P.regOf a) "glob" fun k=>cond (Nat.beq k 3) (Hv P r a args kw) (make P r a k args kw)
noncomputable def t9 f args kw:=aT fun s=>gT (!s.hd) "call in a handler" (match ry f with
  |some a=>gg P r a args kw
  |.none=>gT kw.isEmpty "builtin kw" (builtin f args))
noncomputable def ci (f:V) (args:List V) (kw:List (Str×V)):Tr V:=match NE f with
  |some q=>t9 P r (.glob q.1) (.inst q.2::args) kw
  |.none=>t9 P r f args kw
end
noncomputable def nb:dN:=⟨fun ζ=>sT "fuel",fun ζ=>sT "fuel",fun ζ=>sT "fuel",fun ζ ζ ζ=>sT "fuel"⟩
noncomputable def dl P c
  |0=>nb
  |n+1=>⟨dh P (dl P c n),Ah P (dl P c n),bB P (dl P c n),c⟩
noncomputable def Hz P
  |0=>nb
  |d+1=>dl P (ci P (Hz P d)) 90
end
section
noncomputable abbrev Fz:=Addr→Option Obj
noncomputable abbrev Pi:=Nat→Option Addr
structure Cf where
  prog:Program
  w:World
  K:Frag
  P:PT
  h₀:Heap
  tb:Addr
  slotIx:Nat→Str→Option Nat
  os:OsState
  tbI:Option Obj→(Addr→Option Obj)→Prop
  good:Nat→Prop
noncomputable abbrev Cf.M (C:Cf):=model C.prog C.w
structure Gs where
  S:Shared
  fz:Fz
variable (C:Cf)
noncomputable def eL (o:Obj) od c n v:=
  handedIn v=true∧match C.slotIx c n with
  |some i=>o.slots[i]?=some (some v)
  |none=>∃d,od=some d∧lookIn n d=some (some v)
inductive lQ (fz:Fz):Option Addr→Option Obj→Prop
  |none:lQ fz none none
  |some (dx:Addr) (d:Obj):fz dx=some d→lQ fz (some dx) (some d)
inductive At (fz:Fz) (a:Addr) (P:Heap→Prop):Prop
  |mk (o:Obj):fz a=some o→(∀h:Heap,h.get? a=some o→P h)→At fz a P
noncomputable def bU (ks:List (List Nat)):List Str:=ks.map fun k=>⟨k.toArray⟩
inductive g9 (o:Obj) (od:Option Obj) (c:Nat):List Str→List Value→Prop
  |nil:g9 o od c [] []
  |cons (n:Str) (ns:List Str) (v:Value) (vs:List Value):eL C o od c n v→g9 o od c ns vs→g9 o od c (n::ns) (v::vs)
structure l8 (fz:Fz) (c:Nat) (a:Addr) (vs:List Value) (o:Obj) (od:Option Obj):Prop where
  at_:fz a=some o
  cls:o.cls=.ref c
  no:notCls o=true
  dict:lQ fz o.dict od
  flds:g9 C o od c (C.P.flds c) vs
  good:C.good c
structure HY (l:List V) (lo hi st:Int):Prop where
  small:Builtin.Range.small lo hi st=true
  pos:0<st
  is:l=cQ lo hi st (hi -lo).toNat
mutual
inductive cP (fz:Fz) (pi:Pi):V→Value→Prop
  |none:cP fz pi .none .none
  |bool (b:Bool):cP fz pi (.bool b) (.bool b)
  |int (i:Int) (t:Tok):cP fz pi (.int i) (.int i t)
  |str (s:List Nat) (t:Tok):cP fz pi (.str s) (.str ⟨s.toArray⟩ t)
  |tup (l:List V) (a:Addr) (vs:List Value):At fz a (fun h=>h.IsTuple a (List.toArray vs))→aS fz pi l vs→cP fz pi (.tup l) (.ref a)
  |lst (l:List V) (a:Addr) (vs:List Value):At fz a (fun h=>PlainL h a (List.toArray vs))→aS fz pi l vs→cP fz pi (.lst l) (.ref a)
  |rcd (c:Nat) (l:List V) (a:Addr) (vs:List Value) (o:Obj) (od:Option Obj):l8 C fz c a vs o od→aS fz pi l vs→cP fz pi (.rcd c l) (.ref a)
  |inst (r:Nat) (a:Addr):pi r=some a→cP fz pi (.inst r) (.ref a)
  |meth (f r:Nat) (a b:Addr):pi r=some a→fz b=some (methodObj (.ref f) (.ref a))→cP fz pi (.meth f r) (.ref b)
  |glob (a:Nat):cP fz pi (.glob a) (.ref a)
  |bi (id:String):cP fz pi (.bi id) (.builtin id)
  |ty (n:String):cP fz pi (.ty n) (.type n)
  |rng (l:List V) (a:Addr) (lo hi st:Int) (t u w':Tok):At fz a (fun h=>IsRange h a lo hi st t u w')→HY l lo hi st→cP fz pi (.rng l) (.ref a)
inductive aS (fz:Fz) (pi:Pi):List V→List Value→Prop
  |nil:aS fz pi [] []
  |cons (V:V) (v:Value) (Vs:List Internal.V) (vs:List Value):cP fz pi V v→aS fz pi Vs vs→aS fz pi (V::Vs) (v::vs)
end
inductive ji (i:Int):Value→Prop
  |mk (t:Tok):ji i (.int i t)
inductive gX (s:List Nat):Value→Prop
  |mk (t:Tok):gX s (.str ⟨s.toArray⟩ t)
inductive xU (fz:Fz) (pi:Pi) (l:List V):Value→Prop
  |mk (a:Addr) (vs:List Value):At fz a (fun h=>h.IsTuple a (List.toArray vs))→aS C fz pi l vs→xU fz pi l (.ref a)
inductive uy (fz:Fz) (pi:Pi) (l:List V):Value→Prop
  |mk (a:Addr) (vs:List Value):At fz a (fun h=>PlainL h a (List.toArray vs))→aS C fz pi l vs→uy fz pi l (.ref a)
inductive oF (fz:Fz) (pi:Pi) (c:Nat) (l:List V):Value→Prop
  |mk (a:Addr) (vs:List Value) (o:Obj) (od:Option Obj):l8 C fz c a vs o od→aS C fz pi l vs→oF fz pi c l (.ref a)
inductive iy (pi:Pi) (r:Nat):Value→Prop
  |mk (a:Addr):pi r=some a→iy pi r (.ref a)
inductive rH (fz:Fz) (pi:Pi) (f r:Nat):Value→Prop
  |mk (a b:Addr):pi r=some a→fz b=some (methodObj (.ref f) (.ref a))→rH fz pi f r (.ref b)
inductive Dw (fz:Fz) (l:List V):Value→Prop
  |mk (a:Addr) (lo hi st:Int) (t u w:Tok):At fz a (fun h=>IsRange h a lo hi st t u w)→HY l lo hi st→Dw fz l (.ref a)
noncomputable def M0 (fz:Fz) (pi:Pi) (V:V) (v:Value):Prop:=match V with
  |.none=>v=.none
  |.bool b=>v=.bool b
  |.int i=>ji i v
  |.str s=>gX s v
  |.tup l=>xU C fz pi l v
  |.lst l=>uy C fz pi l v
  |.rcd c l=>oF C fz pi c l v
  |.inst r=>iy pi r v
  |.meth f r=>rH fz pi f r v
  |.glob a=>v=.ref a
  |.bi i=>v=.builtin i
  |.ty i=>v=.type i
  |.rng l=>Dw fz l v
  |.own _=>False
  |.itr _ _ _ _=>False
  |.dct _ _=>False
  |.gone=>False
variable {C} {fz fz':Fz} {pi pi':Pi} {V:Internal.V} {v:Value} {l:List Internal.V} {vs:List Value}
theorem cP.inv (h:cP C fz pi V v):M0 C fz pi V v:=
  h.casesOn (motive_1:=fun V v ζ=>M0 C fz pi V v) rfl (fun ζ=>rfl) (fun ζ=>.mk) (fun ζ=>.mk) (fun ζ=>.mk) (fun ζ=>.mk) (fun ζ ζ=>.mk) (fun ζ=>.mk) (fun ζ ζ=>.mk) (fun ζ=>rfl) (fun ζ=>rfl) (fun ζ=>rfl) fun ζ=>.mk
theorem cP.plain (h:cP C fz pi V v):plain V=true:=
  h.casesOn rfl (fun ζ=>rfl) (fun ζ ζ=>rfl) (fun ζ ζ=>rfl) (fun ζ ζ ζ ζ ζ=>rfl) (fun ζ ζ ζ ζ ζ=>rfl) (fun ζ ζ ζ ζ ζ ζ ζ ζ=>rfl) (fun ζ ζ ζ=>rfl) (fun ζ ζ ζ ζ ζ ζ=>rfl) (fun ζ=>rfl) (fun ζ=>rfl) (fun ζ=>rfl) fun ζ ζ ζ ζ ζ ζ ζ ζ ζ ζ=>rfl
noncomputable def cO (f f':Fz):=∀a o,f a=some o→f' a=some o
noncomputable def dW (p p':Pi):=∀r a,p r=some a→p' r=some a
theorem At.mono {a} {P} (l:cO fz fz') (x:At fz a P):At fz' a P:=by
  induction x with|mk o e h=>exact⟨o,l a o e,h⟩
theorem lQ.mono {dx} {d} (l:cO fz fz') (x:lQ fz dx d):lQ fz' dx d:=by
  induction x with
  |none=>exact .none
  |some dx d h=>exact .some dx d (l _ _ h)
theorem l8.mono {c} {a} {o} {od} (l:cO fz fz') (x:l8 C fz c a vs o od):l8 C fz' c a vs o od:={x with at_:=l _ _ x.at_,dict:=x.dict.mono l}
theorem cP.mono (q:cO fz fz') (p:dW pi pi') (x:cP C fz pi V v):cP C fz' pi' V v:=
  x.rec
    .none .bool .int .str (fun l a vs h ζ i=>.tup l a vs (h.mono q) i) (fun l a vs h ζ i=>.lst l a vs (h.mono q) i) (fun c l a vs o od h ζ i=>.rcd c l a vs o od (h.mono q) i)
    (fun r a h=>.inst r a (p _ _ h)) (fun f r a b h g=>.meth f r a b (p _ _ h) (q _ _ g)) .glob .bi .ty (fun l a lo hi st t u w h g=>.rng l a lo hi st t u w (h.mono q) g) .nil fun V v Vs vs ζ ζ h i=>.cons V v Vs vs h i
theorem aS.ind {m:List _→List _→Prop} (x:aS C fz pi l vs) (h0:m [] []) (h1:∀V v Vs vs,cP C fz pi V v→aS C fz pi Vs vs→m Vs vs→m (V::Vs) (v::vs)):m l vs:=
  x.rec (motive_1:=fun ζ ζ ζ=>True) trivial (fun ζ=>trivial) (fun ζ ζ=>trivial) (fun ζ ζ=>trivial) (fun ζ ζ ζ ζ ζ ζ=>trivial) (fun ζ ζ ζ ζ ζ ζ=>trivial) (fun ζ ζ ζ ζ ζ ζ ζ ζ ζ=>trivial)
    (fun ζ ζ ζ=>trivial) (fun ζ ζ ζ ζ ζ ζ=>trivial) (fun ζ=>trivial) (fun ζ=>trivial) (fun ζ=>trivial) (fun ζ ζ ζ ζ ζ ζ ζ ζ ζ ζ=>trivial) h0 fun V v Vs vs h x ζ i=>h1 V v Vs vs h x i
theorem aS.map (f:∀V v,cP C fz pi V v→cP C fz' pi' V v) (x:aS C fz pi l vs):aS C fz' pi' l vs:=x.ind .nil fun V v Vs vs h ζ i=>.cons V v Vs vs (f V v h) i
theorem aS.mono (q:cO fz fz') (p:dW pi pi') (x:aS C fz pi l vs):aS C fz' pi' l vs:=x.map fun ζ ζ h=>h.mono q p
theorem aS.len (x:aS C fz pi l vs):l.length=vs.length:=x.ind (m:=fun l vs=>l.length=vs.length) rfl fun ζ ζ ζ ζ ζ ζ i=>congrArg _ i
inductive zK (fz:Fz) (pi:Pi) (V:Internal.V) (o:Option Value):Prop
  |mk (v:Value):o=some v→cP C fz pi V v→zK fz pi V o
theorem aS.get (x:aS C fz pi l vs):∀i,i<l.length→zK (C:=C) fz pi (l.getD i .gone) vs[i]?:=
  x.ind (m:=fun l vs=>∀i,i<l.length→zK fz pi (l.getD i _) vs[i]?) (fun ζ h=>absurd h (cg _)) fun V v Vs vs h ζ ih i=>match i with
    |0=>fun ζ=>⟨v,rfl,h⟩
    |i+1=>fun q=>ih i (aV q)
theorem aS.append {l'} {vs'} (x:aS C fz pi l vs) (y:aS C fz pi l' vs'):aS C fz pi (l++l') (vs++vs'):=x.ind (m:=fun l vs=>aS C fz pi (l++l') (vs++vs')) y fun V v Vs vs h ζ i=>.cons V v _ _ h i
theorem aS.drop (x:aS C fz pi l vs):∀n,aS C fz pi (l.drop n) (vs.drop n):=x.ind (m:=fun l vs=>∀n,aS C fz pi (l.drop n) (vs.drop n)) (fun n=>by rw[P0,P0];exact .nil) fun V v Vs vs h y i n=>match n with
  |0=>.cons V v _ _ h y
  |n+1=>i n
theorem aS.take (x:aS C fz pi l vs):∀n,aS C fz pi (l.take n) (vs.take n):=x.ind (m:=fun l vs=>∀n,aS C fz pi (l.take n) (vs.take n)) (fun n=>by rw[List.take_nil,List.take_nil];exact .nil) fun V v Vs vs h y i n=>match n with
  |0=>.nil
  |n+1=>.cons V v _ _ h (i n)
theorem cP.noI (x:cP C fz pi V v):∀n,noI n V=true→cP C fz pi' V v:=
  x.rec (motive_2:=fun V v ζ=>∀n,V.all _=true→aS C fz _ V v)
    (fun ζ ζ=>.none) (fun b ζ ζ=>.bool b) (fun b t ζ ζ=>.int b t) (fun b t ζ ζ=>.str b t) (fun l a vs h ζ i n e=>.tup l a vs h (match n,e with|n+1,e=>i n e)) (fun l a vs h ζ i n e=>.lst l a vs h (match n,e with|n+1,e=>i n e)) (fun c l a vs o od h ζ i n e=>.rcd c l a vs o od h (match n,e with|n+1,e=>i n e))
    (fun r a h n e=>match n,e with|0,e=>bG e|n+1,e=>bG e) (fun f r a b h g n e=>match n,e with|0,e=>bG e|n+1,e=>bG e) (fun a ζ ζ=>.glob a) (fun a ζ ζ=>.bi a) (fun a ζ ζ=>.ty a) (fun l a lo hi st t u w h g ζ ζ=>.rng l a lo hi st t u w h g) (fun ζ ζ=>.nil) fun V v Vs vs ζ ζ h i n e=>have e:=aa.mp e;.cons V v Vs vs (h n e.1) (i n e.2)
end
section
section
variable (C:Cf)
noncomputable def Nb (c:Nat) (n:Str) (o:Option Nat):Prop:=match o with
  |some i=>∃p,(∀od,findObj C.K c od n=some (.bind (.builtin "member_descriptor.__get__") (.ref p)))∧slotIn C.K p c=some i
  |none=>∀d v,lookIn n d=some (some v)→findObj C.K c (some d) n=some (.value v)
structure H9 (c:Nat):Prop where
  tb:findIn C.K (.ref c) (Str.ofString "__bool__")=some none
  tl:findIn C.K (.ref c) (Str.ofString "__len__")=some none
  ga:findIn C.K (.ref c) (Str.ofString "__getattribute__")=some (some (.builtin "object.__getattribute__"))
  gn:findIn C.K (.ref c) (Str.ofString "__getattr__")=some none
  fld:∀n∈C.P.flds c++C.P.regf c,Nb C c n (C.slotIx c n)
noncomputable def jl (fz:Fz):=∀b o,b≠C.tb→C.h₀.get? b=some o→fz b=some o
inductive rF (a:Str):Option Obj→Prop
  |none:rF a none
  |some (d:Obj):lookIn a d=some none→rF a (some d)
inductive rG (c:Nat) (a:Str):V→Prop
  |fn (f:Nat):typeIn C.K (.ref f)=some (.type "function")→findIn C.K (.ref c) a=some (some (.ref f))→isFn C.K (.ref f)=true→fnIn C.K f=true→(∀od,rF a od→findObj C.K c od a=some (.bind (.builtin "function.__get__") (.ref f)))→rG c a (.glob f)
  |val (V:V) (v:Value):ry V=none→handedIn v=true→(∀od,rF a od→findObj C.K c od a=some (.value v))→(∀fz,jl C fz→cP C fz (fun ζ=>none) V v)→rG c a V
inductive H5 (mg mb:Str→Option Value) (x:Str) (V:V):Prop
  |mk (v:Value):(mg x=some v∨(mg x=none∧mb x=some v))→(∀fz,jl C fz→cP C fz (fun ζ=>none) V v)→H5 mg mb x V
inductive wg:Prop
  |mk (mg mb:Str→Option Value):C.h₀.Ns mainGlobals mg→C.h₀.Ns builtinsNs mb→(∀x V,C.P.glob x=some V→H5 C mg mb x V)→wg
noncomputable def D7 (h:Heap):=∀b o,b≠C.tb→C.h₀.get? b=some o→h.get? b=some o
structure j_ (p:Arguments) (ps:List Str):Prop where
  po:p.posonlyargs=[]
  na:p.args.map (·.arg)=ps
  va:p.vararg=none
  ko:p.kwonlyargs=[]
  kw:p.kwarg=none
  nd:ps.Nodup
inductive DP:Value→List Value→Prop
  |none:DP .none []
  |some (T:Addr) (o:Obj) (n:Nat) (dv:List Value):T≠C.tb→C.h₀.get? T=some o→o.data=.seq (List.toArray dv) n→DP (.ref T) dv
inductive DO (d:Value) (ds:List V):Prop
  |mk (dv:List Value):DP C d dv→(∀fz,jl C fz→aS C fz (fun ζ=>none) ds dv)→DO d ds
inductive qb (fi:FI):Option Nat→List (Str×Addr)→Prop
  |none:qb fi none []
  |some (c:Nat) (cl:Addr) (oc:Obj):cl≠C.tb→C.h₀.get? cl=some oc→oc.data=.cell (some (.ref c))→fi.names.lookup (ae "__class__")=some .free→(∀x∈fi.names,x.2≠.cell)→qb fi (some c) [(ae "__class__",cl)]
structure M_ (a:Addr) (fi:FI) (o:Obj) (fd:FuncData):Prop where
  at_:C.h₀.get? a=some o
  tb:a≠C.tb
  data:o.data=.func fd
  co:fd.scope.isCoroutine=false
  gen:fd.scope.isGenerator=fi.gen
  body:fd.body=.stmts fi.body
  names:fd.scope.names=fi.names
  kind:fd.scope.kind=.function
  gl:fd.globals=mainGlobals
  bu:fd.builtins=builtinsNs
  par:j_ fd.params fi.params
  code:∀h,D7 C h→h.CodeRec fd.code fd.qualname
  dfl:DO C fd.defaults fi.dflts
  clo:qb C fi fi.cls fd.closure
inductive Na (a:Addr) (fi:FI):Prop
  |mk (o:Obj) (fd:FuncData):M_ C a fi o fd→Na a fi
structure M9 (a:Nat) (fi:FI):Prop where
  is:Na C a fi
  nn:(fi.names.map (·.1)).Nodup
  pk:∀x∈fi.params,fi.names.lookup x=some .local∨fi.names.lookup x=some .cell
  nc:ae "__class__"∉fi.params
  noY:fi.gen=false→lr 90 fi.body=true
  gdp:fi.gen=true→fi.dp≤22
inductive GX (c:Nat) (n:Str):Option Nat→Prop
  |dict:takerIn C.K c n=some none→hasDictIn C.K c=true→GX c n none
  |slot (i p:Nat):takerIn C.K c n=some (some (.ref p))→typeIn C.K (.ref p)=some (.type "member_descriptor")→slotIn C.K p c=some i→i<1000→GX c n (some i)
inductive DH (a:Nat):Prop
  |mk (f:Nat) (fi:FI):C.P.meth a (ae "__init__")=some (.glob f)→C.P.fn f=some fi→fi.gen=false→fi.fence=false→DH a
structure G2 (a k:Nat):Prop where
  good:C.good a
  makes:makesIn C.K a=true
  lt:k<4
  init:DH C a
structure Du (c:Nat) (name:Str) (g:Nat):Prop where
  cls:∃cd,clsIn C.K c=some cd
  mro:mroIn C.K c (.ref c)=some true
  sup:ks_superIn C.K c c name=some (some (.ref g))
  fn:typeIn C.K (.ref g)=some (.type "function")
  no:(name==("__class__":Str))=false
noncomputable def ig (P:PT) (k:Nat):Value:=if k=1 then .ref P.cErr else .type "NotImplementedError"
noncomputable def D3:List Value:=[.type "Exception",.type "BaseException",.type "object"]
inductive Kv (h:Heap):Prop
  |mk (nm q:Str) (N:Addr) (bs:List Value) (sn:List Str) (sub:List Value) (ab:Bool) (col:Option Bool) (dd:Option Addr) (k0 k1 k2 k3 k5:Option Value) (mN:Str→Option Value) (f:Addr):h.get? C.P.cErr=some (excClassObj nm q C.P.cErr N bs D3 true sn sub ab col dd k0 k1 k2 k3 k5 "Exception.__new__")→h.Ns N mN→mN (Str.ofString "__init__")=some (.ref f)→mN (Str.ofString "__setattr__")=none→C.P.meth C.P.cErr (ae "__init__")=some (.glob f)→
   (∃o,h.get? f=some o∧o.cls=.type "function")→(∀n∈C.P.regf C.P.cErr,mN n=none∧typeLookup (.type "Exception") n=pure none)→Kv h
noncomputable def tM (P:PT) st:=oC (zg st) (fun q=>(P.regf P.cErr).any (bx q.2.1)) (lr 90 [st])
noncomputable def jD (body:List _):=body.any fun st=>((AQ (exE st) (itE st)).bind dH).isSome
noncomputable def Dv a (code:Value):=∃o fd ar cda oc vs file tf,C.h₀.get? a=some o∧a≠C.tb∧o.data=.func fd∧(fd.params.posonlyargs++fd.params.args).head?=some ar∧ar.arg=ae "self"∧code=.ref cda∧C.h₀.get? cda=some oc∧cda≠C.tb∧
  oc.data=.fields vs∧vs[2]?=some (.str file tf)∧(C.prog.main.file==file)=true
noncomputable def jG (body:List _):=body.any fun st=>((J_ st).bind fun q=>ja q.2.1).isSome
noncomputable def o8 (code:Value):Prop:=∃cda,code=.ref cda∧(∀(h:Heap) fz,(∀a o,fz a=some o→h.get? a=some o)→jl C fz→C.tbI (h.get? C.tb) fz→∃ps,h.IsCode cda C.tb ps∧h.TableAt cda C.tb ps)∧
  (∀(h h':Heap) fz fz' ps more,C.tbI (h.get? C.tb) fz→h.TableAt cda C.tb ps→h'.TableAt cda C.tb (ps++more)→h'.IsCode cda C.tb (ps++more)→C.tbI (h'.get? C.tb) fz')∧
  ∃mg bm o,C.h₀.Ns mainGlobals mg∧mg (Str.ofString "__builtins__")=some (.ref bm)∧bm≠builtinsNs∧bm≠C.tb∧C.h₀.get? bm=some o∧o.cls=.type "module"∧o.dict=some builtinsNs∧o.data=.plain
noncomputable def oO a (p:Value→Prop):=∃o fd,C.h₀.get? a=some o∧o.data=.func fd∧p fd.code
structure All:Prop where
  tbm:∀o (f f':Fz),cO f f'→C.tbI o f→C.tbI o f'
  kin:∀a o,C.K.lookup a=some o→a≠C.tb∧C.h₀.get? a=some o
  sys:∃o,C.h₀.get? sysModules=some o
  syst:sysModules≠C.tb
  good:∀c,C.good c→H9 C c
  gl:wg C
  meth:∀c a V,C.good c→C.P.meth c a=some V→C.slotIx c a=none∧rG C c a V
  glt:mainGlobals≠C.tb∧builtinsNs≠C.tb∧cStatics≠C.tb
  lim:C.h₀.NoLimit
  fn:∀a fi,C.P.fn a=some fi→M9 C a fi
  stop:∀k,(k=1∨k=2)→∀(A:Around) (E:Value→Shared→Prop) (s:Shared) (Q:Bool→Shared→Prop),D7 C s.heap→Q false s→wpAny C.M A (isSubtype (ig C.P k) (.type "StopIteration")) Q E s
  sa:∀c,C.good c→findIn C.K (.ref c) "__setattr__"=some (some (.builtin "object.__setattr__"))∧plainOver C.K c=true
  wf:∀c,C.good c→∀n∈C.P.flds c++C.P.regf c,GX C c n (C.slotIx c n)
  inj:∀c n n' i,C.slotIx c n=some i→C.slotIx c n'=some i→n=n'
  md:∀a k,C.P.regOf a=some k→G2 C a k
  eset:findIn C.K (.ref C.P.cErr) "__setattr__"=some (some (.builtin "object.__setattr__"))
  ecd:∃cd,clsIn C.K C.P.cErr=some cd∧cd.mro=.ref C.P.cErr::D3∧cd.hasDict=true
  enm:∀n∈C.P.regf C.P.cErr,findIn C.K (.ref C.P.cErr) n=some none
  ecls:∀h,D7 C h→Kv C h
  ebody:∀f fi,C.P.meth C.P.cErr (ae "__init__")=some (.glob f)→C.P.fn f=some fi→fi.body.all (tM C.P)=true∧fi.params.length≤1000
  efew:(C.P.regf C.P.cErr).length≤1000
  sgl:C.P.glob (ae "super")=some (.ty "super")
  stp:(C.prog.main.scope.names.lookup ("super":Str)).isSome=false
  opq:nsIn C.K cStatics "thirdparty.any"=some none
  sup:∀c name g,C.P.sup c name=some g→Du C c name g
  fsup:∀a fi,C.P.fn a=some fi→jD fi.body=true→oO C a (Dv C a)∧fi.names.lookup (ae "super")=some .globalImplicit∧fi.names.lookup (ae "__class__")=some .free
  fgx:∀a fi,C.P.fn a=some fi→jG fi.body=true→oO C a (o8 C)
end
end
section
set_option backward.match.sparseCases false
noncomputable def kM:=[(36,"Token","__init__"),(68,"SourceLocation","__init__"),(102,"CToken","__init__"),(146,"CompilerError","__init__"),(173,"Char","__init__"),(201,"HandLexerBase","__init__"),(208,"HandLexerBase","tokenize"),(216,"HandLexerBase","next_char"),(223,"HandLexerBase","backup_char"),(230,"HandLexerBase","emit"),(237,"HandLexerBase","ignore"),(244,"HandLexerBase","accept"),(251,"HandLexerBase","accept_run"),(265,"HandLexerBase","error"),(272,"HandLexerBase","expect"),(293,"SourceFile","__init__"),(314,"","create_characters"),(321,"","trigraph_filter"),(328,"","continued_lines_filter"),(344,"CLexer","__init__"),(351,"CLexer","lex"),(366,"CLexer","tokenize"),(373,"CLexer","lex_c"),(380,"CLexer","lex_identifier"),(401,"CLexer","lex_whitespace"),(408,"CLexer","lex_linecomment"),(415,"CLexer","lex_blockcomment"),(422,"CLexer","lex_string"),(429,"CLexer","lex_char"),(436,"CLexer","_handle_escape_character"),(455,"COptions","__init__"),(476,"COptions","enable"),(483,"COptions","disable"),(490,"COptions","set"),(497,"COptions","__getitem__"),(519,"","_law_ENDS"),(526,"","_law_SWAPS"),(533,"","_law_PAIRS"),(538,"","_law_marks"),(545,"","_law_behind"),(550,"","_law_read"),(555,"","_law_due"),(560,"","_law_run"),(565,"","law")]
noncomputable def cl1:=[("Token",47),("SourceLocation",79),("CToken",127),("CompilerError",156),("Char",183),("HandLexerBase",275),("SourceFile",303),("CLexer",439),("COptions",507)]
noncomputable def JX:Const→V
  |.none=>.none|.bool b=>.bool b|.int i=>.int i|.str s=>.str (ys s)|_=>.gone
noncomputable def xw:Nat→Expr→V
  |_,.Constant c _ _=>JX c
  |n+1,.List es _=>.lst (es.map (xw n))
  |n+1,.Tuple es _ _=>.tup (es.map (xw n))
  |_,_=>.gone
noncomputable def lkN {α:Type} (n:Nat):List (Nat×α)→Option α
  |[]=>none
  |p::r=>match Nat.beq p.1 n with|true=>some p.2|false=>lkN n r
noncomputable def pyP:=PySem.Challenge.pw_te0067_01
noncomputable def Db (c:Str):List Stmt:=match c.cps.isEmpty with
  |true=>pyP.main.body
  |false=>(pyP.main.body.findSome? fun st=>match st with
   |.ClassDef n _ _ b _ _ _ _ _ _ _=>match bx n c with|true=>some b|false=>none
   |_=>none).getD []
noncomputable def Pd (c n:Str):Nat:=match bx n (ae "tokenize") with
  |true=>match bx c (ae "CLexer") with|true=>20|false=>18
  |false=>(lk n [(ae "create_characters",4),(ae "trigraph_filter",6),(ae "continued_lines_filter",8)]).getD 0
noncomputable def Fc:=[("","trigraph_filter"),("","continued_lines_filter"),("HandLexerBase","accept"),("HandLexerBase","backup_char"),("CLexer","lex_string"),("CLexer","lex_linecomment"),("CLexer","tokenize"),
  ("","_law_marks"),("","_law_behind"),("","_law_read"),("","_law_due"),("","law")]
noncomputable def OA c n:=Fc.any fun q=>bx c (ae q.1)&&bx n (ae q.2)
noncomputable def Gu (sc:Scope) (c:Str):Option Nat:=match lk (ae "__class__") sc.names with
  |some .free=>lk c (cl1.map fun q=>(ae q.1,q.2))
  |_=>none
noncomputable def qW (c n:Str):Option FI:=(Db c).findSome? fun st=>match st with
  |.FunctionDef m ar b _ _ _ sc _ _ _=>match bx m n with
   |true=>some {params:=ar.args.map (·.arg),dflts:=ar.defaults.map (xw 5),body:=b,names:=sc.names,gen:=sc.isGenerator,dp:=Pd c n,law:=OA c n,fence:=bx n (ae "_law_run"),cls:=Gu sc c}
   |false=>none
  |_=>none
noncomputable def xD c x:=((Db c).findSome? fun st=>match st with
  |.Assign [.Name y _] e _=>match bx x y with|true=>some (xw 5 e)|false=>none
  |_=>none).getD .gone
noncomputable def iZ c (cs:List _):=(kM.filterMap fun e=>match e.2.1==c with|true=>some (ae e.2.2,V.glob e.1)|false=>none)++cs.map fun x=>(ae x,xD (ae c) (ae x))
noncomputable def kF:=
  [(439,iZ "CLexer" ["lower_letters","upper_letters","numbers","octal_numbers","hex_numbers"]++(kM.filterMap fun e=>match e.2.1=="HandLexerBase"&&(e.2.2 !="__init__"&&e.2.2 !="tokenize") with|true=>some (ae e.2.2,V.glob e.1)|false=>none)),
   (507,iZ "COptions" []),(303,iZ "SourceFile" []),(183,iZ "Char" []),(79,iZ "SourceLocation" []),(47,iZ "Token" []),(127,iZ "CToken" []),(156,iZ "CompilerError" [])]
noncomputable def mG:=(kM.filterMap fun e=>match e.2.1=="" with|true=>some (ae e.2.2,V.glob e.1)|false=>none)++(cl1.map fun q=>(ae q.1,V.glob q.2))++
  (["_law_PIECES","_law_LETTERS","_law_ESCAPES"].map fun x=>(ae x,xD (ae "") (ae x)))++(["len","sum","max","next","isinstance"].map fun x=>(ae x,V.bi x))++(["range","enumerate","super"].map fun x=>(ae x,V.ty x))
noncomputable def Jx:=[(183,["char","loc"]),(79,["filename","row","col","length","source"]),(47,["typ","val","loc"]),(127,["typ","val","space","first","loc"])]
noncomputable def IN:=[(507,["settings","include_directories","macros","undefine_macros"]),(439,["token_buffer","pushed_back","current_text","coptions","characters"]),(303,["filename","row"]),(156,["msg","loc","hints"])]
noncomputable def P1:PT:=
  {fn:=fun a=>(lkN a kM).bind fun e=>qW (ae e.1) (ae e.2)
   meth:=fun c a=>(lkN c kF).bind (lk a)
   glob:=fun x=>lk x mG
   flds:=fun c=>((lkN c Jx).getD []).map ae
   regf:=fun c=>((lkN c IN).getD []).map ae
   regOf:=fun c=>lkN c [(507,0),(439,1),(303,2),(183,3),(79,3),(47,3),(127,3)]
   sup:=fun c x=>match c with
     |439=>lk x [(ae "__init__",201),(ae "tokenize",208)]
     |127=>lk x [(ae "__init__",36)]
     |_=>none
   cErr:=156}
noncomputable def Nl (dp:Nat):St:={rho:=[],sc:=[],r0:=.empty,r1:=.empty,r2:=.empty,r3:=.empty,outs:=[],orc:=[],md:=false,ob:=true,dp:=dp,hd:=false}
end
section
theorem dE {α γ:Type} {R:Prop} {o:Option α} {f:α→Option γ} {g:Option γ} {k:γ} (h:oC o f g=some k) (h1:∀x,o=some x→f x=some k→R) (h2:g=some k→R):R:=
  o.casesOn (motive:=fun p=>o=p→oC p f g=some k→R) (fun ζ h=>h2 h) (fun x e h=>h1 x e h) rfl h
theorem aG {α γ:Type} {R:Prop} {o:Option α} {f:α→Option γ} {k:γ} (h:o.bind f=some k) (h1:∀x,o=some x→f x=some k→R):R:=
  o.casesOn (motive:=fun p=>o=p→p.bind f=some k→R) (fun ζ h=>aX h) (fun x e h=>h1 x e h) rfl h
theorem bE {α:Type} {R:Prop} {b:Bool} {o:Option α} {k:α} (h:aM b o=some k) (h1:b=true→o=some k→R):R:=
  b.casesOn (motive:=fun p=>b=p→aM p o=some k→R) (fun ζ h=>aX h) (fun e h=>h1 e h) rfl h
theorem nv {α:Type} {R:Prop} {o p:Option α} {k:α} (h:AQ o p=some k) (h1:o=some k→R) (h2:p=some k→R):R:=
  o.casesOn (motive:=fun q=>o=q→AQ q p=some k→R) (fun ζ h=>h2 h) (fun x e h=>h1 (e.trans h)) rfl h
theorem sm {α:Type} {a b:α} (h:some a=some b):b=a:=(Option.some.inj h).symm
noncomputable def ql:List (Nat×List (String×Nat)):=[(47,[("loc",0),("typ",1),("val",2)]),(79,[("filename",1),("row",3),("col",0),("length",2),("source",4)]),(127,[("loc",0),("typ",1),("val",2)])]
noncomputable def iB (c:Nat) (n:Str):Option Nat:=(lkN c ql).bind fun l=>lk n (l.map fun q=>(ae q.1,q.2))
noncomputable def iE:List Nat:=[183,79,47,127,439,507,303]
noncomputable def bJ (K:Frag):Frag:=K.filter fun p=>!Nat.beq p.1 225
noncomputable def tA (c:Nat) (l:List Nat):Bool:=l.any (Nat.beq c)
theorem dF {α:Type} {R:Prop} {o:Option α} {f:α→Bool} {g:Bool} (h:oC o f g=true) (h1:∀x,o=some x→f x=true→R) (h2:g=true→R):R:=
  o.casesOn (motive:=fun p=>o=p→oC p f g=true→R) (fun ζ h=>h2 h) (fun x e h=>h1 x e h) rfl h
theorem dJ {α:Type} {R:Prop} {o:Option α} {f:α→Bool} {g:Bool} (h:oC o f g=true) (h1:∀x,o=some x→f x=true→R) (h2:o=none→g=true→R):R:=
  o.casesOn (motive:=fun p=>o=p→oC p f g=true→R) (fun e h=>h2 e h) (fun x e h=>h1 x e h) rfl h
noncomputable def dK {α:Type} (o:Option α) (f:α→Bool):Bool:=oC o f false
theorem dM {α:Type} {R:Prop} {o:Option α} {f:α→Bool} (h:dK o f=true) (k:∀x,o=some x→f x=true→R):R:=
  o.casesOn (motive:=fun p=>o=p→dK p f=true→R) (fun ζ h=>bG h) (fun x e h=>k x e h) rfl h
noncomputable def dR (v:Value):Option Addr:=v.casesOn none none none (fun ζ=>none) (fun ζ ζ=>none) (fun ζ ζ=>none) (fun ζ ζ=>none) (fun ζ ζ=>none) (fun ζ=>none) (fun ζ=>none) fun a=>some a
noncomputable def d6 (v:Value):Option Str:=v.casesOn none none none (fun ζ=>none) (fun ζ ζ=>none) (fun ζ ζ=>none) (fun s ζ=>some s) (fun ζ ζ=>none) (fun ζ=>none) (fun ζ=>none) fun ζ=>none
theorem d9 {v:Value} {a:Addr} (h:dR v=some a):v=.ref a:=by rcases v with⟨⟩<;>first|exact aX h|exact congrArg _ (sm h).symm
theorem d_ {v:Value} {s:Str} (h:d6 v=some s):∃t,v=.str s t:=by rcases v with⟨⟩<;>first|exact aX h|exact⟨_,congrArg (Value.str · _) (sm h).symm⟩
noncomputable def ew (d:Data):Option (Array Value):=d.casesOn none (fun ζ=>none) (fun v ζ=>some v) (fun ζ ζ=>none) (fun ζ ζ ζ=>none) (fun ζ ζ=>none) (fun ζ=>none) (fun ζ=>none) (fun ζ=>none) (fun ζ=>none) none
noncomputable def ey (d:Data):Option (Array Value):=d.casesOn none (fun ζ=>none) (fun ζ ζ=>none) (fun ζ ζ=>none) (fun ζ ζ ζ=>none) (fun ζ ζ=>none) (fun ζ=>none) (fun ζ=>none) (fun ζ=>none) (fun v=>some v) none
noncomputable def eA (d:Data):Option FuncData:=d.casesOn none (fun ζ=>none) (fun ζ ζ=>none) (fun ζ ζ=>none) (fun ζ ζ ζ=>none) (fun ζ ζ=>none) (fun ζ=>none) (fun v=>some v) (fun ζ=>none) (fun ζ=>none) none
noncomputable def eM (d:Data):Option (Option Value):=d.casesOn none (fun ζ=>none) (fun ζ ζ=>none) (fun ζ ζ=>none) (fun ζ ζ ζ=>none) (fun ζ ζ=>none) (fun v=>some v) (fun ζ=>none) (fun ζ=>none) (fun ζ=>none) none
noncomputable def eN (d:Data):Option ClassData:=d.casesOn none (fun ζ=>none) (fun ζ ζ=>none) (fun ζ ζ=>none) (fun ζ ζ ζ=>none) (fun ζ ζ=>none) (fun ζ=>none) (fun ζ=>none) (fun v=>some v) (fun ζ=>none) none
noncomputable def eS (V:V) (v:Value):Bool:=oC (l7 V) (fun s=>dK (d6 v) fun x=>x==⟨s.toArray⟩) (oC (ry V) (fun a=>v==.ref a) (oC (rB V) (fun i=>v==.builtin i) (oC (J9 V) (fun i=>v==.type i) (oC (KV V) (fun b=>v==.bool b) (Fw V&&v==.none)))))
noncomputable def eV {α β:Type} (f:α→β→Bool) (l:List α):List β→Bool:=l.rec (fun m=>m.isEmpty) fun a ζ ih m=>dK m.head? fun b=>f a b&&ih m.tail
noncomputable def jQ (K:Frag) (n:Nat):V→Value→Bool:=n.rec eS fun ζ ih V v=>oC (asL V) (fun l=>dK (dR v) fun a=>dK (K.lookup a) fun o=>dK (ew o.data) fun vs=>(o.cls==.type "list"&&o.dict.isNone)&&eV ih l vs.toList) (eS V v)
noncomputable def pA (K:Frag) (n:Nat):List V→List Value→Bool:=eV (jQ K n)
noncomputable def Jy (K:Frag) (c:Nat) (n:Str):Bool:=oC (iB c n) (fun i=>dK (findIn K (.ref c) n) fun v=>dK (v.bind dR) fun p=>slotIn K p c==some i&&(specialIn K (.ref p) "__get__"==some (some (.builtin "member_descriptor.__get__"))&&(takesIn K (.ref p)==some true&&(typeIn K (.ref p)==some (.type "member_descriptor")&&(Nat.blt i 1000&&(clsIn K c).isSome))))) (findIn K (.ref c) n==some none&&(clsIn K c).any (·.hasDict))
noncomputable def lG (K:Frag) (c:Nat):Bool:=
  (findIn K (.ref c) (Str.ofString "__bool__")==some none&&findIn K (.ref c) (Str.ofString "__len__")==some none)&&
  (findIn K (.ref c) (Str.ofString "__getattribute__")==some (some (.builtin "object.__getattribute__"))&&findIn K (.ref c) (Str.ofString "__getattr__")==some none)&&
  ((findIn K (.ref c) "__setattr__"==some (some (.builtin "object.__setattr__"))&&plainOver K c)&&(P1.flds c++P1.regf c).all (Jy K c))
noncomputable def wP (K:Frag) (c:Nat) (a:Str) (V:V):Bool:=(iB c a).isNone&&(!copiedNames.contains a&&((clsIn K c).isSome&&oC (ry V)
  (fun f=>typeIn K (.ref f)==some (.type "function")&&(findIn K (.ref c) a==some (some (.ref f))&&(isFn K (.ref f)&&(fnIn K f&&(specialIn K (.ref f) "__get__"==some (some (.builtin "function.__get__"))&&takesIn K (.ref f)==some false)))))
  (dK (findIn K (.ref c) a) fun w=>dK w fun v=>handedIn v&&(specialIn K v "__get__"==some none&&jQ K 3 V v))))
noncomputable def BR (K:Frag) (x:Str) (V:V):Bool:=dK (nsIn K mainGlobals x) fun o=>oC o (fun v=>jQ K 3 V v) (dK (bootBuiltins x) fun v=>jQ K 3 V v&&!decide (x=Str.ofString "__name__"))
noncomputable def je (K:Frag) (a:Nat):Option FuncData:=(K.lookup a).bind fun o=>eA o.data
noncomputable def e_ (K:Frag) (v:Value):Option (Addr×Obj×Array Value):=(dR v).bind fun c=>(K.lookup c).bind fun o=>(ey o.data).map fun vs=>(c,o,vs)
noncomputable def CS (K:Frag) (cd:Value) (q:Str):Bool:=dK (e_ K cd) fun p=>dK (p.2.2[1]?) fun v=>dK (d6 v) fun x=>x==q
noncomputable def CH (K:Frag) (d:Value) (l:List V):Bool:=oC (dR d) (fun T=>dK (K.lookup T) fun o=>dK (ew o.data) fun vs=>pA K 1 l vs.toList) (d==.none&&l.isEmpty)
noncomputable def CY (K:Frag) (cl:List (Str×Addr)) (cls:Option Nat) (names:List (Str×NameKind)):Bool:=oC cls (fun c=>dK (fc cl) fun q=>(q.1==ae "__class__"&&dK (K.lookup q.2) fun o=>eM o.data==some (some (.ref c)))&&(names.lookup (ae "__class__")==some .free&&names.all fun x=>!(x.2==.cell))) cl.isEmpty
noncomputable def AM (p:Arguments) (ps:List Str):Bool:=p.posonlyargs.isEmpty&&(decide (p.args.map (·.arg)=ps)&&(p.vararg.isNone&&(p.kwonlyargs.isEmpty&&(p.kwarg.isNone&&vM ps))))
noncomputable def O4 (fi:FI):Bool:=vM (fi.names.map (·.1))&&(fi.params.all (fun x=>fi.names.lookup x==some .local||fi.names.lookup x==some .cell)&&(!fi.params.any (bx (ae "__class__"))&&((fi.gen||lr 90 fi.body)&&(!fi.gen||Nat.ble fi.dp 22))))
noncomputable def O1 (K:Frag) (a:Nat) (fi:FI):Bool:=dK (je K a) fun fd=>((!fd.scope.isCoroutine&&(fd.scope.isGenerator==fi.gen&&fd.scope.names==fi.names))&&(fd.scope.kind==.function&&(Nat.beq fd.globals mainGlobals&&Nat.beq fd.builtins builtinsNs)))&&
    ((AM fd.params fi.params&&CS K fd.code fd.qualname)&&(CH K fd.defaults fi.dflts&&CY K fd.closure fi.cls fi.names))
noncomputable def IB (K:Frag) (a:Nat) (names:List (Str×NameKind)):Bool:=dK (je K a) fun fd=>dK (fd.params.posonlyargs++fd.params.args).head? fun ar=>ar.arg==ae "self"&&((dK (e_ K fd.code) fun p=>dK (p.2.2[2]?) fun v=>dK (d6 v) fun x=>(PySem.Challenge.pw_te0067_01.main.file:Str)==x)&&(names.lookup (ae "super")==some .globalImplicit&&names.lookup (ae "__class__")==some .free))
noncomputable def fe (v:Value):Bool:=Nat.beq v.ctorIdx 4
noncomputable def fw (v:Value):Bool:=Nat.beq v.ctorIdx 3
noncomputable def OZ (K:Frag) (a:Nat):Bool:=dK (je K a) fun fd=>dK (e_ K fd.code) fun p=>(p.2.1.cls==.type "code"&&(Nat.blt 18 p.2.2.size&&p.2.2.getD 11 .none==.ref 225))&&((d6 (p.2.2.getD 18 .none)).isSome&&(fe (p.2.2.getD 7 .none)&&(fw (p.2.2.getD 9 .none)&&fe (p.2.2.getD 10 .none))))
noncomputable def xr:List (Nat×FI):=kM.filterMap fun e=>(qW (ae e.2.1) (ae e.2.2)).map fun fi=>(e.1,fi)
noncomputable def kC:List (Nat×Nat):=[(507,0),(439,1),(303,2),(183,3),(79,3),(47,3),(127,3)]
noncomputable def EV (K:Frag) (a k:Nat):Bool:=tA a iE&&(makesIn K a&&(Nat.blt k 4&&dK ((P1.meth a (ae "__init__")).bind fun v=>(ry v).bind fun f=>(P1.fn f).map fun fi=>(f,fi)) fun q=>!q.2.gen&&!q.2.fence))
noncomputable def F0 (K:Frag):Bool:=dK (K.lookup 156) fun o=>dK (eN o.data) fun cd=>((o.cls==.type "type"&&(cd.mro==.ref 156::D3&&cd.hasDict))&&(!cd.hasDel&&o.slots==#[o.slots.getD 0 none,o.slots.getD 1 none,o.slots.getD 2 none,o.slots.getD 3 none,some (.builtin "Exception.__new__"),o.slots.getD 5 none]))&&
  ((nsOkIn K cd.ns&&nsIn K cd.ns (Str.ofString "__setattr__")==some none)&&(((P1.regf 156).all fun n=>(nsIn K cd.ns n==some none&&findIn K (.ref 156) n==some none)&&match fastLookup "Exception" n with|some none=>true|_=>false)&&
  dK ((P1.meth 156 (ae "__init__")).bind ry) fun g=>nsIn K cd.ns (Str.ofString "__init__")==some (some (.ref g))&&typeIn K (.ref g)==some (.type "function")))
noncomputable def iT:List (Nat×Str×Nat):=[(439,ae "__init__",201),(439,ae "tokenize",208),(127,ae "__init__",36)]
noncomputable def ww (K:Frag) (c:Nat) (n:Str) (g:Nat):Bool:=(clsIn K c).isSome&&(mroIn K c (.ref c)==some true&&(ks_superIn K c c n==some (some (.ref g))&&(typeIn K (.ref g)==some (.type "function")&&!(n==("__class__":Str)))))
noncomputable def Al (K:Frag):Bool:=(dK (K.lookup 225) fun o=>(o.cls==.none&&o.dict==none)&&(o.slots.isEmpty&&dK (ey o.data) fun vs=>vs.isEmpty))&&dK (K.lookup 229) fun o=>o.cls==.type "code"&&dK (ey o.data) fun vs=>(vs[11]?:Option Value)==some (.ref 225)
end
section
noncomputable def km (tb:String→Option Builtin) (p:Program) (w:World) (n₀:Nat) (ann:Option Value):Nat→SharedT→Thread→Option SharedT
  |0,_,_=>none
  |n+1,s,t=>match through t with
   |true=>some s
   |false=>match stepOk n₀ ann t with
    |false=>none
    |true=>match PySem.W.stepT (denote tb) p w s t with
     |some (s',t')=>km tb p w n₀ ann n s' t'
     |none=>none
theorem mZ {tb:String→Option Builtin} {p:Program} {w:World} {n₀:Nat} {ann:Option Value} {n:Nat} {r:SharedT}:∀{s:SharedT} {t:Thread},km tb p w n₀ ann n s t=some r→topRun tb p w n₀ ann n s.abs t=some r.abs:=by
  induction n with
  |zero=>exact fun h=>aX h
  |succ n ih=>
   intro s t
   show(match through t with|true=>some s|false=>match stepOk n₀ ann t with|false=>none|true=>match PySem.W.stepT (denote tb) p w s t with|some (s',t')=>km tb p w n₀ ann n s' t'|none=>none)=some r→
     (match through t with|true=>some s.abs|false=>match stepOk n₀ ann t with|false=>none|true=>match step (denote tb) p w s.abs t with|.go s' t'=>topRun tb p w n₀ ann n s' t'|.halt _ _=>none)=some r.abs
   cases through t with
   |true=>exact fun h=>congrArg (Option.map SharedT.abs) h
   |false=>
    cases stepOk n₀ ann t with
    |false=>exact fun h=>aX h
    |true=>
     cases hs:PySem.W.stepT (denote tb) p w s t with
     |none=>exact fun h=>aX h
     |some q=>exact fun h=>(stepT_spec hs).symm▸ih h
noncomputable def Nt:List Obj→BT→Nat→Option BT
  |[],t,_=>some t
  |o::r,t,n=>match((t.ins n o).get n).isSome with
   |true=>Nt r (t.ins n o) (n+1)
   |false=>none
theorem Bg {life:Life} {l:List Obj}:∀{t t':BT} {n:Nat},Nt l t n=some t'→absHeap t' (n+l.length) life=⟨(absHeap t n life).objs++l.toArray,life⟩:=by
  induction l with
  |nil=>exact fun h=>by cases h;simp[absHeap]
  |cons o r ih=>
   intro t t' n
   show(match((t.ins n o).get n).isSome with|true=>Nt r (t.ins n o) (n+1)|false=>none)=some t'→_
   cases g:((t.ins n o).get n).isSome with
   |false=>exact fun h=>aX h
   |true=>
    intro h
    have h:=ih h
    rw[absHeap_ins g] at h
    exact(congrArg (absHeap t' · life) (bQ n r.length 1)).trans (h.trans (by simp[Heap.push]))
noncomputable def xk (tb:String→Option Builtin) (p:Program) (w:World) (N:Nat) (s₀:Shared):Option SharedT:=
  match s₀.heap.isNs mainGlobals&&s₀.gens.size==0 with
  |true=>match Nt s₀.heap.objs.toList .nil 0 with
   |some T=>km tb p w s₀.heap.objs.size (s₀.heap.nsMap mainGlobals "__annotations__") N ⟨T,s₀.heap.objs.size,s₀.heap.life,s₀.gens,s₀.drawn,s₀.toks,s₀.os⟩ (topStub p)
   |none=>none
  |false=>none
noncomputable def CB (tb:String→Option Builtin) (p:Program) (w:World) (N:Nat):Option (Heap×SharedT):=(fencedOpening tb p w N).bind fun s=>(xk tb p w N s).map fun t=>(s.heap,t)
theorem Ca {tb:String→Option Builtin} {p:Program} {w:World} {N:Nat} {s₀:Shared} {r:SharedT} (h:xk tb p w N s₀=some r)
    (k:(staticsOk (importedModules p.main.body) s₀.heap r.abs.heap&&namesBound p r.abs.heap&&gensDone r.abs&&laidKept s₀.heap r.abs.heap)=true):topFrom tb p w N s₀=some r.abs:=by
  revert h
  unfold xk topFrom
  cases s₀.heap.isNs mainGlobals&&s₀.gens.size==0 with
  |false=>exact fun h=>aX h
  |true=>
   dsimp only
   cases q:Nt s₀.heap.objs.toList .nil 0 with
   |none=>exact fun h=>aX h
   |some T=>
    intro h
    have a:=Bg (life:=s₀.heap.life) q
    have a':absHeap T s₀.heap.objs.size s₀.heap.life=s₀.heap:=by
      rw[bD,Array.length_toList] at a
      rw[a]
      simp[absHeap,BT.list]
    rw[show topRun tb p w s₀.heap.objs.size (s₀.heap.nsMap mainGlobals "__annotations__") N s₀ (topStub p)=some r.abs from(congrArg (fun h=>topRun tb p w s₀.heap.objs.size (s₀.heap.nsMap mainGlobals "__annotations__") N ⟨h,s₀.gens,s₀.drawn,s₀.toks,s₀.os⟩ (topStub p)) a').symm.trans (mZ h)]
    show(match(staticsOk (importedModules p.main.body) s₀.heap r.abs.heap&&namesBound p r.abs.heap&&gensDone r.abs&&laidKept s₀.heap r.abs.heap) with|true=>some r.abs|false=>none)=_
    rw[k]
noncomputable def A7 (p:Program) {α:Type} (F:Shared→α) (q:Heap×SharedT):Bool×α:=
  (staticsOk (importedModules p.main.body) q.1 q.2.abs.heap&&namesBound p q.2.abs.heap&&gensDone q.2.abs&&laidKept q.1 q.2.abs.heap,F q.2.abs)
theorem Gb {tb:String→Option Builtin} {p:Program} {w:World} {N:Nat} {α:Type} {F:Shared→α} {x:α} (h:(CB tb p w N).map (A7 p F)=some (true,x)):(openEnds tb p w N).map F=some x:=
  (ay.mp h).elim fun q h=>aG h.1 fun s h3 h4=>(ay.mp h4).elim fun t h5=>by
    have k:=Prod.mk.inj ((congrArg (A7 p F) h5.2).trans h.2)
    unfold openEnds
    rw[h3]
    show(topFrom tb p w N s).map F=_
    rw[Ca h5.1 k.1]
    exact congrArg some k.2
noncomputable def fI (d:Data):Bool:=Nat.beq d.ctorIdx 10
noncomputable def pV (l:List Obj):Nat→Frag:=l.rec (fun ζ=>[]) fun o ζ ih n=>cond (fI o.data) (ih (n+1)) ((n,o)::ih (n+1))
theorem tF {a:Nat} {o:Obj} {l:List Obj}:∀{n:Nat},List.lookup (a:Addr) (pV l n)=some o→n≤a∧l[a -n]?=some o∧fI o.data=false:=by
  induction l with
  |nil=>exact fun h=>aX h
  |cons o' r ih=>
   intro n
   have go:List.lookup (a:Addr) (pV r (n+1))=some o→n≤a∧(o'::r)[a -n]?=some o∧fI o.data=false:=fun h=>by
     have h:=ih h
     refine⟨bv h.1,?_,h.2.2⟩
     rw[←Nat.succ_pred_eq_of_pos (Nat.sub_pos_of_lt h.1)]
     exact h.2.1
   show List.lookup (a:Addr) (cond (fI o'.data) (pV r (n+1)) ((n,o')::pV r (n+1)))=some o→_
   cases hd:fI o'.data with
   |true=>exact go
   |false=>
    show List.lookup (a:Addr) ((n,o')::pV r (n+1))=some o→_
    rw[bq]
    cases e:(a:Addr)==n with
    |true=>
     intro h
     have e:a=n:=eq_of_beq e
     cases sm h
     subst e
     exact⟨aC _,by rw[Nat.sub_self];rfl,hd⟩
    |false=>exact go
noncomputable def nU (h:Heap):Frag:=pV h.objs.toList 0
theorem za (h:Heap):(nU h).In h:=fun a o e=>by
  have e:=(tF e).2
  unfold Heap.get?
  rw[Nat.sub_zero,Array.getElem?_toList] at e
  rw[e.1]
  rcases o with⟨c,d,dt,sl⟩
  revert e
  cases dt<;>first|exact fun ζ=>rfl|exact fun e=>bG e.2.symm
noncomputable def HO (K:Frag):Bool:=
  ((iE.all (lG (bJ K))&&(kF.all fun e=>!tA e.1 iE||e.2.all fun q=>wP (bJ K) e.1 q.1 q.2))&&((mG.all fun q=>BR (bJ K) q.1 q.2)&&((bJ K).lookup sysModules).isSome))&&
  ((((xr.all fun q=>O1 (bJ K) q.1 q.2)&&(xr.all fun q=>!jD q.2.body||IB (bJ K) q.1 q.2.names))&&((xr.all fun q=>!jG q.2.body||OZ (bJ K) q.1)&&
  dK (nsIn (bJ K) mainGlobals (Str.ofString "__builtins__")) fun o=>dK (o.bind dR) fun bm=>((bJ K).lookup bm).isSome))&&
  ((((kC.all fun q=>EV (bJ K) q.1 q.2)&&F0 (bJ K))&&(findIn (bJ K) (.ref 156) "__setattr__"==some (some (.builtin "object.__setattr__"))&&
  mroIn (bJ K) 156 (.type "StopIteration")==some false))&&((nsIn (bJ K) cStatics "thirdparty.any"==some none&&(iT.all fun q=>ww (bJ K) q.1 q.2.1 q.2.2))&&(Al K&&nsIn K mainGlobals (Str.ofString "law")==some (some (.ref 565))))))
noncomputable def xt (K:Frag):Bool×List (Option FuncBody):=(HO K,xr.map fun q=>(je (bJ K) q.1).map (·.body))
noncomputable def xu:Bool×List (Option FuncBody):=(true,xr.map fun q=>some (.stmts q.2.body))
noncomputable def qv:Program:={PySem.Challenge.pw_te0067_01 with main:={PySem.Challenge.pw_te0067_01.main with body:=[0,2,3,5,7,9,10,12,13,14,15,16,18,20,21,22,23,24,25,26,27,28,29,30,31].filterMap fun i=>PySem.Challenge.pw_te0067_01.main.body[i]?}}
noncomputable def KD:List Str:=["Token","SourceLocation","CToken","CompilerError","CLexer","_law_PIECES"].map Str.ofString
noncomputable abbrev rwv:RowW:=PySem.Challenge.rw_te0067_01.row.toRowW
noncomputable def xtv (s:Shared):Bool:=xlAt qv [] s&&recOk (RowW.records rwv) s
theorem L8:LeftO PySem.Challenge.pw_te0067_01 qv KD xtv (fun s=>xt (nU s.heap)) (fun ζ=>xu) 8134:=fun w=>Gb (by
  revert w
  unfold CB fencedOpening xk km
  rw[Fast.te10274390034422433532,Fast.te14289696077712309145,Fast.te14364793385576792824,Fast.te1435165496053646825,Fast.te4187177175401517315,Fast.te10156331382660048174,Fast.te6613529449190102663]
  intro w
  kernel_rfl)
end
section
structure fA (C:Cf) (G:Gs):Prop where
  sub:∀a o,G.fz a=some o→G.S.heap.get? a=some o
  base:jl C G.fz
  tbn:G.fz C.tb=none
  bare:AllBare G.S.gens
  os:G.S.os=C.os
  tbi:C.tbI (G.S.heap.get? C.tb) G.fz
  tbs:∃o,G.S.heap.get? C.tb=some o
structure eC where
  h:Addr→Option Obj
  g:Nat→Option GenState
inductive Pl where
  |loc (x:Str)|frame|inst (r:Nat)|attr (r:Nat) (n:Str)|tmp (k:Nat)
structure Wd where
  G:Gs
  pi:Pi
  own:Addr→Option Pl
  gown:Nat→Option Pl
noncomputable abbrev Wd.hp (W:Wd) a:=W.G.S.heap.get? a
open Classical in
noncomputable def Wd.at (W:Wd) (p:Pl):eC:=⟨fun a=>if W.own a=some p then W.hp a else none,fun k=>if W.gown k=some p then W.G.S.gens[k]? else none⟩
theorem fJ {α:Type} {p} [Decidable p] {x:Option α} {y}:(if p then x else none)=some y↔p∧x=some y:=by
  split<;>simp_all
open Classical in
theorem cx {W:Wd} {p} {a} {o}:(W.at p).h a=some o↔W.own a=some p∧W.hp a=some o:=fJ
open Classical in
theorem lK {W:Wd} {p} {a} {o}:(W.at p).g a=some o↔W.gown a=some p∧W.G.S.gens[a]?=some o:=fJ
theorem eC.ext {x y:eC} (h:∀a,x.h a=y.h a) (g:∀k,x.g k=y.g k):x=y:=by
  rcases x with⟨⟩;congr 1
  ·exact funext h
  ·exact funext g
open Classical in
theorem gh {W W':Wd} {p q} (h:∀a,W'.own a=some q↔W.own a=some p) (g:∀k,W'.gown k=some q↔W.gown k=some p) (hk:∀a,W.own a=some p→W'.hp a=W.hp a) (gk:∀k,W.gown k=some p→W'.G.S.gens[k]?=W.G.S.gens[k]?):W'.at q=W.at p:=
  eC.ext fun a=>by show(if _ then _ else _)=if _ then _ else _;split<;>simp_all fun k=>by show(if _ then _ else _)=if _ then _ else _;split<;>simp_all
structure aU where
  C:Cf
  H:All C
  env:Env
  fl:List Env
  ot:eC
  fz0:Fz
  pi0:Pi
  sc:List (Str×NameKind)
  dp:Nat
  hd:Bool
  outs:List V
noncomputable def bF (fl:List Env):=fl.filterMap (·.frame)
inductive jz (fl:List Env) (a:Addr) (o:Obj) (h:Heap):Prop
  |same:h.get? a=some o→jz fl a o h
  |slots (sl:Array (Option Value)):a∈bF fl→h.get? a=some {o with slots:=sl}→jz fl a o h
inductive Ds (h base:Heap) (e:Addr) (cls:Value) (dx:Option Addr) (fl:Value):Prop
  |mk (oe:Obj) (vs:Array Value) (T:Addr) (oT:Obj) (ts:Array Value):h.get? e=some oe→oe.cls=cls→oe.dict=dx→oe.data=.fields vs→vs[1]?=some (.ref T)→base.get? T=none→T≠e→h.get? T=some oT→oT.data=.fields ts→ts[3]?=some fl→Ds h base e cls dx fl
inductive xX (h base:Heap) (fl:List Env) (e:Addr) (cls:Value) (dx:Option Addr):Prop
  |new (oe:Obj) (vs:Array Value):h.get? e=some oe→oe.cls=cls→oe.dict=dx→oe.data=.fields vs→vs[1]?=some .none→xX h base fl e cls dx
  |bare:Ds h base e cls dx .none→xX h base fl e cls dx
  |at_ (env:Env) (outer:List Env) (L:Addr):fl=env::outer→env.frame=some L→Ds h base e cls dx (rawInt L)→xX h base fl e cls dx
structure G8 (base:Heap) (fl:List Env) (e:Addr) (cls:Value) (dx:Option Addr) (h:Heap):Prop where
  stays:base.StaysIn h
  new:base.get? e=none
  fun_:h.FunFrames base fl
  note:xX h base fl e cls dx
section
variable (c:aU) (W:Wd)
inductive jA (a:Addr) (p:Pl):Prop
  |mk (o:Obj):W.hp a=some o→W.G.fz a=none→a≠c.C.tb→c.ot.h a=none→(a∈bF c.fl→p=.frame)→jA a p
inductive rE (a:Addr) (o:Obj):Prop
  |mk:jz c.fl a o W.G.S.heap→W.G.fz a=none→a≠c.C.tb→rE a o
structure bj:Prop where
  ok:fA c.C W.G
  le:cO c.fz0 W.G.fz
  ple:dW c.pi0 W.pi
  own:∀a p,W.own a=some p→jA c W a p
  ot:∀a o,c.ot.h a=some o→rE c W a o
  gown:∀k p,W.gown k=some p→k<W.G.S.gens.size∧c.ot.g k=none
  gt:∀k g,c.ot.g k=some g→W.G.S.gens[k]?=some g
  fun_:W.G.S.heap.FunFrames {} c.fl
  fm:∀a∈bF c.fl,a≠c.C.tb∧W.G.fz a=none
  fo:∀a∈bF c.fl,W.own a=some .frame∨∃o,c.ot.h a=some o
inductive bH (a:Addr):Prop
  |own (p:Pl):W.own a=some p→bH a
  |fz (o:Obj):W.G.fz a=some o→bH a
  |ot (o:Obj):c.ot.h a=some o→bH a
  |tb:a=c.C.tb→bH a
inductive D8 (k:Nat):Value→Prop
  |mk (e:Addr) (base:Heap) (dx:Option Addr):G8 base c.fl e (ig c.C.P k) dx W.G.S.heap→¬bH c W e→(∀a o,bH c W a→a∉bF c.fl→W.hp a=some o→base.get? a=some o)→(k=1∨k=2)→D8 k (.ref e)
structure Kw (P:Pl→Prop) (W':Wd):Prop where
  fits:bj c W'
  le:cO W.G.fz W'.G.fz
  pi:dW W.pi W'.pi
  pir:∀r,¬P (.inst r)→W'.pi r=W.pi r
  at_:∀q,¬P q→q≠.frame→W'.at q=W.at q
structure Kp (P:Pl→Prop) (W':Wd):Prop extends Kw c W P W' where
  fr:∀a,W.own a=some .frame→W'.own a=some .frame
  frh:∀a o,W.own a=some .frame→W.hp a=some o→jz c.fl a o W'.G.S.heap
inductive kb (h:Heap):Value→Prop
  |mk (e:Addr) (o:Obj):h.get? e=some o→o.cls=.type "StopIteration"→kb h (.ref e)
inductive HX (p:Pl) (P:Wd→Prop):Shared→Prop
  |mk (W':Wd):Kp c W (· =p) W'→P W'→HX p P W'.G.S
inductive xY (p:Pl) (pi:Pi) (y:V) (I:Fz→eC→Prop):Option Value→Shared→Prop
  |mk (rv:Value) (W':Wd):Kp c W (· =p) W'→cP c.C W'.G.fz pi y rv→I W'.G.fz (W'.at p)→xY p pi y I (some rv) W'.G.S
inductive xZ (p:Pl) (I:Fz→eC→Prop):Value→Shared→Prop
  |mk (ex:Value) (W':Wd):Kp c W (· =p) W'→kb W'.G.S.heap ex→I W'.G.fz (W'.at p)→xZ p I ex W'.G.S
inductive Dy (p:Pl) (k:Nat):Value→Shared→Prop
  |mk (ex:Value) (W':Wd):Kp c W (· =p) W'→D8 c W' k ex→Dy p k ex W'.G.S
end
structure GA (d:Nat) (c:aU) (A:Around):Prop where
  hd:A.handled=none
  dep:A.depth+4*d+32≤900
  un:A.units+400*d+780≤9800
  fr:A.frames=some c.fl
inductive us (S:Shared) (v:Value):Prop
  |mk (T:String) (f:Value):S.TypeIs v T→typeLookup (.type T) (Str.ofString "__next__")=pure (some f)→us S v
noncomputable abbrev ff {α:Sort u} {β:Sort v}:α→β→Prop:=fun ζ ζ=>False
section
variable (C:Cf)
structure wd (d e:Nat) (v:Value) (pi:Pi) (I:List V→Fz→eC→Prop):Prop where
  hin:handedIn v=true
  mono:∀l fz fz' ρ,cO fz fz'→I l fz ρ→I l fz' ρ
  iter:∀l c A W p Q E,c.C=C→p≠.frame→bj c W→I l W.G.fz (W.at p)→Q v W.G.S→wpAny C.M A (pyIter v) Q E W.G.S
  next:∀y l c A W p,c.C=C→p≠.frame→bj c W→GA d c A→I (y::l) W.G.fz (W.at p)→wpAny C.M A (callSpecial? v (Str.ofString "__next__")) (xY c W p pi y (I l)) ff W.G.S
  stop:e=0→∀c A W p,c.C=C→p≠.frame→bj c W→GA d c A→I [] W.G.fz (W.at p)→wpAny C.M A (callSpecial? v (Str.ofString "__next__")) ff (xZ c W p (I [])) W.G.S
  fail:e≠0→∀c A W p,c.C=C→p≠.frame→bj c W→GA d c A→I [] W.G.fz (W.at p)→wpAny C.M A (callSpecial? v (Str.ofString "__next__")) ff (Dy c W p e) W.G.S
  spec:∀l c W p,c.C=C→p≠.frame→bj c W→I l W.G.fz (W.at p)→us W.G.S v
  go:∀l c A W p t rv,c.C=C→p≠.frame→bj c W→I l W.G.fz (W.at p)→wpAny C.M A (letOwnedTupleGo t v rv) (fun ζ=>HX c W p fun W'=>I l W'.G.fz (W'.at p)) ff W.G.S
inductive Kl (d e:Nat) (l:List V) (v:Value) (pi:Pi) (fz:Fz) (ρ:eC):Prop
  |mk (pi0:Pi) (I:List V→Fz→eC→Prop):dW pi0 pi→wd C d e v pi0 I→I l fz ρ→Kl d e l v pi fz ρ
inductive uv (fz:Fz) (pi:Pi) (l:List V) (ρ:eC):Value→Prop
  |mk (a:Addr) (vs:List Value):At ρ.h a (fun h=>PlainL h a (List.toArray vs))→aS C fz pi l vs→uv fz pi l ρ (.ref a)
inductive wb (fz:Fz) (pi:Pi) (ks:List (List Nat)) (l:List V) (ρ:eC):Value→Prop
  |mk (a:Addr) (vs:List Value):At ρ.h a (fun h=>h.DictOf (strKind C.prog C.w) a ((bU ks).zip vs))→ks.length=vs.length→aS C fz pi l vs→wb fz pi ks l ρ (.ref a)
inductive gI (fz:Fz) (pi:Pi) (ρ:eC):V→Value→Prop
  |rep (V:V) (v:Value):cP C fz pi V v→gI fz pi ρ V v
  |own (l:List V) (v:Value):uv C fz pi l ρ v→gI fz pi ρ (.own l) v
  |itr (d:Nat) (l:List V) (e:Nat) (x:V) (v:Value):Kl C d e l v pi fz ρ→gI fz pi ρ (.itr d l e x) v
  |dct (ks:List (List Nat)) (l:List V) (v:Value):wb C fz pi ks l ρ v→gI fz pi ρ (.dct ks l) v
  |gone (v:Value):gI fz pi ρ .gone v
end
end
section
inductive Tp where
  |nil (k:Nat)
  |more (V:V) (v:Value) (T:Tp)
noncomputable def Tp.len:Tp→Nat
  |.nil k=>k
  |.more _ _ T=>T.len+1
section
variable (c:aU) (W:Wd)
noncomputable def H6 x:=c.env.kindOf x=some .free∨(c.env.kindOf x=some .cell∧lk x c.sc=some .free)
inductive Kx (m:Str→Option Value) (x:Str) (v:Value):Prop
  |loc:c.env.kindOf x=some .local→m x=some v→Kx m x v
  |cell (cl:Addr):c.env.kindOf x=some .cell→c.env.cells.lookup x=some cl→W.G.S.heap.IsCell cl (some v)→W.own cl=some .frame→Kx m x v
  |free (cl:Addr) (o:Obj):H6 c x→c.env.cells.lookup x=some cl→W.G.S.heap.IsCell cl (some v)→W.G.fz cl=some o∨c.ot.h cl=some o→Kx m x v
noncomputable def Bn (k:NameKind) (o:Option NameKind):Prop:=match k with
  |.local=>o=some .local
  |.cell=>o=some .cell
  |.free=>o=some .free∨o=some .cell
  |.globalImplicit=>o=some .globalImplicit
  |_=>True
noncomputable def nI (k:Option NameKind):=match k with
  |some .local=>true
  |some .cell=>true
  |some .free=>true
  |_=>false
inductive rI (C:Cf) (fz:Fz) (pi:Pi) (b:Option Value) (V:V) (ρ:eC):Prop
  |mk (v:Value):b=some v→gI C fz pi ρ V v→rI C fz pi b V ρ
structure Nc:Prop where
  sc:∀x k,lk x c.sc=some k→Bn k (c.env.kindOf x)
  kind:c.env.scope.kind=.function
  globals:c.env.globals=mainGlobals
  builtins:c.env.builtins=builtinsNs
  frn:c.C.h₀.objs.size≤c.env.locals
  cdj:∀x y cl,c.env.kindOf x=some .cell→c.env.kindOf y=some .cell→c.env.cells.lookup x=some cl→c.env.cells.lookup y=some cl→x=y
structure DK (b:Str→Option Value):Prop where
  own:W.own c.env.locals=some .frame
  cell:∀x cl,lk x c.sc=some .cell→c.env.cells.lookup x=some cl→W.own cl=some .frame∧cl≠c.env.locals
  ce:∀x,lk x c.sc=some .cell→∃cl v,c.env.cells.lookup x=some cl∧W.G.S.heap.IsCell cl v
  ns:∃m,W.G.S.heap.Ns c.env.locals m∧∀x v,b x=some v→Kx c W m x v
end
variable (C:Cf)
inductive H0 (W:Wd) (r cl:Nat) (at_:List (Str×V)):Prop
  |mk (a:Addr) (o:Obj) (od:Option Obj) (f:Str→Value):W.pi r=some a→W.own a=some (.inst r)→InstAt W.G.S.heap a o cl od→(∀dx,o.dict=some dx→W.own dx=some (.inst r)∧dx≠a)→
   (∀n V,lk n at_=some V→eL C o od cl n (f n)∧gI C W.G.fz W.pi (W.at (.attr r n)) V (f n))→
   (∀d,od=some d→(∃es n,d=dictOf es n∧es.length≤at_.length)∧∀n,lk n at_=none→C.slotIx cl n=none→lookIn n d=some none)→
   ((∃n∈C.P.flds cl++C.P.regf cl,C.slotIx cl n=none)→∃d,od=some d)→H0 W r cl at_
structure HZ (W:Wd) (r cl:Nat) (at_:List (Str×V)):Prop where
  good:C.good cl
  flds:∀n V,lk n at_=some V→n∈C.P.flds cl++C.P.regf cl
  is:H0 C W r cl at_
noncomputable def fk (W:Wd) (r:Nat):di→Prop
  |.empty=>W.pi r=none
  |.taken=>True
  |.live cl at_=>HZ C W r cl at_
noncomputable def gC (W:Wd):Tp→Prop
  |.nil _=>True
  |.more V v T=>gI C W.G.fz W.pi (W.at (.tmp T.len)) V v∧gC W T
structure aZ (c:aU) (s:St) (b:Str→Option Value) (T:Tp) (W:Wd):Prop where
  fits:bj c W
  env:Nc c
  sc:s.sc=c.sc
  dp:s.dp=c.dp
  hd:s.hd=c.hd
  ou:s.outs=c.outs
  fr:DK c W b
  nm:∀x V,lk x s.rho=some V→V≠.gone→rI c.C W.G.fz W.pi (b x) V (W.at (.loc x))
  kn:∀x V,lk x s.rho=some V→nI (lk x c.sc)=true
  rg:∀r,fk c.C W r (s.reg r)
  tm:gC c.C W T
inductive a_ (c:aU) (b:Str→Option Value) (T:Tp) (s:St):Shared→Prop
  |mk (W:Wd):aZ c s b T W→a_ c b T s W.G.S
inductive oV (c:aU) (k:Nat) (ex:Value) (s:St):Shared→Prop
  |mk (W:Wd) (b:Str→Option Value):aZ c s b (.nil 0) W→D8 c W k ex→oV c k ex s W.G.S
structure GE (PP:PT) (n:Nat) (c:aU) (A:Around):Prop where
  pt:c.C.P=PP
  hd:c.hd=false→A.handled=none
  dep:A.depth+4*c.dp+30≤900
  un:A.units+4*n+400*c.dp+400≤9800
  fr:A.frames=some c.fl
noncomputable abbrev jC (Sh β:Type):=(β→Sh→Prop)→(Value→Sh→Prop)→Sh→Prop
noncomputable abbrev d7 β:=jC Shared β
variable {α β γ δ Sh:Type}
structure Md (Sh:Type) where
  G:St→Prop
  Xc:Nat→Value→St→Sh→Prop
  ob:∀s,G s→s.ob=true
  dn:∀s s',Le s s'→G s'→G s
noncomputable def pm (c:aU):Md Shared:=⟨fun s=>s.ob=true,oV c,fun ζ h=>h,fun ζ ζ l=>l.ob⟩
noncomputable def bZ (md:Md Sh) (R:α→β→St→Sh→Prop) (Q:β→Sh→Prop) (E:Value→Sh→Prop):lM α→Prop
  |.ok a s=>md.G s∧∀v S,R a v s S→Q v S
  |.err k _ s=>md.G s∧∀v S,md.Xc k v s S→E v S
  |.stuck _=>False
noncomputable def J md (I:Sh→Prop) s (x:Tr α) (m:jC Sh β) R:=∀S Q E,I S→bZ md R Q E (x.run s)→m Q E S
noncomputable def jC.bind (m:jC Sh β) (f:β→jC Sh δ):jC Sh δ:=fun Q E=>m (fun v=>f v Q E) E
section
variable {md:Md Sh} {I:Sh→Prop} {s:St} {x:Tr α} {m m':jC Sh β} {R:α→β→St→Sh→Prop}
theorem J.by (h:J md I s x m R) (k:∀Q E S,m Q E S→m' Q E S):J md I s x m' R:=fun S Q E i a=>k _ _ _ (h S Q E i a)
theorem bZ.good {Q} {E} {o} (h:bZ md R Q E o) (l:G6 s o):md.G s:=
  o.casesOn (fun ζ s' h l=>md.dn _ _ l h.1) (fun ζ ζ s' h l=>md.dn _ _ l h.1) (fun ζ h=>h.elim) h l
theorem bZ.ob {Q} {E} {o} (h:bZ md R Q E o) (l:G6 s o):s.ob=true:=md.ob _ (h.good l)
theorem J.bind {k:α→Tr γ} {f:β→jC Sh δ} {R'} (h:J md I s x m R) (hk:∀a v s',J md (R a v s') s' (k a) (f v) R'):J md I s (x.bind k) (m.bind f) R':=fun S Q E i a=>
  h S _ E i ((x.run s).casesOn (motive:=fun o=>bZ md R' Q E (o.bind fun a s=>(k a).run s)→bZ md R _ E o) (fun a' s' h=>⟨h.good ((k a').mo s'),fun v S' r=>hk a' v s' S' Q E r h⟩) (fun ζ ζ ζ h=>h) (fun ζ h=>h) a)
theorem J.grd {b} {w} (h:b=true→J md I s x m R):J md I s (gT b w x) m R:=by
  induction b with
  |true=>exact h rfl
  |false=>exact fun S Q E i a=>a.elim
theorem J.opt {o:Option γ} {w} {k} (h:∀a,o=some a→J md I s (k a) m R):J md I s (oT o w k) m R:=by
  induction o with
  |none=>exact fun S Q E i a=>a.elim
  |some a=>exact h a rfl
theorem J.stk {w}:J md I s (sT w) m R:=fun S Q E i a=>a.elim
theorem J.look {f} (h:J md I s (f s) m R):J md I s (aT f) m R:=h
theorem J.cnd {x'} o (h1:o=true→J md I s x m R) (h2:o=false→J md I s x' m R):J md I s (cond o x x') m R:=
  o.casesOn (motive:=fun p=>o=p→J md I s (cond p x x') m R) h2 h1 rfl
theorem J.cse {o:Option γ} {f} (h1:∀a,o=some a→J md I s (f a) m R) (h2:o=none→J md I s x m R):J md I s (oC o f x) m R:=
  o.casesOn (motive:=fun p=>o=p→J md I s (oC p f x) m R) h2 h1 rfl
theorem J.pure {v} {a} (h:∀S,I S→R a v s S):J md I s (rT a) (fun Q ζ S=>Q v S) R:=fun S Q E i k=>k.2 v S (h S i)
theorem J.post {R'} (h:J md I s x m R) (g:∀a v s S,R a v s S→R' a v s S):J md I s x m R':=fun S Q E i a=>h S Q E i (by
  revert a
  induction x.run s with
  |ok a s=>exact fun h=>⟨h.1,fun v S r=>h.2 v S (g a v s S r)⟩
  |err=>exact id
  |stuck=>exact id)
theorem J.pre {I'} (h:J md I s x m R) (g:∀S,I' S→I S):J md I' s x m R:=fun S Q E i a=>h S Q E (g S i) a
theorem J.dp {z} {f} (h:∀d,z=d+1→J md I s (f d) m R):J md I s (MJ z f) m R:=by
  induction z with
  |zero=>exact .stk
  |succ d=>exact h d rfl
end
noncomputable def PV c b T V v s S:=a_ c b (.more V v T) s S
noncomputable def PB c b T (k k':Bool) s S:=k'=k∧a_ c b T s S
noncomputable def mn (c:aU) (A:Around) (e:Expr):d7 Value:=fun Q E=>wpAny c.C.M A (eval e c.env) Q E
noncomputable def wpT (c:aU) (A:Around) (e:Expr):d7 Bool:=fun Q E=>wpAny c.C.M A (isTrue e c.env (eval e c.env)) Q E
noncomputable def ma PP n e x:=∀c b T A s,GE PP n c A→J (pm c) (a_ c b T s) s x (mn c A e) (PV c b T)
noncomputable def Dr PP n e x:=∀c b T A s,GE PP n c A→J (pm c) (a_ c b T s) s x (wpT c A e) (PB c b T)
noncomputable def cr PP n (ev:Expr→Tr V):=∀e,ma PP n e (ev e)
noncomputable def iq PP n (tr:Expr→Tr _):=∀e,Dr PP n e (tr e)
noncomputable def La (c:aU) (A:Around) (op:Operator) (a b:Value):d7 Value:=fun Q E=>wpAny c.C.M A (binaryOp op a b) Q E
end
section
variable {β γ Sh δ:Type} {A:Around} {s s' s1 s4 s3:St} {T T0 T1 T2 T3:Tp} {W' W2 W3 W0:Wd} {PP:PT} {S S':Shared} {E Q:Value→Shared→Prop} {pos p2 apos:Pos} {l args Vs l':List Internal.V} {env:Env} {fz:Fz} {a D ad:Addr} {vs kvals ws first:List Value} {V1 V2 V' B U V3 x0:Internal.V} {pi pi0 pi4 pi2:Pi} {d cl kt i g kk:Nat} {v1 v2 fv rv v0 kv u:Value} {b' b0 b3 m':Str→Option Value} {c0:aU} {code code':Code} {I:Shared→Prop} {Kr:Nat→Bool} {fi:FI} {fs:List Frame} {body:List Stmt} {h':Heap} {bf:Pl→Option Pl} {ks:List Keyword} {fl:List Env} {N:Addr→Prop} {bb:List (Str×Value)} {od od':Option Obj} {sc:List (Str×NameKind)} {own2:Addr→Option Pl} {gown2:Nat→Option Pl} {fd:FuncData} {σ:iN} {prog:Program} {os:OsState} {G:Gs} {gs:GenState} {o':Obj} {pl:Sem Bool} {F:List (Str×Internal.V)}
section
variable {C:Cf}
theorem All.frag (H:All C) {G} (ok:fA C G):C.K.In G.S.heap:=fun a o e=>ok.sub _ _ (ok.base _ _ (H.kin a o e).1 (H.kin a o e).2)
theorem All.ns {G} (ok:fA C G) {a} {m} (h:C.h₀.Ns a m) (ht:a≠C.tb):G.S.heap.Ns a m:=by
  obtain⟨o,es,ep,e,r⟩:=h
  exact⟨o,es,ep,ok.sub _ _ (ok.base _ _ ht e),r⟩
theorem All.noSys (H:All C) {G} (ok:fA C G) {a} (h:G.fz a=none):(a==sysModules)=false:=by
  rw[beq_eq_false_iff_ne]
  intro e
  obtain⟨o,q⟩:=H.sys
  rw[e,ok.base _ _ H.syst q] at h;trivial
theorem bK (h:Heap):h.get? h.objs.size=none:=by
  induction q:h.get? _ with
  |none=>rfl
  |some o=>exact absurd (Heap.lt_size q) (a9 _)
open Classical in
noncomputable def jd (fz:Fz) (h:Heap) (N:Addr→Prop):Fz:=fun a=>match fz a with
  |some o=>some o
  |none=>if N a then h.get? a else none
theorem dS fz h N:cO fz (jd fz h N):=fun a o e=>by unfold jd;rw[e]
theorem eh {fz} {h} {N} {a} {o} (hn:N a) (e:h.get? a=some o) (hf:fz a=none):jd fz h N a=some o:=by
  unfold jd;rw[hf];simp[hn,e]
theorem lC {fz} {h} {N} {a} (hn:¬N a):jd fz h N a=fz a:=by
  unfold jd
  induction q:fz a with
  |some o=>rfl
  |none=>simp[hn]
theorem fA.ext (H:All C) {G} (k:fA C G) {S'} (hk:∀a o,G.fz a=some o→S'.heap.get? a=some o) (htb:S'.heap.get? C.tb=G.S.heap.get? C.tb) (hg:AllBare S'.gens) (ho:S'.os=G.S.os) N
    (hN:¬N C.tb):fA C ⟨S',jd G.fz S'.heap N⟩ where
  sub:=fun a o e=>by
    unfold jd at e
    dsimp only at e
    split at e
    ·rename_i q
     cases e
     exact hk _ _ q
    ·split at e
     ·exact e
     trivial
  base:=fun b o n e=>dS _ _ _ _ _ (k.base b o n e)
  tbn:=(lC hN).trans k.tbn
  bare:=hg
  os:=ho.trans k.os
  tbi:=by
    rw[htb]
    exact H.tbm _ _ _ (dS _ _ _) k.tbi
  tbs:=k.tbs.imp fun ζ e=>htb.trans e
theorem jz.get {fl} {a} {o} {h} (x:jz fl a o h):∃sl,h.get? a=some {o with slots:=sl}:=by
  induction x with
  |same e=>exact⟨o.slots,e⟩
  |slots sl _ e=>exact⟨sl,e⟩
theorem jz.off {fl} {a} {o} {h} (x:jz fl a o h) (n:a∉bF fl):h.get? a=some o:=by
  induction x with
  |same e=>exact e
  |slots sl m _=>trivial
theorem jz.to {fl} {a} {o} {h h'} (x:jz fl a o h) (k:∀o,h.get? a=some o→h'.get? a=some o):jz fl a o h':=by
  induction x with
  |same e=>exact .same (k _ e)
  |slots sl m e=>exact .slots sl m (k _ e)
theorem FunFrames.of {h h' base:Heap}:∀{l},(∀b∈bF l,∃o',h'.get? b=some o'∧∀vs,o'.data≠.fields vs)→h.FunFrames base l→h'.FunFrames base l
  |[],_,_=>trivial
  |env::rest,k,⟨h1,⟨L,o,h2,h3,h4,h5⟩,h6⟩=>by
   obtain⟨o',e,n⟩:=k L (by unfold bF;simp[h2])
   exact⟨h1,⟨L,o',h2,h3,e,n⟩,FunFrames.of (fun b hb=>k b (by
     unfold bF at hb⊢
     rw[cF]
     split
     ·exact hb
     ·exact aK _ hb)) h6⟩
variable {c:aU} {b:Str→Option Value} {W:Wd} {n:Nat} {P:Pl→Prop} {p:Pl}
theorem Kl.mono {fz fz'} {pi pi'} (l:cO fz fz') (q:dW pi pi') {d e} {L} {v} {ρ} (x:Kl C d e L v pi fz ρ):Kl C d e L v pi' fz' ρ:=by
  induction x with|mk p0 I h1 h2 h3=>exact⟨p0,I,fun r a h=>q r a (h1 r a h),h2,h2.mono _ _ _ _ l h3⟩
theorem uv.mono {fz fz'} {pi pi'} (l:cO fz fz') (q:dW pi pi') {L} {v} {ρ} (x:uv C fz pi L ρ v):uv C fz' pi' L ρ v:=by
  induction x with|mk a vs h r=>exact⟨a,vs,h,r.mono l q⟩
theorem wb.mono {fz fz'} {pi pi'} (l:cO fz fz') (q:dW pi pi') {ks} {L} {v} {ρ} (x:wb C fz pi ks L ρ v):wb C fz' pi' ks L ρ v:=by
  induction x with|mk a vs h e r=>exact⟨a,vs,h,e,r.mono l q⟩
theorem gI.mono {fz fz'} {pi pi'} (l:cO fz fz') (q:dW pi pi') {V} {v} {ρ} (x:gI C fz pi ρ V v):gI C fz' pi' ρ V v:=
  x.casesOn (fun V v h=>.rep V v (h.mono l q)) (fun L v h=>.own L v (h.mono l q)) (fun d L e x v h=>.itr d L e x v (h.mono l q)) (fun ks L v h=>.dct ks L v (h.mono l q)) fun v=>.gone v
theorem gI.to_rep {fz} {pi} {V} {v} {ρ} (x:gI C fz pi ρ V v):plain V=true→cP C fz pi V v:=
  x.casesOn (fun V v h ζ=>h) (fun L v h e=>bG e) (fun d L e x v h e=>bG e) (fun ks L v h e=>bG e) fun v e=>bG e
theorem rI.mono {fz fz'} {pi pi'} (l:cO fz fz') (q:dW pi pi') {V} {v} {ρ} (x:rI C fz pi v V ρ):rI C fz' pi' v V ρ:=by
  induction x with|mk v e h=>exact⟨v,e,h.mono l q⟩
noncomputable def Wd.ext (W:Wd) S' N:={W with G:=⟨S',jd W.G.fz S'.heap N⟩}
theorem bH.get (f:bj c W) {a} (h:bH c W a):∃o,W.hp a=some o:=by
  induction h with
  |own p e=>induction f.own a p e with|mk o q=>exact⟨o,q⟩
  |fz o e=>exact⟨o,f.ok.sub _ _ e⟩
  |ot o e=>induction f.ot a o e with|mk u=>exact u.get.elim fun sl q=>⟨_,q⟩
  |tb e=>subst e;exact f.ok.tbs
theorem bj.free (f:bj c W) {a} (h:W.hp a=none):¬bH c W a:=fun q=>by
  obtain⟨o,e⟩:=bH.get f q
  rw[h] at e;trivial
theorem bj.fmfree (f:bj c W) {a} (h:W.hp a=none):a∉bF c.fl:=fun q=>by
  obtain⟨_,o,e,_⟩:=f.fun_.mem q
  exact nomatch h.symm.trans e
theorem lZ {l} {h h':Heap} (f:h.FunFrames {} l) (k:∀a∈bF l,∀o,h.get? a=some o→h'.get? a=some o):h'.FunFrames {} l:=
  FunFrames.of (fun a m=>by obtain⟨_,o,e,n⟩:=f.mem m;exact⟨o,k a m o e,n⟩) f
theorem Kp.grow (f:bj c W) (hk:∀a o,W.hp a=some o→S'.heap.get? a=some o) (hg:S'.gens=W.G.S.gens) (ho:S'.os=W.G.S.os) N (hN:∀a,N a→¬bH c W a∧a∉bF c.fl):Kp c W P (W.ext S' N):=by
  have off:∀a,bH c W a∨a∈bF c.fl→jd W.G.fz S'.heap N a=W.G.fz a:=fun a h=>lC fun q=>h.elim (hN a q).1 (hN a q).2
  have own:=fun a p e=>by
    induction f.own a p e with|mk o q=>exact(hk a o q).trans q.symm
  exact{
    fits:={
      ok:=f.ok.ext c.H (fun a o e=>hk _ _ (f.ok.sub a o e)) (f.ok.tbs.elim fun o e=>(hk _ _ e).trans e.symm) (hg▸f.ok.bare) ho N fun q=>(hN _ q).1 (.tb rfl)
      le:=fun a o e=>dS _ _ _ a o (f.le a o e)
      ple:=f.ple
      own:=fun a p e=>by
        induction f.own a p e with|mk o q1 q2 q3 q4 q5=>exact⟨o,hk a o q1,(off a (.inl (.own p e))).trans q2,q3,q4,q5⟩
      ot:=fun a o e=>by
       induction f.ot a o e with|mk q1 q2 q3=>exact⟨q1.to fun o=>hk a o,(off a (.inl (.ot o e))).trans q2,q3⟩
      gown:=fun k p e=>by
        have:=f.gown k p e
        exact⟨by show k<S'.gens.size;rw[hg];exact this.1,this.2⟩
      gt:=fun k g e=>by show S'.gens[k]?=_;rw[hg];exact f.gt k g e
      fun_:=lZ f.fun_ fun a ζ o=>hk a o
      fm:=fun a m=>⟨(f.fm a m).1,(off a (.inr m)).trans (f.fm a m).2⟩
      fo:=f.fo}
    le:=dS _ _ _
    pi:=fun ζ ζ e=>e
    pir:=fun ζ ζ=>rfl
    at_:=fun q ζ ζ=>gh (fun ζ=>.rfl) (fun ζ=>.rfl) (fun a e=>own a q e) fun k ζ=>by show S'.gens[k]?=_;rw[hg]
    fr:=fun ζ e=>e
    frh:=fun a o ζ e=>.same (hk a o e)}
theorem Heap.Ns.ofSlots {h h':Heap} {a} {m} (x:h.Ns a m) (k:∀o,h.get? a=some o→∃sl,h'.get? a=some {o with slots:=sl}):h'.Ns a m:=by
  obtain⟨o,es,ep,ho,hd,r⟩:=x
  obtain⟨sl,hs⟩:=k o ho
  exact⟨_,es,ep,hs,hd,r⟩
theorem IsCell.ofSlots {h h':Heap} {a} {v} (x:h.IsCell a v) (k:∀o,h.get? a=some o→∃sl,h'.get? a=some {o with slots:=sl}):h'.IsCell a v:=by
  obtain⟨o,ho,hd⟩:=x
  obtain⟨sl,hs⟩:=k o ho
  exact⟨_,hs,hd⟩
theorem tq {h h'} {x} {o} {cl} {od} (i:InstAt h x o cl od) (k:h'.get? x=h.get? x) (kd:∀dx,o.dict=some dx→h'.get? dx=h.get? dx):InstAt h' x o cl od:=⟨k.trans i.at_,i.cls,i.no,by
  have d:=i.dict
  revert d kd
  rcases o.dict with⟨⟩<;>rcases od with⟨⟩<;>intro kd d
  ·trivial
  ·exact d
  ·exact d
  ·exact(kd _ rfl).trans d⟩
section
variable (k:Kp c W P W')
include k
theorem Kp.frm (f:bj c W) (x:DK c W b):DK c W' b:=by
  have own:=fun a e o q=>(k.frh a o e q).get
  refine⟨k.fr _ x.own,fun y cl h1 h2=>⟨k.fr _ (x.cell y cl h1 h2).1,(x.cell y cl h1 h2).2⟩,fun y h=>?_,?_⟩
  ·obtain⟨cl,v,h1,h2⟩:=x.ce y h
   exact⟨cl,v,h1,IsCell.ofSlots h2 (own _ (x.cell y cl h h1).1)⟩
  ·obtain⟨m,h1,h2⟩:=x.ns
   exact⟨m,Heap.Ns.ofSlots h1 (own _ x.own),fun y v e=>by
     induction h2 y v e with
     |loc q1 q2=>exact .loc q1 q2
     |cell cl q1 q2 q3 q4=>exact .cell cl q1 q2 (IsCell.ofSlots q3 (own _ q4)) (k.fr _ q4)
     |free cl o q1 q2 q3 q4=>
      refine .free cl o q1 q2 (IsCell.ofSlots q3 fun o' e'=>?_) (q4.imp (k.le _ _) id)
      rcases q4 with q4|q4
      ·cases e'.symm.trans (f.ok.sub _ _ q4)
       exact⟨_,k.fits.ok.sub _ _ (k.le _ _ q4)⟩
      ·induction k.fits.ot _ _ q4 with|mk u=>
       induction f.ot _ _ q4 with|mk u'=>
       obtain⟨sl,g⟩:=u.get
       obtain⟨sl',g'⟩:=u'.get
       cases e'.symm.trans g'
       exact⟨sl,g⟩⟩
end
section
variable (k:Kw c W P W')
include k
theorem Kw.own {q} (h:¬P q) (hf:q≠.frame) {V} {v} (x:gI C W.G.fz W.pi (W.at q) V v):gI C W'.G.fz W'.pi (W'.at q) V v:=by
  rw[k.at_ q h hf];exact x.mono k.le k.pi
theorem Kw.hasV {q} (h:¬P q) (hf:q≠.frame) {V} {v} (x:rI C W.G.fz W.pi v V (W.at q)):rI C W'.G.fz W'.pi v V (W'.at q):=by
  induction x with|mk v e x=>exact⟨v,e,k.own h hf x⟩
end
theorem bj.move {p q} (f:bj c W) (e:W'.at q=W.at p) {a} (h:W.own a=some p):W'.own a=some q∧W'.hp a=W.hp a:=by
  induction f.own a p h with|mk o g=>
  have:=cx.mpr ⟨h,g⟩
  rw[←e] at this
  have:=cx.mp this
  exact⟨this.1,this.2.trans g.symm⟩
theorem fk.move (f:bj c W) {r} {sl} (l:cO W.G.fz W'.G.fz) (p:dW W.pi W'.pi) (e:W'.pi r=W.pi r) (hi:W'.at (.inst r)=W.at (.inst r)) (ha:∀n,W'.at (.attr r n)=W.at (.attr r n)) (x:fk C W r sl):fk C W' r sl:=by
  induction sl with
  |empty=>exact e.trans x
  |taken=>trivial
  |live cl at_=>
   refine⟨x.good,x.flds,?_⟩
   induction x.is with|mk a o od g h1 h2 h3 h4 h5 h6 h7=>
   have K:∀a,W.own a=some _→W'.own a=some _∧W'.hp a=W.hp a:=fun a=>f.move hi
   exact⟨a,o,od,g,e.trans h1,(K a h2).1,tq h3 (K a h2).2 fun dx e=>(K dx (h4 dx e).1).2,fun dx e=>⟨(K dx (h4 dx e).1).1,(h4 dx e).2⟩,fun n V e=>⟨(h5 n V e).1,ha n▸(h5 n V e).2.mono l p⟩,h6,h7⟩
section
variable (k:Kw c W P W')
include k
theorem Kw.slot (f:bj c W) {r} (h:¬P (.inst r)) (ha:∀n,¬P (.attr r n)) {sl} (x:fk C W r sl):fk C W' r sl:=
  x.move f k.le k.pi (k.pir r h) (k.at_ _ h nofun) fun n=>k.at_ _ (ha n) nofun
theorem Kw.tmps:∀{T},(∀j,j<T.len→¬P (.tmp j))→gC C W T→gC C W' T
  |.nil _,_,_=>trivial
  |.more V v T,h,x=>⟨k.own (h _ (dk _)) nofun x.1,Kw.tmps (fun j q=>h j (eD q)) x.2⟩
end
section
variable (k:Kp c W P W')
include k
theorem Kp.sim (x:aZ c s b T W) (hl:∀x,¬P (.loc x)) (hi:∀r,¬P (.inst r)) (ha:∀r n,¬P (.attr r n)) (ht:∀j,j<T.len→¬P (.tmp j)):aZ c s b T W':=
  {x with fits:=k.fits,fr:=k.frm x.fits x.fr,nm:=fun y V h1 h2=>k.hasV (hl y) nofun (x.nm y V h1 h2),rg:=fun r=>k.slot x.fits (hi r) (ha r) (x.rg r),tm:=k.tmps ht x.tm}
end
inductive Pt (j:Nat):Pl→Prop
  |mk (i:Nat):j≤i→Pt j (.tmp i)
theorem Kp.simT (k:Kp c W (Pt T.len) W') (x:aZ c s b T W):aZ c s b T W':=k.sim x nofun nofun nofun fun j h q=>by cases q with|mk _ h1=>exact a9 _ (et h h1)
theorem aZ.grow (x:aZ c s b T W) (hk:∀a o,W.hp a=some o→S'.heap.get? a=some o) (hg:S'.gens=W.G.S.gens) (ho:S'.os=W.G.S.os) N (hN:∀a,N a→¬bH c W a∧a∉bF c.fl):aZ c s b T (W.ext S' N):=
  (Kp.grow x.fits hk hg ho N hN).simT x
theorem aZ.pop {V} {v} (x:aZ c s b (.more V v T) W):aZ c s b T W:={x with tm:=x.tm.2}
theorem aZ.push {V} {v} (x:aZ c s b T W) (h:gI c.C W.G.fz W.pi (W.at (.tmp T.len)) V v):aZ c s b (.more V v T) W:={x with tm:=⟨h,x.tm⟩}
theorem a_.plain (x:aZ c s b T W) {V} {v} (hh:S'.heap=W.G.S.heap) (hg:S'.gens=W.G.S.gens) (ho:S'.os=W.G.S.os) (r:cP c.C W.G.fz W.pi V v):a_ c b (.more V v T) s S':=
  ⟨W.ext S' fun ζ=>False,(x.grow (fun a o e=>by rw[hh];exact e) hg ho _ nofun).push (.rep _ _ (r.mono (dS _ _ _) fun ζ ζ e=>e))⟩
end
section
variable {C:Cf} {c:aU} {b:Str→Option Value} {W:Wd} {n:Nat} {P Q:Pl→Prop} {p:Pl}
theorem Kp.weak (k:Kp c W P W') (h:∀q,P q→Q q):Kp c W Q W':={k with at_:=fun q n=>k.at_ q fun e=>n (h q e),pir:=fun r n=>k.pir r fun e=>n (h _ e)}
theorem Kp.trans {W2} (k:Kp c W P W') (k2:Kp c W' P W2) (f:bj c W):Kp c W P W2 where
  fits:=k2.fits
  le:=fun a o e=>k2.le a o (k.le a o e)
  pi:=fun r a e=>k2.pi r a (k.pi r a e)
  pir:=fun r h=>(k2.pir r h).trans (k.pir r h)
  at_:=fun q h1 h2=>(k2.at_ q h1 h2).trans (k.at_ q h1 h2)
  fr:=fun a e=>k2.fr a (k.fr a e)
  frh:=fun a o e q=>by
    induction k.frh a o e q with
    |same g=>exact k2.frh a o (k.fr a e) g
    |slots sl m g=>induction k2.frh a _ (k.fr a e) g with
     |same g=>exact .slots sl m g
     |slots sl' _ g=>exact .slots _ m g
noncomputable def Wd.lab (W:Wd) own gown:={W with own:=own,gown:=gown}
theorem Kp.lab (f:bj c W) {own} {gown} (h:∀a p,own a=some p→W.own a=some p∨jA c W a p) (g:∀k p,gown k=some p→W.gown k=some p∨(k<W.G.S.gens.size∧c.ot.g k=none))
    (hP:∀a q,¬P q→(own a=some q↔W.own a=some q)) (gP:∀a q,¬P q→(gown a=some q↔W.gown a=some q)) (hf:¬P .frame):Kp c W P (W.lab own gown) where
  fits:={f with
    own:=fun a p e=>by
      have:=(h a p e).elim (f.own a p) id
      induction this with|mk o h1 h2 h3 h4 h5=>exact⟨o,h1,h2,h3,h4,h5⟩
    ot:=fun a o e=>by induction f.ot a o e with|mk h1 h2 h3=>exact⟨h1,h2,h3⟩
    gown:=fun k p e=>(g k p e).elim (f.gown k p) id
    fo:=fun a m=>(f.fo a m).imp (hP a _ hf).mpr id}
  le:=fun ζ ζ e=>e
  pi:=fun ζ ζ e=>e
  pir:=fun ζ ζ=>rfl
  at_:=fun q n ζ=>gh (fun a=>hP a q n) (fun k=>gP k q n) (fun ζ ζ=>rfl) fun ζ ζ=>rfl
  fr:=fun a e=>(hP a _ hf).mpr e
  frh:=fun a o ζ e=>.same e
open Classical in
noncomputable def Wd.give (W:Wd) a p:=W.lab (fun x=>if x=a then some p else if W.own x=some p then none else W.own x) fun k=>if W.gown k=some p then none else W.gown k
open Classical in
theorem Kp.give (f:bj c W) {a} {o} (e:W.hp a=some o) (n:¬bH c W a) (m:a∉bF c.fl) (hp:p≠.frame):Kp c W (· =p) (W.give a p):=by
  have nn:∀{β} {x:Option β},(∀y,x≠some y)→x=none:=fun{β x} h=>by induction x with|none=>rfl|some y=>exact absurd rfl (h y)
  refine Kp.lab f (fun x q h=>?_) (fun k q h=>?_) (fun x q h=>?_) (fun k q h=>?_) (Ne.symm hp)
  ·split at h
   ·rename_i e';subst e'
    exact .inr ⟨o,e,nn fun y h=>n (.fz y h),fun h=>n (.tb h),nn fun y h=>n (.ot y h),fun h=>absurd h m⟩
   ·split at h
    ·trivial
    ·exact .inl h
  ·split at h
   ·trivial
   ·exact .inl h
  ·refine⟨fun g=>?_,fun g=>(if_neg (c:=x=a) fun e=>n (.own q (e▸g))).trans ((if_neg fun e=>h (Option.some.inj (g.symm.trans e))).trans g)⟩
   split at g
   ·exact absurd (Option.some.inj g).symm h
   ·split at g
    ·trivial
    ·exact g
  ·refine⟨fun g=>?_,fun g=>(if_neg fun e=>h (Option.some.inj (g.symm.trans e))).trans g⟩
   split at g
   ·trivial
   ·exact g
theorem qP {a} {o} (e:W.hp a=some o):((W.give a p).at p).h a=some o:=cx.mpr ⟨if_pos rfl,e⟩
open Classical in
noncomputable def Wd.drop (W:Wd) p:=W.lab (fun x=>if W.own x=some p then none else W.own x) fun k=>if W.gown k=some p then none else W.gown k
open Classical in
theorem Kp.drop (f:bj c W) (hp:p≠.frame):Kp c W (· =p) (W.drop p):=by
  refine Kp.lab f (fun x q h=>?_) (fun k q h=>?_) (fun x q h=>⟨fun g=>?_,fun g=>?_⟩) (fun k q h=>⟨fun g=>?_,fun g=>?_⟩) (Ne.symm hp)
  any_goals
    split at g<;>first|trivial
  any_goals
    rw[if_neg fun e=>h (Option.some.inj (g.symm.trans e))];exact g
  all_goals
    split at h
    ·trivial
    ·exact .inl h
open Classical in
theorem tP {a} {q} (h:(W.drop p).own a=some q):W.own a=some q∧q≠p:=by
  change (if _ then _ else _)=_ at h
  split at h
  ·trivial
  ·rename_i n
   exact⟨h,fun e=>n (e▸h)⟩
theorem B9 {fz} {h}:jd fz h (fun ζ=>False)=fz:=funext fun a=>lC id
noncomputable def Wd.mem (W:Wd) S':={W with G:=⟨S',W.G.fz⟩}
theorem Kp.mem (f:bj c W) (hk:∀a o,W.hp a=some o→S'.heap.get? a=some o) (hg:S'.gens=W.G.S.gens) (ho:S'.os=W.G.S.os):Kp c W P (W.mem S'):=by
  have k:=Kp.grow (P:=P) f hk hg ho (fun ζ=>False) nofun
  unfold Wd.ext at k
  rw[B9] at k
  exact k
theorem aZ.mem (x:aZ c s b T W) (hk:∀a o,W.hp a=some o→S'.heap.get? a=some o) (hg:S'.gens=W.G.S.gens) (ho:S'.os=W.G.S.os):aZ c s b T (W.mem S'):=(Kp.mem x.fits hk hg ho).simT x
theorem Pt.eq j:∀q,q=Pl.tmp j→Pt j q:=fun ζ e=>e▸.mk j (aC _)
theorem a_.of (h:aZ c s b T W') (e:W'.G.S=S):a_ c b T s S:=e▸⟨W',h⟩
theorem jA.drop {a} (x:jA c W a p) (e1:W.own a=some p):¬bH c (W.drop p) a:=fun h=>by
  induction x with|mk o q1 q2 q3 q4 q5=>
  induction h with
  |own p e=>exact(tP e).2 (Option.some.inj ((tP e).1.symm.trans e1))
  |fz o e=>exact nomatch e.symm.trans q2
  |ot o e=>exact nomatch e.symm.trans q4
  |tb e=>exact q3 e
theorem Kp.freeze (f:bj c W) (hp:p≠.frame) {l} {v} (o:uv c.C W.G.fz W.pi l (W.at p) v):∃W',W'.G.S=W.G.S∧Kp c W (· =p) W'∧cP c.C W'.G.fz W'.pi (.lst l) v:=by
  induction o with|mk a vs h r=>
  induction h with|mk ob e g=>
  have e1:=cx.mp e
  have x:=f.own _ _ e1.1
  have k1:=Kp.drop f hp
  have nz:W.G.fz a=none∧a∉bF c.fl:=by
    induction x with|mk o q1 q2 q3 q4 q5=>exact⟨q2,fun m=>hp (q5 m)⟩
  exact⟨(W.drop p).ext _ (· =a),rfl,k1.trans (Kp.grow k1.fits (fun ζ ζ e=>e) rfl rfl _ fun x' e=>e▸⟨x.drop e1.1,nz.2⟩) f,.lst _ a vs ⟨ob,eh rfl e1.2 nz.1,g⟩ (r.mono (dS _ _ _) fun ζ ζ e=>e)⟩
theorem aZ.freeze {V} {v} (x:aZ c s b (.more V v T) W) (hp:plain (frz V)=true):a_ c b (.more (frz V) v T) s W.G.S:=by
  revert hp
  refine x.tm.1.casesOn (fun V v h ζ=>?_) (fun l v h ζ=>?_) (fun d L e x v h e=>bG e) (fun ks L v h e=>bG e) fun v e=>bG e
  ·have:frz V=V:=by
     rcases V with⟨⟩<;>first|rfl|exact bG h.plain
   exact this.symm▸⟨W,x.pop.push (.rep _ _ h)⟩
  ·obtain⟨W',e,k,r⟩:=Kp.freeze (p:=.tmp T.len) x.fits nofun h
   exact .of (((k.weak (Pt.eq _)).simT x.pop).push (.rep _ _ r)) e
section
variable (x:aZ c s b T W) {l:List V} {k:Nat} (hg:S'.gens=W.G.S.gens) (ho:S'.os=W.G.S.os) (r:aS c.C W.G.fz W.pi l vs)
include x hg ho r
theorem a_.list (hh:S'.heap=W.G.S.heap.push {cls:=.type "list",data:=.seq (List.toArray vs) k}):a_ c b (.more (.own l) (.ref W.G.S.heap.objs.size) T) s S':=by
  have e:S'.heap.get? W.G.S.heap.objs.size=some {cls:=.type "list",data:=.seq (List.toArray vs) k}:=by rw[hh];exact Heap.get?_push_size _ rfl
  have y:=x.mem (fun a o e=>by rw[hh];exact Heap.get?_push_of_some _ e) hg ho
  have fr:=bK W.G.S.heap
  have k:=Kp.give y.fits (p:=.tmp T.len) e (fun h=>by
    induction h with
    |own p e=>exact x.fits.free fr (.own p e)
    |fz o e=>exact x.fits.free fr (.fz o e)
    |ot o e=>exact x.fits.free fr (.ot o e)
    |tb e=>exact x.fits.free fr (.tb e)) (x.fits.fmfree fr) nofun
  exact⟨_,((k.weak (Pt.eq _)).simT y).push (.own _ _ ⟨_,vs,⟨_,qP e,fun h e=>⟨_,_,e,rfl,rfl,rfl⟩⟩,r⟩)⟩
theorem a_.tuple (hh:S'.heap=W.G.S.heap.push {cls:=.type "tuple",data:=.seq (List.toArray vs) k}):a_ c b (.more (.tup l) (.ref W.G.S.heap.objs.size) T) s S':=by
  have e:S'.heap.get? W.G.S.heap.objs.size=some {cls:=.type "tuple",data:=.seq (List.toArray vs) k}:=by rw[hh];exact Heap.get?_push_size _ rfl
  have fr:=bK W.G.S.heap
  have fz:W.G.fz W.G.S.heap.objs.size=none:=by
    induction q:W.G.fz _ with
    |none=>rfl
    |some o=>exact absurd (.fz o q) (x.fits.free fr)
  exact⟨_,(x.grow (fun a o e=>by rw[hh];exact Heap.get?_push_of_some _ e) hg ho (· =W.G.S.heap.objs.size) fun a e=>e▸⟨x.fits.free fr,x.fits.fmfree fr⟩).push (.rep _ _ (.tup _ _ vs ⟨_,eh rfl e fz,fun h e=>⟨_,e,rfl,k,rfl⟩⟩ (r.mono (dS _ _ _) fun ζ ζ e=>e)))⟩
end
end
section
variable {C:Cf} {V:Internal.V} {v:Value} {k:Bool} {n:Nat}
theorem lL {i} (h:j9 V=some i):V=.int i:=by rcases V with⟨⟩<;>first|exact aX h|exact sm h▸rfl
theorem Ka {i} (h:KV V=some i):V=.bool i:=by rcases V with⟨⟩<;>first|exact aX h|exact sm h▸rfl
theorem j8 {i} (h:l7 V=some i):V=.str i:=by rcases V with⟨⟩<;>first|exact aX h|exact sm h▸rfl
theorem Dk (h:GK V=some l):V=.tup l:=by rcases V with⟨⟩<;>first|exact aX h|exact sm h▸rfl
theorem on {q} (h:KU V=some q):V=.rcd q.1 q.2:=by rcases V with⟨⟩<;>first|exact aX h|exact sm h▸rfl
theorem fM {r} (h:uJ V=some r):V=.inst r:=by rcases V with⟨⟩<;>first|exact aX h|exact sm h▸rfl
theorem ip {r} (h:ry V=some r):V=.glob r:=by rcases V with⟨⟩<;>first|exact aX h|exact sm h▸rfl
theorem rA {q} (h:Dm V=some q):V=.dct q.1 q.2:=by rcases V with⟨⟩<;>first|exact aX h|exact sm h▸rfl
theorem qL (h:Fw V=true):V=.none:=by rcases V with⟨⟩<;>first|exact bG h|rfl
inductive Kg (l:List Internal.V):Internal.V→Prop
  |lst:Kg l (.lst l)
  |own:Kg l (.own l)
theorem EP (h:fb V=some l):Kg l V:=by rcases V with⟨⟩<;>first|exact aX h|exact sm h▸.lst|exact sm h▸.own
variable (C) in
inductive Rd (G:Gs) (pi:Pi):Internal.V→Value→Prop
  |rep (V:Internal.V) (v:Value):cP C G.fz pi V v→Rd G pi V v
  |own (l:List Internal.V) (a:Addr) (vs:List Value):PlainL G.S.heap a (List.toArray vs)→aS C G.fz pi l vs→Rd G pi (.own l) (.ref a)
  |dct (ks:List (List Nat)) (l:List Internal.V) (a:Addr) (vs:List Value):G.S.heap.DictOf (strKind C.prog C.w) a ((bU ks).zip vs)→ks.length=vs.length→aS C G.fz pi l vs→(a==sysModules)=false→Rd G pi (.dct ks l) (.ref a)
  |no (V:Internal.V) (v:Value):plain V=false→fb V=none→Dm V=none→Rd G pi V v
variable (C) in
inductive zE (G:Gs) (pi:Pi) (l:List Internal.V) (v:Value):Prop
  |mk (a:Addr) (vs:List Value):v=.ref a→PlainL G.S.heap a (List.toArray vs)→aS C G.fz pi l vs→zE G pi l v
variable (C) in
inductive Kd (G:Gs) (pi:Pi) (l:List Internal.V) (v:Value):Prop
  |mk (a:Addr) (vs:List Value):v=.ref a→G.S.heap.IsTuple a (List.toArray vs)→aS C G.fz pi l vs→Kd G pi l v
theorem At.here {a} {P} {h} (x:At fz a P) (s:∀a o,fz a=some o→h.get? a=some o):P h:=by
  induction x with|mk o e g=>exact g h (s a o e)
theorem tf {b} {R:Prop} (h:b=true) (g:b=false):R:=bG (g.symm.trans h)
theorem Rd.un (h:Rd C G pi V v):plain V=true→cP C G.fz pi V v:=
  h.casesOn (fun ζ ζ r ζ=>r) (fun ζ ζ ζ ζ ζ=>bG) (fun ζ ζ ζ ζ ζ ζ ζ ζ=>bG) fun ζ ζ h ζ ζ g=>tf g h
theorem Rd.int {i} (h:Rd C G pi V v) (e:j9 V=some i):ji i v:=by obtain rfl := lL e;exact(h.un rfl).inv
theorem Rd.bool {i} (h:Rd C G pi V v) (e:KV V=some i):v=.bool i:=by obtain rfl := Ka e;exact(h.un rfl).inv
theorem Rd.str {i} (h:Rd C G pi V v) (e:l7 V=some i):gX i v:=by obtain rfl := j8 e;exact(h.un rfl).inv
theorem Rd.tup (ok:fA C G) (h:Rd C G pi V v) (e:GK V=some l):Kd C G pi l v:=by
  obtain rfl := Dk e
  exact(show xU C _ pi l v from(h.un rfl).inv).casesOn fun a vs h r=>⟨a,vs,rfl,h.here ok.sub,r⟩
theorem Fe (ok:fA C G) (h:cP C G.fz pi (.lst l) v):zE C G pi l v:=
  (show uy C _ pi l v from h.inv).casesOn fun a vs h r=>⟨a,vs,rfl,h.here ok.sub,r⟩
theorem Rd.seq (ok:fA C G) (h:Rd C G pi V v):fb V=some l→zE C G pi l v:=
  h.casesOn (fun V v r e=>(EP e).casesOn (Fe ok) (fun r=>bG r.plain) r) (fun l' a vs p r e=>sm e▸⟨a,vs,rfl,p,r⟩) (fun ζ ζ ζ ζ ζ ζ ζ ζ e=>aX e) fun ζ ζ ζ h ζ e=>aX (h.symm.trans e)
variable (C) in
inductive Ku (G:Gs) (pi:Pi) (ks:List (List Nat)) (l:List Internal.V) (v:Value):Prop
  |mk (a:Addr) (vs:List Value):v=.ref a→G.S.heap.DictOf (strKind C.prog C.w) a ((bU ks).zip vs)→ks.length=vs.length→aS C G.fz pi l vs→(a==sysModules)=false→Ku G pi ks l v
theorem Rd.dict {q} (h:Rd C G pi V v):Dm V=some q→Ku C G pi q.1 q.2 v:=
  h.casesOn (fun V v r e=>bG ((congrArg _ (rA e)).symm.trans r.plain)) (fun ζ ζ ζ ζ ζ e=>aX e) (fun ks l a vs h1 h2 h3 h4 e=>sm e▸⟨a,vs,rfl,h1,h2,h3,h4⟩) fun ζ ζ ζ ζ h e=>aX (h.symm.trans e)
theorem te {h:Heap} {a} {x y:List _} (p:h.IsTuple a x.toArray) (q:h.IsTuple a y.toArray):x=y:=by
  obtain⟨o,e,_,n,d⟩:=p
  obtain⟨o',e',_,n',d'⟩:=q
  cases e.symm.trans e'
  cases d.symm.trans d'
  rfl
theorem vb {h} {a} {x y:List _} (p:PlainL h a x.toArray) (q:PlainL h a y.toArray):x=y:=by
  obtain⟨o,n,e,_,_,d⟩:=p
  obtain⟨o',n',e',_,_,d'⟩:=q
  cases e.symm.trans e'
  cases d.symm.trans d'
  rfl
theorem PlainL.isList {h} {a} {x} (p:PlainL h a x):h.IsList a x:=p.elim fun o p=>p.elim fun n p=>⟨o,p.1,p.2.1,n,p.2.2.2⟩
structure EqE (A:Around) (S:Shared) (v w:Value) (k:Bool):Prop where
  eq:EqAt A S v w k
  same:v=w→k=true
structure uF (A:Around) (S:Shared) (v w:Value) (k:Bool):Prop extends EqE A S v w k where
  rc:RcAt A S v w k
  ne:RcNeAt A S v w (!k)
inductive wi (A:Around) (S:Shared) (vs ws:List Value) (k:Bool):Prop
  |mk (e:Nat→Bool):k=((List.range (min vs.length ws.length)).all e&&vs.length==ws.length)→(∀j v w,vs[j]?=some v→ws[j]?=some w→EqAt A S v w (e j))→(vs=ws→k=true)→wi A S vs ws k
theorem zj {x y} (h:EqE A S v1 v2 x) (i:wi A S vs ws y):wi A S (v1::vs) (v2::ws) (x&&y):=by
  induction i with|mk e h1 h2 h3=>
  refine⟨fun j=>j.casesOn x e,?_,fun j=>j.casesOn (fun v w e1 e2=>sm e1▸sm e2▸h.eq) fun j v w e1 e2=>h2 j v w e1 e2,fun q=>?_⟩
  ·rw[cN,cN,Nat.add_min_add_right,List.range_succ_eq_map,h1]
   simp only[List.all_cons,List.all_map,Bool.and_assoc,show(vs.length+1==ws.length+1)=(vs.length==ws.length) by simp]
   rfl
  ·rw[h.same (List.cons.inj q).1,h3 (List.cons.inj q).2];rfl
theorem xy {eq} (ih:∀a b x v w,eq a b=some x→cP C fz pi a v→cP C fz pi b w→EqE A S v w x) {as} (r1:aS C fz pi as vs):
    ∀{bs ws k},fH eq as bs=some k→aS C fz pi bs ws→wi A S vs ws k:=
  r1.ind (m:=fun as vs=>∀{bs ws k},fH eq as bs=some k→aS C fz pi bs ws→wi A S vs ws k) (fun{bs ws k} h r=>r.ind (m:=fun bs ws=>fH eq [] bs=some k→wi A S [] ws k) (fun h=>sm h▸⟨fun ζ=>true,rfl,fun ζ ζ ζ e=>aX e,fun ζ=>rfl⟩) (fun ζ ζ ζ ζ ζ ζ ζ h=>sm h▸⟨fun ζ=>true,rfl,fun ζ ζ ζ e=>aX e,nofun⟩) h)
    fun a v as vs ra _ ih2 {bs ws k} h r=>r.ind (m:=fun bs ws=>(aS C fz pi bs ws→fH eq (a::as) bs=some k→wi A S _ ws k)) (fun ζ h=>sm h▸⟨fun ζ=>true,rfl,fun ζ ζ ζ ζ e=>aX e,nofun⟩) (fun b w bs ws rb rs ζ ζ h=>aG h fun x e1 h=>aG h fun y e2 h=>sm h▸zj (ih a b x v w e1 ra rb) (ih2 e2 rs)) r h
theorem qk (a b:List _):((⟨a.toArray⟩:Str)==⟨b.toArray⟩)=decide (a=b):=by
  by_cases h:a=b
  ·subst h;simp
  ·rw[decide_eq_false h]
   exact beq_eq_false_iff_ne.mpr fun e=>h (by simpa using congrArg (·.cps.toList) e)
theorem uF.ref {a b} (same:a=b→k=true) (q:RcAt A S (.ref a) (.ref b) k) (q':RcNeAt A S (.ref a) (.ref b) (!k)):uF A S (.ref a) (.ref b) k:=
  ⟨⟨by
    by_cases h:a=b
    ·rw[same h,h];exact EqAt.same _
    ·exact EqAt.of_refs h q,fun e=>same (by injection e)⟩,q,q'⟩
theorem Ga {i j} (h1:ji i v1) (h2:ji j v2):uF A S v1 v2 (decide (i=j)):=by
  induction h1 with|mk t=>induction h2 with|mk u=>
  exact⟨⟨EqAt.int_int _ _ _ _,fun e=>by injection e with e;exact decide_eq_true e⟩,RcAt.int_int _ _ _ _,RcNeAt.int_int _ _ _ _⟩
theorem F_ {i j} (h1:gX i v1) (h2:gX j v2):uF A S v1 v2 (decide (i=j)):=by
  induction h1 with|mk t=>induction h2 with|mk u=>
  rw[←qk]
  exact⟨⟨EqAt.str_str _ _ _ _,fun e=>by injection e with e;rw[e];exact BEq.rfl⟩,RcAt.str_str _ _ _ _,RcNeAt.str_str _ _ _ _⟩
theorem ND {e:Nat→Bool} (h:∀j v w,vs[j]?=some v→ws[j]?=some w→EqAt A S v w (e j)) j h1 (h2:j<(List.toArray ws).size):EqAt A S (List.toArray vs)[j] (List.toArray ws)[j] (e j):=
  h j _ _ (fP h1) (fP h2)
theorem Cx (ok:fA C G):∀(n:Nat) (V1 V2:Internal.V) (k:Bool) (v1 v2:Value) (A:Around),zT n V1 V2=some k→Rd C G pi V1 v1→Rd C G pi V2 v2→A.units+n+1<cLine→uF A G.S v1 v2 k:=
  Nat.rec (fun ζ ζ ζ ζ ζ ζ h=>aX h) fun n ih V1 V2 k v1 v2 A h o1 o2 hu=>by
    have hu1:A.units<cLine:=by omega
    have ih:∀a b x v w,zT n a b=some x→cP C G.fz pi a v→cP C G.fz pi b w→EqE A.in1 G.S v w x:=fun a b x v w h r1 r2=>(ih a b x v w A.in1 h (.rep _ _ r1) (.rep _ _ r2) (by show A.units+1+n+1<cLine;omega)).toEqE
    refine dE h (fun x e1 h=>aG h fun y e2 h=>?_) fun h=>dE h (fun x e1 h=>dE h (fun y e2 h=>?_) fun h=>aG h fun y e2 h=>?_) fun h=>dE h (fun x e1 h=>dE h (fun y e2 h=>?_) fun h=>aG h fun y e2 h=>?_) fun h=>dE h (fun x e1 h=>aG h fun y e2 h=>?_) fun h=>aG h fun x e1 h=>aG h fun y e2 h=>?_
    ·induction o1.seq ok e1 with|mk a vs g p1 r1=>induction o2.seq ok e2 with|mk b ws g' p2 r2=>
     subst g g'
     induction xy ih r1 h r2 with|mk e hk he hs=>
     have same:a=b→k=true:=fun e=>hs (vb p1 (e▸p2))
     by_cases hl:vs.length=ws.length
     ·have hk:k=(List.range vs.length).all e:=by rw[hk,hl,Nat.min_self,BEq.rfl,ml]
      exact .ref same (hk▸RcAt.lists p1.isList p2.isList hl hu1 (ND he)) (hk▸RcNeAt.lists p1.isList p2.isList hl hu1 (ND he))
     ·have hk:k=false:=by rw[hk,beq_false_of_ne hl,k_]
      have hl:=bne_iff_ne.mpr hl
      exact .ref same (hk▸RcAt.lists_lengths p1.isList p2.isList hl hu1) (hk▸RcNeAt.lists_lengths p1.isList p2.isList hl hu1)
    ·induction o1.tup ok e1 with|mk a vs g p1 r1=>induction o2.tup ok e2 with|mk b ws g' p2 r2=>
     subst g g'
     induction xy ih r1 h r2 with|mk e hk he hs=>
     exact .ref (fun e=>hs (te p1 (e▸p2))) (hk▸RcAt.tuples p1 p2 hu1 (ND he)) (hk▸RcNeAt.tuples p1 p2 hu1 (ND he))
    ·induction o1.tup ok e1 with|mk a vs g p1 r1=>induction o2.str e2 with|mk u=>
     subst g
     exact sm h▸⟨⟨EqAt.tuple_str _ _ p1 hu1,nofun⟩,RcAt.tuple_str _ _ p1 hu1,RcNeAt.tuple_str _ _ p1 hu1⟩
    ·exact sm h▸F_ (o1.str e1) (o2.str e2)
    ·induction o2.tup ok e2 with|mk a vs g p1 r1=>induction o1.str e1 with|mk u=>
     subst g
     exact sm h▸⟨⟨EqAt.str_tuple _ _ p1 hu1,nofun⟩,RcAt.str_tuple _ _ p1 hu1,RcNeAt.str_tuple _ _ p1 hu1⟩
    ·exact sm h▸Ga (o1.int e1) (o2.int e2)
    ·cases o1.bool e1;cases o2.bool e2;cases sm h
     exact⟨⟨EqAt.bool_bool _ _,fun e=>by injection e with e;rw[e];exact BEq.rfl⟩,RcAt.bool_bool _ _,RcNeAt.bool_bool _ _⟩
end
section
variable {c:aU} {b:Str→Option Value} {W:Wd} {α:Type} {V:Internal.V} {v:Value} {p:Pl} {n:Nat} {x x':Tr α} {m:d7 β} {R:α→β→St→Shared→Prop}
theorem Rd.of (f:bj c W) (h:gI c.C W.G.fz W.pi (W.at p) V v):Rd c.C W.G W.pi V v:=
  h.casesOn (fun V v r=>.rep V v r)
    (fun l v h=>h.casesOn fun a vs h r=>by induction h with|mk o e g=>exact .own l a vs (g _ (cx.mp e).2) r)
    (fun d l e x v ζ=>.no _ _ rfl rfl rfl)
    (fun ks l v h=>h.casesOn fun a vs h e r=>by
      induction h with|mk o q g=>
      induction f.own _ _ (cx.mp q).1 with|mk _ _ z=>
      exact .dct ks l a vs (g _ (cx.mp q).2) e r (c.H.noSys f.ok z)) fun v=>.no _ _ rfl rfl rfl
theorem aZ.rd (x:aZ c s b (.more V v T) W):Rd c.C W.G W.pi V v:=.of x.fits x.tm.1
structure iu (s s':St):Prop where
  rho:s'.rho=s.rho
  sc:s'.sc=s.sc
  dp:s'.dp=s.dp
  hd:s'.hd=s.hd
  ou:s'.outs=s.outs
  reg:∀k,s'.reg k=s.reg k
theorem aZ.same (x:aZ c s b T W) (h:iu s s'):aZ c s' b T W:={x with
  sc:=h.sc.trans x.sc
  dp:=h.dp.trans x.dp
  hd:=h.hd.trans x.hd
  ou:=h.ou.trans x.ou
  nm:=h.rho▸x.nm
  kn:=h.rho▸x.kn
  rg:=fun r=>h.reg r▸x.rg r}
theorem a_.same (x:a_ c b T s S) (h:iu s s'):a_ c b T s' S:=x.casesOn fun W x=>⟨W,x.same h⟩
theorem ll o:iu s (wK s o):=⟨rfl,rfl,rfl,rfl,rfl,fun ζ=>rfl⟩
theorem IK o:iu s (LS s o):=⟨rfl,rfl,rfl,rfl,rfl,fun ζ=>rfl⟩
theorem a_.pop (x:a_ c b (.more V v T) s S):a_ c b T s S:=x.casesOn fun W x=>⟨W,x.pop⟩
theorem a_.keep (x:aZ c s b T W) (hh:S'.heap=W.G.S.heap) (hg:S'.gens=W.G.S.gens) (ho:S'.os=W.G.S.os):a_ c b T s S':=
  ⟨W.mem S',x.mem (fun a o e=>by rw[hh];exact e) hg ho⟩
theorem aZ.tk (x:aZ c s b T W) (t:Tok):aZ c s b T (W.mem {W.G.S with toks:=t}):=x.mem (fun ζ ζ e=>e) rfl rfl
section
variable {K:St→Shared→Prop} (same:∀{s s' S},K s S→iu s s'→K s' S)
include same
theorem J.needI {o} (h:o=true→J (pm c) (K (wK s (av s.ob o))) (wK s (av s.ob o)) x m R):J (pm c) (K s) s (nT o x) m R:=fun S Q E i a=>
  h (kW.mp (a.ob (x.mo _))).2 S Q E (same i (ll _)) a
theorem J.orcI {f} (h:∀w o,J (pm c) (K (LS s o)) (LS s o) (f w) m R):J (pm c) (K s) s (IU f) m R:=fun S Q E i=>by
  show bZ _ R Q E ((match s.orc with|w::o=>uT _ _ _|[]=>sT _).run s)→_
  induction s.orc with
  |nil=>exact False.elim
  |cons w o=>exact h w o S Q E (same i (IK o))
end
theorem J.need {o} (h:o=true→J (pm c) (a_ c b T (wK s (av s.ob o))) (wK s (av s.ob o)) x m R):J (pm c) (a_ c b T s) s (nT o x) m R:=.needI (K:=a_ c b T) a_.same h
theorem J.wret {a} (h:∀W Q E,aZ c s b T W→(∀v S,R a v s S→Q v S)→m Q E W.G.S):J (pm c) (a_ c b T s) s (rT a) m R:=fun S Q E i k=>i.casesOn fun W x=>h W Q E x k.2
theorem fD (x y:List _):((⟨x.toArray⟩:Str)++⟨y.toArray⟩)=⟨(x++y).toArray⟩:=by
  show Str.mk _=_
  simp
section
variable {op:Operator}
theorem AS {f} (r1:Rd c.C W.G W.pi V1 v1) (r2:Rd c.C W.G W.pi V2 v2) (h:Jl V1 V2 f=some V) (g:∀i j t u,f i j=some V→wpAny c.C.M A (binaryOp op (.int i t) (.int j u)) Q E S):wpAny c.C.M A (binaryOp op v1 v2) Q E S:=
  aG h fun i e1 h=>aG h fun j e2 h=>(r1.int e1).casesOn fun t=>(r2.int e2).casesOn fun u=>g i j t u h
variable (y:aZ c s b T W) (r1:Rd c.C W.G W.pi V1 v1) (r2:Rd c.C W.G W.pi V2 v2) (hs:AC V=true) (k:∀v S,a_ c b (.more V v T) s S→Q v S)
include y r1 r2 hs k
theorem GV (h:yj V1 V2=some V):wpAny c.C.M A (binaryOp .Add v1 v2) Q E W.G.S:=
  aG h fun i e1 h=>aG h fun j e2 h=>(r1.str e1).casesOn fun t=>(r2.str e2).casesOn fun u=>by
    have e:=sm h
    subst e
    refine PyProof.Rows.add_str (fun t' tk=>k _ _ (by rw[fD];exact .plain y rfl rfl rfl (.str _ _))) ?_
    have hs:=ag hs
    rw[aq] at hs
    show i.length+j.length≤sizeLine
    unfold sizeLine;lia
theorem GW (h:L2 V1 V2=some V):wpAny c.C.M A (binaryOp .Add v1 v2) Q E W.G.S:=aG h fun l1 e1 h=>aG h fun l2 e2 h=>by
  have e:=sm h
  subst e
  induction (r1.seq y.fits.ok e1) with|mk a vs e1 p1 w1=>induction (r2.seq y.fits.ok e2) with|mk b ws e2 p2 w2=>
  subst e1 e2
  refine hR fun o O=>?_
  obtain⟨⟨c1,d1,dt1,sl1⟩,n1,g1,hc1,hd1,ht1⟩:=p1
  obtain⟨⟨c2,d2,dt2,sl2⟩,n2,g2,hc2,hd2,ht2⟩:=p2
  subst hc1 hd1 ht1 hc2 hd2 ht2
  refine O ?_
  have hs:=ag hs
  rw[aq,w1.len,w2.len] at hs
  exact concat_meets ⟨_,g1,rfl⟩ ⟨_,g2,rfl⟩ noFill_list_add seq_list_add F.slot_list_add F.entry_list_add (F.args_list_add_2 _ _) (list_addW a b _ _ n1 n2 _ _ _ _ (by show vs.length+ws.length≤sizeLine;unfold sizeLine;lia)) ⟨g1,g2,(k _ _ (.list y (k:=0) rfl rfl (w1.append w2) (by simp)))⟩
theorem Dd (h:De op V1 V2=some V):wpAny c.C.M A (binaryOp op v1 v2) Q E W.G.S:=by
  have pl:∀{S} {i} {t},some (.int i)=some V→S.heap=W.G.S.heap→S.gens=W.G.S.gens→S.os=W.G.S.os→Q (.int i t) S:=fun e h1 h2 h3=>k _ _ (sm e▸.plain y h1 h2 h3 (.int _ _))
  revert h
  refine op.casesOn (fun h=>nv h (fun h=>AS r1 r2 h fun i j t u e=>PyProof.Rows.add_int (pl e rfl rfl rfl)) fun h=>nv h (GV y r1 r2 hs k) (GW y r1 r2 hs k))
    aX aX aX aX (fun h=>AS r1 r2 h fun i j t u e=>bE e fun q e=>PyProof.Rows.mod_int' (Int.ne_of_gt (of_decide_eq_true q)) (pl e rfl rfl rfl)) aX aX aX aX aX aX aX
end
theorem Ct {op}:J (pm c) (a_ c b (.more V2 v2 (.more V1 v1 T)) s) s (nY op V1 V2) (La c A op v1 v2) (PV c b T):=
  .opt fun ζ h=>.need fun hs=>.wret fun W Q E x k=>Dd x.pop.pop x.pop.rd x.rd hs k h
end
section
variable {C:Cf} {V:Internal.V} {v xv:Value} {k:Bool} {n:Nat}
structure Kn (A:Around) (S:Shared) (xv:Value) (vs:List Value) (k:Bool):Prop where
  all:∀y∈vs,EqAt A S y xv true∨EqAt A S y xv false
  yes:k=true→∃y∈vs,EqAt A S y xv true
  no:k=false→∀y∈vs,EqAt A S y xv false
theorem Kn.cons {p q} (g:EqAt A S v xv p) (i:Kn A S xv vs q):Kn A S xv (v::vs) (p||q):=by
  induction p with
  |true=>exact⟨uz.mpr ⟨.inl g,i.all⟩,fun ζ=>⟨v,bA,g⟩,nofun⟩
  |false=>exact⟨uz.mpr ⟨.inr g,i.all⟩,fun e=>(i.yes e).imp fun y h=>⟨aK _ h.1,h.2⟩,fun e=>uz.mpr ⟨g,i.no e⟩⟩
theorem Jm (ok:fA C G) {x} (rx:Rd C G pi x xv) (hu:A.units+101<cLine) (r:aS C G.fz pi l vs):∀{k},nP x l=some k→Kn A G.S xv vs k:=
  r.ind (m:=fun l vs=>∀{k},nP x l=some k→Kn A _ xv vs k) (fun h=>aG h fun ζ ζ h=>sm h▸⟨fun ζ h=>absurd h ft,bG,fun ζ ζ h=>absurd h ft⟩)
    fun V v Vs vs r _ ih {k} h=>aG h fun p e1 h=>aG h fun q e2 h=>sm h▸.cons (Cx ok _ _ _ _ _ _ A e1 (.rep _ _ r) rx (by omega)).eq (ih e2)
open Classical in
theorem Kn.key (i:Kn A S xv vs k):∃e,(∀y∈vs,EqAt A S y xv (e y))∧vs.any e=k:=by
  induction k with
  |false=>exact⟨fun ζ=>false,i.no rfl,by simp⟩
  |true=>
   refine⟨fun y=>decide (EqAt A S y xv true),fun y hy=>?_,?_⟩
   ·show EqAt A S y xv (decide _)
    by_cases q:EqAt A S y xv true
    ·rw[decide_eq_true q];exact q
    ·rw[decide_eq_false q];exact(i.all y hy).resolve_left q
   ·exact(i.yes rfl).elim fun y q=>bX.mpr ⟨y,q.1,decide_eq_true q.2⟩
theorem Au {x y:List _} (h:x≠y):¬((⟨x.toArray⟩:Str)=⟨y.toArray⟩):=fun q=>h (by simpa using q)
theorem pY c (y:List _):decide (c∈(⟨y.toArray⟩:Str).cps.toList)=y.any (Nat.beq c):=by
  rw[Bool.eq_iff_iff,decide_eq_true_iff,bX]
  exact⟨fun h=>⟨c,h,dG c⟩,fun⟨x,h,e⟩=>aj e▸h⟩
theorem s_ x ks:∀ws,ks.length=ws.length→(valueAt ((bU ks).zip ws) ⟨x.toArray⟩).isSome=ks.any fun k=>decide (k=x):=by
  induction ks with
  |nil=>exact fun ζ ζ=>rfl
  |cons k ks ih=>
   intro ws
   induction ws with
   |nil=>exact nofun
   |cons w ws=>
    intro hl
    rw[iM,←ih ws (Nat.succ.inj hl)]
    show(valueAt ((⟨k.toArray⟩,w)::(bU ks).zip ws) _).isSome=_
    unfold valueAt
    by_cases e:k=x
    ·subst e;simp
    ·simp[e,Au e]
theorem vf {x} {c} (h:one x=some c):x=[c]:=by
  rcases x with _|⟨a,_|_⟩<;>first|exact aX h|exact sm h▸rfl
section
variable {op:CmpOp} (ok:fA C G) (r1:Rd C G pi V1 v1) (r2:Rd C G pi V2 v2)
include r1 r2
theorem xH {f} (h:J1 V1 V2 f=some k) (hq:Q (.bool k) S) (g:∀i j t u,Q (.bool (f i j)) S→wpAny C.M A (compareOp op (.int i t) (.int j u)) Q E S):wpAny C.M A (compareOp op v1 v2) Q E S:=
  aG h fun i e1 h=>aG h fun j e2 h=>(r1.int e1).casesOn fun t=>(r2.int e2).casesOn fun u=>g i j t u (sm h▸hq)
theorem Je (h:isV V1 V2=some k) (g:plainIs v1 v2=true→(v1==v2)=k→wpAny C.M A (compareOp op v1 v2) Q E S):wpAny C.M A (compareOp op v1 v2) Q E S:=
  bE h fun e2 h=>by
    obtain rfl := qL e2
    have e:=(r2.un rfl).inv
    subst e
    exact dE h fun q e1 h=>by
      obtain rfl := on e1
      exact(show oF C _ pi _ _ v1 from(r1.un rfl).inv).casesOn (fun a vs o od ζ ζ g=>g rfl (sm h▸rfl)) g
      fun h=>bE h fun e1 h=>by
        obtain rfl := qL e1
        have e:=(r1.un rfl).inv
        subst e
        exact g rfl (sm h▸rfl)
include ok
theorem Jn (h:Nv V1 V2=some k) (hq:∀t,Q (.bool k) {G.S with toks:=t}):wpAny C.M A (compareOp .In v1 v2) Q E G.S:=
  aG h fun x e1 h=>(r1.str e1).casesOn fun t=>dE h (fun d e2 h=>by
    induction r2.dict e2 with|mk a ws e hd hl _ hf=>
    subst e
    refine wpAny_in_of (strKind_is C.prog C.w _ t) hf hd.mapOf ?_
    exact (s_ x _ ws hl)▸sm h▸hq _) fun h=>aG h fun y e2 h=>aG h fun c e3 h=>(r2.str e2).casesOn fun u=>by
    obtain rfl := vf e3
    refine P.in_str ?_
    rw[StrLaws.found_one,pY]
    exact sm h▸hq _
theorem E_ (h:Nv V1 V2=some k) (hq:∀t,Q (.bool (!k)) {G.S with toks:=t}):wpAny C.M A (compareOp .NotIn v1 v2) Q E G.S:=
  aG h fun x e1 h=>(r1.str e1).casesOn fun t=>dE h (fun d e2 h=>by
    induction r2.dict e2 with|mk a ws e hd hl _ hf=>
    subst e
    refine wpAny_notIn_of (strKind_is C.prog C.w _ t) hf hd.mapOf ?_
    rw[s_ x _ ws hl]
    exact sm h▸hq _) fun h=>aG h fun y e2 h=>aG h fun c e3 h=>(r2.str e2).casesOn fun u=>by
    cases vf e3
    refine P.notIn_str ?_
    rw[StrLaws.found_one,pY]
    exact sm h▸hq _
theorem Jo (hu:A.units+200<cLine) (e:fb V2=some l) (h:nP V1 l=some k) (hq:Q (.bool k) G.S):wpAny C.M A (compareOp .In v1 v2) Q E G.S:=by
  induction r2.seq ok e with|mk a vs e p w=>
  subst e
  exact(Jm ok r1 (by lia) w h).key.elim fun e q=>SeqAt.in_listAt e p.isList (fun y hy=>q.1 y (List.mem_toArray.mp hy)) (by rw[List.any_toArray,q.2];exact hq)
theorem CT (hu:A.units+200<cLine) (h:CU op V1 V2=some k) (hq:∀t,Q (.bool k) {G.S with toks:=t}):wpAny C.M A (compareOp op v1 v2) Q E G.S:=by
  have hq':Q (.bool k) G.S:=hq _
  have ne:∀{o} {R},E7 o=some k→(∀j,o=some j→(∀t,Q (.bool (!j)) {G.S with toks:=t})→R)→R:=fun h g=>aG h fun j e h=>g j e (sm h▸hq)
  revert h
  exact op.casesOn (fun h=>(Cx ok 100 _ _ _ _ _ A h r1 r2 (by omega)).rc _ _ _ _ hq') (fun h=>ne h fun j h hq=>(Cx ok 100 _ _ _ _ _ A h r1 r2 (by omega)).ne _ _ _ _ (hq _))
    (fun h=>xH r1 r2 h hq' fun i j t u=>PyProof.Rows.lt_int) aX aX (fun h=>xH r1 r2 h hq' fun i j t u=>PyProof.Rows.ge_int)
    (fun h=>Je r1 r2 h fun e1 e2=>wpAny_is_plain e1 (e2▸hq')) aX
    (fun h=>dE h (fun l e h=>Jo ok r1 r2 (by omega) e h hq') fun h=>Jn ok r1 r2 h hq) fun h=>ne h fun j h hq=>E_ ok r1 r2 h hq
end
end
section
section
variable {C:Cf} {V:Internal.V} {v:Value} {k:Bool}
theorem Dl {q} (h:NE V=some q):V=.meth q.1 q.2:=by rcases V with⟨⟩<;>first|exact aX h|exact sm h▸rfl
theorem r_ {M} {s} {b} {f x} {Q} (h:s.heap.get? b=some (methodObj f x)) (hQ:Q true s):wpAny M A (truthy (.ref b)) Q E s:=by
  refine wpAny_bind (wpAny_bind (wpAny_bind (wpAny_typeOf ⟨_,h,rfl⟩ ?_)))
  rw[show typeLookup (.type "method") (Str.ofString "__bool__")=pure none from by rw[typeLookup_type,builtinLookup_eq_fast];kernel_rfl]
  refine wpAny_pure (wpAny_pure (wpAny_bind (wpAny_bind (wpAny_typeOf ⟨_,h,rfl⟩ ?_))))
  rw[show typeLookup (.type "method") (Str.ofString "__len__")=pure none from by rw[typeLookup_type,builtinLookup_eq_fast];kernel_rfl]
  exact wpAny_pure (wpAny_pure hQ)
theorem sb {M} {s} {K} {x C} {ox} {od} {Q} (X:K.In s.heap) (I:InstAt s.heap x ox C od) (hs:findIn K (.ref C) (Str.ofString "__bool__")=some none) (hl:findIn K (.ref C) (Str.ofString "__len__")=some none)
    (h:Q true s):wpAny M A (truthy (.ref x)) Q E s:=by
  exact wpAny_bind (wpAny_bind (wpAny_bind (I.type.here ((looks_findIn X hs).here (wpAny_pure (wpAny_bind (wpAny_bind (I.type.here ((looks_findIn X hl).here (wpAny_pure h))))))))))
theorem l8.inst {c} {a} {o} {od} {h} (r:l8 C fz c a vs o od) (s:∀a o,fz a=some o→h.get? a=some o):InstAt h a o c od:=⟨s _ _ r.at_,r.cls,r.no,by
  have d:=r.dict
  revert d
  generalize o.dict=dx
  intro d
  induction d with
  |none=>trivial
  |some dx d e=>exact s _ _ e⟩
theorem FD (w:aS C fz pi l vs):(!(List.toArray vs).isEmpty)=!l.isEmpty:=w.ind (m:=fun l vs=>(!(List.toArray vs).isEmpty)=!l.isEmpty) rfl fun ζ ζ ζ ζ ζ ζ ζ=>rfl
theorem Ag (H:All C) (ok:fA C G) (h:mq V=some k) (hl:s8 V=true) (r:Rd C G pi V v) {Q} (hq':∀t,Q k {G.S with toks:=t}):wpAny C.M A (truthy v) Q E G.S:=
  have hq:=hq' _
  nv h (fun h=>by rw[r.bool h];exact wpAny_truthy_bool hq) fun h=>nv h (fun h=>aG h fun l e h=>by
    induction r.seq ok e with|mk a vs e1 p w=>
    subst e1
    unfold s8 at hl
    replace hl:=e▸hl
    have hl:=ag hl
    exact wpAny_truthy_list p.isList (by rw[eE,←w.len];omega) ((FD w)▸(sm h▸hq' _))) fun h=>dE h (fun q e h=>by
    obtain rfl := on e
    exact(show oF C _ pi _ _ v from(r.un rfl).inv).casesOn fun a vs o od ra ζ=>sb (H.frag ok) (ra.inst ok.sub) (H.good _ ra.good).tb (H.good _ ra.good).tl (sm h▸hq' _)) fun h=>dE h (fun q e h=>by
    obtain rfl := Dl e
    exact(show rH _ pi _ _ v from(r.un rfl).inv).casesOn fun a b ζ e=>r_ (ok.sub _ _ e) (sm h▸hq' _)) fun h=>bE h fun e h=>by
    obtain rfl := qL e
    rw[show v=.none from(r.un rfl).inv]
    exact truthy_none (sm h▸hq)
end
variable {c:aU} {b:Str→Option Value} {W:Wd} {α:Type} {V:Internal.V} {v:Value} {n:Nat} {x y:Str} {m:d7 β} {R:α→β→St→Shared→Prop} {p q:Pos} {P:Pl→Prop} {e:Expr} {pl:Pl}
noncomputable def rW (c:aU) (A:Around) (v:Value):d7 Bool:=fun Q E=>wpAny c.C.M A (truthy v) Q E
inductive fN (c:aU) (b:Str→Option Value) (T:Tp) (V:Internal.V) (v:Value) (s:St):Shared→Prop
  |mk (W:Wd):aZ c s b T W→Rd c.C W.G W.pi V v→fN c b T V v s W.G.S
theorem fN.same (h:fN c b T V v s S) (q:iu s s'):fN c b T V v s' S:=h.casesOn fun W x r=>⟨W,x.same q,r⟩
theorem a_.rd (h:a_ c b (.more V v T) s S):fN c b T V v s S:=h.casesOn fun W x=>⟨W,x.pop,x.rd⟩
theorem qh:J (pm c) (fN c b T V v s) s (Ej V) (rW c A v) (PB c b T):=
  have fin:∀{s k},mq V=some k→J _ _ s (nT _ (rT k)) _ _:=fun h=>.needI (K:=fN c b T V v) fN.same fun hl=>fun S Q E i k=>i.casesOn fun W x r=>Ag c.H x.fits.ok h hl r fun t=>k.2 _ _ ⟨rfl,_,x.tk t⟩
  .look (.cnd _ (fun ζ=>.orcI (K:=fN c b T V v) fN.same fun w o=>.opt fun k ζ=>.needI (K:=fN c b T V v) fN.same fun h=>fin (FF h)) fun ζ=>.opt fun k h=>fin h)
theorem wH:J (pm c) (a_ c b (.more V v T) s) s (E3 V) (fun Q ζ S=>Q v S) (PV c b T):=
  .look (.cnd _ (fun ζ=>.orcI (K:=a_ c b _) a_.same fun w o=>.need fun h=>.pure fun S i=>Ij h▸i) fun ζ=>.pure fun S i=>i)
theorem bp {a b}:bx a b=true↔a=b:=by
  unfold bx
  constructor
  ·intro h
   split at h
   ·exact of_decide_eq_true h
   trivial
  ·rintro rfl
   rw[show Nat.beq _ _=true from dG _]
   exact decide_eq_true rfl
theorem jV {a b} (h:a≠b):bx a b=false:=cD.mpr fun q=>h (bp.mp q)
theorem cU {q:Str×α} {l}:lk x (q::l)=match bx q.1 x with|true=>some q.2|false=>lk x l:=rfl
theorem i8 {v:α}:∀{l},lk x (put x v l)=some v:=by
  intro l
  induction l with
  |nil=>show lk x [(x,v)]=_;rw[cU,bp.mpr rfl]
  |cons q l ih=>
   unfold put
   induction h:bx _ x with
   |true=>rw[cU,h]
   |false=>rw[cU,h];exact ih
theorem gQ {v:α} (hn:y≠x) {l}:lk y (put x v l)=lk y l:=by
  induction l with
  |nil=>show lk y [(x,v)]=_;rw[cU,jV fun e=>hn e.symm]
  |cons q l ih=>
   unfold put
   induction h:bx _ x with
   |true=>
    rw[cU,cU,jV fun g=>hn (g.symm.trans (bp.mp h))]
   |false=>rw[cU,cU,ih]
theorem lJ (h:bad x=false):(x==("__debug__"))=false:=by
  rw[beq_eq_false_iff_ne]
  rintro rfl
  trivial
theorem jK (h:bad x=false):(x==("__classdict__"))=false:=by
  rw[beq_eq_false_iff_ne]
  rintro rfl
  trivial
theorem dZ (h:aZ c s b T W) (hb:bad x=false) (e:b x=some v) (hq:Q v W.G.S):wpAny c.C.M A (eval (.Name x p) c.env) Q E W.G.S:=
  wpAny_Name (h.fr.ns.elim fun m hm=>(hm.2 x v e).casesOn (fun q1 q2=>wpAny_loadName_local h.env.kind q1 hm.1 q2 hq) (fun cl q1 q2 q3 ζ=>wpAny_loadName_cell h.env.kind q1 q2 q3 hq) fun cl o q1 q2 q3 ζ=>q1.elim (fun q1=>wpAny_loadName_free h.env.kind q1 q2 q3 hq (jK hb)) fun q1=>wpAny_loadName_cell h.env.kind q1.1 q2 q3 hq) (lJ hb)
theorem dW.of_none pi:dW (fun ζ=>none) pi:=fun ζ ζ h=>aX h
theorem cO.refl f:cO f f:=fun ζ ζ h=>h
theorem pe (h:aZ c s b T W) (hb:bad x=false) (hk:lk x c.sc=some .globalImplicit) (hg:c.C.P.glob x=some V) (hQ:∀v,cP c.C W.G.fz W.pi V v→Q v W.G.S):wpAny c.C.M A (eval (.Name x p) c.env) Q E W.G.S:=by
  induction c.H.gl with|mk mg mb m1 m2 m3=>
  induction m3 x V hg with|mk v hv hr=>
  have hq:=hQ v ((hr _ h.fits.ok.base).mono (.refl _) (.of_none _))
  have n1:=h.env.globals▸All.ns h.fits.ok m1 c.H.glt.1
  exact Calls.Name_function_global h.env.kind (h.env.sc x _ hk) (hv.elim (fun hv=>Calls.loadGlobal_global n1 hv hq) fun hv=>Calls.loadGlobal_builtin n1 hv.1 (h.env.builtins▸All.ns h.fits.ok m2 c.H.glt.2.1) hv.2 hq) (lJ hb)
end
section
variable {c:aU} {b:Str→Option Value} {W:Wd} {α:Type} {V:Internal.V} {v:Value} {n:Nat} {x y:Str} {m:d7 β} {R:α→β→St→Shared→Prop} {p q:Pl} {P:Pl→Prop} {e:Expr}
open Classical in
noncomputable def KB (p q:Pl) o:=if o=some p then some q else if o=some q then none else o
theorem jp (h:p≠q) {o} {z}:KB p q o=some z↔(z=q∧o=some p)∨(z≠p∧z≠q∧o=some z):=by
  unfold KB
  split
  ·rename_i e
   rw[e]
   exact⟨fun g=>.inl ⟨sm g,rfl⟩,fun g=>g.elim (fun g=>g.1▸rfl) fun g=>absurd (sm g.2.2) g.1⟩
  ·rename_i e
   split
   ·rename_i e'
    rw[e']
    exact⟨aX,fun g=>g.elim (fun g=>absurd (sm g.2) h) fun g=>absurd (sm g.2.2) g.2.1⟩
   ·rename_i e'
    exact⟨fun g=>.inr ⟨fun z=>e (z▸g),fun z=>e' (z▸g),g⟩,fun g=>g.elim (fun g=>absurd g.2 e) fun g=>g.2.2⟩
noncomputable def Wd.move (W:Wd) p q:=W.lab (fun a=>KB p q (W.own a)) fun a=>KB p q (W.gown a)
noncomputable def HW (p q:Pl) z:=z=p∨z=q
theorem Kp.move (f:bj c W) (h:p≠q) (hp:p≠.frame) (hq:q≠.frame):Kp c W (HW p q) (W.move p q):=
  have off:∀{o} {z},¬HW p q z→(KB p q o=some z↔o=some z):=fun n=>(jp h).trans ⟨fun g=>g.elim (fun g=>absurd (.inr g.1) n) fun g=>g.2.2,fun g=>.inr ⟨fun e=>n (.inl e),fun e=>n (.inr e),g⟩⟩
  Kp.lab f (fun a z g=>((jp h).mp g).elim (fun g=>.inr ((f.own a _ g.2).casesOn fun o h1 h2 h3 h4 h5=>⟨o,h1,h2,h3,h4,fun m=>absurd (h5 m) hp⟩)) fun g=>.inl g.2.2)
    (fun a z g=>((jp h).mp g).elim (fun g=>.inr (f.gown a _ g.2)) fun g=>.inl g.2.2) (fun a z=>off) (fun a z=>off) fun g=>g.elim (fun e=>hp e.symm) fun e=>hq e.symm
theorem fZ (h:p≠q):(W.move p q).at q=W.at p:=
  have i:∀{o},KB p q o=some q↔o=some p:=(jp h).trans ⟨fun g=>g.elim (fun g=>g.2) fun g=>absurd rfl g.2.1,fun g=>.inl ⟨rfl,g⟩⟩
  gh (fun ζ=>i) (fun ζ=>i) (fun ζ ζ=>rfl) fun ζ ζ=>rfl
noncomputable def Nm y j (z:Pl):=z=.loc y∨z=.tmp j
theorem Kp.put (k:Kp c W (Nm y T.len) W') (x:aZ c s b T W) (hv:V≠.gone→rI c.C W'.G.fz W'.pi (b y) V (W'.at (.loc y))) (hk:nI (lk y c.sc)=true):aZ c (iX s (Internal.put y V s.rho)) b T W' where
  fits:=k.fits
  env:=x.env
  sc:=x.sc
  dp:=x.dp
  hd:=x.hd
  ou:=x.ou
  fr:=k.frm x.fits x.fr
  nm:=fun z U h1 h2=>by
   by_cases e:z=y
   ·subst e
    have e2:=sm (h1.symm.trans i8)
    exact e2▸hv (e2▸h2)
   ·exact k.hasV (fun q=>q.elim (fun q=>e (by injection q)) Pl.noConfusion) Pl.noConfusion (x.nm z U ((gQ e).symm.trans h1) h2)
  kn:=fun z U h1=>by
   by_cases e:z=y
   ·exact e▸hk
   ·exact x.kn z U ((gQ e).symm.trans h1)
  rg:=fun r=>k.slot x.fits (fun q=>q.elim Pl.noConfusion Pl.noConfusion) (fun ζ q=>q.elim Pl.noConfusion Pl.noConfusion) (x.rg r)
  tm:=k.tmps (fun j hj q=>q.elim Pl.noConfusion fun e=>a9 _ (by injection e with e;exact e▸hj)) x.tm
theorem ru {l} (h:xO V=some l):V=.own l:=by rcases V with⟨⟩<;>first|exact aX h|exact sm h▸rfl
theorem uq {q} (h:om V=some q):V=.itr q.1 q.2.1 q.2.2.1 q.2.2.2:=by rcases V with⟨⟩<;>first|exact aX h|exact sm h▸rfl
section
variable {C:Cf} {ρ:eC}
theorem gI.ownL (h:gI C fz pi ρ V v):xO V=some l→uv C fz pi l ρ v:=
  h.casesOn (fun V v r e=>bG ((congrArg _ (ru e)).symm.trans r.plain)) (fun ζ ζ o e=>sm e▸o) (fun ζ ζ ζ ζ ζ ζ=>aX) (fun ζ ζ ζ ζ=>aX) fun ζ=>aX
theorem gI.itrI {q} (h:gI C fz pi ρ V v):om V=some q→Kl C q.1 q.2.2.1 q.2.1 v pi fz ρ:=
  h.casesOn (fun V v r e=>bG ((congrArg _ (uq e)).symm.trans r.plain)) (fun ζ ζ ζ=>aX) (fun ζ ζ ζ ζ ζ o e=>sm e▸o) (fun ζ ζ ζ ζ=>aX) fun ζ=>aX
end
theorem zW (h:Od c.C.P y s=some V) (x:aZ c s b T W) (hq:∀v,cP c.C W.G.fz W.pi V v→Q v W.G.S):wpAny c.C.M A (eval (.Name y pos) c.env) Q E W.G.S:=
  bE h fun hb h=>have hb:=(ao _).mp hb
    dE h (fun U e h=>bE h fun hp h=>by
      have e2:=sm h
      subst e2
      induction x.nm y _ e fun g=>bG ((congrArg _ g).symm.trans hp) with|mk v g o=>exact dZ x hb g (hq v (o.to_rep hp)))
    fun h=>bE h fun hg h=>pe x hb (x.sc▸of_decide_eq_true hg) h hq
theorem sH:J (pm c) (a_ c b T s) s (nq c.C.P y) (mn c A (.Name y pos)) (PV c b T):=
  .look (.cse (fun V h=>.wret fun W Q E x k=>zW h x fun v r=>k v _ ⟨W,x.push (.rep _ _ r)⟩) fun ζ=>.grd fun hb=>have hb:=(ao _).mp hb
    .opt fun V h=>.cse (fun l e=>fun S Q E i k=>i.casesOn fun W x=>
      (x.nm y _ h fun g=>aX ((congrArg xO g).symm.trans e)).casesOn fun v g o=>(Kp.freeze x.fits Pl.noConfusion (o.ownL e)).elim fun W' q=>
        dZ x hb g (k.2 v _ (.of (((q.2.1.weak fun ζ e=>.inl e).put x (fun ζ=>⟨v,g,.rep _ _ q.2.2⟩) (x.kn y _ h)).push (.rep _ _ q.2.2)) q.1)))
    fun ζ=>.opt fun q e=>fun S Q E i k=>i.casesOn fun W x=>
      (x.nm y _ h fun g=>aX ((congrArg om g).symm.trans e)).casesOn fun v g o=>
        dZ x hb g (k.2 v _ (.of (((Kp.move x.fits Pl.noConfusion Pl.noConfusion Pl.noConfusion).put x (fun h=>absurd rfl h) (x.kn y _ h)).push ((fZ (p:=.loc y) (q:=.tmp _) Pl.noConfusion).symm▸o)) rfl)))
end
section
variable {c:aU} {b:Str→Option Value} {W:Wd} {α:Type} {V:Internal.V} {v:Value} {n:Nat} {x y:Str} {m:d7 β} {R:α→β→St→Shared→Prop} {p q:Pl} {P:Pl→Prop} {e:Expr} {r:dN} {X Y:Tr α}
theorem J.pb {k k'} {f:Bool→d7 β} (h:J (pm c) (a_ c b T s) s X (f k) R):J (pm c) (PB c b T k k' s) s X (f k') R:=fun S Q E i=>i.1.symm▸h S Q E i.2
structure Tk (S S':Shared):Prop where
  heap:S'.heap=S.heap
  gens:S'.gens=S.gens
  os:S'.os=S.os
theorem Tk.refl:Tk S S:=⟨rfl,rfl,rfl⟩
theorem a_.res (x:aZ c s b T W) (t:Tk W.G.S S') (r:cP c.C W.G.fz W.pi V v):a_ c b (.more V v T) s S':=.plain x t.heap t.gens t.os r
set_option tactic.hygienic true in
theorem rS {k} {a} {env} (h:ri k=some V) (hq:∀v S',Tk W.G.S S'→cP c.C W.G.fz W.pi V v→Q v S'):wpAny c.C.M A (eval (.Constant k a pos) env) Q E W.G.S:=by
  rcases k with⟨⟩<;>first|exact aX h|(have e:=sm h;subst e)
  ·exact wpAny_Constant_none (hq _ _ .refl .none)
  ·exact wpAny_Constant_bool (hq _ _ .refl (.bool _))
  ·exact wpAny_Constant_int (hq _ _ ⟨rfl,rfl,rfl⟩ (.int _ _))
  ·rename_i y;exact wpAny_Constant_str (hq _ _ ⟨rfl,rfl,rfl⟩ (by have:=cP.str (C:=c.C) (fz:=W.G.fz) (pi:=W.pi) (ys y) W.G.S.toks;trivial))
theorem Cn {k} {a}:ma PP n (.Constant k a pos) (oT (ri k) "const" rT):=fun c b T A s ge=>.opt fun V h=>.wret fun W Q E x k=>rS h fun v S' t r=>k v S' (.res x t r)
theorem F3:ma PP n (.Name y pos) (nq PP y):=fun c b T A s ge=>ge.pt▸sH
noncomputable def Mn (x y:d7 β) (k:Bool):d7 β:=fun Q E S=>if k then x Q E S else y Q E S
noncomputable def nA (v:β):d7 β:=fun Q ζ S=>Q v S
theorem n8 {k} (h:NA e=some k):∃a p,e=.Constant k a p:=by rcases e with⟨⟩<;>first|exact aX h|exact sm h▸⟨_,_,rfl⟩
theorem cR {q} (h:jt e=some q):e=.Name q.1 q.2:=by rcases e with⟨⟩<;>first|exact aX h|exact sm h▸rfl
theorem fK {q} (h:oS e=some q):e=.Attribute q.1 q.2.1 q.2.2:=by rcases e with⟨⟩<;>first|exact aX h|exact sm h▸rfl
theorem Ik {q} (h:unE e=some q):∃p,e=.UnaryOp q.1 q.2 p:=by rcases e with⟨⟩<;>first|exact aX h|exact sm h▸⟨_,rfl⟩
theorem BC {op} (h:KI op=true):op=.USub:=by rcases op with⟨⟩<;>first|exact bG h|rfl
theorem BF {op} (h:BG op=true):op=.Not:=by rcases op with⟨⟩<;>first|exact bG h|rfl
theorem MP {k} {i} (h:cI k=some i):k=.int i:=by rcases k with⟨⟩<;>first|exact aX h|exact sm h▸rfl
theorem dD {R:Prop} {l:List α} {z} (h:fc l=some z) (g:l=[z]→R):R:=by
  rcases l with _|⟨_,_|_⟩<;>first|exact aX h|exact g (sm h▸rfl)
theorem Ad {R:Prop} {l:List α} {z} (h:Eh l=some z) (g:l=[z.1,z.2]→R):R:=by
  rcases l with _|⟨_,_|⟨_,_|_⟩⟩<;>first|exact aX h|exact g (sm h▸rfl)
theorem Ht {z} (h:Ox e=some z):∃p,e=.UnaryOp .USub z p:=aG h fun u e1 g=>(Ik e1).elim fun p e2=>by
  revert g
  intro g
  induction hu:KI _ with
  |false=>rw[hu] at g;exact aX g
  |true=>
   rw[hu] at g
   exact⟨p,by rw[e2,BC hu,sm g]⟩
theorem tU {i} (h:tV e=some i):∃a p,e=.Constant (.int i) a p:=aG h fun k e2 g=>(n8 e2).elim fun a e3=>e3.elim fun p e3=>⟨a,p,by rw[e3,MP g]⟩
theorem mO (h:lg c.C.P e s=some V) (x:aZ c s b T W) (hq:∀v S',Tk W.G.S S'→cP c.C W.G.fz W.pi V v→Q v S'):wpAny c.C.M A (eval e c.env) Q E W.G.S:=
  dE h (fun k e h=>(n8 e).elim fun a e=>e.elim fun p e=>e▸rS h hq) fun h=>dE h (fun q e h=>cR e▸zW h x fun v r=>hq v _ .refl r) fun h=>aG h fun z e1 h1=>aG h1 fun i e2 h2=>
    (Ht e1).elim fun p e3=>(tU e2).elim fun a e4=>e4.elim fun p' e4=>by
      rw[e3,e4]
      exact wpAny_UnaryOp (wpAny_Constant_int (PyProof.Rows.neg_int (hq _ _ ⟨rfl,rfl,rfl⟩ (sm h2▸cP.int _ _))))
section
variable (hev:cr PP n r.ev) (htr:iq PP n r.tr)
include hev
theorem Cp l q op pos:ma PP n (.BinOp l op q pos) ((r.ev l).bind fun a=>(r.ev q).bind fun b=>nY op a b):=fun c b T A s ge=>
  .by (.bind (hev l c b T A s ge) fun ζ v1 s1=>.bind (hev q c b _ A s1 ge) fun ζ v2 s2=>Ct) fun Q E S h=>wpAny_BinOp h
theorem JE op x pos:ma PP n (.UnaryOp op x pos) (gT (KI op) "ev" ((r.ev x).bind LV)):=fun c b T A s ge=>.grd fun h=>by
  obtain rfl := BC h
  exact .by (.bind (hev x c b T A s ge) fun V v s1=>.opt fun i e=>.wret fun W Q E x k=>(x.rd.int e).casesOn fun t=>PyProof.Rows.neg_int (k _ _ (.plain x.pop rfl rfl rfl (.int _ _)))) fun Q E S h=>wpAny_UnaryOp h
include htr
theorem Cm t a e pos:ma PP n (.IfExp t a e pos) ((r.tr t).bind fun k=>cond k (r.ev a) (r.ev e)):=fun c b T A s ge=>
  .by (.bind (f:=Mn (mn c A a) (mn c A e)) (htr t c b T A s ge) fun k k' s1=>.pb (k.casesOn (hev e c b T A s1 ge) (hev a c b T A s1 ge))) fun Q E S h=>wpAny_IfExp h
omit hev
theorem Iu op x pos:Dr PP n (.UnaryOp op x pos) (gT (BG op) "tr" ((r.tr x).bind fun b=>rT (!b))):=fun c b T A s ge=>.grd fun h=>by
  obtain rfl := BF h
  exact .by (.bind (htr x c b T A s ge) fun k k' s1=>.pb (.pure fun S i=>⟨rfl,i⟩)) fun Q E S h=>wpAny_isTrue_Not h
noncomputable def Aa (c:aU) (A:Around) (op:BoolOp) (es:List Expr):d7 Bool:=fun Q E=>wpAny c.C.M A (allTrue op es c.env) Q E
theorem GS op es:∀c b T A s,GE PP n c A→J (pm c) (a_ c b T s) s (GT r op es) (Aa c A op es) (PB c b T):=by
  rcases op with⟨⟩
  ·induction es with
   |nil=>exact fun c b T A s ge=>.by (.pure fun S i=>⟨rfl,i⟩) fun Q E S h=>wpAny_allTrue_And_nil h
   |cons e es ih=>exact fun c b T A s ge=>.by (.bind (f:=Mn _ _) (htr e c b T A s ge) fun k k' s1=>.pb (k.casesOn (.pure fun S i=>⟨rfl,i⟩) (ih c b T A s1 ge))) fun Q E S h=>wpAny_allTrue_And_cons h
  ·induction es with
   |nil=>exact fun c b T A s ge=>.by (.pure fun S i=>⟨rfl,i⟩) fun Q E S h=>wpAny_allTrue_Or_nil h
   |cons e es ih=>exact fun c b T A s ge=>.by (.bind (f:=Mn _ _) (htr e c b T A s ge) fun k k' s1=>.pb (k.casesOn (ih c b T A s1 ge) (.pure fun S i=>⟨rfl,i⟩))) fun Q E S h=>wpAny_allTrue_Or_cons h
theorem yh op es pos:Dr PP n (.BoolOp op es pos) (GT r op es):=fun c b T A s ge=>.by (GS htr op es c b T A s ge) fun Q E S h=>wpAny_isTrue_BoolOp h
end
end
section
variable {c:aU} {b:Str→Option Value} {W:Wd} {α:Type} {V:Internal.V} {v:Value} {n:Nat} {x y:Str} {m:d7 β} {R:α→β→St→Shared→Prop} {p q:Pl} {P:Pl→Prop} {e:Expr} {r:dN} {X Y:Tr α} {a:Str}
theorem gR {C} (H:All C) {s} {a} {o} {od} {cl} {n} (X:C.K.In s.heap) (g:C.good cl) (hn:n∈C.P.flds cl++C.P.regf cl) (I:InstAt s.heap a o cl od)
    (f:eL C o od cl n v) (hQ:Q v {s with toks:=s.toks+1}):wpAny C.M A (getAttr (.ref a) n true) Q E s:=by
  have K:=H.good _ g
  have kf:=K.fld n hn
  have f2:=f.2
  revert kf f2
  induction C.slotIx cl n with
  |none=>exact fun kf f2=>f2.elim fun d g=>get_value X (g.1▸I) K.ga (kf d v g.2) f.1 hQ
  |some i=>exact fun kf f2=>kf.elim fun p k=>get_bind X I K.ga (k.1 od) K.gn (wpAny_call (slot_get X I k.2 (by rw[f2];rfl) (by
     show wpAny _ _ _ _ _ _
     rw[handedOut_of f.1]
     exact wpAny_pure hQ)))
theorem ku {sl} {q} (h:lS sl=some q):sl=.live q.1 q.2:=by rcases sl with⟨⟩<;>first|exact aX h|exact sm h▸rfl
inductive H7 (C:Cf) (W:Wd) (i cl:Nat) (n:Str) (v:Value):Prop
  |mk (a:Addr) (o:Obj) (od:Option Obj):W.pi i=some a→InstAt W.G.S.heap a o cl od→eL C o od cl n v→H7 C W i cl n v
inductive gD (c:aU) (s:St) (b:Str→Option Value) (W:Wd):Expr→Internal.V→Value→Pl→Prop
  |name (x:Str) (p:Pos) (V:Internal.V) (v:Value):bad x=false→lk x s.rho=some V→b x=some v→gI c.C W.G.fz W.pi (W.at (.loc x)) V v→gD c s b W (.Name x p) V v (.loc x)
  |attr (y:Str) (q:Pos) (n:Str) (p:Pos) (i cl:Nat) (l:List (Str×Internal.V)) (V:Internal.V) (v:Value):bad y=false→lk y s.rho=some (.inst i)→s.reg i=.live cl l→lk n l=some V→gI c.C W.G.fz W.pi (W.at (.attr i n)) V v→H7 c.C W i cl n v→gD c s b W (.Attribute (.Name y q) n p) V v (.attr i n)
theorem gD.own {e} (h:gD c s b W e V v p):gI c.C W.G.fz W.pi (W.at p) V v:=h.casesOn (fun ζ ζ ζ ζ ζ ζ ζ o=>o) fun ζ ζ ζ ζ ζ ζ ζ ζ ζ ζ ζ ζ ζ o ζ=>o
theorem wG {o} {R:Prop} (h:pk o=some V) (g:o=some V→V≠.gone→R):R:=
  aG h fun u e h=>bE h fun hg h=>g (by rw[e,sm h]) fun q=>bG (by rw[←sm h,q] at hg;exact hg)
theorem hG {R:Prop} (h:uG x s=some V) (g:bad x=false→lk x s.rho=some V→R):R:=bE h fun hb h=>g ((ao _).mp hb) h
theorem qD {R:Prop} {z} (h:gr e s=some z) (g:∀y q,e=.Name y q→bad y=false→lk y s.rho=some (.inst z.1)→s.reg z.1=.live z.2.1 z.2.2→R):R:=
  aG h fun q e1 h=>aG h fun u e2 h=>aG h fun i e3 h=>aG h fun w e4 h=>hG e2 fun hb e5=>by
    have e:=sm h
    subst e
    exact g _ _ (cR e1) hb (fM e3▸e5) (ku e4)
theorem fW (h:eP e s=some V) (x:aZ c s b T W) (hq:∀v p W',Tk W.G.S W'.G.S→aZ c s b T W'→gD c s b W' e V v p→Q v W'.G.S):wpAny c.C.M A (eval e c.env) Q E W.G.S:=
  dE h (fun q e1 h=>wG h fun h1 h2=>hG h1 fun hb h1=>(x.nm _ V h1 h2).casesOn fun v g o=>by
    have e:=cR e1
    subst e
    exact dZ x hb g (hq v _ W .refl x (.name _ _ _ _ hb h1 g o)))
  fun h=>aG h fun q e1 h=>aG h fun z e2 h=>wG h fun h1 h2=>qD e2 fun y p e3 hb e4 e5=>by
    have R:=x.rg z.1
    have R:=e5▸R
    have e:=fK e1
    rw[e3] at e
    subst e
    induction R.is with|mk ad o od f g1 g2 g3 g4 g5 g6 g7=>
    have:=(x.nm y _ e4 fun q=>Internal.V.noConfusion q)
    induction this with|mk v g ow=>
    refine ((ow.to_rep rfl).inv).casesOn (fun a ea g=>?_) g
    have ea:=Option.some.inj (g1.symm.trans ea)
    subst ea
    exact Attribute_any_ (dZ x hb g (gR c.H (c.H.frag x.fits.ok) R.good (R.flds _ V h1) g3 (g5 _ V h1).1 (hq _ _ (W.mem _) ⟨rfl,rfl,rfl⟩ (x.tk _) (.attr _ _ _ _ _ _ _ _ _ hb e4 e5 h1 (g5 _ V h1).2 ⟨ad,o,od,g1,g3,(g5 _ V h1).1⟩))))
end
section
variable {c:aU} {b:Str→Option Value} {W:Wd} {α:Type} {V:Internal.V} {v:Value} {n:Nat} {x y:Str} {m:d7 β} {R:α→β→St→Shared→Prop} {p q:Pl} {P:Pl→Prop} {e:Expr} {r:dN} {X Y:Tr α} {a:Str}
theorem gD.rd {e} (f:bj c W) (h:gD c s b W e V v p):Rd c.C W.G W.pi V v:=.of f h.own
theorem mX (hev:cr PP n r.ev) e (he:∀env whole,PySem.isTrue e env whole=(do let v←whole;standAt e.pos;holding [v] (truthy v))):Dr PP n e (He r e):=fun c b T A s ge=>
  .by (.look (.cse (fun V h=>fun S Q E i k=>i.casesOn fun W x=>fW h x fun v p W' t x' pk=>qh _ Q E ⟨W',x',pk.rd x'.fits⟩ k)
    fun ζ=>.bind (hev e c b T A s ge) fun V v s1=>qh.pre fun S i=>i.rd)) fun Q E S h=>wpAny_isTrue_value h (he _ _)
theorem zm {x} {d} (hx:jt e=some x) (h:(uG x.1 s).bind Dm=some d) (z:aZ c s b T W) (hq:∀v,Rd c.C W.G W.pi (.dct d.1 d.2) v→Q v W.G.S):wpAny c.C.M A (eval e c.env) Q E W.G.S:=
  aG h fun V e1 e2=>hG e1 fun hb e1=>by
    have e3:=rA e2
    subst e3
    have e4:=cR hx
    subst e4
    exact(z.nm _ _ e1 fun q=>Internal.V.noConfusion q).casesOn fun v g o=>dZ z hb g (hq v (.of z.fits o))
theorem JG (hev:cr PP n r.ev) (ge:GE PP n c A):J (pm c) (a_ c b T s) s (JH r e) (mn c A e) fun V v s=>fN c b T V v s:=
  .grd fun ζ=>.look (.cse (fun d h=>aG h fun x e1 h=>fun S Q E i k=>i.casesOn fun W z=>zm e1 h z fun v r=>k.2 v _ ⟨W,z,r⟩) fun ζ=>(hev e c b T A s ge).post fun V v s S i=>i.rd)
theorem GE.room (ge:GE PP n c A):A.units+200<cLine:=by have:=ge.un;unfold cLine;lia
inductive Rd2 (c:aU) (b:Str→Option Value) (T:Tp) (V1:Internal.V) (v1:Value) (V2:Internal.V) (v2:Value) (s:St):Shared→Prop
  |mk (W:Wd):aZ c s b T W→Rd c.C W.G W.pi V1 v1→Rd c.C W.G W.pi V2 v2→Rd2 c b T V1 v1 V2 v2 s W.G.S
noncomputable def z9 (c:aU) (A:Around) (op:CmpOp) (v1 v2:Value):d7 Value:=fun Q E=>wpAny c.C.M A (compareOp op v1 v2) Q E
noncomputable def PK c b T k (v:Value) s S:=v=.bool k∧a_ c b T s S
theorem Cr (ge:GE PP n c A) {op}:J (pm c) (Rd2 c b T V1 v1 V2 v2 s) s (jJ op V1 V2) (z9 c A op v1 v2) (PK c b T):=
  .opt fun k h=>fun S Q E i a=>i.casesOn fun W x r1 r2=>CT x.fits.ok r1 r2 ge.room h fun t=>a.2 _ _ ⟨rfl,_,x.tk t⟩
theorem FM {q} {op} (h:fF q=true):behindInMarks op q=false:=by
  rcases q with⟨⟩<;>first|rfl|exact bG h
noncomputable def NL (c:aU) (A:Around) (l q:Expr) (op:CmpOp) (f:Value→d7 β):d7 β:=(mn c A l).bind fun v1=>(mn c A q).bind fun v2=>(z9 c A op v1 v2).bind f
theorem CV (hev:cr PP n r.ev) (ge:GE PP n c A) {l q} {op} {g} {f} (h:∀k v s,J (pm c) (PK c b T k v s) s (g k) (f v) R):J (pm c) (a_ c b T s) s ((r.ev l).bind fun a=>(JH r q).bind fun b=>(jJ op a b).bind g) (NL c A l q op f) R:=
  .bind (hev l c b T A s ge) fun V1 v1 s1=>.bind (JG hev ge) fun V2 v2 s2=>.bind ((Cr ge).pre fun S i=>i.casesOn fun W x r=>⟨W,x.pop,x.rd,r⟩) h
section
variable (hev:cr PP n r.ev)
include hev
theorem JF l ops qs pos:ma PP n (.Compare l ops qs pos) (oT (fc ops) "cmp" fun op=>oT (fc qs) "cmp" fun q=>gT (fF q) "set" ((r.ev l).bind fun a=>(JH r q).bind fun b=>(jJ op a b).bind fun c=>rT (.bool c))):=fun c b T A s ge=>
  .opt fun op h1=>.opt fun q h2=>.grd fun h3=>dD h1 fun e1=>dD h2 fun e2=>by
    subst e1 e2
    exact .by (CV hev ge fun k v s3 S Q E i a=>i.2.casesOn (fun W x a=>a.2 v _ (i.1▸⟨W,x.push (.rep _ _ (.bool k))⟩)) a) fun Q E S h=>wpAny_Compare1 h (FM h3)
omit hev in
theorem PK.rd {k} (i:PK c b T k v s S):fN c b T (.bool k) v s S:=i.2.casesOn fun W x=>⟨W,x,i.1▸.rep _ _ (.bool k)⟩
theorem Ix l ops qs pos:Dr PP n (.Compare l ops qs pos) (oT (fc ops) "cmp" fun op=>oT (fc qs) "cmp" fun q=>gT (fF q) "set" ((r.ev l).bind fun a=>(JH r q).bind fun b=>(jJ op a b).bind fun c=>Ej (.bool c))):=fun c b T A s ge=>
  .opt fun op h1=>.opt fun q h2=>.grd fun h3=>dD h1 fun e1=>dD h2 fun e2=>by
    subst e1 e2
    exact .by (CV hev ge fun k v s3=>qh.pre fun S i=>i.rd) fun Q E S h=>wpAny_isTrue_Compare1 h (FM h3)
theorem zf op es pos:ma PP n (.BoolOp op es pos) (oT (Eh es) "boolop" fun q=>(r.ev q.1).bind fun v=>Cs op v (r.ev q.2)):=fun c b T A s ge=>
  .opt fun q h=>Ad h fun e=>by
    subst e
    refine .by (m:=(mn c A _).bind fun v=>(rW c A v).bind fun t=>Mn (nA v) (mn c A q.2) (sx op t)) (.bind (hev _ c b T A s ge) fun V v s1=>.bind (fun S Q E i a=>i.casesOn fun W x=>qh _ Q E ⟨W,x,x.rd⟩ a) fun t t' s2=>.pb (f:=fun t=>Mn _ _ _) ?_) fun Q E S h=>?_
    ·induction sx op t with
     |true=>exact .pure fun S i=>i
     |false=>exact(hev _ c b T A s2 ge).pre fun S i=>i.pop
    ·refine wpAny_bind (wpAny_mono h (fun v S h=>wpAny_bind (wpAny_standAt (wpAny_bind (wpAny_holding (wpAny_mono h (fun t S h=>?_) fun ζ ζ h=>h))))) fun ζ ζ h=>h)
     cases op<;>cases t<;>first|exact wpAny_pure h|exact h
end
end
section
variable {c:aU} {b:Str→Option Value} {W:Wd} {α:Type} {V:Internal.V} {v:Value} {n:Nat} {x y:Str} {m:d7 β} {R:α→β→St→Shared→Prop} {p q:Pl} {P:Pl→Prop} {e:Expr} {r:dN} {X Y:Tr α} {a:Str}
theorem dI (h:hZ e=true) pos es env:backTo pos (starEach (e::es) env)=(false,eval e env)::backTo pos (starEach es env):=by
  rcases e with⟨⟩<;>first|rfl|exact bG h
theorem a_.freeze (h:a_ c b (.more V v T) s S):a_ c b (.more (frz V) v T) s S:=by
  induction hp:Internal.plain _ with
  |true=>exact h.casesOn fun W x=>x.freeze hp
  |false=>
   have:frz V=V:=by rcases V with⟨⟩<;>first|rfl|trivial
   rw[this];exact h
noncomputable def bI:List Internal.V→List Value→Tp→Tp
  |V::Vs,v::vs,T=>bI Vs vs (.more V v T)
  |_,_,T=>T
noncomputable def NH c b T Vs vs s S:=Vs.length=vs.length∧a_ c b (bI Vs vs T) s S
inductive gW (c:aU) (b:Str→Option Value) (T:Tp) (Vs:List Internal.V) (vs:List Value) (s:St):Shared→Prop
  |mk (W:Wd):aZ c s b T W→aS c.C W.G.fz W.pi Vs vs→gW c b T Vs vs s W.G.S
theorem sM:∀{Vs} {vs} {T},Vs.length=vs.length→Vs.all plain=true→aZ c s b (bI Vs vs T) W→aZ c s b T W∧aS c.C W.G.fz W.pi Vs vs:=by
  intro Vs
  induction Vs with
  |nil=>intro vs T e _ h;induction vs with
   |nil=>exact⟨h,.nil⟩
   |cons=>trivial
  |cons V Vs ih=>intro vs T e hp h;induction vs with
   |nil=>trivial
   |cons v vs=>
    have:=ih (Nat.succ.inj e) (aa.mp hp).2 h
    exact⟨this.1.pop,.cons _ _ _ _ (this.1.tm.1.to_rep (aa.mp hp).1) this.2⟩
theorem NH.vals (h:NH c b T Vs vs s S) (hp:Vs.all plain=true):gW c b T Vs vs s S:=h.2.casesOn fun W x=>⟨W,(sM h.1 hp x).1,(sM h.1 hp x).2⟩
noncomputable def oW (c:aU) (A:Around) (pos:Pos) (es:List Expr):d7 (List Value):=fun Q E=>wpAny c.C.M A (spliced (backTo pos (starEach es c.env))) Q E
theorem Gn (hn:hZ e=true) {es} {Q} (h:wpAny c.C.M A (spliced ((false,eval e c.env)::backTo pos (starEach es c.env))) Q E S):oW c A pos (e::es) Q E S:=by
  show wpAny _ A _ Q E S
  rw[dI hn];exact h
theorem qZ (hev:cr PP n r.ev) (ge:GE PP n c A) {f} (hf:∀{V v T s S},a_ c b (.more V v T) s S→a_ c b (.more (f V) v T) s S) es:∀{T s},J (pm c) (a_ c b T s) s (q9 r f es) (oW c A pos es) (NH c b T):=by
  induction es with
  |nil=>exact fun{T s}=>.by (.pure fun S i=>⟨rfl,i⟩) fun Q E S h=>Calls.spliced_nil h
  |cons e es ih=>exact fun{T s}=>.grd fun hn=>.by (.bind (f:=fun v=>(oW c A _ es).bind fun vs=>nA (v::vs)) (hev e c b T A s ge) fun V v s1=>.bind (ih.pre fun S i=>hf i) fun Vs vs s2=>.pure fun S i=>⟨congrArg _ i.1,i.2⟩) fun Q E S h=>Gn hn (Calls.spliced_cons h)
theorem nX (hev:cr PP n r.ev) (ge:GE PP n c A) es:J (pm c) (a_ c b T s) s (uH r es) (oW c A pos es) (gW c b T):=
  .by (.bind (qZ hev ge a_.freeze es) fun Vs vs s=>.grd fun hp=>.pure fun S i=>i.vals hp) fun Q E S h=>h
theorem aS.small (h:Nat.ble Vs.length 1000=true) {C} {fz} {pi} (w:aS C fz pi Vs vs):vs.length≤sizeLine:=w.len▸ac (ag h) (by decide)
noncomputable def mkC (cls:String) (vs:List Value):d7 Value:=fun Q ζ S=>vs.length≤sizeLine∧Q (.ref S.heap.objs.size) {S with heap:=S.heap.push {cls:=.type cls,data:=.seq vs.toArray}}
section
variable (hev:cr PP n r.ev)
include hev
omit hev in
theorem J.mkC cls {vs} {R} (h:Nat.ble Vs.length 1000=true) (g:∀W,aZ c s b T W→aS c.C W.G.fz W.pi Vs vs→R V (.ref W.G.S.heap.objs.size) s {W.G.S with heap:=W.G.S.heap.push {cls:=.type cls,data:=.seq vs.toArray}}):J (pm c) (gW c b T Vs vs s) s (rT V) (mkC cls vs) R:=
  fun S Q E i k=>i.casesOn fun W x w=>⟨w.small h,k.2 _ _ (g W x w)⟩
theorem Cl es k pos:ma PP n (.Tuple es k pos) ((uH r es).bind fun vs=>gT (Nat.ble vs.length 1000) "long" (rT (.tup vs))):=fun c b T A s ge=>
  .by (.bind (nX hev ge es) fun Vs vs s1=>.grd fun h=>.mkC _ h fun W x w=>.tuple x rfl rfl w rfl) fun Q E S h=>wpAny_Tuple h
theorem F4 es pos:ma PP n (.List es pos) ((uH r es).bind fun vs=>gT (Nat.ble vs.length 1000) "long" (rT (.own vs))):=fun c b T A s ge=>
  .by (.bind (nX hev ge es) fun Vs vs s1=>.grd fun h=>.mkC _ h fun W x w=>.list x rfl rfl w rfl) fun Q E S h=>wpAny_List h
end
section
variable {C:Cf} {o:Obj}
inductive DL (C:Cf) (fz:Fz) (pi:Pi) (o:Obj) (od:Option Obj) (c:Nat) (a:Str) (ns:List Str) (V:Internal.V):Prop
  |mk (v:Value):a∈ns→eL C o od c a v→cP C fz pi V v→DL C fz pi o od c a ns V
theorem vB {n} {ns} {v} {vs}:idxOf x (n::ns) (v::vs)=match bx n x with|true=>some v|false=>idxOf x ns vs:=rfl
theorem pZ {ns} (f:g9 C o od cl ns vs):∀{l},idxOf a ns l=some V→aS C fz pi l vs→DL C fz pi o od cl a ns V:=by
  induction f with
  |nil=>exact fun h ζ=>aX h
  |cons n ns v vs f _ ih=>
   intro l h r
   cases r with|cons W _ l _ r rs=>
   rw[vB] at h
   induction q:bx n a with
   |true=>
    rw[q] at h
    exact⟨v,bp.mp q▸bA,bp.mp q▸f,sm h▸r⟩
   |false=>
    rw[q] at h
    exact(ih h rs).casesOn fun v h1 h2 h3=>⟨v,aK _ h1,h2,h3⟩
end
noncomputable def pj (c:aU) (A:Around) (a:Str) (v:Value):d7 Value:=fun Q E=>wpAny c.C.M A (getAttr v a true) Q E
theorem mD {i} {l} {cl} {R:Value→Prop} (x:aZ c s b T W) (h:lS (s.reg i)=some (cl,l)) (r:cP c.C W.G.fz W.pi (.inst i) v) (g:∀ad o od (f:Str→Value),W.pi i=some ad→InstAt W.G.S.heap ad o cl od→c.C.good cl→(∀n V,lk n l=some V→n∈c.C.P.flds cl++c.C.P.regf cl∧eL c.C o od cl n (f n)∧gI c.C W.G.fz W.pi (W.at (.attr i n)) V (f n))→
    (∀n,lk n l=none→c.C.slotIx cl n=none→rF n od)→R (.ref ad)):R v:=by
  have R:=x.rg i
  have R:=(ku h)▸R
  induction r.inv with|mk a ea=>
  induction R.is with|mk ad o od f h1 h2 h3 h4 h5 h6 h7=>
  cases ea.symm.trans h1
  exact g a o od f h1 h3 R.good (fun n V e=>⟨R.flds n V e,h5 n V e⟩) fun n e1 e2=>by
    induction od with
    |none=>exact .none
    |some d=>exact .some d ((h6 d rfl).2 n e1 e2)
theorem zw:J (pm c) (a_ c b (.more V v T) s) s (v6 c.C.P V a) (pj c A a v) (PV c b T):=
  .cse (fun q e=>.opt fun V' h=>.wret fun W Q E x k=>by
    have r:=x.rd
    obtain rfl := on e
    have r:=(r.un rfl).inv
    exact r.casesOn fun ad vs o od ra rs=>(pZ ra.flds h rs).casesOn fun v' hm f r=>gR c.H (c.H.frag x.fits.ok) ra.good (jh _ hm) (ra.inst x.fits.ok.sub) f (k _ _ (.res x.pop ⟨rfl,rfl,rfl⟩ r)))
  fun ζ=>.opt fun i e=>.look (.opt fun q hq=>.cse (fun V' h=>.grd fun hp=>.wret fun W Q E x k=>by
      have r:=x.rd
      cases fM e
      exact mD (R:=fun v=>pj c A a v Q E W.G.S) x hq (r.un rfl) fun ad o od f h1 h2 hg h3 h4=>gR c.H (c.H.frag x.fits.ok) hg (h3 _ _ h).1 h2 (h3 _ _ h).2.1 (k _ _ (.res x.pop ⟨rfl,rfl,rfl⟩ ((h3 _ _ h).2.2.to_rep hp))))
    fun hl=>.opt fun V' hm=>.wret fun W Q E x k=>by
      have r:=x.rd
      cases fM e
      have X:=c.H.frag x.fits.ok
      refine mD (R:=fun v=>pj c A a v Q E W.G.S) x hq (r.un rfl) fun ad o od f h1 h2 hg h3 h4=>?_
      have M:=c.H.meth q.1 a _ hg hm
      refine M.2.casesOn (fun f hf ζ ζ ζ hM k=>?_) (fun V' v' hn hh hM hr k=>?_) k
      ·refine get_bind X h2 (c.H.good _ hg).ga (hM od (h4 a hl M.1)) (c.H.good _ hg).gn (wpAny_call (fn_get X hf ?_))
       have fr:=bK W.G.S.heap
       have fz:W.G.fz W.G.S.heap.objs.size=none:=by
         induction q:W.G.fz W.G.S.heap.objs.size with
         |none=>rfl
         |some o=>exact absurd (.fz o q) (x.fits.free fr)
       exact wpAny_pure (k _ _ ⟨_,(x.pop.grow (S':={W.G.S with toks:=W.G.S.toks+1,heap:=W.G.S.heap.push (methodObj (.ref f) (.ref ad))}) (fun a o e=>Heap.get?_push_of_some _ e) rfl rfl (· =W.G.S.heap.objs.size) fun a e=>e▸⟨x.fits.free fr,x.fits.fmfree fr⟩).push (.rep _ _ (.meth f i ad _ h1 (eh rfl (Heap.get?_push_size _ rfl) fz)))⟩)
      ·rw[(show wJ i V'=V' from by unfold wJ oC;rw[hn])] at k
       exact get_value X h2 (c.H.good _ hg).ga (hM od (h4 a hl M.1)) hh (k _ _ (.res x.pop ⟨rfl,rfl,rfl⟩ ((hr _ x.fits.ok.base).mono (.refl _) (.of_none _)))))
set_option tactic.hygienic true in
theorem xL {o} (h:il o=true) a env w:attributeBase o a env w=w:=by
  rcases o with⟨⟩<;>first
    |rfl
    |skip
  rename_i f args zS p
  rcases f with⟨⟩<;>first
    |rfl
    |skip
  rcases args with⟨⟩<;>first
    |rfl
    |skip
  rcases zS with⟨⟩<;>first
    |rfl
    |exact bG h
theorem F7 (hev:cr PP n r.ev) o a pos:ma PP n (.Attribute o a pos) (gT (il o) "base" ((r.ev o).bind fun v=>v6 PP v a)):=fun c b T A s ge=>
  .grd fun h=>.by (.bind (f:=pj c A a) (hev o c b T A s ge) fun V v s1=>ge.pt▸zw) fun Q E S h'=>Attribute_any_ h' (by
    show(attributeBase o a _ _>>=_)=_
    rw[xL h])
end
section
variable {c:aU} {b:Str→Option Value} {W:Wd} {α:Type} {V K:Internal.V} {v:Value} {n:Nat} {x y:Str} {m:d7 β} {R:α→β→St→Shared→Prop} {p q:Pl} {P:Pl→Prop} {e:Expr} {r:dN} {X Y:Tr α} {a:Str} {k:Int}
theorem GE.in1 (g:GE PP (n+1) c A):GE PP n c A.in1:={g with un:=by have:=g.un;lia,dep:=g.dep}
theorem GE.less (g:GE PP (n+1) c A):GE PP n c A:={g with un:=by have:=g.un;omega}
inductive bO (c:aU) (b:Str→Option Value) (T:Tp) (f:Internal.V) (fv:Value) (args:List Internal.V) (vals:List Value) (kw:List (Str×Internal.V)) (kvals:List Value) (s:St):Shared→Prop
  |mk (W:Wd):aZ c s b (bI args vals T) W→cP c.C W.G.fz W.pi f fv→aS c.C W.G.fz W.pi (kw.map (·.2)) kvals→args.length=vals.length→bO c b T f fv args vals kw kvals s W.G.S
noncomputable def fB (c:aU) (A:Around) (fv:Value) (vals:List Value) (kw:List (Str×Internal.V)) (kvals:List Value):d7 Value:=fun Q E=>wpAny c.C.M A (PySem.call fv vals ((kw.map (·.1)).zip kvals)) Q E
noncomputable def iG (C:Cf) fv S:=∀A E Q,(∀k,Q k S)→wpAny C.M A (keeperOf fv) Q E S
noncomputable def Ig (c:aU) (A:Around) (fv:Value) (vals:List Value) (kw:List (Str×Internal.V)) (kvals:List Value):d7 Value:=fun Q E S=>iG c.C fv S∧fB c A fv vals kw kvals Q E S
noncomputable def fU PP n (call:Internal.V→List _→List _→Tr _):=∀f args kw c b T A s fv vals kvals,GE PP n c A→J (pm c) (bO c b T f fv args vals kw kvals s) s (call f args kw) (Ig c A fv vals kw kvals) (PV c b T)
noncomputable def iD (h:Heap) (P:Addr→Bool):Heap:={h with objs:=h.objs.mapIdx fun i o=>if P i then{o with data:=.freed} else o}
theorem vk h P:(iD h P).objs.size=h.objs.size:=by simp[iD]
theorem ly h P a:(iD h P).get? a=if P a then none else h.get? a:=by
  unfold iD Heap.get?
  simp only[Array.getElem?_mapIdx]
  induction q:h.objs[a]? with
  |none=>simp
  |some o=>cases hp:P a<;>simp[hp]
inductive FrK (c:aU) (h:Heap):Prop
  |mk (m:Str→Option Value):Fr (iD c.C.h₀ (Nat.beq c.C.tb)) c.env.locals h m→c.C.K.In (iD c.C.h₀ (Nat.beq c.C.tb))→FrK c h
theorem aZ.frk (x:aZ c s b T W):FrK c W.G.S.heap:=x.fr.ns.elim fun m hm=>by
  refine⟨m,⟨hm.1,fun b o e=>?_,by rw[vk];exact x.env.frn⟩,fun a o e=>?_⟩
  ·rw[ly] at e
   split at e
   ·trivial
   ·rename_i g
    exact x.fits.ok.sub _ _ (x.fits.ok.base _ _ (by rintro rfl;exact g (dG _)) e)
  ·rw[ly,(fun b n=>cD.mpr fun q=>n (aj q).symm) a (c.H.kin a o e).1]
   exact(c.H.kin a o e).2
set_option tactic.hygienic true in
theorem gK {C:Cf} {s:Shared} {value slice:Expr} {o i:Value} {T id:String} (hT:s.TypeIs o T)
    (hl:typeLookup (.type T) (Str.ofString "__getitem__")=pure (some (.builtin id))) (h:wpAny C.M A (getItem o i) Q E s):wpAny C.M A (subscriptTail value slice o i) Q E s:=by
  unfold subscriptTail
  refine wpAny_bind ?_
  rw[getitemInPython_of_ne hT.not_modules]
  refine wpAny_bind (wpAny_specialOf hT hl ?_)
  have op:∃l,subscripted slice false o i=operate l (getItem o i):=by
    rcases slice with⟨⟩<;>first|exact⟨_,rfl⟩|(rename_i st _;cases st<;>exact⟨_,rfl⟩)
  obtain⟨l,op⟩:=op
  have fin:wpAny C.M A (subscripted slice false o i) (fun r s₃=>wpAny C.M A (letTemporaryGo value o r>>=fun ζ=>pure r) Q E s₃) E s:=by
    rw[op]
    exact wpAny_operating (wpAny_mono h (fun ζ ζ h₃=>wpAny_bind (wpAny_letTemporaryGo (wpAny_pure h₃))) fun ζ ζ h=>h)
  first
    |exact wpAny_pure (wpAny_bind fin)
    |exact wpAny_bind (wpAny_pure (wpAny_bind fin))
    |exact wpAny_bind fin
structure H4 (k:Int) (n:Nat):Prop where
  ix:seqIndex? k n=some (rO k n)
  lt:rO k n<n
  lo:-(n:Int)≤k
  hi:k<n
theorem FH {n} (h:pS k n=true):H4 k n:=by
  simp only[pS,aI,decide_eq_true_eq] at h
  refine⟨?_,(by unfold rO;split<;>omega),h.1,h.2⟩
  unfold seqIndex? rO
  by_cases hk:k<0
  ·rw[if_pos hk,if_pos (by simp;omega)]
  ·rw[if_neg hk,if_pos (by simp;omega)]
structure Nf (k:Int) (n:Nat):Prop extends H4 k n where
  sz:n≤1000000
theorem CI {n} (h:Nz k n=true):Nf k n:=⟨FH (aa.mp h).1,ag (aa.mp h).2⟩
noncomputable def gi (c:aU) (A:Around) (value slice:Expr) (o i:Value):d7 Value:=fun Q E=>wpAny c.C.M A (subscriptTail value slice o i) Q E
inductive k7 (c:aU) (b:Str→Option Value) (T:Tp) (B:Internal.V) (v0:Value) (K:Internal.V) (kv:Value) (s:St):Shared→Prop
  |mk (W:Wd):aZ c s b T W→Rd c.C W.G W.pi B v0→Rd c.C W.G W.pi K kv→k7 c b T B v0 K kv s W.G.S
theorem k7.same (h:k7 c b T B v0 K kv s S) (q:iu s s'):k7 c b T B v0 K kv s' S:=h.casesOn fun W x r k=>⟨W,x.same q,r,k⟩
section
variable {value slice:Expr}
theorem J.it {a:α} {m:d7 Value} {R} (h:∀W Q E,aZ c s b T W→Rd c.C W.G W.pi B v0→Rd c.C W.G W.pi K kv→(∀v S,R a v s S→Q v S)→m Q E W.G.S):J (pm c) (k7 c b T B v0 K kv s) s (rT a) m R:=fun S Q E i k=>i.casesOn fun W x r1 r2=>h W Q E x r1 r2 k.2
theorem ta (hk:j9 K=some k) (hT:fb B=some l∨GK B=some l):J (pm c) (k7 c b T B v0 K kv s) s (Bw l k) (gi c A value slice v0 kv) (PV c b T):=
  .needI (K:=k7 c b T B v0 K kv) k7.same fun h=>.it fun W Q E x r1 r2 f=>(r2.int hk).casesOn fun t=>by
    have h:=CI h
    have lo:=h.lo
    have hi:=h.hi
    have sz:=h.sz
    refine hT.elim (fun e=>?_) fun e=>?_
    ·induction r1.seq x.fits.ok e with|mk a vs e p w=>
     subst e
     have hsz:(List.toArray vs).size=l.length:=w.len.symm
     induction w.get _ h.lt with|mk z hz rz=>
     have fin:=f _ _ ⟨W,x.push (.rep _ _ rz)⟩
     refine gK (p.elim fun o p=>p.elim fun n p=>⟨o,p.1,p.2.1⟩) slot_list_getitem.lookup ?_
     unfold rO at hz
     by_cases hneg:k<0
     ·rw[if_pos hneg] at hz
      exact wpAny_getItem_list_neg p.isList hneg (by rw[hsz];omega) (by omega) (by rw[hsz];simpa using hz) fin
     ·rw[if_neg hneg] at hz
      exact wpAny_getItem_list p.isList (by omega) (by omega) (by simpa using hz) fin
    ·induction r1.tup x.fits.ok e with|mk a vs e p w=>
     subst e
     have hsz:(List.toArray vs).size=l.length:=w.len.symm
     induction w.get _ h.lt with|mk z hz rz=>
     exact gK (p.elim fun o p=>⟨o,p.1,p.2.1⟩) slot_tuple_getitem.lookup (PyProof.Rows.getItem_tuple p (by omega) (by omega) (by rw[hsz];exact h.ix) (by simpa using hz) (f _ _ ⟨W,x.push (.rep _ _ rz)⟩))
theorem EE {l:List _} {i} h:(⟨#[l[i]]⟩:Str)=⟨((l.drop i).take 1).toArray⟩:=by rw[List.drop_eq_getElem_cons];rfl
theorem Bu {l} (hk:j9 K=some k) (hT:l7 B=some l):J (pm c) (k7 c b T B v0 K kv s) s (nT (Nz k l.length) (rT (.str ((l.drop (rO k l.length)).take 1)))) (gi c A value slice v0 kv) (PV c b T):=
  .needI (K:=k7 c b T B v0 K kv) k7.same fun h=>.it fun W Q E x r1 r2 f=>(r2.int hk).casesOn fun t=>(r1.str hT).casesOn fun u=>by
    have h:=CI h
    have lo:=h.lo
    have hi:=h.hi
    have sz:=h.sz
    refine gK (typeIs_str _ _ _) F.slot_str_getitem.lookup (P.getItem_str (c:=l[rO k l.length]'h.lt) ?_ ?_ ?_)
    ·rw[cq,decide_eq_false_iff_not]
     constructor<;>lia
    ·show(seqIndex? k l.length).bind _=_
     rw[h.ix]
     simp[h.lt]
    ·exact f _ _ (.res x ⟨rfl,rfl,rfl⟩ (by have:=cP.str (C:=c.C) (fz:=W.G.fz) (pi:=W.pi) ((l.drop (rO k l.length)).take 1) W.G.S.toks;rwa [←EE h.lt] at this))
theorem Fp {a k:List _} {w} {l:List (Str×Value)} (h:a≠k):valueAt ((⟨a.toArray⟩,w)::l) ⟨k.toArray⟩=valueAt l ⟨k.toArray⟩:=by
  unfold valueAt
  simp[Au h]
theorem IR {C} {fz} {pi} {k} (r:aS C fz pi l vs):∀{ks},KG k ks l=some V→zK (C:=C) fz pi V (valueAt ((bU ks).zip vs) ⟨k.toArray⟩):=
  r.ind (m:=fun l vs=>∀{ks},KG k ks l=some V→zK fz pi V (valueAt ((bU ks).zip vs) _)) (fun{ks}=>ks.casesOn aX fun ζ ζ=>aX) fun V' w Vs ws r _ ih {ks}=>ks.casesOn aX fun a ks h=>by
    by_cases e:a=k
    ·subst e
     have h:cond _ _ _=some V:=h
     rw[decide_eq_true rfl] at h
     exact⟨w,by show valueAt ((⟨a.toArray⟩,w)::(bU ks).zip ws) _=_;unfold valueAt;simp,sm h▸r⟩
    ·have h:cond _ _ _=some V:=h
     rw[decide_eq_false e] at h
     show zK fz pi V (valueAt ((⟨a.toArray⟩,w)::(bU ks).zip ws) _)
     rw[Fp e]
     exact ih h
theorem Bx:J (pm c) (k7 c b T B v0 K kv s) s (HI B K) (gi c A value slice v0 kv) (PV c b T):=
  .opt fun d hd=>.opt fun k hk=>.opt fun V h=>.it fun W Q E x r1 r2 f=>(r2.str hk).casesOn fun t=>by
    induction r1.dict hd with|mk a ws e hd hl hr hf=>
    subst e
    induction IR hr h with|mk v' h1 h2=>
    exact gK (hd.elim fun oo q=>q.elim fun es q=>q.elim fun ep q=>⟨oo,q.1,q.2.1.1⟩) slot_dict_getitem.lookup (wpAny_getItem_of (strKind_is _ _ _ t) hd.mapOf h1 (f _ _ (.res x ⟨rfl,rfl,rfl⟩ h2)))
theorem Bv (hcall:fU PP n r.call) (ge:GE PP (n+1) c A) {j} (hj:uJ B=some j) (hsl:∀o,subscripted slice true o kv=runValue (.builtin "lifetime.subscript" ⟨[o,kv],[]⟩)):J (pm c) (k7 c b T B v0 K kv s) s (HH PP r j K) (gi c A value slice v0 kv) (PV c b T):=
  .look (.opt fun q hq=>.opt fun g hm=>.opt fun f hf=>.grd fun hp=>fun S Q E i a=>i.casesOn fun W x r1 r2=>by
    have r0:=r1
    have e1:=fM hj
    subst e1
    have e2:=ip hf
    subst e2
    revert r0
    refine mD (R:=fun v0=>Rd _ _ _ _ v0→gi c A _ _ v0 kv Q E _) x hq (r1.un rfl) fun ad o od ζ h1 h2 hg h3 h4 r0=>(((c.H.meth _ _ _ hg (ge.pt▸hm)).2).casesOn (motive:=fun V ζ=>V=.glob f→gi c A _ _ _ kv Q E _) (fun f' m1 m2 m3 m4 ζ e=>?_) (fun V v e1 ζ ζ ζ e=>aX (e1.symm.trans (congrArg ry e))) rfl)
    injection e with e
    subst e
    induction x.frk with|mk m hfr hK=>
    exact sub_K hfr hK h2 m2 m4 m3 (hcall _ [.inst j,K] [] c b T _ s _ [.ref ad,kv] [] ge.in1 _ Q E ⟨W,(x.push (.rep _ _ (r0.un rfl))).push (.rep _ _ (r2.un hp)),.glob _,.nil,rfl⟩ a).2 (hsl _))
theorem pN (hcall:fU PP n r.call) (ge:GE PP (n+1) c A) (hsl:∀o,subscripted slice true o kv=runValue (.builtin "lifetime.subscript" ⟨[o,kv],[]⟩)):J (pm c) (k7 c b T B v0 K kv s) s (vy PP r B K) (gi c A value slice v0 kv) (PV c b T):=
  .cse (fun j h=>Bv hcall ge h hsl) fun ζ=>.cse (fun k hk=>.cse (fun l h=>ta hk (.inl h)) fun ζ=>.cse (fun l h=>ta hk (.inr h)) fun ζ=>.opt fun l h=>Bu hk h) fun ζ=>Bx
end
end
section
variable {c:aU} {b:Str→Option Value} {W:Wd} {α:Type} {V K:Internal.V} {v:Value} {n:Nat} {x y:Str} {m:d7 β} {R:α→β→St→Shared→Prop} {p q:Pl} {P:Pl→Prop} {e:Expr} {r:dN} {X Y:Tr α} {a:Str} {k:Int}
theorem Gt i n:jy i n=clipAt n i:=by
  unfold jy clipAt
  congr 1
  split<;>lia
theorem lh (l:List α) lo hi:oQ l lo hi=(l.drop (lo.elim 0 (clipAt l.length))).take (hi.elim l.length (clipAt l.length) -lo.elim 0 (clipAt l.length)):=by
  unfold oQ
  rcases lo with⟨⟩<;>rcases hi with⟨⟩<;>simp[Gt]
theorem py lo hi n:Builtin.Str.strSliceIndices lo hi 1 n=sliceRange (lo.elim 0 (clipAt n):Nat) ((hi.elim n (clipAt n):Nat)) 1:=by
  unfold Builtin.Str.strSliceIndices
  rcases lo with⟨⟩<;>rcases hi with⟨⟩<;>simp[clipAt_cast]
theorem ro n i:clipAt n i≤n:=by have:=clipAt_cast n i;omega
theorem yn x t lo hi {s} (hl:x.length≤1000000) (hQ:∀t' tk,Q (.str ⟨(oQ x (lo.map (·.1)) (hi.map (·.1))).toArray⟩ t') {s with toks:=tk}):(sliceMade ⟨x.toArray⟩ t lo hi none).post Q s:=by
  have e:slicePicked ⟨x.toArray⟩ lo hi none=Builtin.Str.strSliceIndices _ _ 1 x.length:=rfl
  have run:(Builtin.Str.strSliceIndices (lo.map (·.1)) (hi.map (·.1)) 1 x.length).filterMap (x.toArray[·]?)=oQ x (lo.map (·.1)) (hi.map (·.1)):=by
    rw[py,sliceRange_one,pick_run,lh]
  unfold sliceMade
  split
  ·rename_i h
   have hn:(slicePicked _ lo hi _).length=x.length:=eq_of_beq (aa.mp h).2
   have full:oQ x (lo.map (·.1)) (hi.map (·.1))=x:=by
     rw[e,py,sliceRange_one,au,List.length_range] at hn
     rw[lh]
     have b:((hi.map (·.1)).elim x.length (clipAt x.length))≤x.length:=by
       induction hi with
       |none=>exact aC _
       |some p=>exact ro _ _
     by_cases z:x.length=0
     ·obtain rfl := er z
      simp
     ·have a0:((lo.map (·.1)).elim 0 (clipAt x.length))=0:=by lia
      rw[a0] at hn⊢
      rw[hn]
      simp
   exact full▸hQ t _
  ·rw[e,run]
   refine⟨?_,hQ _ _⟩
   have hk:(oQ x (lo.map (·.1)) (hi.map (·.1))).length≤x.length:=by
     rw[lh,List.length_take,dY];lia
   show(oQ x _ _).length≤sizeLine
   unfold sizeLine;lia
noncomputable def xW c b T o v s S:=∃q,v=partValue q∧o=q.map (·.1)∧a_ c b T s S
noncomputable def qf (c:aU) (A:Around) (e:Option Expr):d7 Value:=fun Q E=>wpAny c.C.M A (evalPart e c.env) Q E
theorem pE (hev:cr PP n r.ev) (ge:GE PP n c A) {e}:J (pm c) (a_ c b T s) s (ny r e) (qf c A e) (xW c b T):=by
  induction e with
  |none=>exact .by (.pure fun S i=>⟨none,rfl,rfl,i⟩) fun Q E S h=>wpAny_pure h
  |some e=>exact .by (.bind (hev e c b T A s ge) fun V v s1=>.opt fun i h=>.pure fun S j=>j.casesOn fun W x=>(x.rd.int h).casesOn fun t=>⟨some (i,t),rfl,rfl,W,x.pop⟩) fun Q E S h=>h
theorem BE p:IsPart (partValue p) (p.map (·.1)):=by cases p<;>constructor
noncomputable def iV (lo hi:Value):Obj:={cls:=.type "slice",data:=.fields #[lo,hi,.none]}
noncomputable def wn (c:aU) (A:Around) (value slice:Expr) (v0 lo hi:Value):d7 Value:=fun Q E S=>wpAny c.C.M A (subscriptTail value slice v0 (.ref S.heap.objs.size)) Q E {S with heap:=S.heap.push (iV lo hi)}
theorem AB {value slice:Expr} {lo hi:Option (Int×Tok)}:J (pm c) (fN c b T B v0 s) s (Hn B (lo.map (·.1)) (hi.map (·.1))) (wn c A value slice v0 (partValue lo) (partValue hi)) (PV c b T):=
  have go:∀{V:Internal.V},(∀W Q E,aZ c s b T W→Rd c.C W.G W.pi B v0→(∀v S,a_ c b (.more V v T) s S→Q v S)→wn c A value slice v0 (partValue lo) (partValue hi) Q E W.G.S)→∀o,J (pm c) (fN c b T B v0 (wK s o)) (wK s o) (rT V) (wn c A value slice v0 (partValue lo) (partValue hi)) (PV c b T):=fun h o S Q E i k=>i.casesOn (motive:=fun S ζ=>wn c A value slice v0 (partValue lo) (partValue hi) Q E S) fun W x r=>h W Q E (x.same ⟨rfl,rfl,rfl,rfl,rfl,fun ζ=>rfl⟩) r fun v S z=>k.2 v S (z.same (ll _))
  .cse (fun l h=>.needI (K:=fN c b T B v0) fN.same fun hn=>go (fun W Q E x rd k=>by
    have hn:=ag hn
    induction rd.seq x.fits.ok h with|mk a vs e p w=>
    subst e
    have p':PlainL (W.G.S.heap.push (iV (partValue lo) (partValue hi))) a (List.toArray vs):=p.keeps fun ζ ζ e=>Heap.get?_push_of_some _ e
    refine gK (p'.elim fun o p=>p.elim fun n p=>⟨o,p.1,p.2.1⟩) slot_list_getitem.lookup ?_
    refine wpAny_getItem_list_slice p'.isList ⟨_,(Heap.get?_push_size _ rfl),rfl,rfl⟩ (BE lo) (BE hi) .none (by trivial) ?_ (by rw[(show (List.toArray vs).size=l.length from w.len.symm)];unfold sizeLine;omega)
    have rr:aS c.C W.G.fz W.pi (oQ l (lo.map (·.1)) (hi.map (·.1))) (oQ vs (lo.map (·.1)) (hi.map (·.1))):=by
      rw[lh,lh,w.len]
      exact(w.drop _).take _
    refine k _ _ (.list (x.mem (S':={W.G.S with heap:=W.G.S.heap.push (iV (partValue lo) (partValue hi))}) (fun ζ ζ e=>Heap.get?_push_of_some _ e) rfl rfl) (k:=0) rfl rfl rr ?_)
    rw[slicePick_plain,lh]
    rfl) _) fun ζ=>.opt fun l h=>.needI (K:=fN c b T B v0) fN.same fun hn=>go (fun W Q E x rd k=>by
    exact(rd.str h).casesOn fun u=>gK (typeIs_str _ _ _) F.slot_str_getitem.lookup (wpAny_getItem_str_slice ⟨_,(Heap.get?_push_size _ rfl),rfl,rfl⟩ rfl (yn l u lo hi (ag hn) fun t' tk=>k _ _ (.res (x.mem (S':={W.G.S with heap:=W.G.S.heap.push (iV (partValue lo) (partValue hi))}) (fun ζ ζ e=>Heap.get?_push_of_some _ e) rfl rfl) ⟨rfl,rfl,rfl⟩ (.str _ _))))) _
noncomputable def z8 (c:aU) (A:Around) (value slice:Expr) (v0 lo hi:Value):d7 Value:=fun Q E=>wpAny c.C.M A (evalPart none c.env) (fun st S=>wpAny c.C.M A (subscriptTail value slice v0 (.ref S.heap.objs.size)) Q E {S with heap:=S.heap.push {cls:=.type "slice",data:=.fields #[lo,hi,st]}}) E
noncomputable def yb c b T1 v0 bT:=∀T2 s,(∀{s W},aZ c s b T2 W→aZ c s b T1 W)→J (pm c) (a_ c b T2 s) s bT (nA v0) fun B v s S=>v=v0∧fN c b T2 B v0 s S
theorem IF {q} (h:Nn e=some q):∃p,e=.Slice q.1 q.2.1 q.2.2 p:=by rcases e with⟨⟩<;>first|exact aX h|exact sm h▸⟨_,rfl⟩
theorem Aq {i} (h:Nn i=none) kv:∀o,subscripted i true o kv=runValue (.builtin "lifetime.subscript" ⟨[o,kv],[]⟩):=fun o=>by
  rcases i with⟨⟩<;>first|trivial
noncomputable def rX (c:aU) (A:Around) (value i:Expr) (v0:Value):d7 Value:=(mn c A i).bind (gi c A value i v0)
theorem wx (hev:cr PP n r.ev) (hcall:fU PP n r.call) (ge:GE PP (n+1) c A) {value i} {bT} (hb:yb c b T1 v0 bT) (hp:∀{s W},aZ c s b T1 W→aZ c s b T W):J (pm c) (a_ c b T1 s) s (IC PP r i bT) (rX c A value i v0) (PV c b T):=
  .cse (fun q h=>.grd fun hn=>by
    refine .by (m:=(qf c A _).bind fun lo=>(qf c A q.2.1).bind fun hi=>(nA v0).bind fun v=>z8 c A value i v lo hi) (.bind (pE hev ge.less) fun lo KD s1=>.bind ((?_:J _ _ s1 _ _ fun hi hiv s S=>(∃q,KD=partValue q∧lo=q.map (·.1))∧xW c b T1 hi hiv s S)) fun hi hiv s2=>?_) ?_
    ·exact fun S Q E i k=>i.elim fun p j=>pE hev ge.less S Q E j.2.2 (by
       revert k
       induction (ny r _).run s1 with
       |ok a s=>exact fun k=>⟨k.1,fun v S h=>k.2 v S ⟨⟨p,j.1,j.2.1⟩,h⟩⟩
       |err=>exact id
       |stuck=>exact id)
    ·exact fun S Q E i k=>i.1.elim fun pl j=>i.2.elim fun ph j2=>(J.bind (hb T1 s2 id) (fun B v s3=>by
       refine .pre (I:=fN c b T B v s3) ?_ fun S z=>z.1▸z.2.casesOn fun W x r=>⟨W,hp x,r⟩
       rw[j.1,j.2,j2.1,j2.2.1]
       exact AB.by fun Q E S h=>wpAny_pure h) S Q E j2.2.2 k)
    ·exact fun Q E S g=>by
       obtain⟨p,e⟩:=IF h
       rw[(aO.mp hn)] at e
       rw[e] at g⊢
       exact wpAny_Slice g)
  fun h=>.by (m:=(mn c A i).bind fun kv=>(nA v0).bind fun v=>gi c A _ i v kv) (.bind (hev i c b T1 A s ge.less) fun K kv s1=>.bind (hb _ s1 aZ.pop) fun B v s2=>.pre (pN hcall ge (Aq h kv)) fun S z=>z.1▸z.2.casesOn fun W x r=>⟨W,hp x.pop,r,x.rd⟩) fun Q E S h=>h
theorem yU (h:jb e=true):∃x p,e=.Name x p:=by rcases e with⟨⟩<;>first|exact bG h|exact⟨_,_,rfl⟩
theorem EL {z} (h:lg z e s=some V):Nn e=none:=by rcases e with⟨⟩<;>first|rfl|exact aX h
theorem Rd.tk {C} {G} {pi} (h:Rd C G pi V v) (t:Tk G.S S):Rd C ⟨S,G.fz⟩ pi V v:=
  h.casesOn (fun V v r=>.rep V v r) (fun l a vs p r=>.own l a vs (t.heap.symm▸p) r) (fun ks l a vs d e r g=>.dct ks l a vs (t.heap.symm▸d) e r g) fun V v h1 h2 h3=>.no V v h1 h2 h3
theorem lu {z} (h:eP (.Name y z) s=some V) (x:aZ c s b T W):bad y=false∧∃v,b y=some v∧Rd c.C W.G W.pi V v:=
  wG (show pk (uG y s)=some V from h) fun h h2=>hG h fun hb h=>⟨hb,(x.nm y V h h2).casesOn fun v g o=>⟨v,g,.of x.fits o⟩⟩
theorem yb.name {z} (h:b y=some v0):yb c b T v0 (Hr (.Name y z)):=fun T2 s hx=>.look (.opt fun B hB=>fun S Q E i k=>i.casesOn fun W x=>k.2 v0 _ ⟨rfl,W,x,(lu hB x).2.elim fun v g=>Option.some.inj (g.1.symm.trans h)▸g.2⟩)
theorem JD (hev:cr PP n r.ev) (hcall:fU PP n r.call) o i pos:ma PP (n+1) (.Subscript o i pos) ((Lr PP r o i).bind E3):=fun c b T A s ge=>
  .by (.bind (.look (.cse (fun B h=>.cnd _ (fun hn=>(yU hn).elim fun y hn=>hn.elim fun z hn=>fun S Q E j k=>j.casesOn fun W x=>by
      subst hn
      exact(lu h x).2.elim fun v g=>dZ x (lu h x).1 g.1 (wx hev hcall ge (yb.name g.1) id _ Q E ⟨W,x⟩ k))
    fun ζ=>.opt fun K hk=>fun S Q E j k=>j.casesOn fun W x=>fW h x fun v p W' t x' pk=>mO (ge.pt▸hk) x' fun kv S' t' rk=>pN hcall ge (Aq (EL hk) kv) S' Q E ⟨W'.mem S',x'.mem (fun ζ ζ e=>t'.heap▸e) t'.gens t'.os,(pk.rd x'.fits).tk t',.rep _ _ rk⟩ k)
    fun ζ=>.bind (hev o c b T A s ge.less) fun B v s1=>wx hev hcall ge (fun T2 s h=>.pure fun S j=>⟨rfl,j.casesOn fun W x=>⟨W,x,(h x).rd⟩⟩) aZ.pop)) fun V v s1=>wH) fun Q E S h=>PyProof.Rows.Subscript_ h
end
section
section
variable (c:aU) (W:Wd) (K:Pl→Prop) (xg:Nat→Option GenState)
open Classical in
noncomputable def aU.aside:eC:=⟨fun a=>oC (c.ot.h a) some (if∃p,W.own a=some p∧¬K p then W.hp a else none),fun k=>oC (c.ot.g k) some (oC (xg k) some (if∃p,W.gown k=some p∧¬K p then W.G.S.gens[k]? else none))⟩
noncomputable def aU.go (env:Env) (fl:List Env) (sc:List (Str×NameKind)) (dp:Nat) (hd:Bool) (outs:List V) (pi0:Pi):aU:=⟨c.C,c.H,env,fl,c.aside W K xg,W.G.fz,pi0,sc,dp,hd,outs⟩
noncomputable def Wd.re pi2:={W with pi:=pi2}
end
variable {c:aU} {W:Wd} {K:Pl→Prop} {o:Obj} {p q:Pl} {dp:Nat} {hd:Bool} {outs:List V} {xg:Nat→Option GenState}
theorem jA.ex (h:jA c W a p):∃o,W.hp a=some o:=h.casesOn fun o e ζ ζ ζ ζ=>⟨o,e⟩
theorem jA.fzn (h:jA c W a p):W.G.fz a=none:=h.casesOn fun ζ ζ e ζ ζ ζ=>e
theorem jA.tbn (h:jA c W a p):a≠c.C.tb:=h.casesOn fun ζ ζ ζ e ζ ζ=>e
theorem jA.otn (h:jA c W a p):c.ot.h a=none:=h.casesOn fun ζ ζ ζ ζ e ζ=>e
theorem jA.fmn (h:jA c W a p):a∈bF c.fl→p=.frame:=h.casesOn fun ζ ζ ζ ζ ζ e=>e
theorem rE.up (h:rE c W a o):jz c.fl a o W.G.S.heap:=h.casesOn fun e ζ ζ=>e
theorem rE.fzn (h:rE c W a o):W.G.fz a=none:=h.casesOn fun ζ e ζ=>e
theorem rE.tbn (h:rE c W a o):a≠c.C.tb:=h.casesOn fun ζ ζ e=>e
theorem dU (h:c.ot.h a=some o):(c.aside W K xg).h a=some o:=by unfold aU.aside;dsimp only;rw[h];rfl
theorem da (f:bj c W) (h:W.own a=some p) (n:¬K p) (e:W.hp a=some o):(c.aside W K xg).h a=some o:=by
  unfold aU.aside
  dsimp only
  rw[((f.own a p h).otn)]
  exact(if_pos ⟨p,h,n⟩).trans e
inductive Ky (c:aU) (W:Wd) (K:Pl→Prop) (a:Addr) (o:Obj):Prop
  |ot:c.ot.h a=some o→Ky c W K a o
  |own (p:Pl):W.own a=some p→¬K p→W.hp a=some o→Ky c W K a o
open Classical in
theorem fL (h:(c.aside W K xg).h a=some o):Ky c W K a o:=
  dE h (fun o' e h=>.ot (e.trans h)) fun h=>have h:=fJ.mp h;h.1.elim fun p q=>.own p q.1 q.2 h.2
theorem p8 {k} {g} (h:c.ot.g k=some g):(c.aside W K xg).g k=some g:=by unfold aU.aside;dsimp only;rw[h];rfl
theorem j6 (f:bj c W) {k} (h:W.gown k=some p) (n:¬K p) (hx:xg k=none):(c.aside W K xg).g k=W.G.S.gens[k]?:=by
  unfold aU.aside
  dsimp only
  rw[(f.gown k p h).2,hx]
  exact if_pos ⟨p,h,n⟩
theorem zx {k:Nat} (h:c.ot.g k=none) (hx:xg k=none) (n:∀p,W.gown k=some p→K p):(c.aside W K xg).g k=none:=by
  unfold aU.aside
  dsimp only
  rw[h,hx]
  exact if_neg fun q=>q.elim fun p q=>q.2 (n p q.1)
theorem um {k} {st} (h:c.ot.g k=none) (hx:xg k=some st):(c.aside W K xg).g k=some st:=by
  unfold aU.aside
  dsimp only
  rw[h,hx];rfl
open Classical in
theorem zy {k} {g} (f:bj c W) (hx:∀k st,xg k=some st→W.G.S.gens[k]?=some st) (h:(c.aside W K xg).g k=some g):W.G.S.gens[k]?=some g:=
  dE h (fun g' e h=>f.gt k g (e.trans h)) fun h=>dE h (fun g' e h=>hx k g (e.trans h)) fun h=>(fJ.mp h).2
theorem uo (h:c.ot.h a=none) (n:∀p,W.own a=some p→K p):(c.aside W K xg).h a=none:=by
  unfold aU.aside
  dsimp only
  rw[h]
  exact if_neg fun q=>q.elim fun p q=>q.2 (n p q.1)
theorem Ky.out (f:bj c W) (h:Ky c W K a o):rE c W a o:=h.casesOn (f.ot a o) fun p h1 ζ h3=>⟨.same h3,(f.own a p h1).fzn,(f.own a p h1).tbn⟩
structure iH (c:aU) (W:Wd) (K:Pl→Prop) (xg:Nat→Option GenState) (N:Addr→Prop) (fl:List Env) (own2:Addr→Option Pl) (gown2:Nat→Option Pl):Prop where
  own:∀a q,own2 a=some q→(∃p,W.own a=some p∧K p)∨N a
  fr:∀a q,own2 a=some q→a∈bF fl→q=.frame
  new:∀a,N a→(∃o,W.hp a=some o)∧¬bH c W a
  gown:∀k q,gown2 k=some q→(∃p,W.gown k=some p∧K p)∧xg k=none
  xg:∀k st,xg k=some st→W.G.S.gens[k]?=some st∧∃p,W.gown k=some p∧K p
  fun_:W.G.S.heap.FunFrames {} fl
  fm:∀a∈bF fl,a∈bF c.fl∨own2 a=some .frame
  kf:K .frame→∀a,W.own a=some .frame→own2 a=some .frame
  up:∀a∈bF c.fl,a∈bF fl
theorem jz.weak {fl fl'} {h} (x:jz fl a o h) (m:a∈bF fl→a∈bF fl'):jz fl' a o h:=by
  induction x with
  |same e=>exact .same e
  |slots sl q e=>exact .slots sl (m q) e
theorem bP {α:Type} {x:Option α} (h:∀y,x≠some y):x=none:=by
  induction x with
  |none=>rfl
  |some y=>exact absurd rfl (h y)
theorem iH.fits (g:iH c W K xg N fl own2 gown2) (f:bj c W) (hpi:dW pi0 pi2):bj (c.go W K xg env fl sc dp hd outs pi0) ((W.lab own2 gown2).re pi2) where
  ok:=f.ok
  le:=cO.refl _
  ple:=hpi
  own:=fun a q e=>(g.own a q e).elim (fun z=>z.elim fun p z=>have w:=f.own a p z.1
     w.ex.elim fun o h1=>⟨o,h1,w.fzn,w.tbn,uo w.otn fun p' e'=>Option.some.inj (z.1.symm.trans e')▸z.2,g.fr a q e⟩)
    fun n=>(g.new a n).1.elim fun o h=>have np:=(g.new a n).2
      ⟨o,h,bP fun y q=>np (.fz y q),fun q=>np (.tb q),uo (bP fun y q=>np (.ot y q)) fun p q=>absurd (.own p q) np,g.fr a q e⟩
  ot:=fun a o e=>have w:=Ky.out f (fL e);⟨w.up.weak (g.up a),w.fzn,w.tbn⟩
  gown:=fun k q e=>(g.gown k q e).1.elim fun p z=>⟨(f.gown k p z.1).1,zx (f.gown k p z.1).2 (g.gown k q e).2 fun p' e'=>Option.some.inj (z.1.symm.trans e')▸z.2⟩
  gt:=fun k y e=>zy (W:=W) f (fun k st h=>(g.xg k st h).1) e
  fun_:=g.fun_
  fm:=fun a m=>(g.fm a m).elim (f.fm a) fun z=>(g.own a _ z).elim (fun z=>z.elim fun p z=>⟨(f.own a p z.1).tbn,(f.own a p z.1).fzn⟩) fun n=>have np:=(g.new a n).2
   ⟨fun q=>np (.tb q),bP fun y q=>np (.fz y q)⟩
  fo:=fun a m=>(g.fm a m).elim (fun m=>(f.fo a m).elim (fun z=>(Classical.em _).elim (fun h=>.inl (g.kf h a z)) fun h=>.inr ((f.own a _ z).ex.imp fun o e=>da f z h e)) fun z=>.inr (z.imp fun o e=>dU e)) .inl
theorem iH.xno (g:iH c W K xg N fl own2 gown2) {k} (h:W.gown k=some q) (n:¬K q):xg k=none:=bP fun st e=>(g.xg k st e).2.elim fun p w=>n (Option.some.inj (w.1.symm.trans h)▸w.2)
theorem iH.off (g:iH c W K xg N fl own2 gown2) (f:bj c W) (h:(c.aside W K xg).h a=some o) (m:a∈bF fl):a∈bF c.fl:=
  (g.fm a m).elim id fun z=>(g.own a _ z).elim (fun z=>z.elim fun p z=>(fL h).casesOn (fun e=>aX ((f.own a p z.1).otn.symm.trans e)) fun p' h1 h2 ζ=>absurd (Option.some.inj (z.1.symm.trans h1)▸z.2) h2)
    fun n=>(fL h).casesOn (fun e=>absurd (.ot o e) (g.new a n).2) fun p' h1 ζ ζ=>absurd (.own p' h1) (g.new a n).2
structure DT (W W3:Wd) (K:Pl→Prop) (xg:Nat→Option GenState) (own4:Addr→Option Pl) (gown4:Nat→Option Pl):Prop where
  own:∀a q,own4 a=some q→(∃p,W3.own a=some p)∨(W.own a=some q∧¬K q)
  gown:∀k q,gown4 k=some q→(∃p,W3.gown k=some p)∨(W.gown k=some q∧¬K q)∨∃st,xg k=some st
variable {own4:Addr→Option Pl} {gown4:Nat→Option Pl}
theorem DT.fits (b:DT W W3 K xg own4 gown4) (g:iH c W K xg N fl own2 gown2) (f:bj c W) (x:bj (c.go W K xg env fl sc dp hd outs pi0) W3) (hf:W3.G.S.heap.FunFrames {} c.fl) (hfr:∀a∈bF c.fl,W.own a=some .frame→own4 a=some .frame) (hfm:∀a∈bF c.fl,∀p q,W3.own a=some p→own4 a=some q→q=.frame) (hpi:dW c.pi0 pi2):bj c ((W3.lab own4 gown4).re pi2) where
  ok:=x.ok
  le:=fun a o e=>x.le a o (f.le a o e)
  ple:=hpi
  own:=fun a q e=>(b.own a q e).elim (fun z=>z.elim fun p z=>have w:=x.own a p z
     w.ex.elim fun o h1=>⟨o,h1,w.fzn,w.tbn,bP fun y e=>aX (w.otn.symm.trans (dU e)),fun m=>hfm a m p q z e⟩)
    fun z=>have w:=f.own a q z.1
      w.ex.elim fun o h1=>have v:=x.ot a o (da f z.1 z.2 h1)
      v.up.get.elim fun sl e=>⟨_,e,v.fzn,v.tbn,w.otn,w.fmn⟩
  ot:=fun a o e=>have e':=dU e
   have v:=x.ot a o e'
   ⟨v.up.weak (g.off f e'),v.fzn,v.tbn⟩
  gown:=fun k q e=>
    have old:∀p,W.gown k=some p→∀st,(c.aside W K xg).g k=some st→k<W3.G.S.gens.size∧c.ot.g k=none:=fun p h st z=>⟨(Array.getElem?_eq_some_iff.mp (x.gt k st z)).1,(f.gown k p h).2⟩
    (b.gown k q e).elim (fun z=>z.elim fun p z=>⟨(x.gown k p z).1,bP fun y e=>aX ((x.gown k p z).2.symm.trans (p8 e))⟩)
    fun z=>z.elim (fun z=>old q z.1 _ ((j6 f z.1 z.2 (g.xno z.1 z.2)).trans (Array.getElem?_eq_getElem (f.gown k q z.1).1)))
      fun z=>z.elim fun st h=>(g.xg k st h).2.elim fun p w=>old p w.1 st (um (f.gown k p w.1).2 h)
  gt:=fun k y e=>x.gt k y (p8 e)
  fun_:=hf
  fm:=fun a m=>x.fm a (g.up a m)
  fo:=fun a m=>(f.fo a m).imp (hfr a m) id
theorem DT.at_ (g:iH c W K xg N fl own2 gown2) (f:bj c W) (x:bj (c.go W K xg env fl sc dp hd outs pi0) W3) (n:¬K q) (hq:q≠.frame) (h1:∀a,own4 a=some q↔W.own a=some q) (h2:∀k,gown4 k=some q↔W.gown k=some q):(W3.lab own4 gown4).at q=W.at q:=
  gh h1 h2 (fun a e=>(f.own a q e).ex.elim fun o z1=>((x.ot a o (da f e n z1)).up.off fun m=>hq ((f.own a q e).fmn (g.off f (da f e n z1) m))).trans z1.symm) fun k e=>by
    have lt:=(f.gown k q e).1
    exact(x.gt k _ ((j6 f e n (g.xno e n)).trans (Array.getElem?_eq_getElem lt))).trans (Array.getElem?_eq_getElem lt).symm
end
section
section
variable {M:Model} {s:Shared} {base:Heap} {outer:List Env} {L e:Addr} {cls:Value} {dx:Option Addr}
theorem n6 f o:(Obj.mapFields f o).dict=o.dict:=by
  obtain⟨c,d,dt,sl⟩:=o
  cases dt<;>rfl
noncomputable def fj fl (h h':Heap):=∀b∈bF fl,∀o,h.get? b=some o→∃sl,h'.get? b=some {o with slots:=sl}
theorem rR {oe} {vs} {head} {hadNext} {Q}
    (hfr:A.frames=some (env::outer)) (hl:s.heap.FunFrames base (env::outer)) (hf:env.frame=some L)
    (he:s.heap.get? e=some oe) (hkb:base.StaysIn s.heap) (hen:base.get? e=none) (hd:oe.data=.fields vs) (hsz:1<vs.size)
    (h:∀h',base.StaysIn h'→h'.FunFrames base (env::outer)→Ds h' base e oe.cls oe.dict (rawInt L)→s.heap.objs.size≤h'.objs.size→fj (env::outer) s.heap h'→Q () {s with heap:=h'}):
    wpAny M A (do let a←frameOf env;let pl←entryPlaceOf L hadNext;let b←EntryCells.newEntry head a .none (rawInt L) .none pl;setField (.ref e) 1 b) Q E s:=by
  have hene:e∉(env::outer).filterMap (·.frame):=fun hm=>by
    obtain⟨_,o,ho,hnf⟩:=hl.mem hm
    rw[he] at ho;injection ho with ho;subst ho;exact hnf vs hd
  refine wpAny_bind (wpAny_frameOf_fun hfr hl hf fun h₁ hs₁=>?_)
  refine wpAny_bind (wpAny_entryPlaceOf fun pl hpl=>(wpAny_bind (wpAny_newObj_type ?_ (hpl.sizeOk5 _ _ _ _ _))))
  have he₁:=(hs₁.2.1 e hene).trans he
  have kb₁:base.StaysIn h₁:=fun b o hbo=>(hs₁.2.1 b fun hm=>by rw[(hl.mem hm).1] at hbo;exact nomatch hbo).trans (hkb b o hbo)
  generalize hO:({cls:=.type "traceback",dict:=none,data:=.fields ([head,.ref L,.none,rawInt L,.none]++(if pl.isEmpty then List.replicate 6 Value.none else pl)).toArray}:Obj)=oT
  have he₂:=Heap.get?_push_of_some oT he₁
  refine wpAny_setField he₂ hd hsz (h _ ?_ ?_ ?_ ?_ ?_)
  all_goals
    have hTe:=Nat.ne_of_gt (Heap.lt_size he₁)
    have hd₃:=Obj.data_mapFields hd (·.setIfInBounds 1 (Value.ref h₁.objs.size))
    have he₃:=Heap.get?_update_self (Obj.mapFields (·.setIfInBounds 1 (Value.ref h₁.objs.size))) he₂ (Obj.isFreed_of_fields hd₃)
    have hT₃:=(Heap.get?_update_other (h₁.push oT) (Obj.mapFields (·.setIfInBounds 1 (Value.ref h₁.objs.size))) (Ne.symm hTe)).trans (Heap.get?_push_size h₁ (by rw[←hO];rfl))
    have keep:∀b o,b≠e→h₁.get? b=some o→((h₁.push oT).update e (Obj.mapFields (·.setIfInBounds 1 (Value.ref h₁.objs.size)))).get? b=some o:=fun b o hbe hb=>by
      rw[Heap.get?_update_other _ _ (Ne.symm hbe)]
      exact Heap.get?_push_of_some _ hb
    have noRecord:∀b o,s.heap.get? b=some o→(∀vs,o.data≠.fields vs)→b≠e:=fun b o hb hnf q=>by
      rw[q,he] at hb;injection hb with hb;subst hb;exact hnf vs hd
  ·exact fun b o hbo=>keep b o fun q=>by rw[q,hen] at hbo;trivial (kb₁ b o hbo)
  ·refine hl.of_keeps fun b o hb hnf=>?_
   obtain⟨sl,hs⟩:=hs₁.2.2 b o hb
   exact⟨_,keep b _ (noRecord b o hb hnf) hs,rfl⟩
  ·refine⟨_,_,h₁.objs.size,_,_,he₃,Obj.cls_mapFields _ _,?_,hd₃,by simp[hsz],kb₁.fresh,hTe,hT₃,by rw[←hO],by first|(rfl)⟩
   exact n6 _ _
  ·rw[Heap.size_after_update,Heap.size_push,hs₁.1];lia
  ·intro b hb o ho
   refine hR fun O u=>?_
   obtain⟨sl,hs⟩:=hs₁.2.2 b o ho
   obtain⟨_,o',q1,q2⟩:=hl.mem hb
   refine u ?_
   replace q1:=ho▸q1;cases q1
   exact⟨sl,keep b _ (noRecord b o ho q2) hs⟩
theorem kh {fr} {fl} {l} {Q} (hkb:base.StaysIn s.heap) (hl:s.heap.FunFrames base l) (ht:Ds s.heap base e cls dx fl)
    (h:∀h',base.StaysIn h'→h'.FunFrames base l→Ds h' base e cls dx (fr.elim Value.none fun f=>rawInt f)→h'.objs.size=s.heap.objs.size→(∀b o,s.heap.get? b=some o→(∀vs,o.data≠.fields vs)→h'.get? b=some o)→Q () {s with heap:=h'}):
    wpAny M A (setFlight (.ref e) fr) Q E s:=by
  obtain⟨oe,vs,T,oT,ts,he,hcls,hdx,hd,h1,hnT,hTe,hT,hdT,h3⟩:=ht
  have hsz3:=(Array.getElem?_eq_some_iff.mp h3).1
  refine wpAny_bind (wpAny_field he hd h1 ?_)
  have other:∀b,b≠T→(s.heap.update T (Obj.mapFields (·.setIfInBounds 3 (fr.elim Value.none fun f=>rawInt f)))).get? b=s.heap.get? b:=
    fun b hb=>Heap.get?_update_other _ _ (Ne.symm hb)
  have noRecord:∀b o,s.heap.get? b=some o→(∀vs,o.data≠.fields vs)→b≠T:=fun b o hb hnf q=>by
    rw[q,hT] at hb;injection hb with hb;subst hb;exact hnf ts hdT
  refine wpAny_setField hT hdT hsz3 (h _ (fun b o hbo=>(other b fun q=>by rw[q,hnT] at hbo;trivial).trans (hkb b o hbo))
    (hl.of_keeps fun b o hb hnf=>⟨o,(other b (noRecord b o hb hnf)).trans hb,rfl⟩) ?_ (Heap.size_after_update ..) fun b o hb hnf=>(other b (noRecord b o hb hnf)).trans hb)
  exact⟨oe,vs,T,_,_,(other e (Ne.symm hTe)).trans he,hcls,hdx,hd,h1,hnT,hTe,Heap.get?_update_self _ hT (Obj.isFreed_of_fields (Obj.data_mapFields hdT _)),Obj.data_mapFields hdT _,by simp[hsz3]⟩
theorem mm {Q} (hfr:A.frames=some (env::outer)) (hf:env.frame=some L) (x:G8 base (env::outer) e cls dx s.heap)
    (h:∀h',base.StaysIn h'→h'.FunFrames base (env::outer)→Ds h' base e cls dx (rawInt L)→s.heap.objs.size≤h'.objs.size→fj (env::outer) s.heap h'→Q () {s with heap:=h'}):
    wpAny M A (noteFrame (.ref e) env) Q E s:=by
  obtain⟨x1,x2,x3,x4⟩:=x
  unfold noteFrame
  simp only[hf]
  rcases x4 with⟨oe,vs,h1,h2,h3,h4,h5⟩|ht|⟨env',outer',L',q1,q2,ht⟩
  ·subst h2 h3
   exact wpAny_bind (wpAny_field h1 h4 h5 (rR hfr x3 hf h1 x1 x2 h4 (Array.getElem?_eq_some_iff.mp h5).1 h))
  ·obtain⟨oe,vs,T,oT,ts,he,hcls,hdx,hd,h1,hnT,hTe,hT,hdT,h3⟩:=ht
   subst hcls hdx
   refine wpAny_bind (wpAny_field he hd h1 (wpAny_bind (wpAny_field hT hdT h3 (wpAny_bind (wpAny_setField hT hdT (Array.getElem?_eq_some_iff.mp h3).1 ?_)))))
   have other:∀b,b≠T→(s.heap.update T (Obj.mapFields (·.setIfInBounds 3 Value.none))).get? b=s.heap.get? b:=fun b hb=>Heap.get?_update_other _ _ (Ne.symm hb)
   have noRecord:∀b o,s.heap.get? b=some o→(∀vs,o.data≠.fields vs)→b≠T:=fun b o hb hnf q=>by
     rw[q,hT] at hb;injection hb with hb;subst hb;exact hnf ts hdT
   refine rR hfr (x3.of_keeps fun b o hb hnf=>⟨o,(other b (noRecord b o hb hnf)).trans hb,rfl⟩) hf ((other e (Ne.symm hTe)).trans he)
     (fun b o hbo=>(other b fun q=>by rw[q,hnT] at hbo;trivial).trans (x1 b o hbo)) x2 hd (Array.getElem?_eq_some_iff.mp h1).1
     fun h' y1 y2 y3 y4 y5=>h h' y1 y2 y3 (by rw[Heap.size_after_update] at y4;exact y4) fun b hb o ho=>?_
   obtain⟨_,o',q1,q2⟩:=x3.mem hb
   have q1:=ho▸q1;cases q1
   exact y5 b hb o ((other b (noRecord b o ho q2)).trans ho)
  ·injection q1 with e1 e2
   subst e1 e2
   rw[hf] at q2;injection q2 with q2;subst q2
   obtain⟨oe,vs,T,oT,ts,he,hcls,hdx,hd,h1,hnT,hTe,hT,hdT,h3⟩:=id ht
   refine wpAny_bind (wpAny_field he hd h1 (wpAny_bind (wpAny_field hT hdT h3 ?_)))
   rw[if_pos (show(rawInt L==rawInt L)=true from by simp)]
   exact wpAny_pure (h _ x1 x3 ht (aC _) fun b ζ o ho=>⟨o.slots,ho⟩)
theorem mQ {Q} (hfr:A.frames=some (env::outer)) (hf:env.frame=some L) (x:G8 base (env::outer) e cls dx s.heap)
    (h:∀h',G8 base outer e cls dx h'→s.heap.objs.size≤h'.objs.size→fj (env::outer) s.heap h'→Q () {s with heap:=h'}):
    wpAny M A (leaving env (.ref e)) Q E s:=by
  refine wpAny_bind (mm hfr hf x fun h1 x1 x2 x3 x4 x5=>(kh x1 x2 x3 fun h2 y1 y2 y3 y4 y5=>(h h2 ⟨y1,x.new,y2.2.2,.bare y3⟩ (y4▸x4) fun b hb o ho=>?_)))
  obtain⟨sl,q⟩:=x5 b hb o ho
  obtain⟨_,o',q1,q2⟩:=x.fun_.mem hb
  rw[ho] at q1;cases q1
  exact⟨sl,y5 _ _ q q2⟩
theorem lR {Q} (hf:env.frame=some L) (hkb:base.StaysIn s.heap) (hl:s.heap.FunFrames base (env::outer)) (x:Ds s.heap base e cls dx (rawInt L))
    (h:∀h',base.StaysIn h'→h'.FunFrames base (env::outer)→Ds h' base e cls dx (rawInt L)→h'.objs.size=s.heap.objs.size→fj (env::outer) s.heap h'→Q (.ref e) {s with heap:=h'}):cameBackBy M A env Q (.ref e) s:=by
  obtain⟨oe,vs,T,oT,ts,he,hcls,hdx,hd,h1,r⟩:=id x
  refine wpAny_bind (wpAny_field he hd h1 (hf▸(kh hkb hl x fun h2 y1 y2 y3 y4 y5=>h h2 y1 y2 y3 y4 fun b hb o ho=>?_)))
  obtain⟨_,o',q1,q2⟩:=hl.mem hb
  rw[ho] at q1;cases q1
  exact⟨o.slots,y5 _ _ ho q2⟩
end
end
section
theorem eR {α} x:∀(l:List (Str×α)),lk x l=l.lookup x
  |[]=>rfl
  |p::r=>by
   unfold lk
   rw[bq]
   induction h:bx _ x with
   |true=>
    have:=bp.mp h
    simp[this]
   |false=>
    have:¬p.1=x:=fun e=>by rw[bp.mpr e] at h;trivial
    simp only[(beq_eq_false_iff_ne.mpr fun e=>this e.symm)]
    exact eR x r
section
variable {M:Model} {s:Shared}
theorem Ic (f:Str×Value→List _→Sem _) (hf:∀n d sl,f (n,d) sl=if(sl.lookup n).isNone then pure (.yield (sl++[(n,d)])) else pure (.yield sl)) {Q} l:
    ∀sl,Q (addD l sl) s→wpAny M A (forIn l sl f) Q E s:=by
  induction l with
  |nil=>exact fun sl h=>wpAny_pure h
  |cons p r ih=>
   intro sl h
   rw[jB,hf,←eR]
   unfold addD at h
   revert h
   induction (lk _ sl).isNone with
   |true=>exact fun h=>wpAny_bind (wpAny_pure (ih _ h))
   |false=>exact fun h=>wpAny_bind (wpAny_pure (ih _ h))
theorem Ib {ps} {sl kw} (h:Bm ps sl kw=true) (f:Str×Value→List _×List (Str×Value)→Sem _) (hf:∀x st,ps.contains x.1=true→(st.1.lookup x.1).isSome=false→f x st=pure (.yield (st.1++[(x.1,x.2)],st.2)))
    {Q} (hq:Q (sl++kw,[]) s):wpAny M A (forIn kw (sl,[]) f) Q E s:=by
  induction kw with
  |nil=>exact wpAny_pure (by simpa using hq)
  |cons p r=>
   have h:=aa.mp h
   have e:=aE.mp h.1
   subst e
   rw[jB,hf p _ ((bX.mp (aa.mp h.2).1).elim fun x q=>List.elem_eq_true_of_mem (bp.mp q.2▸q.1)) (by rw[←eR,show lk _ sl=none from aO.mp (aa.mp h.2).2];rfl)]
   exact wpAny_bind (wpAny_pure (wpAny_pure hq))
end
theorem af {α:Type} (sl:List (Str×α)) (ps:List Str):lV sl ps=(ps++[]).filterMap fun n=>(sl.lookup n).map (n,·):=by
  rw[ax]
  exact congrArg (List.filterMap · ps) (funext fun n=>eR n sl▸rfl)
theorem ah {M:Model} {A:Around} {E:Value→Shared→Prop} {s:Shared} {α:Type} {Q:α→Shared→Prop} {c:Prop} [Decidable c] {x y:Sem α} (h:¬c) (k:wpAny M A y Q E s):wpAny M A (if c then x else y) Q E s:=(if_neg h).symm▸k
theorem al {M:Model} {A:Around} {E:Value→Shared→Prop} {s:Shared} {α:Type} {Q:α→Shared→Prop} {d:Value} {dv:List Value} {k:Option (Array Value)→Sem α} (hd:(d=.none∧dv=[])∨∃T o n,d=.ref T∧s.heap.get? T=some o∧o.data=.seq dv.toArray n) (h:∀X:Option (Array Value),X.getD #[]=⟨dv⟩→wpAny M A (k X) Q E s):wpAny M A (seqItems? d>>=k) Q E s:=by
  rcases hd with⟨e,e2⟩|⟨T,o,n,e,h3,h4⟩
  ·rw[e]
   exact wpAny_bind (wpAny_pure (h none (by rw[e2];rfl)))
  ·rw[e]
   exact wpAny_bind (wpAny_seqItems h3 h4 (h _ rfl))
theorem aP {p:Arguments} {ps:List Str} {R:Arguments→List Str→Prop} (sp:j_ p ps) (h:∀ar kd df,R ⟨[],ar,none,[],kd,none,df⟩ (ar.map (·.arg))):R p ps:=by
  rcases p with⟨po,ar,va,ko,kd,kw,df⟩
  obtain⟨e1,e2,e3,e4,e5,-⟩:=sp
  cases e1;cases e2;cases e3;cases e4;cases e5
  exact h ar kd df
theorem l6 {fd:FuncData} {ps:List Str} {vals dv:List Value} {zS:List (Str×Value)} {b:List (Str×Value)} {M:Model} {A:Around} {E:Value→Shared→Prop} {s:Shared} {Q:List (Str×Value)→Shared→Prop}
    (sp:j_ fd.params ps) (hd:(fd.defaults=.none∧dv=[])∨∃T o n,fd.defaults=.ref T∧s.heap.get? T=some o∧o.data=.seq dv.toArray n)
    (hb:dm ps vals dv zS=some b) (h:Q b s):wpAny M A (bindArgs fd ⟨vals,zS⟩) Q E s:=
  aP (R:=fun p ps=>dm ps vals dv zS=some b→wpAny M A (bindArgs {fd with params:=p} ⟨vals,zS⟩) Q E s) sp (fun ar kd df hb=>bE hb fun h1 hb=>bE hb fun h2 hb=>by
  have h1:=aa.mp h1
  have h:=(sm hb).symm▸h
  unfold bindArgs
  dsimp only[List.map_nil,List.nil_append,Option.isNone_none,Option.isSome_none,List.contains_nil]
  refine wpAny_bind (Ib h1.2 _ (fun x st h1 h2=>(if_pos (by rw[h1];rfl)).trans (if_neg (by rw[h2];exact bG))) ?_)
  refine al hd fun X hX=>hX▸ah (fun h=>Nat.not_lt.mpr (ag h1.1) (of_decide_eq_true (aa.mp h).1)) (ah (fun h=>?_) ?_)
  ·rw[ao,List.isEmpty_eq_false_iff_exists_mem] at h
   obtain⟨x,hx⟩:=h
   have hx:=List.mem_filter.mp hx
   have:=aB.mp h2 x hx.1
   rw[eR] at this
   exact absurd hx.2 (by rw[←l9,this];exact bG)
  exact wpAny_bind (Ic _ (fun n d sl=>rfl) _ _ (wpAny_bind (wpAny_pure (ah (fun h=>bG h) (wpAny_pure (af _ _▸h))))))) hb
end
section
noncomputable def DS (env:Env) (m:Str→Option Value) (h:Heap) (x:Str) (v:Value):Prop:=match env.kindOf x with
  |some .local=>m x=some v
  |some .cell=>∃cl,env.cells.lookup x=some cl∧h.IsCell cl (some v)
  |some .free=>∃cl,env.cells.lookup x=some cl∧h.IsCell cl (some v)
  |_=>False
structure rJ (s:Shared) (fd:FuncData) (b:List (Str×Value)) (env:Env) (s':Shared):Prop where
  scope:env.scope=fd.scope
  loc:env.locals=s.heap.objs.size
  frame:env.frame=some env.locals
  globals:env.globals=fd.globals
  builtins:env.builtins=fd.builtins
  gens:s'.gens=s.gens
  os:s'.os=s.os
  keep:∀a o,s.heap.get? a=some o→s'.heap.get? a=some o
  ns:∃m,s'.heap.Ns env.locals m∧∀x v,(x,v)∈b→DS env m s'.heap x v
  cells:∀x cl,env.kindOf x=some .cell→env.cells.lookup x=some cl→env.locals<cl∧∃o,s'.heap.get? cl=some o
  ce:∀x,env.kindOf x=some .cell→∃cl v,env.cells.lookup x=some cl∧s'.heap.IsCell cl v
  apart:∀x y cl,env.kindOf x=some .cell→env.kindOf y=some .cell→env.cells.lookup x=some cl→env.cells.lookup y=some cl→x=y
  free:∀x,env.kindOf x=some .free→env.cells.lookup x=fd.closure.lookup x
  code:env.code=fd.code
theorem uh k:∀b m x,x∉b.map (·.1)→bindL k b m x=m x
  |[],_,_,_=>rfl
  |(n,v)::r,m,x,h=>by
   rw[cw,aL,not_or] at h
   unfold bindL
   rw[uh k r _ x h.2]
   split
   ·simp[h.1]
   ·rfl
theorem uj k:∀b m x,x∉b.map (·.1)→bindC k b m x=m x
  |[],_,_,_=>rfl
  |(n,v)::r,m,x,h=>by
   rw[cw,aL,not_or] at h
   unfold bindC
   rw[uj k r _ x h.2]
   split
   ·rfl
   ·simp[h.1]
theorem ug k:∀b m x v,(b.map (·.1)).Nodup→(x,v)∈b→k x=some .local→bindL k b m x=some v
  |(n,w)::r,m,x,v,nd,h,hk=>by
   rw[cw,dA] at nd
   unfold bindL
   rcases aL.mp h with e|h
   ·cases e
    rw[uh k r _ _ nd.1,if_pos hk]
    simp
   ·exact ug k r _ x v nd.2 h hk
theorem ui k:∀b m x v,(b.map (·.1)).Nodup→(x,v)∈b→¬k x=some .local→bindC k b m x=some v
  |(n,w)::r,m,x,v,nd,h,hk=>by
   rw[cw,dA] at nd
   unfold bindC
   rcases aL.mp h with e|h
   ·cases e
    rw[uj k r _ _ nd.1,if_neg hk]
    simp
   ·exact ui k r _ x v nd.2 h hk
theorem gO {α:Type}:∀{b:List (Str×α)} {x} {v},(b.map (·.1)).Nodup→(x,v)∈b→b.lookup x=some v
  |(n,w)::r,x,v,nd,h=>by
   rw[cw,dA] at nd
   rw[bq]
   rcases aL.mp h with e|h
   ·cases e;simp
   ·have:(x==n)=false:=beq_eq_false_iff_ne.mpr fun e=>nd.1 (e▸bw.mpr ⟨_,h,rfl⟩)
    exact this▸gO nd.2 h
theorem fg:∀names n bW x c,(x,c)∈cellsFrom n names bW→(x,c)∈bW∨(x,NameKind.cell)∈names
  |[],_,_,_,_,h=>.inl h
  |(nm,k)::r,n,bW,x,c,h=>by
   unfold cellsFrom at h
   split at h
   ·rename_i hk
    rcases fg r _ _ x c h with h|h
    ·rcases aL.mp h with e|h
     ·cases e;right;rw[(beq_iff_eq.mp hk)];exact bA
     ·exact .inl h
    ·exact .inr (aK _ h)
   ·rcases fg r _ _ x c h with h|h
    ·exact .inl h
    ·exact .inr (aK _ h)
theorem gw:∀names n bW x,((∃c,(x,c)∈bW)∨(x,NameKind.cell)∈names)→∃c,(x,c)∈cellsFrom n names bW
  |[],_,_,_,h=>h.elim id fun h=>nomatch h
  |(nm,k)::r,n,bW,x,h=>by
   unfold cellsFrom
   split
   ·refine gw r _ _ x ?_
    rcases h with⟨c,h⟩|h
    ·exact .inl ⟨c,aK _ h⟩
    ·rcases aL.mp h with e|h
     ·cases e;exact .inl ⟨_,bA⟩
     ·exact .inr h
   ·refine gw r _ _ x ?_
    rcases h with h|h
    ·exact .inl h
    ·rcases aL.mp h with e|h
     ·cases e;trivial
     ·exact .inr h
theorem fG {α:Type}:∀{l:List (Str×α)} {x} {c},(x,c)∈l→(l.lookup x).isSome=true
  |(n,w)::r,x,c,h=>by
   rw[bq]
   by_cases e:x=n
   ·simp[e]
   ·rw[(beq_eq_false_iff_ne.mpr e)]
    rcases aL.mp h with q|h
    ·cases q;trivial
    ·exact fG h
section
variable {M:Model} {s:Shared}
theorem pa {fd} {b} {qual} {func} {Q} (hk:fd.scope.kind=.function) (nd:(b.map (·.1)).Nodup) (nn:(fd.scope.names.map (·.1)).Nodup)
    (hb:∀x∈b.map (·.1),fd.scope.names.lookup x=some .local∨fd.scope.names.lookup x=some .cell)
    (hcl:fd.closure=[]∨∀x∈fd.scope.names,x.2≠.cell)
    (h:∀env s',rJ s fd b env s'→env.func=func→Q env s'):wpAny M A (newFunctionEnv fd.scope fd.globals fd.closure b qual func fd.code none fd.builtins) Q E s:=by
  by_cases hc:∀x∈fd.scope.names,x.2≠.cell
  ·have noc:∀x,fd.scope.names.lookup x≠some .cell:=fun x e=>hc _ (mem_of_lookup e) rfl
   refine wpAny_newFunctionEnv hc (fun x hx=>?_) (fun h' hns hsb=>?_) hk
   ·rcases hb x.1 (bw.mpr ⟨x,hx,rfl⟩) with e|e
    ·exact e
    ·exact absurd e (noc _)
   refine h _ _ ⟨rfl,rfl,rfl,rfl,rfl,rfl,rfl,fun a o e=>hsb.extBut a o (cy (Heap.lt_size e)) (Heap.get?_push_of_some _ e),⟨_,hns,fun x v hx=>?_⟩,fun x cl e=>absurd e (noc x),fun x e=>absurd e (noc x),fun x y cl e=>absurd e (noc x),fun x ζ=>rfl,rfl⟩ rfl
   have hl:fd.scope.names.lookup x=some .local:=by
     rcases hb x (bw.mpr ⟨_,hx,rfl⟩) with e|e
     ·exact e
     ·exact absurd e (noc _)
   unfold DS
   rw[show(newEnv fd.scope s.heap.objs.size fd.globals fd.closure qual func fd.code none fd.builtins).kindOf x=some .local from hl]
   refine gO ?_ (List.mem_reverse.mpr hx)
   rw[List.map_reverse]
   exact List.pairwise_reverse.mpr (nd.imp fun h=>Ne.symm h)
  ·have hcl:=hcl.resolve_right hc
   have xf:∀x,fd.scope.names.lookup x=some .cell→((cellsFrom (s.heap.objs.size+1) fd.scope.names []).lookup x).isSome=true:=fun x e=>by
     obtain⟨c,hc⟩:=gw fd.scope.names (s.heap.objs.size+1) [] x (.inr (mem_of_lookup e))
     exact fG hc
   refine hcl▸(wpAny_newFunctionEnv_cells hk (fun x hx=>?_) fun env he s' x=>?_)
   ·rcases hb x.1 (bw.mpr ⟨x,hx,rfl⟩) with e|e
    ·exact .inl e
    ·exact .inr ⟨e,xf _ e⟩
   obtain⟨h1,tk,hs⟩:=x.toInCall.same
   have kd:∀y,env.kindOf y=fd.scope.names.lookup y:=fun y=>by rw[he];rfl
   have cs:env.cells=cellsFrom (s.heap.objs.size+1) fd.scope.names []:=by rw[he];rfl
   refine h env s' ⟨by rw[he];rfl,(by rw[he];rfl),by rw[he];rfl,by rw[he];rfl,by rw[he];rfl,by rw[hs],by rw[hs],x.toInCall.keep,⟨_,x.toInCall.ns,fun y v hy=>?_⟩,fun y cl e1 e2=>?_,fun y e=>by
     rw[kd] at e
     obtain⟨c,hc⟩:=bL.mp (xf y e)
     rw[←cs] at hc
     exact⟨c,_,hc,x.cell y c hc⟩,fun y z cl e1 e2 e3 e4=>?_,fun y e=>?_,by rw[he];rfl⟩ (by rw[he];rfl)
   ·unfold DS
    rcases hb y (bw.mpr ⟨_,hy,rfl⟩) with e|e
    ·rw[kd,e]
     exact ug _ b _ y v nd hy (by rw[kd];exact e)
    ·rw[kd,e]
     obtain⟨c,hc⟩:=bL.mp (xf y e)
     rw[←cs] at hc
     refine⟨c,hc,?_⟩
     have:=x.cell y c hc
     rwa [ui _ b _ y v nd hy (by rw[kd,e];trivial)] at this
   ·obtain⟨o,ho,_⟩:=x.cell y cl e2
    exact⟨x.above y cl (mem_of_lookup e2),o,ho⟩
   ·exact name_of_addr x.apart (mem_of_lookup e3) (mem_of_lookup e4)
   ·rw[hcl,cs]
    induction q:(cellsFrom (s.heap.objs.size+1) fd.scope.names []).lookup y with
    |none=>rfl
    |some c=>
     rcases fg _ _ _ _ _ (mem_of_lookup q) with h|h
     ·cases h
     ·have:=gO nn h
      rw[kd] at e
      rw[this] at e;trivial
end
end
section
variable {c:aU} {b:Str→Option Value} {W:Wd} {α:Type} {V K:Internal.V} {v:Value} {n:Nat} {x y:Str} {m:d7 β} {R:α→β→St→Shared→Prop} {p q:Pl} {e:Expr} {r:dN}
open Classical in
noncomputable def oY (N:Addr→Prop) (f:Pl→Option Pl) (W:Wd) a:=if N a then some .frame else(W.own a).bind f
noncomputable def u7 (f:Pl→Option Pl) (W:Wd) k:=(W.gown k).bind f
noncomputable def fS (f:Pl→Option Pl) p:=(f p).isSome=true
section
variable {f:Pl→Option Pl}
open Classical in
theorem mw {a} (h:oY N f W a=some q):(N a∧q=.frame)∨(¬N a∧∃p,W.own a=some p∧f p=some q):=by
  unfold oY at h
  split at h
  ·exact .inl ⟨by assumption,sm h⟩
  ·exact .inr ⟨by assumption,aw.mp h⟩
open Classical in
theorem ni {a} (h:N a):oY N f W a=some .frame:=if_pos h
structure p9 (c:aU) (W:Wd) (N:Addr→Prop) (f:Pl→Option Pl) (fl:List Env):Prop where
  fits:bj c W
  new:∀a,N a→(∃o,W.hp a=some o)∧¬bH c W a
  fr:f .frame=none
  nf:∀p,f p≠some .frame
  fun_:W.G.S.heap.FunFrames {} fl
  fm:∀a∈bF fl,a∈bF c.fl∨N a
  up:∀a∈bF c.fl,a∈bF fl
  nw:∀a∈bF c.fl,¬N a
theorem p9.given (g:p9 c W N f fl):iH c W (fS f) (fun ζ=>none) N fl (oY N f W) (u7 f W) where
  own:=fun a q h=>(mw h).elim (fun h=>.inr h.1) fun h=>.inl (h.2.imp fun p h=>⟨h.1,by unfold fS;rw[h.2];rfl⟩)
  fr:=fun a q h m=>(mw h).elim (fun h=>h.2) fun h=>(g.fm a m).elim (fun m=>h.2.elim fun p z=>by
   have e:=(g.fits.own a p z.1).fmn m
   subst e
   exact aX (g.fr.symm.trans z.2)) fun n=>absurd n h.1
  new:=g.new
  gown:=fun k q h=>⟨(aw.mp h).imp fun p h=>⟨h.1,by unfold fS;rw[h.2];rfl⟩,rfl⟩
  xg:=fun ζ ζ h=>aX h
  fun_:=g.fun_
  fm:=fun a m=>(g.fm a m).imp id ni
  kf:=fun k ζ ζ=>by unfold fS at k;rw[g.fr] at k;exact bG k
  up:=g.up
theorem kB (h:f p=some q) (hu:∀p',f p'=some q→p'=p) {o}:o.bind f=some q↔o=some p:=
  ⟨fun e=>(aw.mp e).elim fun p' z=>hu p' z.2▸z.1,fun e=>aw.mpr ⟨p,e,h⟩⟩
open Classical in
theorem p9.at_ (g:p9 c W N f fl) (h:f p=some q) (hu:∀p',f p'=some q→p'=p):(W.lab (oY N f W) (u7 f W)).at q=W.at p:=
  gh (fun a=>⟨fun e=>(mw e).elim (fun z=>absurd (z.2▸h) (g.nf p)) fun z=>z.2.elim fun p' z=>hu p' z.2▸z.1,fun e=>(if_neg fun n=>(g.new a n).2 (.own p e)).trans ((kB h hu).mpr e)⟩) (fun k=>kB h hu) (fun ζ ζ=>rfl) fun ζ ζ=>rfl
end
inductive dc (C:Cf) (fz:Fz) (pi:Pi) (at_:Str→eC):List (Str×Internal.V)→List (Str×Value)→Prop
  |nil:dc C fz pi at_ [] []
  |cons (x:Str) (V:Internal.V) (v:Value) (l:List (Str×Internal.V)) (l':List (Str×Value)):gI C fz pi (at_ x) V v→dc C fz pi at_ l l'→dc C fz pi at_ ((x,V)::l) ((x,v)::l')
section
variable {C:Cf} {at_:Str→eC} {bV:List (Str×Internal.V)}
theorem dc.lk (h:dc C fz pi at_ bV bb):∀{V},Internal.lk x bV=some V→rI C fz pi (Internal.lk x bb) V (at_ x):=by
  induction h with
  |nil=>exact fun h=>aX h
  |cons z V v l l' o _ ih=>
   intro U e
   rw[cU] at e⊢
   induction hn:bx z x with
   |true=>
    rw[hn] at e
    exact⟨v,rfl,sm e▸bp.mp hn▸o⟩
   |false=>
    rw[hn] at e
    exact ih e
theorem dc.names (h:dc C fz pi at_ bV bb):bV.map (·.1)=bb.map (·.1):=by
  induction h with
  |nil=>rfl
  |cons x V v l l' _ _ ih=>exact congrArg _ ih
theorem dc.append (h:dc C fz pi at_ bV bb) {cV} {cb} (g:dc C fz pi at_ cV cb):dc C fz pi at_ (bV++cV) (bb++cb):=by
  induction h with
  |nil=>exact g
  |cons x V v l l' o _ ih=>exact .cons x V v _ _ o ih
theorem dc.lkN (h:dc C fz pi at_ bV bb) x:(Internal.lk x bV).isSome=(Internal.lk x bb).isSome:=by
  induction h with
  |nil=>rfl
  |cons z V v l l' o _ ih=>
   rw[cU,cU]
   induction bx z x with
   |true=>rfl
   |false=>exact ih
theorem dc.zip {D} {dv} (h:aS C fz pi D dv):∀ps:List _,dc C fz pi at_ (ps.zip D) (ps.zip dv):=
  h.ind (m:=fun D dv=>∀ps:List _,dc C fz pi _ (ps.zip D) (ps.zip dv)) (fun ps=>by rw[kY,kY];exact .nil) fun V v D dv r ζ ih ps=>ps.casesOn .nil fun p ps=>.cons _ _ _ _ _ (.rep _ _ r) (ih ps)
theorem dc.addD {dV} {db} (h:dc C fz pi at_ dV db):∀{bV bb},dc C fz pi at_ bV bb→dc C fz pi at_ (Internal.addD dV bV) (Internal.addD db bb):=by
  induction h with
  |nil=>exact fun g=>g
  |cons z V v l l' o _ ih=>
   intro bV bb g
   refine ih ?_
   rw[(show (Internal.lk z bV).isNone=(Internal.lk z bb).isNone from by rw[←l9,←l9,g.lkN])]
   induction (Internal.lk z bb).isNone with
   |true=>exact g.append (.cons _ _ _ _ _ o .nil)
   |false=>exact g
theorem jU (sl:List (Str×α)) p ps:lV sl (p::ps)=oC (Internal.lk p sl) (fun v=>(p,v)::lV sl ps) (lV sl ps):=by
  unfold lV
  rw[cF]
  induction Internal.lk p sl with
  |none=>rfl
  |some v=>rfl
theorem dc.pick (h:dc C fz pi at_ bV bb) ps:dc C fz pi at_ (lV bV ps) (lV bb ps):=by
  induction ps with
  |nil=>exact .nil
  |cons p ps ih=>
   rw[jU,jU]
   induction e:Internal.lk p bV with
   |none=>
    have:=h.lkN p
    rw[e] at this
    rw[show Internal.lk p bb=none from Option.isSome_eq_false_iff.mp this.symm|>aO.mp]
    exact ih
   |some V=>induction h.lk e with|mk v e' o=>exact e'▸(.cons _ _ _ _ _ o ih)
theorem sR (sl:List (Str×α)) ps:(lV sl ps).map (·.1)=ps.filter fun n=>(Internal.lk n sl).isSome:=by
  induction ps with
  |nil=>rfl
  |cons p ps ih=>
   rw[jU,List.filter_cons,←ih]
   induction Internal.lk p sl with
   |none=>rfl
   |some v=>rfl
theorem dc.kw {ps} {cV} {cb} (k:dc C fz pi at_ cV cb) (h:dc C fz pi at_ bV bb):Bm ps bV cV=true→Bm ps bb cb=true:=by
  induction k with
  |nil=>exact fun ζ=>rfl
  |cons x V v l l' _ k=>
   intro q
   have q:=aa.mp q
   induction k with
   |cons=>trivial
   |nil=>
    have q2:=aa.mp q.2
    rw[←l9] at q2
    show(true&&(ps.any _&&(Internal.lk x bb).isNone))=true
    rw[←l9,←(h.lkN x),q2.1,q2.2]
    rfl
theorem MQ {ps} {as dfl} {vs dv kvals} {kw} (ha:dc C fz pi at_ (ps.zip as) (ps.zip vs)) (hl:as.length=vs.length) (hd:aS C fz pi dfl dv) (hk:aS C fz pi (kw.map (·.2)) kvals) (h:dm ps as dfl kw=some bV):
    ∃b,dm ps vs dv ((kw.map (·.1)).zip kvals)=some b∧dc C fz pi at_ bV b:=
  bE h fun h1 h=>bE h fun h2 h=>by
    have k:=by
      have:=dc.zip (at_:=at_) hk (kw.map (·.1))
      rwa [show(kw.map _).zip _=kw from by rw[List.zip_map'];simp] at this
    have D:aS C fz pi (dfl.drop (dfl.length -ps.length)) (dv.drop (dv.length -ps.length)):=hd.len▸hd.drop _
    refine⟨_,?_,sm h▸((dc.zip D _).addD (ha.append k)).pick ps⟩
    unfold dm aM
    rw[←hl,(aa.mp h1).1,show Bm ps _ _=true from ?_]
    ·show Df _ _ _=_
     unfold Df
     simp only[←(ha.append k).lkN,←D.len]
     rw[h2];rfl
    ·exact k.kw ha (aa.mp h1).2
theorem A8 {x} {V:α} {l} (h:lk x l=some V):x∈l.map (·.1):=by
  rw[eR] at h
  exact bw.mpr ⟨_,mem_of_lookup h,rfl⟩
end
theorem nu:∀{Vs} {vs} {T},gC c.C W (bI Vs vs T)→gC c.C W T:=by
  intro Vs
  induction Vs with
  |nil=>exact fun h=>h
  |cons V Vs ih=>intro vs T h;induction vs with
   |nil=>exact h
   |cons v vs=>exact(ih h).2
theorem pC {at_}:∀{Vs} {vs} {T} {ps:List _},gC c.C W (bI Vs vs T)→(∀i p,ps[i]?=some p→at_ p=W.at (.tmp (T.len+i)))→Vs.length=vs.length→dc c.C W.G.fz W.pi at_ (ps.zip Vs) (ps.zip vs):=by
  intro Vs
  induction Vs with
  |nil=>intro vs T ps _ _ e;induction vs with
   |nil=>rw[kY,kY];exact .nil
   |cons=>trivial
  |cons V Vs ih=>intro vs T ps h ha e;cases vs with
   |nil=>trivial
   |cons v vs=>induction ps with
    |nil=>exact .nil
    |cons p ps=>
     refine .cons _ _ _ _ _ ?_ (ih h (fun i z hz=>?_) (Nat.succ.inj e))
     ·rw[ha 0 p rfl];exact(nu (T:=.more V v T) h).1
     ·rw[ha (i+1) z hz]
      show W.at _=W.at (.tmp (T.len+1+i))
      rw[bS,cA 1]
end
section
variable {c:aU} {b:Str→Option Value} {W:Wd} {α:Type} {V K:Internal.V} {v:Value} {n:Nat} {x y:Str} {m:d7 β} {R:α→β→St→Shared→Prop} {p q:Pl} {r:dN}
noncomputable def bC (Kr:Nat→Bool) (ps:List Str) (k:Nat):Pl→Option Pl
  |.tmp j=>aM (Nat.ble k j) ((ps[j -k]?).bind fun p=>some (.loc p))
  |.inst r=>aM (Kr r) (some (.inst r))
  |.attr r n=>aM (Kr r) (some (.attr r n))
  |_=>none
section
variable {ps:List Str} {k:Nat}
noncomputable def Ng (Kr:Nat→Bool) (ps:List Str) (k:Nat) (q:Pl) (p:Pl):Prop:=match q with
  |.loc x=>∃i,p=.tmp (k+i)∧ps[i]?=some x
  |.inst r=>Kr r=true∧p=.inst r
  |.attr r n=>Kr r=true∧p=.attr r n
  |_=>False
theorem jr (h:bC Kr ps k p=some q):Ng Kr ps k q p:=by
  induction p with
  |loc x=>exact aX h
  |frame=>exact aX h
  |inst r=>exact bE h fun hk h=>by have e:=sm h;subst e;trivial
  |attr r n=>exact bE h fun hk h=>by have e:=sm h;subst e;trivial
  |tmp j=>exact bE h fun hk h=>aG h fun x e h=>by have e:=sm h;subst e;exact⟨j -k,by rw[Nat.add_sub_cancel' (ag hk)],e⟩
theorem zs {i} (h:ps[i]?=some x):bC Kr ps k (.tmp (k+i))=some (.loc x):=by
  show aM _ _=_
  rw[iF (aA _ _),cm,h]
  rfl
theorem vY {r} (h:Kr r=true):bC Kr ps k (.inst r)=some (.inst r):=by
  show aM _ _=_
  rw[h];rfl
theorem vZ {r} {n} (h:Kr r=true):bC Kr ps k (.attr r n)=some (.attr r n):=by
  show aM _ _=_
  rw[h];rfl
theorem vX {i} (nd:ps.Nodup) (h:ps[i]?=some x) p' (g:bC Kr ps k p'=some (.loc x)):p'=.tmp (k+i):=
  (jr g).elim fun j z=>by rw[z.1,(List.getElem?_inj (cJ.mp h).1 nd).mp (h.trans z.2.symm)]
theorem t_ {r} p' (g:bC Kr ps k p'=some (.inst r)):p'=.inst r:=(jr g).2
theorem uc {r} {n} p' (g:bC Kr ps k p'=some (.attr r n)):p'=.attr r n:=(jr g).2
end
noncomputable def jf (env:Env) a:=a=env.locals∨∃x,env.kindOf x=some .cell∧env.cells.lookup x=some a
noncomputable def CX (o:Option Nat):List (Str×Value):=oC o (fun cc=>[(ae "__class__",.ref cc)]) []
theorem bH.mem {a} (h:bH c (W.mem S') a):bH c W a:=h.casesOn (fun p e=>.own p e) (fun o e=>.fz o e) (fun o e=>.ot o e) fun e=>.tb e
theorem aZ.h0 (x:aZ c s b T W):c.C.h₀.objs.size≤W.G.S.heap.objs.size:=(x.fits.own _ _ x.fr.own).ex.elim fun o e=>ac x.env.frn (aY (Heap.lt_size e))
structure df (c:aU) (s:St) (b0:Str→Option Value) (T:Tp) (args:List Internal.V) (vals:List Value) (W:Wd) (fi:FI) (fd:FuncData) (bV:List (Str×Internal.V)) (bb:List (Str×Value)) (env:Env) (S':Shared) (Kr:Nat→Bool):Prop where
  x:aZ c s b0 (bI args vals T) W
  en:rJ W.G.S fd bb env S'
  names:fd.scope.names=fi.names
  kind:fd.scope.kind=.function
  gl:fd.globals=mainGlobals
  bu:fd.builtins=builtinsNs
  clo:qb c.C fi fi.cls fd.closure
  pk:∀y∈fi.params,fi.names.lookup y=some .local∨fi.names.lookup y=some .cell
  nd:fi.params.Nodup
  nc:ae "__class__"∉fi.params
section
variable {vals:List Value} {bV:List (Str×Internal.V)} (e:df c s b0 T args vals W fi fd bV bb env S' Kr)
include e
theorem df.x1:aZ c s b0 (bI args vals T) (W.mem S'):=e.x.mem e.en.keep e.en.gens e.en.os
theorem df.fresh {a} (h:jf env a):W.hp a=none:=bP fun o q=>by
  have lt:=Heap.lt_size q
  have lt:=e.en.loc▸lt
  exact h.elim (fun h=>a9 _ (h▸lt)) fun h=>h.elim fun x h=>a9 _ (Nat.lt_trans lt (e.en.cells x a h.1 h.2).1)
theorem df.there {a} (h:jf env a):∃o,(W.mem S').hp a=some o:=h.elim (fun h=>h▸e.en.ns.elim fun m h=>h.1.elim fun o q=>q.elim fun es q=>q.elim fun ep q=>⟨o,q.1⟩) fun h=>h.elim fun x h=>(e.en.cells x a h.1 h.2).2
theorem df.fmc {a} (h:a∈bF (env::c.fl)):a∈bF c.fl∨jf env a:=by
  unfold bF at h
  rw[cF,e.en.frame] at h
  exact(aL.mp h).elim (fun h=>.inr (.inl h)) .inl
theorem df.fmu {a} (h:a∈bF c.fl):a∈bF (env::c.fl):=by
  unfold bF
  rw[cF,e.en.frame]
  exact aK _ h
theorem df.rel:p9 c (W.mem S') (jf env) (bC Kr fi.params T.len) (env::c.fl) where
  fits:=e.x1.fits
  new:=fun a h=>⟨e.there h,fun p=>e.x.fits.free (e.fresh h) p.mem⟩
  fr:=rfl
  nf:=fun p h=>jr h
  fun_:=⟨by rw[e.en.scope,e.kind];decide,e.en.ns.elim fun m h=>h.1.elim fun o q=>q.elim fun es q=>q.elim fun ep q=>⟨env.locals,o,e.en.frame,rfl,q.1,fun vs z=>by rw[q.2.1] at z;trivial⟩,e.x1.fits.fun_⟩
  fm:=fun a m=>e.fmc m
  up:=fun a m=>e.fmu m
  nw:=fun a m h=>e.x.fits.fmfree (e.fresh h) m
noncomputable def c_ (W:Wd) S' env f:=(W.mem S').lab (oY (jf env) f (W.mem S')) (u7 f (W.mem S'))
noncomputable def eB (c:aU) (W:Wd) S' env f (fi:FI) dp:=c.go (W.mem S') (fS f) (fun ζ=>none) env (env::c.fl) fi.names dp c.hd [] W.pi
theorem df.atL {i} (h:fi.params[i]?=some y):(c_ W S' env (bC Kr fi.params T.len)).at (.loc y)=(W.mem S').at (.tmp (T.len+i)):=e.rel.at_ (zs h) (vX e.nd h)
theorem df.bnd0 (hl:args.length=vals.length):dc c.C W.G.fz W.pi (fun y=>(c_ W S' env (bC Kr fi.params T.len)).at (.loc y)) (fi.params.zip args) (fi.params.zip vals):=pC (W:=W.mem S') e.x1.tm (fun i p h=>e.atL h) hl
end
theorem xF {C} {fz} {pi} {at_} o:dc C fz pi at_ (CW o) (CX o):=by
  induction o with
  |none=>exact .nil
  |some cc=>exact .cons _ _ _ _ _ (.rep _ _ (.glob cc)) .nil
theorem A9 {p:List (Str×α)} l:lk x (l++p)=oC (lk x l) some (lk x p):=by
  induction l with
  |nil=>rfl
  |cons q l ih=>
   rw[List.cons_append,cU,cU]
   induction bx _ x with
   |true=>rfl
   |false=>exact ih
theorem bM {V:α} {l} (h:lk x l=some V):(x,V)∈l:=mem_of_lookup ((eR x l).symm.trans h)
inductive DQ (C:Cf) (fi:FI) (clo:List (Str×Addr)) (y:Str) (v:Value):Prop
  |mk (cl:Addr) (oc:Obj):clo.lookup y=some cl→cl≠C.tb→C.h₀.get? cl=some oc→oc.data=.cell (some v)→fi.names.lookup y=some .free→DQ C fi clo y v
theorem I7 {z} {w V:α} (h:lk y [(z,w)]=some V):y=z∧V=w:=by
  rw[cU] at h
  induction q:bx z y with
  |true=>rw[q] at h;exact⟨(bp.mp q).symm,sm h⟩
  |false=>rw[q] at h;exact aX h
theorem CZ {C} {fi} {o} {clo} (h:qb C fi o clo):lk y (CX o)=some v→DQ C fi clo y v:=
  h.casesOn (fun h=>aX h) fun cc cl oc g1 g2 g3 g4 ζ h=>by
    obtain⟨rfl,rfl⟩:=I7 h
    exact⟨cl,oc,by rfl,g1,g2,g3,g4⟩
section
variable {vals:List Value} {bV:List (Str×Internal.V)} (e:df c s b0 T args vals W fi fd bV bb env S' Kr)
include e
theorem df.sim {dp} (hb:dc c.C W.G.fz W.pi (fun y=>(c_ W S' env (bC Kr fi.params T.len)).at (.loc y)) bV bb) (hp:∀y∈bV.map (·.1),y∈fi.params) (hrho:s1.rho=kU fi bV) (hsc:s1.sc=fi.names) (hdp:s1.dp=dp) (hhd:s1.hd=s.hd) (hou:s1.outs=[])
    (regs:∀r,(s1.reg r=s.reg r∧Kr r=true)∨s1.reg r=.taken∨(s1.reg r=.empty∧W.pi r=none)):aZ (eB c W S' env (bC Kr fi.params T.len) fi dp) s1 (fun y=>lk y (bb++CX fi.cls)) (.nil 0) (c_ W S' env (bC Kr fi.params T.len)):=by
  have kd:∀y,env.kindOf y=fi.names.lookup y:=fun y=>by unfold Env.kindOf;rw[e.en.scope,e.names]
  have fr:∀a,jf env a→(c_ W S' _ (bC Kr fi.params T.len)).own a=some _:=fun a h=>ni h
  exact{
    fits:=e.rel.given.fits e.x1.fits fun ζ ζ h=>h
    env:={
      sc:=fun y k h=>by
       have h:env.kindOf y=some k:=by rw[kd,←eR];exact h
       cases k<;>first|exact .inl h|trivial
      kind:=e.en.scope▸e.kind
      globals:=e.en.globals.trans e.gl
      builtins:=e.en.builtins.trans e.bu
      frn:=e.en.loc▸e.x.h0
      cdj:=e.en.apart}
    sc:=hsc
    dp:=hdp
    hd:=hhd.trans e.x.hd
    ou:=hou
    fr:={
     own:=fr _ (.inl rfl)
     cell:=fun y cl h1 h2=>have h1:=by rw[kd,←eR];exact h1
       ⟨fr _ (.inr ⟨y,h1,h2⟩),fun q=>a9 _ (q▸(e.en.cells y cl h1 h2).1)⟩
     ce:=fun y h=>e.en.ce y (by rw[kd,←eR];exact h)
     ns:=e.en.ns.imp fun m h=>⟨h.1,fun y v h2=>dE ((A9 _).symm.trans h2) (fun w h3 h4=>by
        have h5:=h.2 y w (bM h3)
        have e6:=sm h4
        subst e6
        unfold DS at h5
        split at h5
        ·exact .loc (by assumption) h5
        ·exact h5.elim fun cl h5=>.cell cl (by assumption) h5.1 h5.2 (fr _ (.inr ⟨y,by assumption,h5.1⟩))
        ·rename_i q
         rw[kd] at q
         exact(e.pk y (hp y (hb.names▸A8 h3))).elim (fun z=>nomatch z.symm.trans q) fun z=>nomatch z.symm.trans q
        trivial) fun h3=>(CZ e.clo h3).casesOn fun cl oc g1 g2 g3 g4 g5=>have k:=e.x.fits.ok.base _ _ g2 g3
        .free cl oc (.inl ((kd y).trans g5)) ((e.en.free y ((kd y).trans g5)).trans g1) ⟨oc,e.en.keep _ _ (e.x.fits.ok.sub _ _ k),g4⟩ (.inl k)⟩}
    nm:=fun y V h1 ζ=>(hb.append (xF fi.cls)).lk (by rw[hrho] at h1;exact h1)
    kn:=fun y V h1=>by
     show nI (lk y fi.names)=true
     rw[hrho] at h1
     rw[eR]
     exact dE ((A9 _).symm.trans h1) (fun w h3 ζ=>(e.pk y (hp y (A8 h3))).elim fun z=>by rw[z];rfl fun z=>by rw[z];rfl) fun h3=>by
       induction (xF (C:=c.C) (fz:=W.G.fz) (pi:=W.pi) (at_:=fun ζ=>W.at .frame) _).lk h3 with|mk w h4 _=>exact(CZ e.clo h4).casesOn fun ζ ζ ζ ζ ζ ζ g5=>by rw[g5];rfl
    rg:=fun r=>by
     refine(regs r).elim (fun h=>?_) fun h=>h.elim fun h=>by rw[h];trivial fun h=>by rw[h.1];exact h.2
     rw[h.1]
     exact fk.move e.x1.fits (cO.refl _) (fun ζ ζ e=>e) rfl (e.rel.at_ (vY h.2) t_) (fun n=>e.rel.at_ (vZ h.2) uc) (e.x1.rg r)
    tm:=trivial}
end
end
section
variable {c:aU} {b:Str→Option Value} {W:Wd} {V:Internal.V} {v:Value} {n k:Nat} {x y:Str} {p q:Pl} {P:Pl→Prop} {ex:Value}
theorem Kp.slots (f:bj c W) (hk:∀a o,bH c W a→a∉bF c.fl→W.hp a=some o→h'.get? a=some o) (hs:fj c.fl W.G.S.heap h'):Kp c W P (W.mem {W.G.S with heap:=h'}):=
  have tb:=fun m=>(f.fm _ m).1 rfl
  have fz:=fun a o e=>hk a o (.fz o e) (fun m=>aX ((f.fm a m).2.symm.trans e)) (f.ok.sub a o e)
  have up:=fun a o p e=>(Classical.em (a∈bF c.fl)).elim (fun m=>(hs a m o e).elim fun sl q=>.slots sl m q) fun m=>.same (hk a o p m e)
  have tbs:=f.ok.tbs.elim fun o e=>(hk _ o (.tb rfl) tb e).trans e.symm
  {fits:={
     ok:={sub:=fz,base:=f.ok.base,tbn:=f.ok.tbn,bare:=f.ok.bare,os:=f.ok.os,tbi:=by show c.C.tbI (h'.get? c.C.tb) _;rw[tbs];exact f.ok.tbi,tbs:=f.ok.tbs.imp fun o e=>tbs.trans e}
     le:=f.le
     ple:=f.ple
     own:=fun a p e=>have w:=f.own a p e
       w.ex.elim fun o q=>(up a o (.own p e) q).get.elim fun sl q=>⟨_,q,w.fzn,w.tbn,w.otn,w.fmn⟩
     ot:=fun a o e=>have w:=f.ot a o e
      ⟨by
        induction w.up with
        |same q=>exact up a o (.ot o e) q
        |slots sl m q=>exact(hs a m _ q).elim fun sl' q=>.slots sl' m q,w.fzn,w.tbn⟩
     gown:=f.gown
     gt:=f.gt
     fun_:=FunFrames.of (fun a m=>by
       obtain⟨_,o,e,nf⟩:=f.fun_.mem m
       exact(hs a m o e).elim fun sl q=>⟨_,q,nf⟩) f.fun_
     fm:=f.fm
     fo:=f.fo}
   le:=cO.refl _
   pi:=fun ζ ζ e=>e
   pir:=fun ζ ζ=>rfl
   at_:=fun q ζ hq=>gh (fun ζ=>.rfl) (fun ζ=>.rfl) (fun a e=>have w:=f.own a q e
     w.ex.elim fun o z=>(hk a o (.own q e) (fun m=>hq (w.fmn m)) z).trans z.symm) fun ζ ζ=>rfl
   fr:=fun ζ e=>e
   frh:=fun a o e q=>up a o (.own _ e) q}
noncomputable def fx (Kr:Nat→Bool) (k kt:Nat):Pl→Option Pl
  |.tmp j=>aM (decide (j=k)) (some (.tmp kt))
  |.inst r=>aM (Kr r) (some (.inst r))
  |.attr r n=>aM (Kr r) (some (.attr r n))
  |_=>none
noncomputable def ic (Kr:Nat→Bool) (kt:Nat):Pl→Option Pl
  |.tmp j=>aM (decide (j<kt)) (some (.tmp j))
  |.inst r=>aM (!Kr r) (some (.inst r))
  |.attr r n=>aM (!Kr r) (some (.attr r n))
  |p=>some p
section
variable {ps:List Str}
theorem ib (h:ic Kr kt p=some q):q=p:=by
  induction p with
  |tmp j=>exact bE h fun ζ h=>sm h
  |inst r=>exact bE h fun ζ h=>sm h
  |attr r n=>exact bE h fun ζ h=>sm h
  |loc=>exact sm h
  |frame=>exact sm h
theorem xe (h:ic Kr kt p=some q):¬fS (bC Kr ps kt) q:=fun g=>by
  have e:=ib h
  subst e
  induction q with
  |tmp j=>exact bE h fun hj ζ=>bE (fO g) fun hk ζ=>absurd (ag hk) (oJ (of_decide_eq_true hj))
  |inst r=>exact bE h fun hj ζ=>bE (fO g) fun hk ζ=>by rw[hk] at hj;exact bG hj
  |attr r n=>exact bE h fun hj ζ=>bE (fO g) fun hk ζ=>by rw[hk] at hj;exact bG hj
  |loc=>exact bG g
  |frame=>exact bG g
noncomputable def Nh (Kr:Nat→Bool) (k kt:Nat) (q p:Pl):Prop:=match q with
  |.tmp j=>j=kt∧p=.tmp k
  |.inst r=>Kr r=true∧p=.inst r
  |.attr r n=>Kr r=true∧p=.attr r n
  |_=>False
theorem eK (h:fx Kr k kt p=some q):Nh Kr k kt q p:=by
  induction p with
  |loc=>exact aX h
  |frame=>exact aX h
  |tmp j=>exact bE h fun hj h=>(by have e:=sm h;subst e;exact⟨rfl,congrArg _ (of_decide_eq_true hj)⟩)
  |inst r=>exact bE h fun hj h=>(by have e:=sm h;subst e;trivial)
  |attr r n=>exact bE h fun hj h=>(by have e:=sm h;subst e;trivial)
theorem zv (h:fx Kr k kt p=some q) {p'} (g:ic Kr kt p'=some q):False:=by
  have e:=ib g
  subst e
  have i:=eK h
  induction q with
  |loc=>exact i
  |frame=>exact i
  |tmp j=>exact bE g fun hj ζ=>absurd (of_decide_eq_true hj) (i.1▸a9 _)
  |inst r=>exact bE g fun hk ζ=>by rw[i.1] at hk;exact bG hk
  |attr r n=>exact bE g fun hk ζ=>by rw[i.1] at hk;exact bG hk
theorem MU (h:fx Kr k kt p=some .frame):False:=eK h
theorem KT (h:fx Kr k kt p=some q) p' (g:fx Kr k kt p'=some q):p'=p:=by
  have i:=eK h
  have j:=eK g
  induction q with
  |loc=>trivial
  |frame=>trivial
  |tmp=>exact j.2.trans i.2.symm
  |inst=>exact j.2.trans i.2.symm
  |attr=>exact j.2.trans i.2.symm
end
noncomputable def d8 (f g:Pl→Option Pl) (o3 o1:Option Pl):=AQ (o3.bind f) (o1.bind g)
noncomputable def dP (W1 W3:Wd) (f g:Pl→Option Pl) (pi4:Pi):Wd:={G:=W3.G,pi:=pi4,own:=fun a=>d8 f g (W3.own a) (W1.own a),gown:=fun k=>d8 f g (W3.gown k) (W1.gown k)}
section
variable {K:Pl→Prop} {xg:Nat→Option GenState} {hf:Pl→Option Pl} {dp:Nat} {hd:Bool} {outs:List Internal.V}
structure l_ (K:Pl→Prop) (bf hf:Pl→Option Pl):Prop where
  eq:∀{p q},hf p=some q→q=p
  no:∀{p q},hf p=some q→¬K q
  dj:∀{p q},bf p=some q→hf q=none
  fr:hf .frame=some .frame∨(K .frame∧bf .frame=some .frame∧∀p,bf p=some .frame→p=.frame)
theorem l_.hid (l:l_ K bf hf) {p'} (h:bf p=some q) (g:hf p'=some q):False:=by
  have e:=l.eq g
  subst e
  exact aX ((l.dj h).symm.trans g)
structure cH (c:aU) (W W3:Wd) (K:Pl→Prop) (xg:Nat→Option GenState) (N:Addr→Prop) (bf hf:Pl→Option Pl) (env:Env) (fl:List Env) (sc:List (Str×NameKind)) (dp:Nat) (hd:Bool) (outs:List Internal.V) (pi0:Pi) (own2:Addr→Option Pl) (gown2:Nat→Option Pl) (pi4:Pi):Prop where
  fits:bj c W
  g:iH c W K xg N fl own2 gown2
  x:bj (c.go W K xg env fl sc dp hd outs pi0) W3
  fun_:W3.G.S.heap.FunFrames {} c.fl
  lab:l_ K bf hf
  pi:dW W.pi pi4
  pn:∀r,hf (.inst r)=some (.inst r)→pi4 r=W.pi r
variable (e:cH c W W3 K xg N bf hf env fl sc dp hd outs pi0 own2 gown2 pi4)
theorem cZ {f g} {o3 o1} {R:Prop} (h:d8 f g o3 o1=some q) (h1:∀p,o3=some p→f p=some q→R) (h2:∀p,o1=some p→g p=some q→R):R:=
  nv h (fun h=>aG h h1) fun h=>aG h h2
include e
theorem cH.off {a} (h:W.own a=some q) (n:¬K q):W3.own a=none:=bP fun p h3=>(e.fits.own a q h).ex.elim fun o q'=>aX ((e.x.own a p h3).otn.symm.trans (da e.fits h n q'))
theorem cH.offg {j} (h:W.gown j=some q) (n:¬K q):W3.gown j=none:=bP fun p h3=>aX ((e.x.gown j p h3).2.symm.trans ((j6 e.fits h n (e.g.xno h n)).trans (Array.getElem?_eq_getElem (e.fits.gown j q h).1)))
theorem cH.hid (h:hf q=some q) {a}:d8 bf hf (W3.own a) (W.own a)=some q↔W.own a=some q:=
  ⟨fun g=>cZ g (fun p ζ h2=>(e.lab.hid h2 h).elim) fun p h1 h2=>e.lab.eq h2▸h1,fun g=>by rw[e.off g (e.lab.no h),g];exact h⟩
theorem cH.hidg (h:hf q=some q) {j}:d8 bf hf (W3.gown j) (W.gown j)=some q↔W.gown j=some q:=
  ⟨fun g=>cZ g (fun p ζ h2=>(e.lab.hid h2 h).elim) fun p h1 h2=>e.lab.eq h2▸h1,fun g=>by rw[e.offg g (e.lab.no h),g];exact h⟩
theorem cH.back:DT W W3 K xg (fun a=>d8 bf hf (W3.own a) (W.own a)) fun j=>d8 bf hf (W3.gown j) (W.gown j) where
  own:=fun a q h=>cZ h (fun p h1 h2=>.inl ⟨p,h1⟩) fun p h1 h2=>.inr ⟨e.lab.eq h2▸h1,e.lab.no h2⟩
  gown:=fun a q h=>cZ h (fun p h1 h2=>.inl ⟨p,h1⟩) fun p h1 h2=>.inr (.inl ⟨e.lab.eq h2▸h1,e.lab.no h2⟩)
theorem cH.giv (h:bf p=some q) (u:∀p',bf p'=some q→p'=p) {o3 o1}:d8 bf hf o3 o1=some q↔o3=some p:=
  ⟨fun g=>cZ g (fun p' h1 h2=>u p' h2▸h1) fun p' ζ h2=>(e.lab.hid h h2).elim,fun g=>by rw[g];show AQ (bf p) _=_;rw[h];rfl⟩
theorem cH.atG (h:bf p=some q) (u:∀p',bf p'=some q→p'=p):(dP W W3 bf hf pi4).at q=W3.at p:=
  gh (fun ζ=>e.giv h u) (fun ζ=>e.giv h u) (fun ζ ζ=>rfl) fun ζ ζ=>rfl
theorem cH.atH (h:hf q=some q) (hq:q≠.frame):(dP W W3 bf hf pi4).at q=W.at q:=
  DT.at_ e.g e.fits e.x (e.lab.no h) hq (fun ζ=>e.hid h) fun ζ=>e.hidg h
theorem cH.fits4:bj c (dP W W3 bf hf pi4):=e.back.fits e.g e.fits e.x e.fun_ (fun a m h=>e.lab.fr.elim (fun z=>(e.hid z).mpr h) fun z=>(e.giv z.2.1 z.2.2).mpr ((e.x.fo a (e.g.up a m)).elim id fun w=>w.elim fun o w=>(fL w).casesOn (fun q=>aX ((e.fits.own a _ h).otn.symm.trans q)) fun p q n ζ=>absurd (sm (q.symm.trans h)▸z.1) n))
  (fun a m p q h3 h4=>e.lab.fr.elim (fun z=>have no:=e.lab.no z;(e.fits.fo a m).elim (fun w=>(e.fits.own a _ w).ex.elim fun o q=>aX ((e.x.own a p h3).otn.symm.trans (da e.fits w no q))) fun w=>w.elim fun o q=>aX ((e.x.own a p h3).otn.symm.trans (dU q)))
    fun z=>cZ h4 (fun p' g1 g2=>by
      have e1:=(e.x.own a p' g1).fmn (e.g.up a m)
      subst e1
      exact sm (z.2.1.symm.trans g2)▸rfl) fun p' g1 g2=>by
      have e1:=e.lab.eq g2
      subst e1
      exact(e.fits.own a _ g1).fmn m) fun r a h=>e.pi r a (e.fits.ple r a h)
noncomputable def lN (hf:Pl→Option Pl) q:=hf q=none
theorem AT (n:¬lN hf q):hf q=some q:=by
  induction h:hf q with
  |none=>trivial
  |some p=>exact congrArg _ (e.lab.eq h)
theorem cH.kw:Kw c W (lN hf) (dP W W3 bf hf pi4) where
  fits:=e.fits4
  le:=e.x.le
  pi:=e.pi
  pir:=fun r n=>e.pn r (AT e n)
  at_:=fun q n hq=>e.atH (AT e n) hq
theorem cH.kp (hh:hf .frame=some .frame):Kp c W (lN hf) (dP W W3 bf hf pi4):=
  {e.kw with
   fr:=fun a h=>(e.hid hh).mpr h
   frh:=fun a o h1 h2=>have n:=e.lab.no hh
     (e.x.ot a o (da e.fits h1 n h2)).up.weak (e.g.off e.fits (da e.fits h1 n h2))}
end
section
variable {ps:List Str}
theorem xJ:l_ (fS (bC Kr ps kt)) (fx Kr k kt) (ic Kr kt) where
  eq:=ib
  no:=xe
  dj:=fun{p q} h=>bP fun p' g=>by
   have e:=ib g
   subst e
   exact zv h g
  fr:=.inl rfl
end
end
section
variable {c:aU} {b:Str→Option Value} {W:Wd} {V:Internal.V} {v ex:Value} {n k:Nat} {y:Str} {p q:Pl} {P:Pl→Prop} {α:Type}
section
variable {K:Pl→Prop} {xg:Nat→Option GenState} {dp:Nat} {hd:Bool} {outs:List Internal.V}
structure v8 (Kr:Nat→Bool) (s s3 s4:St):Prop where
  rho:s4.rho=s.rho
  sc:s4.sc=s.sc
  dp:s4.dp=s.dp
  hd:s4.hd=s.hd
  ou:s4.outs=s.outs
  reg:∀r,(Kr r=true∧s4.reg r=s3.reg r)∨(Kr r=false∧s4.reg r=s.reg r)∨s4.reg r=.taken
theorem cH.sim (e:cH c W W3 K xg N (fx Kr k T.len) (ic Kr T.len) env fl sc dp hd outs pi0 own2 gown2 pi4) (x:aZ c s b0 T W) (pk:∀r,Kr r=true→dW W3.pi pi4∧pi4 r=W3.pi r) (x3:∀r,fk c.C W3 r (s3.reg r)) (h:v8 Kr s s3 s4):aZ c s4 b0 T (dP W W3 (fx Kr k T.len) (ic Kr T.len) pi4) where
  fits:=e.fits4
  env:=x.env
  sc:=h.sc.trans x.sc
  dp:=h.dp.trans x.dp
  hd:=h.hd.trans x.hd
  ou:=h.ou.trans x.ou
  fr:=(e.kp rfl).frm e.fits x.fr
  nm:=fun y V h1 h2=>(e.kp rfl).hasV (fun z=>aX z.symm) Pl.noConfusion (x.nm y V (h.rho▸h1) h2)
  kn:=fun y V h1=>x.kn y V (h.rho▸h1)
  rg:=fun r=>(h.reg r).elim (fun z=>z.2▸fk.move e.x (cO.refl _) (pk r z.1).1 (pk r z.1).2 (e.atG (by show aM _ _=_;rw[z.1];rfl) fun ζ g=>(eK g).2) (fun n=>e.atG (by show aM _ _=_;rw[z.1];rfl) fun ζ g=>(eK g).2) (x3 r))
   fun z=>z.elim (fun z=>z.2▸(e.kp rfl).slot e.fits (fun q=>by
       have:aM _ _=none:=q
       rw[z.1] at this;trivial) (fun n q=>by
       have:aM _ _=none:=q
       rw[z.1] at this;trivial) (x.rg r)) fun z=>z▸trivial
  tm:=(e.kp rfl).tmps (fun j hj q=>by
   have:aM _ _=none:=q
   rw[decide_eq_true hj] at this;contradiction) x.tm
theorem cH.val (e:cH c W W3 K xg N (fx Kr k T.len) (ic Kr T.len) env fl sc dp hd outs pi0 own2 gown2 pi4) (o:gI c.C W3.G.fz pi4 (W3.at (.tmp k)) V v):gI c.C W3.G.fz pi4 ((dP W W3 (fx Kr k T.len) (ic Kr T.len) pi4).at (.tmp T.len)) V v:=by
  rw[e.atG (q:=.tmp _) (by show aM _ _=_;rw[decide_eq_true rfl];rfl) fun p' g=>(eK g).2]
  exact o
end
noncomputable def Zs {Sh:Type} (At_:(Str→Option Value)→Tp→St→Sh→Prop) (Z:(Str→Option _)→Tp→α→β→Prop) a v s S:=∃b T,Z b T a v∧At_ b T s S
noncomputable def Zx (T:Tp) (_:Str→Option Value) (T':Tp) (fl:Fl) (f:Flow):Prop:=match fl with
  |.next=>f=.next∧T'=T
  |.brk=>f=.brk∧T'=T
  |.cont=>f=.cont∧T'=T
  |.ret V=>∃v k,f=.ret v∧T'=.more V v (.nil k)
noncomputable def PX c T:=Zs (a_ c) (Zx T)
structure eZ (c:aU):Prop where
  fl:∃outer,c.fl=c.env::outer
  frame:c.env.frame=some c.env.locals
noncomputable def jk C (env:Env):=∃a,env.func=some a∧Dv C a env.code∧env.scope.names.lookup (ae "super")=some .globalImplicit∧env.scope.names.lookup (ae "__class__")=some .free
noncomputable def wpB (c:aU) (A:Around) (b0:List Stmt) (body:List Stmt):d7 Flow:=fun Q E=>_root_.PySem.wpAt c.C.M A (.func b0 c.env) (execs body c.env) Q E
noncomputable def MY PP n (ex:List _→Tr Fl):=∀body b0 c b k A s,lr 90 body=true→eZ c→(jD body=true→jk c.C c.env)→(jG body=true→o8 c.C c.env.code)→GE PP n c A→J (pm c) (a_ c b (.nil k) s) s (ex body) (wpB c A b0 body) (PX c (.nil k))
theorem bZ.fr {c2} {f} {g} {hg} {X} {R:α→β→St→Shared→Prop} {β'} {R2:α→β'→St→Shared→Prop} {Q} {E E'} {Q'} (a:bZ (pm c) R Q E ((pX f g hg X).run s)) (ho:∀s',(g s s').ob=s'.ob)
    (h1:∀a s',(∀v S,R a v (g s s') S→Q v S)→∀v S,R2 a v s' S→Q' v S) (h2:∀k s',(∀v S,oV c k v (g s s') S→E v S)→∀v S,oV c2 k v s' S→E' v S):bZ (pm c2) R2 Q' E' (X.run (f s)):=by
  revert a
  show bZ _ R Q E (match X.run _ with|.ok a s'=>.ok a _|.err c v s'=>.err c v _|.stuck w=>.stuck w)→_
  induction X.run _ with
  |ok a s'=>exact fun a=>⟨(ho s').symm.trans a.1,h1 _ s' a.2⟩
  |err k v s'=>exact fun a=>⟨(ho s').symm.trans a.1,h2 k s' a.2⟩
  |stuck=>exact id
noncomputable def uE:Flow→Value
  |.ret v=>v
  |_=>.none
section
variable {vals:List Value} {bV:List (Str×Internal.V)} {kw:List (Str×Internal.V)} {a:Nat}
theorem fA.in0 {C} {G} (ok:fA C G):D7 C G.S.heap:=fun b o n e=>ok.sub _ _ (ok.base b o n e)
theorem All.nolim {C} {G} (H:All C) (ok:fA C G):G.S.heap.NoLimit:=H.lim.at fun o e=>ok.sub _ _ (ok.base _ _ H.glt.2.2 e)
structure k8 (c:aU) (s:St) (b0:Str→Option Value) (T:Tp) (args:List Internal.V) (vals:List Value) (W:Wd) (fi:FI) (bV:List (Str×Internal.V)) (a:Nat) (fd:FuncData) (bb:List (Str×Value)) (env:Env) (S':Shared):Prop where
  e:∀Kr,df c s b0 T args vals W fi fd bV bb env S' Kr
  bnd:∀Kr,dc c.C W.G.fz W.pi (fun y=>(c_ W S' env (bC Kr fi.params T.len)).at (.loc y)) bV bb
  inp:∀y∈bV.map (·.1),y∈fi.params
  func:env.func=some a
  code:env.code=fd.code
  at_:∃o,c.C.h₀.get? a=some o∧o.data=.func fd
theorem dc.cong {C} {fz} {pi} {at_ at'} {bb} (h:dc C fz pi at_ bV bb):(∀y∈bV.map (·.1),at_ y=at' y)→dc C fz pi at' bV bb:=by
  induction h with
  |nil=>exact fun ζ=>.nil
  |cons x V v l l' o _ ih=>exact fun g=>.cons _ _ _ _ _ (g x bA▸o) (ih fun y m=>g y (aK _ m))
theorem uk {ps} {as dfl:List α} {kw} {b} (h:dm ps as dfl kw=some b):∃p,b.map (·.1)=ps.filter p:=
  bE h fun ζ h=>bE h fun ζ h=>⟨_,by rw[sm h];exact sR _ ps⟩
variable (hfi:c.C.P.fn a=some fi) (x:aZ c s b0 (bI args vals T) W) (hroom:A.depth<recursionLimit) (hl:args.length=vals.length) (hk:aS c.C W.G.fz W.pi (kw.map (·.2)) kvals) (hb:dm fi.params args fi.dflts kw=some bV) {R:Result→Shared→Prop}
include hfi x hl hk hb
theorem rV {o} {fd} (I:M_ c.C a fi o fd) {qual} {K} {E} (hR:∀env S' bb,k8 c s b0 T args vals W fi bV a fd bb env S'→rJ W.G.S fd bb env S'→K env S'):wpAny c.C.M A (bindArgs fd ⟨vals,(kw.map (·.1)).zip kvals⟩) (fun bb S=>wpAny c.C.M A (newFunctionEnv fd.scope fd.globals fd.closure bb qual (some a) fd.code none fd.builtins) K E S) E W.G.S:=by
  have F:=c.H.fn a fi hfi
  induction I.dfl with|mk dv h1 h2=>
  have rO:∀i p,fi.params[i]?=some p→fi.params.idxOf p=i:=fun i p h=>by
    rw[←(cJ.mp h).2]
    exact I.par.nd.idxOf_getElem i _
  obtain⟨bb,hb2,hbz⟩:=MQ (pC (at_:=fun y=>W.at (.tmp (T.len+fi.params.idxOf y))) x.tm fun i p h=>by rw[rO i p h] hl) hl ((h2 _ x.fits.ok.base).mono (cO.refl _) (dW.of_none _)) hk hb
  obtain⟨pf,nm⟩:=uk hb
  have inp:∀y∈bV.map _,y∈fi.params:=fun y m=>by rw[nm] at m;exact(List.mem_filter.mp m).1
  refine l6 I.par (h1.casesOn (motive:=fun d dv ζ=>(d=.none∧dv=[])∨∃T o n,d=.ref T∧W.G.S.heap.get? T=some o∧o.data=.seq dv.toArray n) (.inl ⟨rfl,rfl⟩) fun T o n dv g1 g2 g3=>.inr ⟨T,o,n,rfl,x.fits.ok.in0 _ _ g1 g2,g3⟩) hb2 (pa I.kind (by rw[←hbz.names,nm];exact I.par.nd.filter _) (I.names▸F.nn) (fun y hy=>by rw[I.names];exact F.pk y (inp y (hbz.names▸hy))) (I.names▸I.clo.casesOn (.inl rfl) fun ζ ζ ζ ζ ζ ζ ζ h=>.inr h) fun env S' en hfn=>hR _ S' bb ?_ en)
  have e:∀Kr,df c s b0 T _ _ W fi fd bV bb _ S' Kr:=fun Kr=>⟨x,en,I.names,I.kind,I.gl,I.bu,I.clo,F.pk,I.par.nd,F.nc⟩
  exact⟨e,fun Kr=>hbz.cong fun y m=>by
    obtain⟨i,h⟩:=(List.getElem?_of_mem (inp y m))
    rw[(e Kr).atL h,rO i y h]
    exact((Kp.mem (P:=fun ζ=>False) x.fits en.keep en.gens en.os).at_ _ id Pl.noConfusion).symm,inp,hfn,en.code,o,I.at_,I.data⟩
theorem rP (hg:fi.gen=false) (hroom:A.depth<recursionLimit) {R} (hR:∀env S' fd bb,k8 c s b0 T args vals W fi bV a fd bb env S'→
      _root_.PySem.wpAt c.C.M (A.deeper env) (.func fi.body env) (execs fi.body env) (fun f s'=>R (.ok (.ret (uE f))) s') (fun e s'=>wpAny c.C.M (A.deeper env) (leaving env e) (fun ζ s''=>R (.error e) s'') (fun e' s''=>R (.error e') s'') s') S'):
    codeAny c.C.M A (.call (.ref a) ⟨vals,(kw.map (·.1)).zip kvals⟩) R W.G.S:=by
  induction (c.H.fn a fi hfi).is with|mk o fd I=>
  have ok:=x.fits.ok
  exact codeAny_call_function hroom (ok.in0 _ _ I.tb I.at_) I.data I.co (I.gen.trans hg) I.body (I.code _ ok.in0) (rV hfi x hl hk hb I fun env S' bb F en=>⟨(c.H.nolim ok).keeps en.keep,ks_codeAny_funcAt (hR _ S' fd bb F)⟩)
end
end
section
variable {c:aU} {b:Str→Option Value} {W:Wd} {V:Internal.V} {v ex:Value} {n k:Nat} {y:Str} {p q:Pl} {P:Pl→Prop} {α:Type}
section
variable {K:Pl→Prop} {xg:Nat→Option GenState} {hf:Pl→Option Pl} {dp:Nat} {hd:Bool} {outs:List Internal.V}
theorem cH.prot (e:cH c W W3 K xg N bf hf env fl sc dp hd outs pi0 own2 gown2 pi4) (h:bH c (dP W W3 bf hf pi4) a):bH (c.go W K xg env fl sc dp hd outs pi0) W3 a∧(a∈bF fl→a∉bF c.fl→W3.own a=some .frame):=
  h.casesOn (fun p h=>cZ h (fun p h1 h2=>⟨.own p h1,fun m ζ=>(e.x.own a p h1).fmn m▸h1⟩) fun p h1 h2=>(e.fits.own a p h1).ex.elim fun o z=>have n:=e.lab.eq h2▸e.lab.no h2
      have w:=da e.fits h1 n z
      ⟨.ot o w,fun m n=>absurd (e.g.off e.fits w m) n⟩) (fun o h=>⟨.fz o h,fun m=>aX ((e.x.fm a m).2.symm.trans h)⟩) (fun o h=>⟨.ot o (dU h),fun m n=>absurd (e.g.off e.fits (dU h) m) n⟩) fun h=>⟨.tb h,fun m=>absurd h (e.x.fm a m).1⟩
theorem cH.exc (x:bj (c.go W K xg env fl sc dp hd outs pi0) W3) {e} {base} {dx} (hn:¬bH (c.go W K xg env fl sc dp hd outs pi0) W3 e) (hst:∀a o,bH (c.go W K xg env fl sc dp hd outs pi0) W3 a→a∉bF fl→W3.hp a=some o→base.get? a=some o) (hk:kk=1∨kk=2)
    (hin:G8 base c.fl e (ig c.C.P kk) dx h') (nf:bf .frame=none) (l:cH c W (W3.mem {W3.G.S with heap:=h'}) K xg N bf hf env fl sc dp hd outs pi0 own2 gown2 pi4):D8 c (dP W (W3.mem {W3.G.S with heap:=h'}) bf hf pi4) kk (.ref e):=
  .mk e _ dx hin (fun h=>hn (l.prot h).1.mem) (fun a o h m z=>have w:=l.prot h
    have nfl:=fun q=>by
      have f3:=w.2 q m
      refine h.casesOn (fun p h=>cZ h (fun p h1 h2=>?_) fun p h1 h2=>?_) (fun o h=>aX ((l.x.fm a q).2.symm.trans h)) (fun o h=>m (l.g.off l.fits (dU h) q)) fun h=>(l.x.fm a q).1 h
      ·have e:=Option.some.inj (h1.symm.trans f3)
       subst e
       exact aX (nf.symm.trans h2)
      ·exact(l.fits.own a p h1).ex.elim fun o z=>m (l.g.off l.fits (da l.fits h1 (l.lab.eq h2▸l.lab.no h2) z) q)
    (bH.get x w.1.mem).elim fun o3 z3=>have b:=hst a o3 w.1.mem nfl z3
      (hin.stays a o3 b).symm.trans z▸b) hk
end
theorem aZ.popL {args} {vals} (x:aZ c s b (bI args vals T) W):aZ c s b T W:={x with tm:=nu x.tm}
theorem aZ.nil (x:aZ c s b T W):aZ c s b (.nil k) W:={x with tm:=trivial}
noncomputable def gV:Nat→Bool:=fun ζ=>true
section
variable {vals:List Value} {bV:List (Str×Internal.V)} {dp:Nat}
theorem df.leave (e:df c s b0 T args vals W fi fd bV bb env S' Kr) (x:aZ (eB c W S' env (bC Kr fi.params T.len) fi dp) s3 b3 T3 W3) (pi:dW W.pi pi4) (pn:∀r,Kr r=false→pi4 r=W.pi r):
    cH c (W.mem S') W3 (fS (bC Kr fi.params T.len)) (fun ζ=>none) (jf env) (fx Kr k T.len) (ic Kr T.len) env (env::c.fl) fi.names dp c.hd [] W.pi (oY (jf env) (bC Kr fi.params T.len) (W.mem S')) (u7 (bC Kr fi.params T.len) (W.mem S')) pi4:=
  ⟨e.x1.fits,e.rel.given,x.fits,x.fits.fun_.2.2,xJ,pi,fun r h=>pn r (by
    induction q:Kr r with
    |false=>rfl
    |true=>exact bE h fun z ζ=>by rw[q] at z;exact bG z)⟩
theorem df.leaveK (e:df c s b0 T args vals W fi fd bV bb env S' gV) (x:aZ (eB c W S' env (bC gV fi.params T.len) fi dp) s3 b3 T3 W3):
    cH c (W.mem S') W3 (fS (bC gV fi.params T.len)) (fun ζ=>none) (jf env) (fx gV k T.len) (ic gV T.len) env (env::c.fl) fi.names dp c.hd [] W.pi (oY (jf env) (bC gV fi.params T.len) (W.mem S')) (u7 (bC gV fi.params T.len) (W.mem S')) W3.pi:=
  e.leave x x.fits.ple fun ζ h=>bG h.symm
theorem v5 s s' k:(eJ s s').reg k=s'.reg k:=by rfl
theorem vT fi bV dp s k:(fh fi bV dp s).reg k=s.reg k:=by rfl
theorem xM (e:df c s b0 T args vals W fi fd bV bb env S' gV) (x:aZ (eB c W S' env (bC gV fi.params T.len) fi dp) s3 b3 T3 W3):v8 gV s s3 (eJ s s3):=⟨rfl,rfl,rfl,x.hd.trans e.x.hd.symm,rfl,fun r=>.inl ⟨rfl,rfl⟩⟩
theorem df.ret (e:df c s b0 T args vals W fi fd bV bb env S' gV) (x:aZ (eB c W S' env (bC gV fi.params T.len) fi dp) s3 b3 (.more V v (.nil k)) W3):a_ c b0 (.more V v T) (eJ s s3) W3.G.S:=
  have l:=e.leaveK x
  .of ((l.sim e.x1.popL (fun ζ ζ=>⟨fun ζ ζ h=>h,rfl⟩) x.rg (xM e x)).push (l.val x.tm.1)) rfl
theorem df.exc (e:df c s b0 T args vals W fi fd bV bb env S' gV) (hfr:A.frames=some c.fl) (h:oV (eB c W S' env (bC gV fi.params T.len) fi dp) kk ex s3 S) {Q:Value→Shared→Prop} {E'} (k:∀v S,oV c kk v (eJ s s3) S→Q v S):wpAny c.C.M (A.deeper env) (leaving env ex) (fun ζ S=>Q ex S) E' S:=by
  induction h with|mk W3 b3 x hx=>
  induction hx with|mk e0 base dx hin hn hst hk=>
  refine mQ (show A.frames.map _=some _ by rw[hfr];rfl) e.en.frame hin fun h' i1 i2 i3=>?_
  have x':=(Kp.slots (P:=fun ζ=>False) x.fits (fun a o p m z=>i1.stays a o (hst a o p m z)) i3).sim x (fun ζ=>id) (fun ζ=>id) (fun ζ ζ=>id) fun ζ ζ=>id
  have l:=e.leaveK (k:=0) x'
  exact k _ _ (.mk _ b0 (l.sim e.x1.popL (fun ζ ζ=>⟨fun ζ ζ h=>h,rfl⟩) x'.rg (xM e x')).nil (cH.exc x.fits hn hst hk i1 rfl l))
end
end
section
variable {c:aU} {b:Str→Option Value} {W:Wd} {V:Internal.V} {v ex:Value} {n k:Nat} {y:Str} {α:Type} {X:Tr α} {m:d7 β} {R:α→β→St→Shared→Prop}
theorem HS:True:=trivial
structure GQ (PP:PT) (c:aU) (A:Around):Prop where
  pt:c.C.P=PP
  hd:c.hd=false→A.handled=none
  dep:A.depth+4*c.dp+27≤900
  un:A.units+400*c.dp+363≤9800
  fr:A.frames=some c.fl
theorem GE.q (g:GE PP n c A):GQ PP c A:=⟨g.pt,g.hd,by have:=g.dep;lia,by have:=g.un;omega,g.fr⟩
noncomputable def O7 (Q:Value→Shared→Prop) (E:Value→Shared→Prop) (r:Result) (S:Shared):=match r with
  |.ok (.ret v)=>Q v S
  |.ok _=>False
  |.error e=>E e S
noncomputable def gS (c:aU) (A:Around) (fv:Value) (vals:List Value) (kw:List (Str×Internal.V)) (kvals:List Value):d7 Value:=fun Q E=>codeAny c.C.M A (.call fv ⟨vals,(kw.map (·.1)).zip kvals⟩) (O7 Q E)
noncomputable def PR c V v s S:=∃b k,a_ c b (.more V v (.nil k)) s S
theorem IM {fl} {f}:J (pm c) (PX c (.nil k) fl f s) s (rT (iI fl)) (nA (uE f)) (PR c):=by
  have no:∀{S b},a_ c b (.nil k) s S→a_ c b _ s S:=fun h=>h.casesOn fun W x=>⟨W,x.push (.rep _ _ .none)⟩
  refine fun S Q E i a=>i.elim fun b i=>i.elim fun T' i=>?_
  obtain⟨z,j⟩:=i
  revert z
  induction fl with
  |next=>exact fun z=>z.1▸a.2 _ _ ⟨b,k,no (z.2▸j)⟩
  |brk=>exact fun z=>z.1▸a.2 _ _ ⟨b,k,no (z.2▸j)⟩
  |cont=>exact fun z=>z.1▸a.2 _ _ ⟨b,k,no (z.2▸j)⟩
  |ret V=>exact fun z=>z.elim fun v z=>z.elim fun k z=>z.1▸a.2 _ _ ⟨b,k,z.2▸j⟩
section
variable {ex:List Stmt→Tr Fl} {a:Nat}
theorem Cc {bb} {fd} {bV} {args} {vals} {env} (hfi:c.C.P.fn a=some fi) (F:k8 c s b0 T args vals W fi bV a fd bb env S'):(jD fi.body=true→jk c.C env)∧(jG fi.body=true→o8 c.C env.code):=
  have one:∀{p},oO _ a p→p _:=fun h=>by
    obtain⟨o,fd',q1,q2,q3⟩:=h
    obtain⟨o',q4,q5⟩:=F.at_
    cases q1.symm.trans q4
    cases q2.symm.trans q5
    rw[F.code];exact q3
  ⟨fun h=>have w:=c.H.fsup a fi hfi h
    have e:=F.e gV
    have n:env.scope.names=fi.names:=by rw[e.en.scope,e.names]
    ⟨a,F.func,one w.1,n.symm▸w.2.1,n.symm▸w.2.2⟩,fun h=>one (c.H.fgx a fi hfi h)⟩
theorem GQ.deeper {dp} {env} {f} (g:GQ PP c A) (hdp:c.dp=dp+1) (hh:c.hd=false):GE PP 90 (eB c W S' env f fi dp) (A.deeper env):=
  have gd:=g.dep
  have gu:=g.un
  ⟨g.pt,fun ζ=>g.hd hh,by show A.depth+1+4*dp+30≤900;lia,by show A.units+3+4*90+400*dp+400≤9800;lia,by
    show A.frames.map _=_
    rw[g.fr];rfl⟩
theorem zr (hex:MY PP 90 ex) (hfi:PP.fn a=some fi) (hg:fi.gen=false) {args} {kw} {vals kvals} (ge:GQ PP c A) (hh:c.hd=false):J (pm c) (bO c b0 T (.glob a) (.ref a) args vals kw kvals s) s (eH ex fi args kw) (gS c A (.ref a) vals kw kvals) (PV c b0 T):=
  .opt fun bV hb=>by
    refine hg▸.look (.dp fun dp hdp=>fun S Q E i z=>?_)
    induction i with|mk W x r hk hl=>
    have hfi:=ge.pt▸hfi
    have gd:=ge.dep
    refine rP hfi x hl hk hb hg (by unfold recursionLimit;omega) fun env S' fd bb F=>?_
    have e:=F.e gV
    exact ((hex _ _ _ _ 0 _ _ ((c.H.fn a fi hfi).noY hg) ⟨⟨c.fl,rfl⟩,e.en.frame⟩ (Cc hfi F).1 (Cc hfi F).2 (ge.deeper (x.dp.symm.trans hdp) hh)).bind fun fl f s3=>IM) S' Q _ ⟨_,(e.sim (s1:=fh fi bV dp s) (F.bnd gV) F.inp rfl rfl rfl rfl rfl fun r=>.inl ⟨rfl,rfl⟩)⟩ (z.fr (fun ζ=>rfl) (fun V s3 k v S q=>k v S (by
      obtain⟨b3,k3,q⟩:=q
      induction q with|mk W3 x3=>exact e.ret x3)) fun kk s3 k v S q=>e.exc ge.fr q k)
theorem rU {Q} {E} {fv} {vals kvals} {kw} (h:gS c A fv vals kw kvals Q E S):fB c A fv vals kw kvals Q E S:=
  wpAny_call (codeAny_mono h fun r s' z=>by trivial)
end
end
section
variable {c:aU} {b:Str→Option Value} {W W1:Wd} {V:Internal.V} {v ex:Value} {n k e:Nat} {y:Str} {α:Type} {C:Cf} {kM:List Env} {ot:eC} {fz0:Fz} {outs:List Internal.V} {P:End→Shared→Prop}
theorem SegX.wrap {m:Sem α} {K} {H} {gd lv} (h:wpAny C.M (A.over code fs) m (fun a s'=>SegX C.M A code (K a) fs s' P) (fun x s'=>SegX C.M A code (H x) fs s' P) S):SegX C.M A code (m.wrap K H gd lv) fs S P:=by
  rintro Γ p rfl hΓ
  obtain⟨e,s',hr,hq⟩:=runs_wrap_of_wp K H gd lv m (h _ p (hΓ.over fs)) (fun a p' s' h'=>h' Γ p' rfl hΓ) fun x p' s' h'=>h' Γ p' rfl hΓ
  exact⟨e,s',hr,hq⟩
theorem SegX.bindw {m} {f:α→Sem β} {K} {H} {gd lv} (h:wpAny C.M (A.over code fs) m (fun a s'=>SegX C.M A code ((f a).wrap K H gd lv) fs s' P) (fun x s'=>SegX C.M A code (H x) fs s' P) S):
    SegX C.M A code ((m>>=f).wrap K H gd lv) fs S P:=by
  rw[Sem.bind_eq_wrap',Sem.wrap_wrap]
  exact SegX.wrap h
theorem SegX.at_ {p'} {k} (h:SegX C.M A code (k ()) fs S P):SegX C.M A code (.at p' k) fs S P:=
  SegX.wrap (H:=.raise) (gd:=id) (lv:=id) (wpAny_standAt h)
structure lP (env:Env) (code:Code) (fs:List Frame):Prop where
  mkr:∀x,(marksOver fs (x,x)).1=x
  cnt:frameCount (fs.map Frame.where_)+code.weight=1
  un:unitsOf (fs.map Frame.where_)+code.cUnits=3
  envs:code.envs++envsOf (fs.map Frame.where_)=[env]
  sp:splitAtGen fs=none
  gd:fs.any Frame.guarded=false
theorem lP.func body env:lP env (.func body env) []:=⟨fun ζ=>rfl,rfl,rfl,rfl,rfl,rfl⟩
theorem lP.push (x:lP env code fs) k l p kp code' (h1:code'.weight=0) (h2:code'.cUnits=0) (h3:code'.envs=[]):lP env code' (.ret k none false l code p kp::fs) where
  mkr:=fun y=>x.mkr y
  cnt:=by
    rw[cw, frameCount_cons,h1,Nat.add_zero,cA];exact x.cnt
  un:=by
   rw[cw, unitsOf_cons,h2,Nat.add_zero,cA];exact x.un
  envs:=by
    rw[cw, envsOf_cons,h3];exact x.envs
  sp:=by simp only[splitAtGen,x.sp];rfl
  gd:=by rw[iM,x.gd];rfl
structure GB (d:Nat) (A:Around) (fl:List Env):Prop where
  hd:A.handled=none
  dep:A.depth+4*d+32≤900
  un:A.units+400*d+770≤9800
  fr:A.frames=some fl
theorem lP.over (x:lP c.env code fs) (g:GB c.dp A kM) (hp:c.C.P=PP) (hf:c.fl=c.env::kM):GE PP 90 c (A.over code fs) where
  pt:=hp
  hd:=fun ζ=>(x.mkr _).trans g.hd
  dep:=by
    show A.depth+frameCount _+code.weight+4*c.dp+30≤900
    have:=x.cnt
    have:=g.dep
    lia
  un:=by
   show A.units+unitsOf _+code.cUnits+4*90+400*c.dp+400≤9800
   have:=x.un
   have:=g.un
   lia
  fr:=by
   show pushEnvs _ _=some _
   rw[g.fr,pushEnvs_eq,pushEnvs_eq,hf]
   simp only[Option.map_some]
   rw[←am,x.envs]
   rfl
noncomputable def aU.re (c:aU) kM ot fz0 pi0 outs:={c with fl:=c.env::kM,ot:=ot,fz0:=fz0,pi0:=pi0,outs:=outs}
structure fu (c:aU):Prop where
  frame:c.env.frame=some c.env.locals
  co:c.env.scope.isCoroutine=false
  free:∀x cl,H6 c x→c.env.cells.lookup x=some cl→cl≠c.C.tb∧∃o,c.C.h₀.get? cl=some o
  hd:c.hd=false
theorem fu.re (g:fu c):fu (c.re kM ot fz0 pi0 outs):=⟨g.frame,g.co,g.free,g.hd⟩
theorem AP s o k:(ve s o).reg k=s.reg k:=by rfl
theorem aZ.wake (x:aZ c s b T W) (ho:s1=ve s outs) (g:fu c) (f:bj (c.re kM ot fz0 pi0 outs) W1) (le:cO W.G.fz W1.G.fz) (hp:W1.pi=W.pi) (ha:∀q,W1.at q=W.at q):aZ (c.re kM ot fz0 pi0 outs) s1 b T W1:=ho▸
  have mv:∀{a p},W.own a=some p→W1.own a=some p∧W1.hp a=W.hp a:=fun h=>x.fits.move (ha _) h
  have ow:∀{V v q},gI _ _ _ (W.at q) V v→gI c.C _ _ _ V v:=fun h=>by
    rw[ha,hp];exact h.mono le fun ζ ζ h=>h
  {fits:=f
   env:=⟨x.env.sc,x.env.kind,x.env.globals,x.env.builtins,x.env.frn,x.env.cdj⟩
   sc:=x.sc
   dp:=x.dp
   hd:=x.hd
   ou:=rfl
   fr:={
    own:=(mv x.fr.own).1
    cell:=fun y cl h1 h2=>⟨(mv (x.fr.cell y cl h1 h2).1).1,(x.fr.cell y cl h1 h2).2⟩
    ce:=fun y h=>(x.fr.ce y h).elim fun cl z=>z.elim fun v z=>⟨cl,v,z.1,z.2.elim fun o q=>⟨o,(mv (x.fr.cell y cl h z.1).1).2.trans q.1,q.2⟩⟩
    ns:=x.fr.ns.imp fun m h=>⟨h.1.elim fun o q=>q.elim fun es q=>q.elim fun ep q=>⟨o,es,ep,(mv x.fr.own).2.trans q.1,q.2⟩,fun y v e=>(h.2 y v e).casesOn (fun q1 q2=>.loc q1 q2) (fun cl q1 q2 q3 q4=>.cell cl q1 q2 (q3.elim fun o z=>⟨o,(mv q4).2.trans z.1,z.2⟩) (mv q4).1)
     fun cl o q1 q2 q3 ζ=>(g.free y cl q1 q2).2.elim fun o z=>have k:=x.fits.ok.base cl o (g.free y cl q1 q2).1 z
       .free cl o q1 q2 (q3.elim fun o' w=>⟨o',(f.ok.sub _ _ (le _ _ k)).trans ((x.fits.ok.sub _ _ k).symm.trans w.1),w.2⟩) (.inl (le _ _ k))⟩}
   nm:=fun y V h1 h2=>(x.nm y V h1 h2).casesOn fun v e o=>⟨v,e,ow o⟩
   kn:=x.kn
   rg:=fun r=>AP s _ r▸(x.rg r).move x.fits le (fun r a h=>hp▸h) (hp▸rfl) (ha _) fun ζ=>ha _
   tm:=by
    have t:=x.tm
    revert t
    induction T with
    |nil=>exact fun ζ=>trivial
    |more V v T ih=>exact fun t=>⟨ow t.1,ih x.pop t.2⟩}
end
section
structure iw where
  Sh:Type
  Pc:Type
  env:Env
  md:Md Sh
  At:(Str→Option Value)→Tp→St→Sh→Prop
  run:{α:Type}→Pc→Sem α→jC Sh α
variable {M:iw} {α:Type} {b:Str→Option Value}
noncomputable def tz {Sh} (md:Md Sh) (E:Value→Sh→Prop) v S:=∃k s,md.Xc k v s S∧∀v S,md.Xc k v s S→E v S
noncomputable def mU {Sh:Type} (I:Nat→Sh→Prop) n (Q:Flow→Sh→Prop) (f:Flow) (S:Sh):=match f with
  |.next=>∃m,m<n∧I m S
  |.cont=>∃m,m<n∧I m S
  |.brk=>Q .next S
  |.ret v=>Q (.ret v) S
noncomputable def G5 PP env b T s (x:Tr α) (m:Sem β) Z:=∀c A,c.env=env→eZ c→GE PP 90 c A→J (pm c) (a_ c b T s) s x (fun Q E=>wpAny c.C.M A m Q E) (Zs (a_ c) Z)
structure cK (PP:PT) (M:iw):Prop where
  bind:∀{α β:Type} {π} {m:Sem α} {f:α→Sem β} {Q E S},M.run π m (fun a=>M.run π (f a) Q E) E S→M.run π (m>>=f) Q E S
  ret:∀{α:Type} {π} {a:α} {Q E S},Q a S→M.run π (pure a) Q E S
  mono:∀{α:Type} {π} {m:Sem α} {Q Q' E S},M.run π m Q E S→(∀a S,Q a S→Q' a S)→M.run π m Q' E S
  lift:∀{α β:Type} {x:Tr α} {m:Sem β} {Z b T s} (π),G5 PP M.env b T s x m Z→J M.md (M.At b T s) s x (M.run π m) (Zs M.At Z)
  pop:∀{b V v T s S},M.At b (.more V v T) s S→M.At b T s S
  skip:∀{α:Type} {π p} {f:Unit→Sem α} {Q E S},M.run π (f ()) Q E S→M.run π (standAt p>>=f) Q E S
  whl:∀π t body (I:Nat→M.Sh→Prop) Q E,(∀π' n S,I n S→M.run π' (PySem.isTrue t M.env (eval t M.env)) (fun b S=>cond b (M.run π' (execs body M.env) (mU I n Q) (tz M.md E) S) (Q .next S)) (tz M.md E) S)→∀n S,I n S→M.run π (runOwn (.whileLoop t body [] M.env) M.env) Q E S
  for_:∀π t it body (I:Nat→M.Sh→Prop) Q E,(∀π' n S,I n S→M.run π' (pyNext it) (fun r S=>oC r (fun v=>M.run π' (letOwnedTupleGo t it v) (fun ζ S=>M.run π' (assign t M.env v) (fun ζ S=>M.run π' (execs body M.env) (mU I n Q) (tz M.md E) S) (tz M.md E) S) (tz M.md E) S) (Q .next S)) (tz M.md E) S)→∀n S,I n S→M.run π (runOwn (.forLoop t it body [] M.env) M.env) Q E S
noncomputable def uL (M:iw) T:=Zs M.At (Zx T)
noncomputable def uK M st x:=∀π b T s,J M.md (M.At b T s) s x (M.run π (exec st M.env)) (uL M T)
noncomputable def zU M body x:=∀π b T s,J M.md (M.At b T s) s x (M.run π (execs body M.env)) (uL M T)
section
variable {md:Md Sh} {R:α→β→St→Sh→Prop} {β' γ':Type} {R1:γ→γ'→St→Sh→Prop} {Q:β→Sh→Prop} {E:Value→Sh→Prop} {x:Tr γ} {k:γ→Tr α}
theorem bZ.split (h:bZ md R Q E ((x.bind k).run s)):bZ md R1 (fun v S=>∃a s',R1 a v s' S∧bZ md R Q E ((k a).run s')) (tz md E) (x.run s):=by
  revert h
  show bZ md R Q E ((x.run s).bind _)→_
  induction x.run s with
  |ok a s'=>exact fun h=>⟨h.good ((k a).mo s'),fun v S r=>⟨a,s',r,h⟩⟩
  |err c v s'=>exact fun h=>⟨h.1,fun v S z=>⟨c,s',z,h.2⟩⟩
  |stuck=>exact id
end
section
variable (ok:cK PP M) {n:Nat} {r:dN} {π:M.Pc}
theorem GE.le {c} {A} {m} (g:GE PP m c A) (h:n≤m):GE PP n c A:={g with un:=by have:=g.un;lia}
include ok
theorem cK.ev (hn:n≤90) {e} {x} (h:ma PP n e x):J M.md (M.At b T s) s x (M.run π (eval e M.env)) (Zs M.At fun b' T' V v=>b'=b∧T'=.more V v T):=
  ok.lift π fun c A e f ge=>e▸(h c b T A s (ge.le hn)).post fun V v s S i=>⟨b,_,⟨rfl,rfl⟩,i⟩
theorem cK.tr (hn:n≤90) {e} {x} (h:Dr PP n e x):J M.md (M.At b T s) s x (M.run π (PySem.isTrue e M.env (eval e M.env))) (Zs M.At fun b' T' k k'=>k'=k∧b'=b∧T'=T):=
  ok.lift π fun c A e f ge=>e▸(h c b T A s (ge.le hn)).post fun V v s S i=>⟨b,T,⟨i.1,rfl,rfl⟩,i.2⟩
theorem cK.cons_ {st} {rest} {x y} (h:∀b s,J M.md (M.At b T s) s x (M.run π (exec st M.env)) (uL M T)) (g:∀b s,J M.md (M.At b T s) s y (M.run π (execs rest M.env)) (uL M T)) b s:J M.md (M.At b T s) s (x.bind (dC y)) (M.run π (execs (st::rest) M.env)) (uL M T):=by
  refine .by (.bind (f:=fun f=>match f with|.next=>M.run π (execs rest M.env)|f=>M.run π (pure f)) (h b s) fun fl f s1=>fun S Q E i0 a=>i0.elim fun b' i1=>i1.elim fun T' i2=>?_) fun Q E S h=>ok.bind (ok.mono h fun f S h=>by cases f<;>exact h)
  obtain⟨z,i⟩:=i2
  revert z
  induction fl with
  |next=>exact fun z=>by obtain rfl := z.1;cases z.2;exact g b' s1 S Q E i a
  |brk=>exact fun z=>by obtain rfl := z.1;exact ok.ret (a.2 _ _ ⟨b',T',⟨rfl,z.2⟩,i⟩)
  |cont=>exact fun z=>by obtain rfl := z.1;exact ok.ret (a.2 _ _ ⟨b',T',⟨rfl,z.2⟩,i⟩)
  |ret V=>exact fun z=>z.elim fun v z=>z.elim fun k z=>by obtain rfl := z.1;exact ok.ret (a.2 _ _ ⟨b',T',⟨v,k,rfl,z.2⟩,i⟩)
theorem cK.cons {st} {rest} {x y} (h:uK M st x) (g:zU M rest y):zU M (st::rest) (x.bind (dC y)):=fun π b T s=>ok.cons_ (fun b s=>h π b T s) (fun b s=>g π b T s) b s
theorem cK.nil:zU M [] (rT .next):=fun π b T s=>.by (.pure fun S i=>⟨b,T,⟨rfl,rfl⟩,i⟩) fun Q E S h=>ok.ret h
theorem cK.if_ (hn:n≤90) (htr:iq PP n r.tr) {t} {a e} {pos} (ha:zU M a (r.ex a)) (he:zU M e (r.ex e)):uK M (.If t a e pos) ((r.tr t).bind fun k=>cond k (r.ex a) (r.ex e)):=fun π b T s=>by
  refine .by (.bind (ok.tr hn (htr t)) fun k k' s1=>fun S Q E i0 z=>i0.elim fun b' i1=>i1.elim fun T' i2=>?_) fun Q E S h=>ok.skip (ok.bind h)
  obtain⟨⟨rfl,rfl,rfl⟩,i⟩:=i2
  induction k' with
  |true=>exact ha π b' T' s1 S Q E i z
  |false=>exact he π b' T' s1 S Q E i z
theorem r8 {I} {n m} {Q} {E} {again} {fl} {f} {s1} {S} {T T1} (hm:m<n) (hI:∀b,M.At b T1 s1 S→bZ M.md (uL M T) Q E (again.run s1)→I m S) (hT:∀b s S,M.At b T1 s S→M.At b T s S) (i0:uL M T1 fl f s1 S) (a:bZ M.md (uL M T) Q E ((jx again fl).run s1)):mU I n Q f S:=
  i0.elim fun b i1=>i1.elim fun T' i2=>by
    obtain⟨z,i⟩:=i2
    revert z
    induction fl with
    |next=>exact fun z=>by cases z.1;cases z.2;exact⟨m,hm,hI b i a⟩
    |cont=>exact fun z=>by cases z.1;cases z.2;exact⟨m,hm,hI b i a⟩
    |brk=>exact fun z=>by cases z.1;cases z.2;exact a.2 _ _ ⟨b,T,⟨rfl,rfl⟩,hT _ _ _ i⟩
    |ret V=>exact fun z=>z.elim fun v z=>z.elim fun k z=>by obtain rfl := z.1;obtain rfl := z.2;exact a.2 _ _ ⟨b,_,⟨v,k,rfl,rfl⟩,i⟩
theorem cK.while_ (hn:n≤90) (htr:iq PP n r.tr) {t} {body} {pos} (hb:zU M body (r.ex body)) m:uK M (.While t body [] pos) (ki r t body m):=fun π b T s=>by
  refine .by (fun S Q E i a=>ok.whl π t _ (fun m S=>∃s b,M.At b T s S∧bZ _ _ Q E ((ki r t _ m).run s)) Q E ?_ m S ⟨s,b,i,a⟩) fun Q E S h=>ok.skip h
  rintro π' m S ⟨s,b,i,a⟩
  cases m with
  |zero=>exact a.elim
  |succ m=>
   refine ok.mono ((ok.tr hn (htr t)) S _ _ i (bZ.split a)) fun k S z=>hR fun o O=>?_
   obtain⟨k',s1,⟨b',T',⟨rfl,rfl,rfl⟩,j⟩,d⟩:=z
   refine O ?_
   induction k with
   |true=>exact ok.mono (hb _ b' T' s1 S _ _ j (bZ.split d)) fun f S z=>z.elim fun fl z=>z.elim fun s2 z=>r8 ok (dk m) (fun b i a=>⟨s2,b,i,a⟩) (fun ζ ζ ζ h=>h) z.1 z.2
   |false=>exact d.2 _ _ ⟨b',T',⟨rfl,rfl⟩,j⟩
end
end
section
variable {M:iw} {α:Type} {b:Str→Option Value} {c:aU} {W:Wd} {e n:Nat} {l:List V} {x y V:Internal.V} {it v:Value}
theorem BH {a} {o} {M} {A} {E} {s} {base} {Q} (h:s.heap.get? a=some o) (hq:wpAny M A (isSubtype o.cls base) Q E s):wpAny M A (isInstance (.ref a) base) Q E s:=by
  exact wpAny_bind (wpAny_typeOf_ref h hq)
theorem GE.ga (g:GE PP n c A) (h:d<c.dp) (hh:c.hd=false):GA d c A:=⟨g.hd hh,by have:=g.dep;lia,by have:=g.un;lia,g.fr⟩
theorem Ds.there {h base} {e} {cls fl} {dx} (x:Ds h base e cls dx fl):∃oe,h.get? e=some oe∧oe.cls=cls:=x.casesOn fun oe ζ ζ ζ ζ h1 h2 ζ ζ ζ ζ ζ ζ ζ ζ=>⟨oe,h1,h2⟩
theorem G8.there {base h} {fl} {e} {cls} {dx} (x:G8 base fl e cls dx h):∃oe,h.get? e=some oe∧oe.cls=cls:=
  x.note.casesOn (fun oe ζ h1 h2 ζ ζ ζ=>⟨oe,h1,h2⟩) (fun h=>h.there) fun ζ ζ ζ ζ ζ h=>h.there
theorem aZ.itr {W'} {l'} {pi0} {I} (z:aZ c s b T W) (k:Kp c W (· =.tmp T.len) W') (hp:dW pi0 W.pi) (hI:wd c.C d e it pi0 I) (i:I l' W'.G.fz (W'.at (.tmp T.len))):aZ c s b (.more (.itr d l' e x) it T) W':=
  ((k.weak (Pt.eq _)).simT z).push (.itr _ _ _ _ _ ⟨pi0,I,fun r a h=>k.pi r a (hp r a h),hI,i⟩)
section
variable (hd:d<s.dp) (hh:s.hd=false)
include hd hh
theorem nB (ge:GE PP n c A):J (pm c) (a_ c b (.more (.itr d (y::l) e x) it T) s) s (rT ()) (fun Q E=>wpAny c.C.M A (pyNext it) Q E) (Zs (a_ c) fun b' T' ζ r=>∃rv,r=some rv∧b'=b∧T'=.more y rv (.more (.itr d l e x) it T)):=.wret fun W Q E z k=>by
  induction z.tm.1.itrI rfl with|mk pi0 I hp hI hi=>
  refine wpAny_bind (wpAny_attempt (wpAny_mono (hI.next y l c A W _ rfl Pl.noConfusion z.fits (ge.ga (z.dp▸hd) (z.hd▸hh)) hi) (fun r S' hr=>?_) fun ζ ζ q=>q.elim))
  induction hr with|mk rv W' kp h1 h2=>
  exact wpAny_pure (k _ _ ⟨b,_,⟨rv,rfl,rfl,rfl⟩,W',(z.pop.itr kp hp hI h2).push (.rep _ _ (h1.mono (cO.refl _) fun r a h=>kp.pi r a (hp r a h)))⟩)
theorem Hl (ge:GE PP n c A) (he:e=0):J (pm c) (a_ c b (.more (.itr d [] e x) it T) s) s (rT ()) (fun Q E=>wpAny c.C.M A (pyNext it) Q E) (Zs (a_ c) fun b' T' ζ r=>r=none∧b'=b∧T'=T):=.wret fun W Q E z k=>by
  induction z.tm.1.itrI rfl with|mk pi0 I hp hI hi=>
  refine wpAny_bind (wpAny_attempt (wpAny_mono (hI.stop he c A W _ rfl Pl.noConfusion z.fits (ge.ga (z.dp▸hd) (z.hd▸hh)) hi) (fun r S' hr=>hr.elim) fun ex S' hr=>?_))
  induction hr with|mk W' kp h1 h2=>
  induction h1 with|mk a o h1 h2=>
  exact wpAny_bind (wpAny_isInstance ⟨o,h1,h2⟩ isSubtype_stop (wpAny_pure (k _ _ ⟨b,T,⟨rfl,rfl,rfl⟩,W',(kp.weak (Pt.eq _)).simT z.pop⟩)))
theorem Fa:G5 PP env b (.more (.itr d (y::l) e x) it T) s (rT ()) (pyNext it) fun b' T' ζ r=>∃rv,r=some rv∧b'=b∧T'=.more y rv (.more (.itr d l e x) it T):=fun c A ζ ζ ge=>nB hd hh ge
theorem EG (he:e=0):G5 PP env b (.more (.itr d [] e x) it T) s (rT ()) (pyNext it) fun b' T' ζ r=>r=none∧b'=b∧T'=T:=fun c A ζ ζ ge=>Hl hd hh ge he
theorem FY (he:e≠0) {Z:(Str→Option _)→Tp→Unit→Option _→Prop}:G5 PP env b (.more (.itr d [] e x) it T) s (eT e x) (pyNext it) Z:=fun c A ζ ζ ge S Q E i k=>i.casesOn fun W z=>by
  induction z.tm.1.itrI rfl with|mk pi0 I hp hI hi=>
  refine wpAny_bind (wpAny_attempt (wpAny_mono (hI.fail he c A W _ rfl Pl.noConfusion z.fits (ge.ga (z.dp▸hd) (z.hd▸hh)) hi) (fun r S' hr=>hr.elim) fun ex S' hr=>?_))
  induction hr with|mk W' kp hx=>
  induction hx with|mk e0 base dx hin h2 h3 h4=>
  obtain⟨oe,h5,h6⟩:=hin.there
  refine wpAny_bind (BH h5 ?_)
  rw[h6]
  exact c.H.stop e h4 _ _ _ _ kp.fits.ok.in0 (wpAny_throw (k.2 _ _ ⟨W',b,((kp.weak (Pt.eq _)).simT z.pop).nil,e0,base,dx,hin,h2,h3,h4⟩))
end
theorem Mp {t}:G5 PP env b (.more y rv (.more (.itr d l e x) it T)) s (rT ()) (letOwnedTupleGo t it rv) fun b' T' ζ ζ=>b'=b∧T'=.more y rv (.more (.itr d l e x) it T):=fun c A ζ ζ ge=>.wret fun W Q E z k=>by
  induction z.tm.2.1.itrI rfl with|mk pi0 I hp hI hi=>
  refine wpAny_mono (hI.go l c A W _ t rv rfl Pl.noConfusion z.fits hi) (fun ζ S' hr=>?_) fun ζ ζ q=>q.elim
  induction hr with|mk W' kp h2=>
  exact k () _ ⟨b,_,⟨rfl,rfl⟩,W',(z.pop.pop.itr kp hp hI h2).push (kp.own (fun q=>fq _ (by injection q)) Pl.noConfusion z.tm.1)⟩
noncomputable def mc PP:=∀t V v b T s env,G5 PP env b (.more V v T) s (im PP t V) (assign t env v) fun ζ T' ζ ζ=>T'=T
noncomputable def we PP:=∀V d l e x,f_ V=some (d,l,e,x)→∀v b T s env,G5 PP env b (.more V v T) s (rT ()) (pyIter v) fun b' T' ζ it=>b'=b∧T'=.more (.itr d l e x) it T
theorem bZ.rT {Sh} {md} {R:Unit→β→St→Sh→Prop} {Q} {E} (h:md.G s) (g:∀v S,R () v s S→Q v S):bZ md R Q E ((Internal.rT ()).run s):=⟨h,g⟩
section
variable (ok:cK PP M) {r:dN} {π:M.Pc}
include ok
theorem cK.forL (ha:mc PP) {t} {body} (hb:zU M body (r.ex body)) (hdh:∀b T s S,M.At b T s S→d<s.dp∧s.hd=false):J M.md (M.At b (.more (.itr d l e x) it T) s) s (forL PP r t body e x l) (M.run π (runOwn (.forLoop t it body [] M.env) M.env)) (uL M T):=fun S Q E i a=>
  ok.for_ π t it _ (fun m S=>∃l s b,m=List.length l∧M.At b (.more (.itr d l e x) it T) s S∧bZ _ _ Q E ((Internal.forL PP r t _ e x l).run s)) Q E (by
    rintro π' m S ⟨l,s,b,rfl,i,a⟩
    have z:=hdh _ _ _ _ i
    have ob:=a.good ((Internal.forL PP r t _ e x l).mo s)
    cases l with
    |nil=>
     have a:bZ _ _ Q E ((cond _ (Internal.rT _) _).run s):=a
     induction he:Nat.beq e 0 with
     |true=>
      rw[he] at a
      refine ok.lift _ (EG z.1 z.2 (aj he)) S _ _ i (.rT ob fun o S w=>hR fun K g=>?_)
      obtain⟨b',T',⟨rfl,rfl,rfl⟩,j⟩:=w
      exact g (a.2 _ S ⟨b',T',⟨rfl,rfl⟩,j⟩)
     |false=>
      rw[he] at a
      exact ok.lift _ (FY (Z:=fun ζ ζ ζ ζ=>False) z.1 z.2 fun q=>by rw[q] at he;trivial) S _ _ i ⟨a.1,fun v S w=>⟨e,s,w,a.2⟩⟩
    |cons y l=>
     refine ok.lift _ (Fa z.1 z.2) S _ _ i (.rT ob fun o S w=>hR fun Y k=>?_)
     obtain⟨b',T',⟨rv,rfl,rfl,rfl⟩,j⟩:=w
     refine k (ok.lift π' (Mp) S _ _ j (.rT ob fun ζ S w=>hR fun U X=>?_))
     obtain⟨b',T',⟨rfl,rfl⟩,j⟩:=w
     refine X (ok.mono (ok.lift _ (ha t y rv b' _ s _) S _ _ j (bZ.split a)) fun ζ S w=>(hR fun O u=>?_))
     obtain⟨_,s1,⟨b2,T2,e2,j⟩,a⟩:=w
     subst e2
     exact u (ok.mono (hb _ b2 _ s1 S _ _ j (bZ.split a)) fun f S z=>z.elim fun fl z=>z.elim fun s2 z=>r8 ok (dk _) (fun b i a=>⟨l,s2,b,rfl,i,a⟩) (fun b s S h=>ok.pop h) z.1 z.2)) _ S ⟨l,s,b,rfl,i,a⟩
end
end
section
variable {M:iw} {α:Type} {b:Str→Option Value} {c:aU} {W:Wd} {e n:Nat} {l:List V} {x y V:Internal.V} {it v:Value} {r:dN}
theorem nV {e} (h:fF e=true) env:∀x,foldedSetIterable e env x=pure x:=by rcases e with⟨⟩<;>first|exact fun ζ=>rfl|exact bG h
theorem cK.for_src (ok:cK PP M) (ha:mc PP) (hi:we PP) {π} {t} {body} (hb:zU M body (r.ex body)) (hdh:∀{b T s S b' T' s' S'},M.At b T s S→M.At b' T' s' S'→s'.dp=s.dp∧s'.hd=s.hd) {v}:J M.md (M.At b (.more V v T) s) s (tG PP r t body V) (M.run π (holding [v] (pyIter v)>>=fun it=>runOwn (.forLoop t it body [] M.env) M.env)) (uL M T):=
  .opt fun q hq=>.look (.grd fun h S Q E i a=>by
    refine ok.bind (ok.lift π (fun c A e f ge=>(hi V _ q.2.1 q.2.2.1 q.2.2.2 hq v b T s _ c A e f ge).by fun Q E S h=>wpAny_holding h) S _ _ i (.rT (a.good ((Internal.forL PP r t _ _ _ _).mo s)) fun it S w=>?_))
    obtain⟨b2,T2,⟨rfl,rfl⟩,j⟩:=w
    exact ok.forL ha hb (fun b T s S z=>have w:=hdh j z;⟨w.1▸(Nat.lt_of_succ_le (ag (aa.mp h).1)),w.2▸(ao _).mp (aa.mp h).2⟩) S Q E j a)
theorem cK.for_stmt (ok:cK PP M) (hn:n≤90) (hev:cr PP n r.ev) (ha:mc PP) (hi:we PP) {t ie} {body} {pos} (hb:zU M body (r.ex body)) (hdh:∀{b T s S b' T' s' S'},M.At b T s S→M.At b' T' s' S'→s'.dp=s.dp∧s'.hd=s.hd):uK M (.For t ie body [] pos) (gT (fF ie) "set" ((r.ev ie).bind (tG PP r t body))):=fun π b T s=>.grd fun hs=>by
  refine .by (.bind (ok.ev hn (hev ie)) fun V v s1=>fun S Q E i0=>i0.elim fun b' i1=>i1.elim fun T' i2=>?_) fun Q E S h=>ok.skip (ok.bind (ok.mono h fun v S h=>by rw[nV hs];exact ok.skip h))
  obtain⟨⟨rfl,rfl⟩,i⟩:=i2
  exact ok.for_src ha hi hb hdh S Q E i
end
section
variable {α:Type} {b:Str→Option Value} {c:aU} {W:Wd} {e n k:Nat} {l:List V} {x y V:Internal.V} {it v:Value} {r:dN}
theorem kN {e} {base h'} {dx} (x:aZ c s b T W) (hn:¬bH c W e) (hst:∀a o,bH c W a→a∉bF c.fl→W.hp a=some o→base.get? a=some o) (hk:k=1∨k=2) (st:base.StaysIn h') (hs:fj c.fl W.G.S.heap h') (hin:G8 base c.fl e (ig c.C.P k) dx h'):
    aZ c s b T (W.mem {W.G.S with heap:=h'})∧D8 c (W.mem {W.G.S with heap:=h'}) k (.ref e):=
  ⟨(Kp.slots (P:=fun ζ=>False) x.fits (fun a o p m z=>st a o (hst a o p m z)) hs).sim x (fun ζ=>id) (fun ζ=>id) (fun ζ ζ=>id) fun ζ ζ=>id,
    .mk e _ dx hin (fun h=>hn h.mem) (fun a o h m z=>(bH.get x.fits h.mem).elim fun o3 z3=>have b:=hst a o3 h.mem m z3
      (st a o3 b).symm.trans z▸b) hk⟩
theorem fj.trans {fl} {h h1 h2} (x:fj fl h h1) (y:fj fl h1 h2):fj fl h h2:=fun a m o e=>(x a m o e).elim fun sl z=>(y a m _ z).elim fun sl' z=>⟨sl',z⟩
theorem gM (hf:eZ c) (hfr:A.frames=some c.fl) (h:tz (pm c) E v S):notedBy c.C.M A c.env (fun e s'=>cameBackBy c.C.M A c.env E e s') v S:=by
  obtain⟨k,s,h,g⟩:=h
  induction h with|mk W b x hx=>
  induction hx with|mk e base dx hin hn hst hk=>
  obtain⟨outer,hfl⟩:=hf.fl
  refine mm (by rw[hfr,hfl]) hf.frame (hfl▸hin) fun h1 x1 x2 x3 x4 x5=>lR hf.frame x1 x2 x3 fun h2 y1 y2 y3 y4 y5=>?_
  have z:=kN x hn hst hk y1 (hfl▸x5.trans y5) ⟨y1,(hfl▸hin).new,by rw[hfl];exact y2,.at_ _ _ _ hfl hf.frame y3⟩
  exact g _ _ (.mk _ b z.1 z.2)
noncomputable def u_ (c:aU) (A:Around):iw:=⟨Shared,Unit,c.env,pm c,a_ c,fun ζ m Q E=>wpAny c.C.M A m Q E⟩
theorem rm {R} {t} {it} {body} {M} I
    (Iq:∀n s,I n s→wpAny M A (pyNext it) (fun r s₁=>oC r (fun v=>wpAny M A (letOwnedTupleGo t it v) (fun ζ s1'=>wpAny M A (assign t env v) (fun ζ s₂=>wpAny M A (execs body env) (mU I n fun f=>R (.ok f)) (notedBy M A env fun e s'=>R (.error e) s') s₂) (notedBy M A env fun e s'=>R (.error e) s') s1') (notedBy M A env fun e s'=>R (.error e) s') s₁) (R (.ok .next) s₁)) (notedBy M A env fun e s'=>R (.error e) s') s)
    (hM:∃prog w,M=model prog w) n {s} (h:I n s):codeAny M A (.forLoop t it body [] env) R s:=by
  obtain⟨prog,w,rfl⟩:=hM
  refine codeAny_loop' rfl I (fun n s hI=>?_) n h
  refine wpAny_noted (wpAny_bind (wpAny_standAt (wpAny_bind (wpAny_onRaise (wpAny_mono (Iq n s hI) (fun r s₁ h₁=>?_) fun ζ ζ h'=>wpAny_standAt h')))))
  induction r with
  |none=>exact wpAny_pure (.inr ⟨rfl,codeAny_block (wpAny_execs_nil h₁)⟩)
  |some v=>
   refine wpAny_bind (wpAny_mono h₁ (fun ζ s1' h1'=>wpAny_bind (wpAny_mono h1' (fun ζ s₂ h₂=>wpAny_bind (wpAny_mono h₂ (fun f s₃ h₃=>?_) fun ζ ζ h'=>h')) fun ζ ζ h'=>h')) fun ζ ζ h'=>h')
   induction f with
   |next=>exact wpAny_pure (.inl ⟨rfl,h₃⟩)
   |cont=>exact wpAny_pure (.inl ⟨rfl,h₃⟩)
   |brk=>exact wpAny_pure h₃
   |ret v=>exact wpAny_pure h₃
noncomputable def MA (c:aU) A (Q:Flow→Shared→Prop) E (r:Result) (S:Shared):=match r with
  |.ok f=>Q f S
  |.error e=>cameBackBy c.C.M A c.env E e S
theorem sQ (hf:eZ c) (ge:GE PP 90 c A):cK PP (u_ c A) where
  bind:=wpAny_bind
  ret:=wpAny_pure
  mono:=fun h g=>wpAny_mono h g fun ζ ζ h=>h
  lift:=fun ζ h=>h c A rfl hf ge
  pop:=a_.pop
  skip:=fun h=>wpAny_bind (wpAny_standAt h)
  whl:=fun ζ t body I Q E h n S i=>wpAny_runOwn (codeAny_whileLoop (R:=MA c A Q E) I (fun n S i=>wpAny_mono (h () n S i) (fun b S w=>by
    induction b with
    |true=>exact wpAny_mono w (fun f S w=>by assumption) fun v S w=>gM hf ge.fr w
    |false=>exact wpAny_execs_nil w) fun v S w=>gM hf ge.fr w) n i)
  for_:=fun ζ t it body I Q E h n S i=>wpAny_runOwn (rm (R:=MA c A Q E) I (fun n S i=>wpAny_mono (h () n S i) (fun r S w=>by
    induction r with
    |none=>exact w
    |some v=>exact wpAny_mono w (fun ζ S w=>wpAny_mono w (fun ζ S w=>wpAny_mono w fun f S w=>by trivial fun v S w=>gM hf ge.fr w) fun v S w=>gM hf ge.fr w) fun v S w=>gM hf ge.fr w) fun v S w=>gM hf ge.fr w) ⟨_,_,rfl⟩ n i)
end
section
variable {α:Type} {b:Str→Option Value} {c:aU} {W:Wd} {e n k:Nat} {L:List Internal.V} {x y V:Internal.V} {it v ex:Value} {r:dN}
inductive Nd (c:aU) (kM:List Env) (k:Nat):Value→Shared→Prop
  |mk (W:Wd) (e:Addr) (base:Heap) (dx:Option Addr) (h':Heap):bj c W→¬bH c W e→(∀a o,bH c W a→a∉bF c.fl→W.hp a=some o→base.get? a=some o)→(k=1∨k=2)→G8 base kM e (ig c.C.P k) dx h'→fj c.fl W.G.S.heap h'→Nd c kM k (.ref e) {W.G.S with heap:=h'}
structure Ks (c0:aU) (W:Wd):Prop where
  own:W.own c0.env.locals=some .frame
  ob:∃o,W.hp c0.env.locals=some o∧∀vs,o.data≠.fields vs
noncomputable def Kq (c0:aU) (P:List _→aU→End→Shared→Prop) (W:Wd) code t fs outs:=∀kM ot fz0 pi0 W1 A1,bj (c0.re kM ot fz0 pi0 outs) W1→cO W.G.fz W1.G.fz→W1.pi=W.pi→(∀q,W1.at q=W.at q)→GB c0.dp A1 kM→
  SegX c0.C.M A1 code t fs W1.G.S (P kM (c0.re kM ot fz0 pi0 outs))
noncomputable def uu (c0:aU) (e:Nat):List Internal.V→List Env→aU→End→Shared→Prop
  |[],kM,c=>fun en S=>(e=0→en=.ret (.ok (.ret .none))∧∃W,W.G.S=S∧bj c W)∧(e≠0→∃ex,en=.ret (.error ex)∧Nd c kM e ex S)
  |y::l,kM,c=>fun en S=>∃v lv k code p fs W outs,en=.susp v false lv k code p fs∧en.quiet=true∧W.G.S=S∧bj c W∧(∀pi,cP c0.C W.G.fz pi y v)∧Ks c0 W∧Kq c0 (uu c0 e l) W code (k (.send .none)) fs outs
structure iN where
  S:Shared
  A:Around
  fl:List Env
  ot:eC
  fz0:Fz
  pi0:Pi
  outs:List Internal.V
  rest:List Internal.V
noncomputable def iN.act (c0:aU) (σ:iN):=c0.re σ.fl σ.ot σ.fz0 σ.pi0 σ.outs
noncomputable def iN.mem (σ:iN) S:={σ with S:=S}
structure K4 (c0:aU) (L:List Internal.V) (σ:iN):Prop where
  L:L=σ.outs++σ.rest
  gb:GB c0.dp σ.A σ.fl
noncomputable def K5 c0 L b T s σ:=a_ (σ.act c0) b T s σ.S∧K4 c0 L σ
noncomputable def XG c0 L k v s σ:=oV (σ.act c0) k v s σ.S∧K4 c0 L σ
noncomputable def gm (c0:aU) (L:List Internal.V):Md iN:=⟨fun s=>s.ob=true∧s.outs<+:L,XG c0 L,fun ζ h=>h.1,fun ζ ζ l h=>⟨l.ob h.1,l.ou.trans h.2⟩⟩
noncomputable def GP c0 e (σ:iN):=uu c0 e σ.rest σ.fl (σ.act c0)
structure Dx (env:Env) where
  code:Code
  fs:List Frame
  ok:lP env code fs
noncomputable def jP (c0:aU) (e:Nat) (π:Dx c0.env) (m:Sem α):jC iN α:=fun Q E σ=>∀K H lv,(∀a σ',Q a σ'→SegX c0.C.M σ'.A π.code (K a) π.fs σ'.S (GP c0 e σ'))→(∀x σ',E x σ'→SegX c0.C.M σ'.A π.code (H x) π.fs σ'.S (GP c0 e σ'))→SegX c0.C.M σ.A π.code (m.wrap K H id lv) π.fs σ.S (GP c0 e σ)
noncomputable def FU (c0:aU) (e:Nat) (L:List Internal.V):iw:=⟨iN,Dx _,c0.env,gm c0 L,K5 c0 L,jP c0 e⟩
theorem B8 (g:fu c0) (σ:iN):eZ (σ.act c0):=⟨⟨σ.fl,rfl⟩,g.frame⟩
section
variable {e:Nat} {π:Dx c0.env}
theorem yy {m} {f:α→Sem β} {Q} {E} {σ} (h:jP c0 e π m (fun a=>jP c0 e π (f a) Q E) E σ):jP c0 e π (m>>=f) Q E σ:=fun K H lv hQ hH=>by
  rw[Sem.bind_eq_wrap',Sem.wrap_wrap]
  exact h _ _ _ (fun a σ' q=>q K H lv hQ hH) hH
theorem yw {p} {f:Unit→Sem α} {Q} {E} {σ} (h:jP c0 e π (f ()) Q E σ):jP c0 e π (standAt p>>=f) Q E σ:=fun K H lv hQ hH=>SegX.bindw (wpAny_standAt (h K H lv hQ hH))
theorem yx (g:fu c0) (hp:c0.C.P=PP) {x:Tr α} {m:Sem β} {Z} (h:G5 PP c0.env b T s x m Z):J (gm c0 L) (K5 c0 L b T s) s x (jP c0 e π m) (Zs (K5 c0 L) Z):=fun σ Q E i a K H lv hQ hH=>
  SegX.wrap (h (σ.act c0) _ rfl (B8 g σ) (lP.over π.ok i.2.gb hp rfl) _ _ _ i.1 (by
    revert a
    induction x.run s with
    |ok a s'=>exact fun a=>⟨a.1.1,fun v S z=>z.elim fun b z=>z.elim fun T z=>hQ v (σ.mem S) (a.2 v _ ⟨b,T,z.1,z.2,i.2.L,i.2.gb⟩)⟩
    |err k v s'=>exact fun a=>⟨a.1.1,fun v S z=>hH v (σ.mem S) (a.2 v _ ⟨z,i.2.L,i.2.gb⟩)⟩
    |stuck=>exact id))
end
end
section
variable {α:Type} {b:Str→Option Value} {c:aU} {W:Wd} {e n k:Nat} {L:List Internal.V} {x y V:Internal.V} {it v ex:Value} {r:dN}
noncomputable def wU (K:Flow→Sem PySem.Fin) H lv (env:Env) (r:Result):=
  ((match r with|.ok f=>(.pure f:Sem Flow)|.error e=>.raise e).onRaise fun(x)=>do
    if(←field x 1)==Value.none then unsupported "frame.own-activation:exception-without-traceback"
    setFlight x env.frame).wrap K H id lv
noncomputable def wr (again:Code) (f:Flow):Sem PySem.Fin:=match f with
  |.next|.cont=>.pure (.again again)
  |.brk=>.pure (.done .next)
  |.ret v=>.pure (.done (.ret v))
noncomputable def kl (env:Env) (e:Value):Sem PySem.Fin:=(do noteFrame e env;theTreesLotGoes e:Sem _).wrap (fun ζ=>.raise e) .raise id id
section
variable {K:Flow→Sem PySem.Fin} {H:Value→Sem PySem.Fin} {lv:List Value→List Value} {Q:Flow→iN→Prop} {E:Value→iN→Prop} {p:Pos} {π:Dx c0.env}
noncomputable def Dx.loop (π:Dx c0.env) (K:Flow→Sem PySem.Fin) (H:Value→Sem PySem.Fin) (lv:List Value→List Value) (p:Pos) (code':Code) (h1:code'.weight=0) (h2:code'.cUnits=0) (h3:code'.envs=[]):Dx c0.env:=
  ⟨code',.ret (wU K H lv c0.env) _ _ (lv []) _ p []::π.fs,π.ok.push _ _ p [] _ h1 h2 h3⟩
variable {h1:code'.weight=0} {h2:code'.cUnits=0} {h3:code'.envs=[]} (hQ:∀a σ',Q a σ'→SegX c0.C.M σ'.A π.code (K a) π.fs σ'.S (GP c0 e σ')) (hH:∀x σ',E x σ'→SegX c0.C.M σ'.A π.code (H x) π.fs σ'.S (GP c0 e σ'))
include hQ in
theorem kG {f} (q:Q f σ):SegX c0.C.M σ.A code' (.pure (.done f)) (π.loop K H lv p _ h1 h2 h3).fs σ.S (GP c0 e σ):=s_pop _ _ _ _ _ _ _ (.ok f) _ rfl _ _ _ _ _ _ _ (hQ f σ q)
include hH in
theorem nF (g:fu c0) (q:tz (gm c0 L) E ex σ):SegX c0.C.M σ.A code' (kl c0.env ex) (π.loop K H lv p _ h1 h2 h3).fs σ.S (GP c0 e σ):=by
  obtain⟨k,s,⟨hx,go⟩,f⟩:=q
  generalize hS:σ.S=S at hx
  induction hx with|mk W b x hx=>
  induction hx with|mk e0 base dx hin hn hst hk=>
  refine SegX.wrap (wpAny_bind (mm (lP.over (c:=σ.act c0) (π.loop K H lv p _ h1 h2 h3).ok go.gb rfl rfl).fr g.frame hin fun h1 x1 x2 x3 x4 x5=>wpAny_theTreesLotGoes (s_pop _ _ _ _ _ _ _ (.error _) _ rfl _ _ _ _ _ _ _ (SegX.bindw (lR (Q:=fun x s'=>SegX _ _ _ (H x) _ s' _) g.frame x1 x2 x3 fun h2 y1 y2 y3 y4 y5=>?_)))))
  have z:=kN x hn hst hk y1 (x5.trans y5) ⟨y1,hin.new,y2,.at_ _ _ _ rfl g.frame y3⟩
  exact hH _ (σ.mem _) (f _ _ ⟨.mk _ b z.1 z.2,go.L,go.gb⟩)
include hQ hH
theorem r7 (g:fu c0) (hq:code'.quiet=true) {I} {n} {body} (ih:∀m,m<n→∀σ,I m σ→SegX c0.C.M σ.A code' (c0.C.M.den code') (π.loop K H lv p _ h1 h2 h3).fs σ.S (GP c0 e σ))
    (h:jP c0 e (π.loop K H lv p _ h1 h2 h3) (execs body c0.env) (mU I n Q) (tz (gm c0 L) E) σ):SegX c0.C.M σ.A code' ((execs body c0.env).wrap (wr code') (kl c0.env) id id) (π.loop K H lv p _ h1 h2 h3).fs σ.S (GP c0 e σ):=
  h _ _ id (fun f σ' q=>by
    induction f with
    |next=>exact q.elim fun m q=>s_again _ _ _ _ _ _ _ _ hq (ih m q.1 _ q.2)
    |cont=>exact q.elim fun m q=>s_again _ _ _ _ _ _ _ _ hq (ih m q.1 _ q.2)
    |brk=>exact kG hQ q
    |ret v=>exact kG hQ q) fun x σ' q=>nF hH g q
theorem y7 (g:fu c0) {t} {body} {I} (h:∀π' n σ,I n σ→jP c0 e π' (PySem.isTrue t c0.env (eval t c0.env)) (fun b σ=>cond b (jP c0 e π' (execs body c0.env) (mU I n Q) (tz (gm c0 L) E) σ) (Q .next σ)) (tz (gm c0 L) E) σ) n:∀σ,I n σ→
    SegX c0.C.M σ.A (.whileLoop t body [] c0.env) (c0.C.M.den (.whileLoop t body [] c0.env)) (π.loop K H lv p (.whileLoop t body [] c0.env) rfl rfl rfl).fs σ.S (GP c0 e σ):=by
  induction n using Nat.strongRecOn with|ind n ih=>
  intro σ i
  show SegX _ _ _ ((whileTurn t _ [] _).onRaise _) _ _ _
  unfold whileTurn
  rw[Sem.onRaise_eq_wrap,Sem.bind_eq_wrap',Sem.wrap_wrap]
  refine h (π.loop K H lv p _ _ _ _) n σ i _ _ _ (fun b σ' q=>?_) fun x σ' q=>?_
  ·induction b with
   |true=>
    rw[if_pos rfl,Sem.bind_eq_wrap',Sem.wrap_wrap, Sem.wrap_congr _ _ _ (K':=wr _)
     fun f=>by cases f<;>rfl fun e=>by first|exact Sem.bind_eq_wrap _ _]
    exact r7 hQ hH g rfl ih q
   |false=>exact kG hQ q
  ·have:=nF (code':=.whileLoop t body [] c0.env) (h1:=rfl) (h2:=rfl) (h3:=rfl) (p:=p) (K:=K) (lv:=lv) hH g q
   unfold kl at this
   first
     |(rw[←Sem.bind_eq_wrap] at this;exact this)
end
end
section
variable {α:Type} {b:Str→Option Value} {c:aU} {W:Wd} {e n k:Nat} {L:List Internal.V} {x y V:Internal.V} {it v ex:Value} {r:dN}
section
variable {K:Flow→Sem PySem.Fin} {H:Value→Sem PySem.Fin} {lv:List Value→List Value} {Q:Flow→iN→Prop} {E:Value→iN→Prop} {p:Pos} {π:Dx c0.env}
variable (hQ:∀a σ',Q a σ'→SegX c0.C.M σ'.A π.code (K a) π.fs σ'.S (GP c0 e σ')) (hH:∀x σ',E x σ'→SegX c0.C.M σ'.A π.code (H x) π.fs σ'.S (GP c0 e σ'))
include hQ hH
theorem FS (g:fu c0) {t} {it} {body} {I} (h:∀π' n σ,I n σ→jP c0 e π' (pyNext it) (fun r σ=>oC r (fun v=>jP c0 e π' (letOwnedTupleGo t it v) (fun ζ σ=>jP c0 e π' (assign t c0.env v) (fun ζ σ=>jP c0 e π' (execs body c0.env) (mU I n Q) (tz (gm c0 L) E) σ) (tz (gm c0 L) E) σ) (tz (gm c0 L) E) σ) (Q .next σ)) (tz (gm c0 L) E) σ) n:∀σ,I n σ→
    SegX c0.C.M σ.A (.forLoop t it body [] c0.env) (c0.C.M.den (.forLoop t it body [] c0.env)) (π.loop K H lv p (.forLoop t it body [] c0.env) rfl rfl rfl).fs σ.S (GP c0 e σ):=by
  induction n using Nat.strongRecOn with|ind n ih=>
  intro σ i
  have le:∀x σ',tz (gm c0 L) E x σ'→SegX c0.C.M σ'.A (.forLoop t it body [] c0.env) ((do noteFrame x c0.env;theTreesLotGoes x).bind fun ζ=>.raise x) _ _ _:=fun x σ' q=>by
    have:=nF (code':=.forLoop t it body [] c0.env) (h1:=rfl) (h2:=rfl) (h3:=rfl) (p:=p) (K:=K) (lv:=lv) hH g q
    rw[Sem.bind_eq_wrap];exact this
  show SegX _ _ _ ((forTurn t it _ [] _).onRaise _) _ _ _
  rw[Sem.onRaise_eq_wrap]
  refine SegX.bindw (wpAny_standAt ?_)
  rw[Sem.bind_eq_wrap',Sem.wrap_wrap,Sem.onRaise_eq_wrap,Sem.wrap_wrap]
  refine h (π.loop K H lv p _ _ _ _) n σ i _ _ _ (fun r σ' q=>?_) fun x σ' q=>?_
  ·induction r with
   |none=>exact s_again _ _ _ _ _ _ _ _ rfl (kG (h1:=rfl) (h2:=rfl) (h3:=rfl) hQ q)
   |some v=>
    show SegX _ _ _ (Sem.wrap _ _ _ _ (letOwnedTupleGo t it v>>=_)) _ _ _
    rw[Sem.bind_eq_wrap',Sem.wrap_wrap]
    refine q _ _ _ (fun ζ σ1 q=>?_) le
    rw[Sem.bind_eq_wrap',Sem.wrap_wrap]
    refine q _ _ _ (fun ζ σ2 q=>?_) le
    rw[Sem.bind_eq_wrap',Sem.wrap_wrap]
    rw[Sem.wrap_congr _ _ _ (K':=wr _)
     fun f=>by cases f<;>rfl (fun e=>by first|exact Sem.bind_eq_wrap _ _)]
    exact r7 hQ hH g rfl ih q
  ·exact SegX.at_ (le x _ q)
end
theorem BX (g:fu c0) (hp:c0.C.P=PP):cK PP (FU c0 e L) where
  bind:=yy
  ret:=fun q K H lv hQ hH=>hQ _ _ q
  mono:=fun h f K H lv hQ hH=>h K H lv (fun a σ q=>hQ a σ (f a σ q)) hH
  lift:=fun π h=>yx g hp h
  pop:=fun h=>⟨h.1.pop,h.2⟩
  skip:=yw
  whl:=fun π t body I Q E h n σ i K H lv hQ hH=>by
    exact s_call _ _ _ _ _ _ _ _ _ _ _ _ fun p=>y7 hQ hH g h n σ i
  for_:=fun π t it body I Q E h n σ i K H lv hQ hH=>by
    exact s_call _ _ _ _ _ _ _ _ _ _ _ _ fun p=>FS hQ hH g h n σ i
end
section
variable {α:Type} {b:Str→Option Value} {c:aU} {W:Wd} {e n k:Nat} {L:List Internal.V} {x y V:Internal.V} {it v ex:Value} {r:dN}
theorem DK.ob (x:aZ c s b T W):∃o,W.hp c.env.locals=some o∧∀vs,o.data≠.fields vs:=x.fr.ns.elim fun m h=>h.1.elim fun o q=>q.elim fun es q=>q.elim fun ep q=>⟨o,q.1,fun vs z=>by rw[q.2.1] at z;trivial⟩
noncomputable def yC (c0:aU) (e:Nat) (π:Dx c0.env) (ye:Expr) (yp pos:Pos) (v:Value):jC iN Flow:=fun Q E σ=>∀K H lv,(∀a σ',Q a σ'→SegX c0.C.M σ'.A π.code (K a) π.fs σ'.S (GP c0 e σ'))→(∀x σ',E x σ'→SegX c0.C.M σ'.A π.code (H x) π.fs σ'.S (GP c0 e σ'))→
  SegX c0.C.M σ.A π.code ((standAt yp>>=fun ζ=>yieldOut c0.env v).wrap (fun x=>(dropValue (.Yield (some ye) yp) pos x).wrap K H id lv) H id lv) π.fs σ.S (GP c0 e σ)
theorem EU {L outs rest} (h:L=outs++rest) (g:(outs++[V])<+:L):∃l,rest=V::l:=g.elim fun t q=>⟨t,(List.append_cancel_left (by rw[←h,←q,am];rfl)).symm⟩
theorem zV (g:fu c0) {π} {ye} {yp pos}:J (gm c0 L) (K5 c0 L b (.more V v T) s) s (aT fun s=>gT (noI 20 V&&!s.hd) "yield" (uT (fun s=>ve s (s.outs++[V])) (fun ζ=>⟨id,kZ _ _⟩) (rT .next))) (yC c0 e π ye yp pos v) (Zs (K5 c0 L) (Zx T)):=
  .look (.grd fun hb=>fun σ Q E i a K H lv hQ hH=>by
    obtain⟨S,A,fl,ot,fz0,pi0,outs,rest⟩:=σ
    obtain⟨i,go⟩:=i
    generalize rfl:(⟨S,A,fl,ot,fz0,pi0,outs,rest⟩:iN).S=S' at i
    induction i with|mk W x=>
    subst rfl
    have ho:=x.ou.symm
    subst ho
    obtain⟨l,hr⟩:=EU go.L a.1.2
    subst hr
    have hnoI:=(aa.mp hb).1
    refine ((show yieldOut c0.env v=yieldValue v from by simp only[yieldOut,g.co,fV,if_false]))▸?_
    have pl:plain V=true:=by rcases V with⟨⟩<;>first|rfl|exact bG hnoI
    have fo:=DK.ob x
    refine SegX.at_ (s_yield _ _ A _ _ _ _ v _ _ π.ok.sp π.ok.gd fun p=>?_)
    refine⟨v,_,_,π.code,p,π.fs,W,s.outs++[V],rfl,by simp[End.quiet,π.ok.gd],rfl,x.fits,fun pi=>(x.tm.1.to_rep pl).noI 20 hnoI,⟨x.fr.own,fo⟩,fun kM ot1 fz1 pi1 W1 A1 f le hp ha gb=>?_⟩
    exact hQ _ ⟨W1.G.S,A1,kM,ot1,fz1,pi1,s.outs++[V],l⟩ (a.2 _ _ ⟨b,T,⟨rfl,rfl⟩,⟨W1,aZ.wake (c:=c0.re fl ot _ _ _) x.pop rfl g.re f le hp ha⟩,by rw[go.L,am];rfl,gb⟩))
theorem y6 (g:fu c0) (hp:c0.C.P=PP) (hn:n≤90) (hev:cr PP n r.ev) ye yp pos (hk:c0.env.scope.kind=.function):uK (FU c0 e L) (.Expr (.Yield (some ye) yp) pos) ((r.ev ye).bind fun v=>aT fun s=>gT (noI 20 v&&!s.hd) "yield" (uT (fun s=>ve s (s.outs++[v])) (fun ζ=>⟨id,kZ _ _⟩) (rT .next))):=fun π b T s=>
  .by (.bind (f:=yC c0 e π ye yp _) ((BX g hp).ev hn (hev ye)) fun V v s1=>fun σ Q E i=>i.elim fun b' i=>i.elim fun T' i=>zV g σ Q E (i.1.2▸i.1.1▸i.2)) fun Q E σ h K H lv hQ hH=>by
    show SegX _ _ _ ((exec _ c0.env).wrap K H id lv) _ _ _
    rw[exec_Expr _ _ _ (by unfold interactive;rw[hk];rfl) rfl]
    show SegX _ _ _ (.at _ fun ζ=>((eval ye _>>=fun v=>(standAt yp>>=fun ζ=>yieldOut _ v))>>=fun x=>dropValue _ _ x).wrap K H id lv) _ _ _
    refine SegX.at_ ?_
    rw[Sem.bind_eq_wrap',Sem.bind_eq_wrap',Sem.wrap_wrap,Sem.wrap_wrap]
    exact h _ _ _ (fun v σ' q=>q K H lv hQ hH) hH
end
section
variable {c:aU} {W:Wd} {k e:Nat} {p q:Pl} {ρ:eC} {x:GenState} {outs:List V} {K:Pl→Prop} {xg:Nat→Option GenState}
theorem Kp.setGen (f:bj c W) (hp:p≠.frame) (h:W.gown g=some p) (hb:x.bare=true):Kp c W (· =p) (W.mem (W.G.S.setGen g x)) where
  fits:={f with
    ok:={f.ok with bare:=fun y hy=>(Array.mem_or_eq_of_mem_setIfInBounds hy).elim (f.ok.bare y) fun e=>e▸hb}
    own:=fun a p e=>(f.own a p e).casesOn fun o h1 h2 h3 h4 h5=>⟨o,h1,h2,h3,h4,h5⟩
    ot:=fun a o e=>(f.ot a o e).casesOn fun h1 h2 h3=>⟨h1,h2,h3⟩
    gown:=fun k p e=>⟨Nat.lt_of_lt_of_eq (f.gown k p e).1 Array.size_setIfInBounds.symm,(f.gown k p e).2⟩
    gt:=fun k y e=>(Array.getElem?_setIfInBounds_ne fun q=>aX ((f.gown g p h).2.symm.trans (q▸e))).trans (f.gt k y e)}
  le:=cO.refl _
  pi:=fun ζ ζ h=>h
  pir:=fun ζ ζ=>rfl
  at_:=fun q n ζ=>gh (fun ζ=>.rfl) (fun ζ=>.rfl) (fun ζ ζ=>rfl) fun k e=>Array.getElem?_setIfInBounds_ne fun z=>n (Option.some.inj (e.symm.trans ((congrArg _ z).symm.trans h)))
  fr:=fun ζ h=>h
  frh:=fun a o ζ e=>.same e
theorem Kp.pushGen {P} {S'} (f:bj c W) (hh:S'.heap=W.G.S.heap) (hg:S'.gens=W.G.S.gens.push x) (ho:S'.os=W.G.S.os) (hb:x.bare=true):Kp c W P (W.mem S'):=
  have up:∀k,k<W.G.S.gens.size→S'.gens[k]?=W.G.S.gens[k]?:=fun k lt=>by rw[hg,Array.getElem?_push_lt lt,Array.getElem?_eq_getElem]
  have hp:=fun a=>congrArg (·.get? a) hh
  {fits:={f with
     ok:={f.ok with
      sub:=fun a o e=>(hp a).trans (f.ok.sub a o e)
      os:=ho.trans f.ok.os
      tbi:=by
        show c.C.tbI (S'.heap.get? _) _
        rw[hh];exact f.ok.tbi
      tbs:=f.ok.tbs.imp fun o e=>(hp _).trans e
      bare:=fun y hy=>(Array.mem_push.mp ((congrArg (y∈·) hg).mp hy)).elim (f.ok.bare y) fun e=>e▸hb}
     own:=fun a p e=>(f.own a p e).casesOn fun o h1 h2 h3 h4 h5=>⟨o,(hp a).trans h1,h2,h3,h4,h5⟩
     ot:=fun a o e=>(f.ot a o e).casesOn fun h1 h2 h3=>⟨h1.to fun o e=>(hp a).trans e,h2,h3⟩
     gown:=fun k p e=>⟨Nat.lt_of_lt_of_eq (eD (f.gown k p e).1) ((congrArg _ hg).trans (Array.size_push _)).symm,(f.gown k p e).2⟩
     gt:=fun k y e=>(up k (Array.getElem?_eq_some_iff.mp (f.gt k y e)).1).trans (f.gt k y e)
     fun_:=hh▸f.fun_}
   le:=cO.refl _
   pi:=fun ζ ζ h=>h
   pir:=fun ζ ζ=>rfl
   at_:=fun q n ζ=>gh (fun ζ=>.rfl) (fun ζ=>.rfl) (fun a ζ=>hp a) fun k e=>up k (f.gown k q e).1
   fr:=fun ζ h=>h
   frh:=fun a o ζ e=>.same ((hp a).trans e)}
open Classical in
noncomputable def Wd.giveG (W:Wd) g p:=W.lab W.own fun k=>if k=g then some p else W.gown k
open Classical in
theorem Kp.giveG (f:bj c W) (hp:p≠.frame) (no:∀q,W.gown g=some q→False) (lt:g<W.G.S.gens.size) (ot:c.ot.g g=none):Kp c W (· =p) (W.giveG g p):=
  Kp.lab f (fun ζ ζ h=>.inl h) (fun k q h=>(Classical.em _).elim (fun z=>.inr (by rw[z];trivial)) fun z=>.inl ((if_neg z).symm.trans h)) (fun ζ ζ ζ=>.rfl)
    (fun k q n=>(Classical.em (k=g)).elim (fun z=>by rw[z];exact⟨fun h=>absurd (Option.some.inj ((if_pos rfl).symm.trans h)).symm n,fun h=>(no q h).elim⟩) fun z=>by rw[if_neg z]) hp.symm
open Classical in
noncomputable def yG (p q:Pl):=if q≠p then some q else none
open Classical in
theorem yF:yG p p=none:=if_neg fun h=>h rfl
open Classical in
theorem qt (h:q≠p):yG p q=some q:=if_pos h
open Classical in
theorem mx {q'} (h:yG p q=some q'):q=q'∧q≠p:=have z:=fJ.mp h;⟨Option.some.inj z.2,z.1⟩
theorem IX (hp:p≠.frame) (hb:∀q q',bf q=some q'→q'=p):l_ (· =p) bf (yG p) where
  eq:=fun h=>(mx h).1.symm
  no:=fun h=>(mx h).1▸(mx h).2
  dj:=fun h=>hb _ _ h▸yF
  fr:=.inl (qt fun h=>hp h.symm)
structure v_ (c0:aU) (g:Nat) (W0:Wd) (fz:Fz) (ρ:eC):Prop where
  own:∀a q,W0.own a=some q→∃o,ρ.h a=some o∧W0.hp a=some o
  gown:∀k q,W0.gown k=some q→k≠g∧∃st,ρ.g k=some st∧W0.G.S.gens[k]?=some st
  le:cO W0.G.fz fz
  frm:Ks c0 W0
noncomputable def sE (W:Wd) g:=W.mem (W.G.S.setGen g .running)
open Classical in
noncomputable def vc p {α:Type} (o0 o:α→Option Pl) a:=if o a=some p then o0 a else none
open Classical in
theorem eQ {α} {o0 o:α→Option Pl} {a}:vc p o0 o a=some q↔o a=some p∧o0 a=some q:=fJ
noncomputable def sD (g k:Nat):Option GenState:=aM (Nat.beq k g) (some .running)
noncomputable def zC (c c0:aU) W g p outs pi0:=c.go (sE W g) (· =p) (sD g) c0.env (c0.env::c.fl) c0.sc c0.dp c0.hd outs pi0
theorem xR (h:c.C=c0.C) {pi0}:zC c c0 W g p outs pi0=c0.re c.fl (c.aside (sE W g) (· =p) (sD g)) W.G.fz pi0 outs:=by
  induction c with|mk C H env fl ot fz0 pi0 sc dp hd outs=>
  induction c0 with|mk C' H' env' fl' ot' fz0' pi0' sc' dp' hd' outs'=>
  subst h
  rfl
theorem wB {st} (h:sD g k=some st):k=g∧st=.running:=bE h fun z h=>⟨aj z,(Option.some.inj h).symm⟩
theorem yu:sD g g=some .running:=by unfold sD;rw[show Nat.beq g g=true from dG g];rfl
theorem qS {env} {fl} (hf:env.frame=some env.locals):a∈bF (env::fl)↔a=env.locals∨a∈bF fl:=by
  unfold bF
  rw[cF,hf]
  exact aL
section
variable (h0:v_ c0 g W0 W.G.fz (W.at p)) (f:bj c W) (hp:p≠.frame) (hg:W.gown g=some p) (gc:fu c0) (kd:c0.env.scope.kind≠.module)
noncomputable def v_.w p (W W0:Wd) g:=((sE W g).lab (vc p W0.own W.own) (vc p W0.gown W.gown)).re W0.pi
include h0
theorem v_.at_ q:(v_.w p W W0 g).at q=W0.at q:=
  gh (fun a=>⟨fun h=>(eQ.mp h).2,fun h=>eQ.mpr ⟨(h0.own a q h).elim fun o y=>(cx.mp y.1).1,h⟩⟩)
    (fun k=>⟨fun h=>(eQ.mp h).2,fun h=>eQ.mpr ⟨(h0.gown k q h).2.elim fun o y=>(lK.mp y.1).1,h⟩⟩)
    (fun a h=>(h0.own a q h).elim fun o y=>(cx.mp y.1).2.trans y.2.symm)
    fun k h=>(h0.gown k q h).2.elim fun o y=>(Array.getElem?_setIfInBounds_ne (Ne.symm (h0.gown k q h).1)).trans ((lK.mp y.1).2.trans y.2.symm)
include f hp hg gc kd
theorem v_.given:iH c (sE W g) (· =p) (sD g) (fun ζ=>False) (c0.env::c.fl) (vc p W0.own W.own) (vc p W0.gown W.gown) where
  own:=fun a q h=>.inl ⟨p,(eQ.mp h).1,rfl⟩
  fr:=fun a q h m=>have z:=eQ.mp h
   ((qS gc.frame).mp m).elim (fun e=>Option.some.inj ((e▸z.2).symm.trans h0.frm.own)) fun m=>absurd ((f.own a p z.1).fmn m) hp
  new:=fun ζ h=>h.elim
  gown:=fun k q h=>have z:=eQ.mp h
    ⟨⟨p,z.1,rfl⟩,bP fun st e=>(h0.gown k q z.2).1 (wB e).1⟩
  xg:=fun k st h=>by
   obtain⟨e1,e2⟩:=wB h
   subst e1 e2
   exact⟨Array.getElem?_setIfInBounds_self_of_lt (f.gown k p hg).1,p,hg,rfl⟩
  fun_:=⟨kd,h0.frm.ob.elim fun o z=>(h0.own _ _ h0.frm.own).elim fun o' y=>⟨c0.env.locals,o,gc.frame,rfl,Option.some.inj (y.2.symm.trans z.1)▸(cx.mp y.1).2,z.2⟩,f.fun_⟩
  fm:=fun a m=>((qS gc.frame).mp m).elim (fun e=>.inr (e▸eQ.mpr ⟨(h0.own _ _ h0.frm.own).elim fun o y=>(cx.mp y.1).1,h0.frm.own⟩)) .inl
  kf:=fun h=>absurd h.symm hp
  up:=fun a m=>(qS gc.frame).mpr (.inr m)
theorem v_.fits:bj (zC c c0 W g p outs W0.pi) (v_.w p W W0 g):=(h0.given f hp hg gc kd).fits (Kp.setGen f hp hg rfl).fits fun ζ ζ h=>h
end
end
section
variable {C:Cf} {c:aU} {s:Shared} {W:Wd} {k e:Nat} {p q:Pl} {ρ:eC} {x st:GenState} {outs:List V} {K:Pl→Prop} {xg:Nat→Option GenState} {t:Sem Fin}
inductive oM (M:Model):GenState→Code→Sem Fin→List Frame→Prop
  |fresh (c:Code):oM M (.fresh c) c (M.den c) []
  |susp (k₀:Resume→Sem Fin) (l₀:List Value) (c:Code) (p₀:Pos) (fs:List Frame) (cl:Bool):oM M (.suspended k₀ l₀ c p₀ fs cl) c (k₀ (.send .none)) fs
theorem oM.or {M} (r:oM M gs code t fs):(gs=.fresh code∧t=M.den code∧fs=[])∨∃k₀ l₀ p₀ cl,gs=.suspended k₀ l₀ code p₀ fs cl∧t=k₀ (.send .none):=by
  induction r with
  |fresh c=>exact .inl ⟨rfl,rfl,rfl⟩
  |susp k₀ l₀ c p₀ fs cl=>exact .inr ⟨k₀,l₀,p₀,cl,rfl,rfl⟩
theorem wp_resume {α} {l} {k:GenResult→Sem α} {Q} {E} (hg:s.gens[g]?=some gs) (r:oM C.M gs code t fs)
    (x:SegX C.M A code t fs (s.setGen g .running) fun e s₁=>wpAny C.M A (k e.result) Q E (s₁.setGen g e.genState)):wpAny C.M A (.resume g (.send .none) l k) Q E s:=by
  exact fun Γ p hΓ => wake_any α _ _ hg (r.or.imp (fun h=>⟨h.1,rfl,h.2⟩) id) _ (fun ζ h=>h) (x.mono fun ζ ζ h Γ p hC=>h Γ p hC) Γ p hΓ
theorem jL {Q} {E} (h:∀ex h',(∀b o,s.heap.get? b=some o→h'.get? b=some o)→kb h' (.ref ex)→Q (.ref ex) {s with heap:=h'}):wpAny C.M A (newExc (.type "StopIteration") []) Q E s:=by
  refine wpAny_bind (wpAny_newObj_type ?_ (by size_fits))
  refine wpAny_bind (wpAny_of_eq (a:=Value.none) rfl ?_)
  exact wpAny_newObj_type (h _ _ (fun b o hb=>Heap.get?_push_of_some _ (Heap.get?_push_of_some _ hb)) ⟨_,_,Heap.get?_push_size _ rfl,rfl⟩) (by size_fits)
theorem iR {α} {v} {Q:α→Shared→Prop} {E} (hh:A.handled=none) (h:E (.ref v) s):wpAny C.M A (raiseNew (.ref v)) Q E s:=by
  exact wpAny_bind (wpAny_handled (hh▸(wpAny_throw h)))
inductive KY (C:Cf) (A:Around) (a:Addr) (g:Nat) (Q:Option Value→Shared→Prop) (E:Value→Shared→Prop):End→Shared→Prop
  |susp (v:Value) (lv:List Value) (k:Resume→Sem Fin) (code:Code) (p:Pos) (fs:List Frame) (S:Shared):Q (some v) (S.setGen g (End.genState (.susp v false lv k code p fs)))→KY C A a g Q E (.susp v false lv k code p fs) S
  |stop (S:Shared):(∀ex h',(∀b o,S.heap.get? b=some o→h'.get? b=some o)→kb h' ex→E ex {S.setGen g .finished with heap:=h'})→KY C A a g Q E (.ret (.ok (.ret .none))) S
  |fail (e0:Addr) (S:Shared) (oe:Obj) (n:Nat):S.heap.get? e0=some oe→(∀(A:Around) (E:Value→Shared→Prop) (Q:Bool→Shared→Prop),Q false (S.setGen g .finished)→wpAny C.M A (isSubtype oe.cls (.type "StopIteration")) Q E (S.setGen g .finished))→S.heap.IsGen a n→E (.ref e0) (S.setGen g .finished)→KY C A a g Q E (.ret (.error (.ref e0))) S
theorem Eb {Q} {E} (hg:s.gens[g]?=some gs) (r:oM C.M gs code t fs) (ob:s.heap.IsGen a g) (hl:s.heap.NoLimit) (room:A.in1.depth<recursionLimit) (hh:A.handled=none)
    (x:SegX C.M A.in1 code t fs (s.setGen g .running) (KY C A a g Q E)):wpAny C.M A (callSpecial? (.ref a) (Str.ofString "__next__")) Q E s:=by
  refine wpAny_callSpecial?_slot ob.typeIs slot_gen_next (wpAny_call_entry slot_gen_next ob.typeIs entry_gen_next ?_ (args_gen_next _))
  show wpAny _ _ (Builtin.Generator.genWake _ (.send _)) _ _ s
  refine wpAny_bind (wpAny_holding (wpAny_genNumber ob (wpAny_bind (wpAny_genState hg ?_))))
  have go:∀{α} {l} {K:GenResult→Sem α} {Q'},(∀en S1,KY C A a g Q E en S1→wpAny _ _ _ Q' E _)→wpAny _ _ (.resume g _ l K) Q' E s:=fun hk=>wp_resume hg r (x.mono hk)
  induction r
  all_goals
    refine wpAny_bind (wpAny_roomToWake hl room (go fun en S1 h=>?_))
    induction h with
    |susp v lv k code p fs S h=>exact wpAny_pure ⟨v,rfl,h⟩
    |stop S h=>
     show wpAny _ _ (newExc _ []>>=_) _ _ _
     exact wpAny_bind (jL fun ex h' k i=>wpAny_bind (iR (show A.in1.handled=none from hh) (h _ h' k i)))
    |fail e0 S oe n h1 h2 h3 h4=>
     refine hR fun o O=>?_
     obtain⟨og,nm,qn,w1,w2,w3,w4⟩:=h3
     refine O ?_
     have isi:∀{Q},Q false (S.setGen g .finished)→wpAny _ A.in1 _ Q E (S.setGen g _):=fun hq=>BH h1 (h2 _ _ _ hq)
     show wpAny _ _ (Builtin.Generator.genLeft _ _) _ _ _
     refine wpAny_bind (wpAny_bind (wpAny_load (show(S.setGen g _).heap.get? a=some og from w1) (wpAny_pure (wpAny_bind (isi ?_)))))
     rw[k_]
     exact wpAny_bind (isi (wpAny_bind (wpAny_throw h4)))
theorem Ed {Q} {E} (hg:s.gens[g]?=some .finished) (ob:s.heap.IsGen a g) (hh:A.handled=none) (h:∀ex h',(∀b o,s.heap.get? b=some o→h'.get? b=some o)→kb h' ex→E ex {s with heap:=h'}):
    wpAny C.M A (callSpecial? (.ref a) (Str.ofString "__next__")) Q E s:=by
  refine wpAny_callSpecial?_slot ob.typeIs slot_gen_next (wpAny_call_entry slot_gen_next ob.typeIs entry_gen_next ?_ (args_gen_next _))
  show wpAny _ _ (Builtin.Generator.genWake _ (.send _)) _ _ s
  refine wpAny_bind (wpAny_holding (wpAny_genNumber ob (wpAny_bind (wpAny_genState hg ?_))))
  intro Γ p hΓ
  exact⟨.finished,s,by unfold Wakes;exact hg▸by trivial,wpAny_bind (jL fun ex h' k i=>iR (show A.in1.handled=none from hh) (h _ h' k i)) Γ p hΓ⟩
end
section
variable {c:aU} {W:Wd} {k e:Nat} {p q:Pl} {fz':Fz} {ρ:eC} {x st:GenState} {outs:List Internal.V} {y:Internal.V} {t:Sem Fin}
noncomputable def vd W W3 g p bf st:=((dP (sE W g) W3 bf (yG p) W.pi).giveG g p).mem (W3.G.S.setGen g st)
theorem AN (h:W3.own a=some q):(vd W W3 g p (fun ζ=>some p) st).own a=some p:=by
  show d8 _ _ _ _=_
  rw[h];rfl
theorem yE (h:W3.gown k=some q) (n:k≠g):(vd W W3 g p (fun ζ=>some p) st).gown k=some p:=(if_neg n).trans (by
  show d8 _ _ _ _=_
  rw[h];rfl)
theorem AO:(vd W W3 g p bf st).gown g=some p:=if_pos rfl
section
variable (h0:v_ c0 g W0 W.G.fz (W.at p)) (f:bj c W) (hp:p≠.frame) (hg:W.gown g=some p) (gc:fu c0) (kd:c0.env.scope.kind≠.module) (x3:bj (zC c c0 W g p outs W0.pi) W3)
include f hp hg x3
theorem Dn:(zC c c0 W g p outs W0.pi).ot.g g=some .running:=um (f.gown g p hg).2 yu
theorem xS (h:W3.gown k=some q):k≠g:=fun z=>aX ((x3.gown k q h).2.symm.trans ((congrArg _ z).trans (Dn f hp hg x3)))
theorem rC:g<W3.G.S.gens.size:=(Array.getElem?_eq_some_iff.mp (x3.gt g _ (Dn f hp hg x3))).1
include h0 gc kd
theorem v_.leave (hb:∀q q',bf q=some q'→q'=p):cH c (sE W g) W3 (· =p) (sD g) (fun ζ=>False) bf (yG p) c0.env (c0.env::c.fl) c0.sc c0.dp c0.hd outs W0.pi (vc p W0.own W.own) (vc p W0.gown W.gown) W.pi:=
  ⟨(Kp.setGen f hp hg rfl).fits,h0.given f hp hg gc kd,x3,x3.fun_.2.2,IX hp hb,fun ζ ζ h=>h,fun ζ ζ=>rfl⟩
theorem v_.out (hb:∀q q',bf q=some q'→q'=p) (hst:st.bare=true):Kp c W (· =p) (vd W W3 g p bf st):=by
  have l:=h0.leave f hp hg gc kd x3 hb
  have lt:=rC f hp hg x3
  have k2:=Kp.giveG l.fits4 hp (fun q h=>cZ h (fun p' h1 ζ=>xS f hp hg x3 h1 rfl) fun p' h1 h2=>(mx h2).2 (Option.some.inj (h1.symm.trans hg))) lt (f.gown g p hg).2
  exact(((Kp.setGen f hp hg rfl).trans ((l.kp (qt fun h=>hp h.symm)).weak fun q h=>Classical.byContradiction fun n=>aX (h.symm.trans (qt n))) f).trans k2 f).trans (Kp.setGen k2.fits hp (if_pos rfl) hst) f
theorem v_.again (w:Ks c0 W3):v_ c0 g W3 (vd W W3 g p (fun ζ=>some p) st).G.fz ((vd W W3 g p (fun ζ=>some p) st).at p) where
  own:=fun a q h=>(x3.own a q h).ex.imp fun o e=>⟨cx.mpr ⟨AN h,e⟩,e⟩
  gown:=fun k q h=>have n:=xS f hp hg x3 h
    ⟨n,_,lK.mpr ⟨yE h n,(Array.getElem?_setIfInBounds_ne n.symm).trans (Array.getElem?_eq_getElem (x3.gown k q h).1)⟩,Array.getElem?_eq_getElem _⟩
  le:=cO.refl _
  frm:=w
end
inductive ke (c0:aU) (e:Nat) (a:Addr) (g:Nat) (l:List Internal.V) (fz:Fz) (ρ:eC):Prop
  |mk (W0:Wd) (outs:List Internal.V) (code:Code) (t:Sem Fin) (fs:List Frame) (gs:GenState):At fz a (fun h=>h.IsGen a g)→v_ c0 g W0 fz ρ→ρ.g g=some gs→oM c0.C.M gs code t fs→Kq c0 (uu c0 e l) W0 code t fs outs→ke c0 e a g l fz ρ
inductive o9 (e:Nat) (a:Addr) (g:Nat) (l:List Internal.V) (fz:Fz) (ρ:eC):Prop
  |mk:e=0→l=[]→At fz a (fun h=>h.IsGen a g)→ρ.g g=some .finished→o9 e a g l fz ρ
theorem ke.mono (le:cO fz fz') (h:ke c0 e a g l fz ρ):ke c0 e a g l fz' ρ:=h.casesOn fun W0 outs code t fs gs h1 h2 h3 h4 h5=>⟨W0,outs,code,t,fs,gs,h1.mono le,{h2 with le:=fun a o z=>le a o (h2.le a o z)},h3,h4,h5⟩
theorem o9.mono (le:cO fz fz') (h:o9 e a g l fz ρ):o9 e a g l fz' ρ:=h.casesOn fun h1 h2 h3 h4=>⟨h1,h2,h3.mono le,h4⟩
end
section
variable {c:aU} {W:Wd} {k e:Nat} {p q:Pl} {fz':Fz} {ρ:eC} {x st:GenState} {outs:List Internal.V} {y:Internal.V} {t:Sem Fin} {ex:Value}
theorem D8.same (h:D8 c W k ex) (hh:W'.G.S.heap=W.G.S.heap) (ho:W'.own=W.own) (hz:W'.G.fz=W.G.fz):D8 c W' k ex:=by
  induction h with|mk e base dx h1 h2 h3 h4=>
  have pr:∀{a},bH c W' a→bH c W a:=fun q=>q.casesOn (fun p h=>.own p (ho▸h)) (fun o h=>.fz o (hz▸h)) .ot .tb
  exact⟨e,base,dx,hh▸h1,fun q=>h2 (pr q),fun a o q m z=>h3 a o (pr q) m (by unfold Wd.hp;exact hh▸z),h4⟩
noncomputable def Nr (_:Pl):Option Pl:=none
section
variable (gc:fu c0) (kd:c0.env.scope.kind≠.module) (hC:c.C=c0.C) (hp:p≠.frame) (f:bj c W) (ga:GA c0.dp c A)
include gc kd hC hp f ga
theorem ke.wake (h:ke c0 e a g l W.G.fz (W.at p)) {Q} {E} (hQ:∀W0 outs,v_ c0 g W0 W.G.fz (W.at p)→W.gown g=some p→At W.G.fz a (fun h=>h.IsGen a g)→
      ∀en S,uu c0 e l c.fl (zC c c0 W g p outs W0.pi) en S→KY c0.C A a g Q E en S):wpAny c0.C.M A (callSpecial? (.ref a) (Str.ofString "__next__")) Q E W.G.S:=by
  induction h with|mk W0 outs code t fs gs h1 h2 h3 h4 h5=>
  have hg:=lK.mp h3
  refine Eb hg.2 h4 (h1.here f.ok.sub) (c.H.nolim f.ok) ?_ ga.hd (SegX.mono (h5 _ _ _ _ (v_.w p W W0 g) _ (xR hC▸h2.fits f hp hg.1 gc kd) h2.le rfl h2.at_ ⟨ga.hd,?_,?_,ga.fr⟩) fun en S h=>hQ W0 _ h2 hg.1 h1 en S ((xR hC).symm▸h))
  ·exact aR (ac (aA _ _) (ac (aA _ 32) ga.dep)) (by decide)
  ·exact ga.dep
  ·have:=ga.un
   lia
theorem ke.next (h:ke c0 e a g (y::l) W.G.fz (W.at p)) pi:wpAny c0.C.M A (callSpecial? (.ref a) (Str.ofString "__next__")) (xY c W p pi y (ke c0 e a g l)) ff W.G.S:=
  h.wake gc kd hC hp f ga fun W0 outs h2 hg h1 en S z0=>by
    refine hR fun o O=>?_
    obtain⟨v,lv,k,code,ps,fs,W3,outs',rfl,qu,rfl,z1,z2,z3,z4⟩:=z0
    refine O ?_
    have k5:=h2.out f hp hg gc kd z1 (fun q q' h=>(Option.some.inj h).symm) (End.bare_of_quiet qu)
    exact .susp v lv k _ ps fs _ (.mk v _ k5 (hC▸z2 pi) ⟨W3,outs',code,_,fs,_,h1.mono k5.le,h2.again f hp hg gc kd z1 z3,lK.mpr ⟨AO,Array.getElem?_setIfInBounds_self_of_lt (rC f hp hg z1)⟩,.susp _ _ _ _ _ _,z4⟩)
theorem ke.stop (h:ke c0 e a g [] W.G.fz (W.at p)) (he:e=0):wpAny c0.C.M A (callSpecial? (.ref a) (Str.ofString "__next__")) ff (xZ c W p (o9 e a g [])) W.G.S:=
  h.wake gc kd hC hp f ga fun W0 outs h2 hg h1 en S z0=>by
    obtain⟨rfl,W3,rfl,z1⟩:=z0.1 he
    have k5:=h2.out f hp hg gc kd z1 (st:=.finished) (fun q q' h=>aX h) rfl
    refine .stop _ fun ex h' i1 i2=>?_
    have k6:=k5.trans (Kp.mem k5.fits (S':={(vd W W3 g p Nr _).G.S with heap:=h'}) i1 rfl rfl) f
    exact .mk ex _ k6 i2 ⟨he,rfl,h1.mono k6.le,lK.mpr ⟨AO (st:=.finished),Array.getElem?_setIfInBounds_self_of_lt (rC f hp hg z1)⟩⟩
theorem ke.fail (h:ke c0 e a g [] W.G.fz (W.at p)) (he:e≠0):wpAny c0.C.M A (callSpecial? (.ref a) (Str.ofString "__next__")) ff (Dy c W p e) W.G.S:=
  h.wake gc kd hC hp f ga fun W0 outs h2 hg h1 en S z0=>by
    obtain⟨ex,rfl,zz⟩:=z0.2 he
    induction zz with|mk W3 e0 base dx h' z1 z2 z3 z4 z5 z6=>
    have k3:=Kp.slots (P:=fun ζ=>False) z1 (fun a o p m z=>z5.stays a o (z3 a o p m z)) z6
    have hb:∀q q',Nr q=some q'→q'=p:=fun q q' h=>aX h
    have k5:=h2.out f hp hg gc kd k3.fits hb (st:=.finished) rfl
    obtain⟨oe,o1,o2⟩:=z5.there
    refine .fail e0 _ oe g o1 (fun A E Q hq=>?_) ((h1.mono k5.le).here k5.fits.ok.sub) (.mk _ _ k5 ((cH.exc z1 z2 z3 z4 z5 rfl (h2.leave f hp hg gc kd k3.fits hb)).same rfl rfl rfl))
    rw[o2]
    exact hC▸c.H.stop e z4 A E _ Q (fA.in0 k5.fits.ok) hq
theorem o9.stop (h:o9 e a g [] W.G.fz (W.at p)):wpAny c0.C.M A (callSpecial? (.ref a) (Str.ofString "__next__")) ff (xZ c W p (o9 e a g [])) W.G.S:=by
  induction h with|mk h1 h2 h3 h4=>
  refine Ed (lK.mp h4).2 (h3.here f.ok.sub) ga.hd fun ex h' i1 i2=>?_
  have k6:=Kp.mem (P:=(· =p)) f (S':={W.G.S with heap:=h'}) i1 rfl rfl
  exact .mk ex _ k6 i2 ⟨h1,h2,h3.mono k6.le,lK.mpr (lK.mp h4)⟩
end
noncomputable def Ff:=["enumerate","zip","dict_itemiterator","dict_reverseitemiterator","odict_iterator","itertools.zip_longest","itertools.pairwise"]
set_option tactic.hygienic true in
theorem zY {C:Cf} {s} {t} {r} {rv} {o} {Q} {E} (h:s.heap.get? r=some o) (n:∀n,o.cls=.type n→Ff.contains n=false) (hq:Q () s):wpAny C.M A (letOwnedTupleGo t (.ref r) rv) Q E s:=by
  have pt:wpAny C.M A (do
    let (.ref r,.ref a):=(Value.ref r,rv)|return
    let o←load r
    match o.cls,o.data with
    |.type n,.fields vs=>
     if Ff.contains n&&vs[0]?==some (rawInt a) then
      rule "for.unpacks-the-owned-tuple"
      updateField r 0 .none
    |_,_=>pure ()) Q E s:=by
    rcases rv with⟨⟩
    case ref a=>
      refine wpAny_bind (wpAny_load h ?_)
      revert n
      generalize o.cls=cv
      generalize o.data=d
      intro n
      rcases cv with⟨⟩
      case type nm=>
        rcases d with⟨⟩
        case fields vs=>
          dsimp only
          exact (n nm rfl)▸wpAny_pure hq
        all_goals exact wpAny_pure hq
      all_goals exact wpAny_pure hq
    all_goals exact wpAny_pure hq
  rcases t with⟨⟩
  case Tuple=>exact pt
  case List=>exact pt
  all_goals exact wpAny_pure hq
theorem vF (h:ke c0 e a g l fz ρ∨o9 e a g l fz ρ):At fz a fun h=>h.IsGen a g:=h.elim (fun h=>h.casesOn fun ζ ζ ζ ζ ζ ζ h ζ ζ ζ ζ=>h) fun h=>h.casesOn fun ζ ζ h ζ=>h
theorem FR (gc:fu c0) (kd:c0.env.scope.kind≠.module) pi:wd c0.C c0.dp e (.ref a) pi fun l fz ρ=>ke c0 e a g l fz ρ∨o9 e a g l fz ρ where
  hin:=rfl
  mono:=fun l fz fz' ρ le h=>h.imp (·.mono le) (·.mono le)
  iter:=fun l c A W p Q E ζ ζ f h hq=>wpAny_pyIter_gen ((vF h).here f.ok.sub) hq
  next:=fun y l c A W p hC hp f ga h=>h.elim (fun h=>wpAny_mono (h.next gc kd hC hp f ga pi) (fun v S n=>n.casesOn fun rv W' k r i=>.mk rv W' k r (.inl i)) fun ζ ζ q=>q) fun h=>h.casesOn fun ζ h ζ ζ=>absurd h (br _ _)
  stop:=fun he c A W p hC hp f ga h=>wpAny_mono (h.elim (fun h=>h.stop gc kd hC hp f ga he) fun h=>h.stop gc kd hC hp f ga) (fun ζ ζ q=>q) fun v S n=>n.casesOn fun W' k r i=>.mk _ W' k r (.inr i)
  fail:=fun he c A W p hC hp f ga h=>h.elim (fun h=>h.fail gc kd hC hp f ga he) fun h=>h.casesOn fun h ζ ζ ζ=>absurd h he
  spec:=fun l c W p ζ ζ f h=>⟨"generator",_,((vF h).here f.ok.sub).typeIs,slot_gen_next.lookup⟩
  go:=fun l c A W p t rv ζ ζ f h=>by
   obtain⟨o,nm,qn,z1,z2,z3⟩:=(vF h).here f.ok.sub
   exact zY z1 fun n e=>by
     refine (Value.type.inj (z2.symm.trans e))▸?_
     rfl (HX.mk W (Kp.mem f (fun ζ ζ h=>h) rfl rfl) h)
end
section
variable {c:aU} {b:Str→Option Value} {W:Wd} {e k:Nat} {L:List Internal.V} {X:Tr Fl} {v:Value}
theorem yr {M:Model} {A} {fs} {s} {P} {env} {C:Cf}
    (h:SegX C.M A (.func body env) ((execs body env).wrap (fun f=>.pure (.done (.ret (uE f)))) (fun e=>(leaving env e).wrap (fun ζ=>.raise e) .raise id id) id id) fs s P):
    SegX C.M A (.func body env) (C.M.den (.func body env)) fs s P:=by
  refine SegX.wrap (H:=.raise) (gd:=id) (lv:=fun ζ=>[]) (wpAny_point ?_)
  rw[Sem.onRaise_eq_wrap,Sem.bind_eq_wrap',Sem.wrap_wrap, Sem.wrap_congr _ _ _ (K':=fun f=>.pure (.done (.ret (uE f))))
   (H':=fun e=>(leaving _ e).wrap _ _ id id) fun f=>by cases f<;>rfl
   fun e=>by rw[Sem.bind_eq_wrap,Sem.wrap_wrap];rfl]
  exact h
inductive zL:lM Fl→Nat→List Internal.V→Prop
  |ok (s:St):s.ob=true→zL (.ok .next s) 0 s.outs
  |err (k:Nat) (v:Internal.V) (s:St):s.ob=true→zL (.err k v s) k s.outs
inductive DJ (c0:aU) (e:Nat) (σ:iN):Prop
  |mk (W:Wd):W.G.S=σ.S→bj (σ.act c0) W→σ.rest=[]→e=0→DJ c0 e σ
inductive wh (c0:aU) (e:Nat) (v:Value) (σ:iN):Prop
  |mk (s:St):oV (σ.act c0) e v s σ.S→σ.rest=[]→GB c0.dp σ.A σ.fl→wh c0 e v σ
theorem K4.rest (g:K4 c0 L σ) (h:L=σ.outs):σ.rest=[]:=List.append_right_eq_self.mp (g.L.symm.trans h)
theorem wh.end_ (g:fu c0) (hp:c0.C.P=PP) (h:wh c0 e v σ):SegX c0.C.M σ.A (.func body c0.env) ((leaving c0.env v).wrap (fun ζ=>.raise v) .raise id id) [] σ.S (GP c0 e σ):=by
  induction h with|mk s hx hr gb=>
  unfold GP
  rw[hr]
  generalize hS:σ.S=S at hx
  induction hx with|mk W b x hx=>
  induction hx with|mk e0 base dx hin hn hst hk=>
  exact SegX.wrap (mQ (((lP.func _ _).over (c:=σ.act c0) gb hp rfl).fr) g.frame hin fun h' i1 i2 i3=>(s_end _ _ _ _ _ _ _ _ rfl ⟨fun h=>hk.elim (fun q=>absurd (h.symm.trans q) (by decide)) fun q=>absurd (h.symm.trans q) (by decide),fun ζ=>⟨_,rfl,.mk W e0 _ dx h' x.fits hn hst hk i1 i3⟩⟩))
theorem DJ.of (h:a_ (σ.act c0) b T s σ.S) (g:K4 c0 s.outs σ):DJ c0 0 σ:=by
  generalize hS:σ.S=S at h
  induction h with|mk W x=>exact .mk W hS.symm x.fits (g.rest x.ou) rfl
theorem wh.of (h:oV (σ.act c0) e v s σ.S) (g:K4 c0 s.outs σ):wh c0 e v σ:=.mk s h (g.rest (h.casesOn fun ζ ζ x ζ=>x.ou)) g.gb
noncomputable def Ai env (body:List Stmt):Dx env:=⟨.func body _,[],lP.func _ _⟩
noncomputable def PS c0 e L body X:=∀b k s,J (gm c0 L) (K5 c0 L b (.nil k) s) s X (jP c0 e (Ai _ body) (execs body c0.env)) (uL (FU c0 e L) (.nil k))
theorem zL.fut (x:aZ c0 s b (.nil k) W) (g:fu c0) (hp:c0.C.P=PP) (j:PS c0 e L body X) (hs:s=ve s []) (h:zL (X.run s) e L):Kq c0 (uu c0 e L) W (.func body c0.env) (c0.C.M.den (.func body c0.env)) [] []:=fun kM ot fz0 pi0 W1 A1 hf hle hpi hat gb=>
  yr (M:=c0.C.M) (j b k s ⟨W1.G.S,A1,kM,ot,fz0,pi0,[],L⟩ (fun f σ=>f=.next∧DJ c0 e σ) (wh c0 e) ⟨.mk W1 (x.wake hs g hf hle hpi hat),rfl,gb⟩ (by
    generalize X.run s=o at h⊢
    induction h with
    |ok s' ho=>exact⟨⟨ho,aD _⟩,fun f σ z=>z.elim fun b z=>z.elim fun T' z=>⟨z.1.1,DJ.of z.2.1 z.2.2⟩⟩
    |err k v s' ho=>exact⟨⟨ho,aD _⟩,fun f σ z=>wh.of z.1 z.2⟩) _ _ id (fun f σ z=>by
     obtain⟨rfl,h⟩:=z
     induction h with|mk W h1 h2 h3 h4=>
     unfold GP
     rw[h3]
     exact s_end _ _ _ _ _ _ _ _ rfl ⟨fun ζ=>⟨rfl,W,h1,h2⟩,fun h=>absurd h4 h⟩) fun x σ z=>z.end_ g hp)
end
section
variable {c:aU} {b:Str→Option Value} {W W4:Wd} {e k:Nat} {L:List Internal.V} {X:Tr Fl} {v:Value} {α:Type}
noncomputable def qp rs k:=xf rs k&&Nat.blt k 3
theorem vA {rs} {x} k:(KJ rs k x=x∧xf rs k=true)∨KJ rs k x=.taken:=by
  unfold KJ
  induction xf rs k with
  |true=>exact .inl ⟨rfl,rfl⟩
  |false=>exact .inr rfl
theorem qr {rs} {x} k:(xf rs k=false∧yD rs k x=x)∨yD rs k x=.taken:=by
  unfold yD
  induction xf rs k with
  |true=>exact .inr rfl
  |false=>exact .inl ⟨rfl,rfl⟩
theorem y8 fi bV rs s k:((jH fi bV rs s).reg k=s.reg k∧qp rs k=true)∨(jH fi bV rs s).reg k=.taken∨((jH fi bV rs s).reg k=.empty∧k=3):=by
  match k with
  |0=>exact(vA 0).elim (fun h=>.inl ⟨h.1,by unfold qp;rw[h.2];rfl⟩) fun h=>.inr (.inl h)
  |1=>exact(vA 1).elim (fun h=>.inl ⟨h.1,by unfold qp;rw[h.2];rfl⟩) fun h=>.inr (.inl h)
  |2=>exact(vA 2).elim (fun h=>.inl ⟨h.1,by unfold qp;rw[h.2];rfl⟩) fun h=>.inr (.inl h)
  |3=>exact .inr (.inr ⟨rfl,rfl⟩)
  |_+4=>exact .inr (.inl rfl)
theorem y9 rs s s' k:(qp rs k=false∧(jI rs s s').reg k=s.reg k)∨(jI rs s s').reg k=.taken:=by
  match k with
  |0=>exact(qr 0).imp (fun h=>⟨by unfold qp;rw[h.1];rfl,h.2⟩) id
  |1=>exact(qr 1).imp (fun h=>⟨by unfold qp;rw[h.1];rfl,h.2⟩) id
  |2=>exact(qr 2).imp (fun h=>⟨by unfold qp;rw[h.1];rfl,h.2⟩) id
  |3=>exact .inl ⟨k_ _,rfl⟩
  |_+4=>exact .inr rfl
set_option backward.match.sparseCases false in
theorem bZ.gen {f} {g} {hg} {R:Internal.V→β→St→Shared→Prop} {Q} {E} (z:bZ (pm c) R Q E ((B4 f g hg d X).run s)) (ho:∀s',(g s s').ob=s'.ob):∃e x L s',zL (X.run (f s)) e L∧∀v S,R (.itr d L e x) v (g s s') S→Q v S:=by
  revert z
  show bZ _ R Q E (match X.run _ with|.ok Fl.next s'=>.ok _ _|.ok _ _=>.stuck _|.err c v s'=>.ok _ _|.stuck w=>.stuck w)→_
  induction X.run _ with
  |ok fl s'=>
   induction fl with
   |next=>exact fun z=>⟨0,.none,s'.outs,s',.ok s' ((ho s').symm.trans z.1),z.2⟩
   |_=>exact fun z=>z.elim
  |err k v s'=>exact fun z=>⟨k,v,s'.outs,s',.err k v s' ((ho s').symm.trans z.1),z.2⟩
  |stuck=>exact fun z=>z.elim
theorem Kp.simBk {Kr:Nat→Bool} (k:Kp c W (lN (ic Kr T.len)) W4) (x:aZ c s b T W) (h1:s4.rho=s.rho) (h2:s4.sc=s.sc) (h3:s4.dp=s.dp) (h4:s4.hd=s.hd) (h5:s4.outs=s.outs) (h6:∀r,(Kr r=false∧s4.reg r=s.reg r)∨s4.reg r=.taken):aZ c s4 b T W4 where
  fits:=k.fits
  env:=x.env
  sc:=h2.trans x.sc
  dp:=h3.trans x.dp
  hd:=h4.trans x.hd
  ou:=h5.trans x.ou
  fr:=k.frm x.fits x.fr
  nm:=fun y V g1 g2=>k.hasV (fun z=>aX z.symm) Pl.noConfusion (x.nm y V (h1▸g1) g2)
  kn:=fun y V g1=>x.kn y V (h1▸g1)
  rg:=fun r=>(h6 r).elim (fun z=>z.2▸k.slot x.fits (fun q=>by
   have:aM (!Kr r) (some (Pl.inst r))=none:=q
   rw[z.1] at this;exact aX this.symm) (fun n q=>by
   have:aM (!Kr r) (some (Pl.attr r n))=none:=q
   rw[z.1] at this;exact aX this.symm) (x.rg r)) fun z=>z▸trivial
  tm:=k.tmps (fun j hj q=>by
   have:aM (decide (j<T.len)) (some (Pl.tmp j))=none:=q
   rw[decide_eq_true hj] at this;exact aX this.symm) x.tm
end
section
variable {c:aU} {b:Str→Option Value} {W W4:Wd} {e k:Nat} {L:List Internal.V} {X:Tr Fl} {v:Value} {S2:Shared} {α:Type} {ex:List Stmt→Tr Fl} {a:Nat}
section
variable {vals:List Value} {bV:List (Str×Internal.V)}
noncomputable def qQ (W2:Wd) (S' S2:Shared):=(W2.mem {S' with gens:=S2.gens}).ext S2 (· =S'.heap.objs.size)
noncomputable def BZ (W W2:Wd) S' S2 Kr t:=(dP (W.mem S') (qQ W2 S' S2) (fun ζ=>some (.tmp t)) (ic Kr t) W.pi).giveG S'.gens.size (.tmp t)
theorem Ju {ps} {t}:l_ (fS (bC Kr ps t)) (fun ζ=>some (.tmp t)) (ic Kr t) where
  eq:=ib
  no:=xe
  dj:=fun h=>sm h▸by
   show aM _ _=_
   rw[decide_eq_false (a9 t)];rfl
  fr:=.inl rfl
structure Kj (fi:FI) (env:Env) (S' S2:Shared):Prop where
  gens:S2.gens=S'.gens.push (.fresh (.func fi.body env))
  os:S2.os=S'.os
  heap:∃nm qn,S2.heap=S'.heap.push {cls:=.type "generator",data:=.fields #[.int S'.gens.size 0,nm,qn]}
theorem fu.of (e:df c s b0 T args vals W fi fd bV bb env S' Kr) (co:fd.scope.isCoroutine=false) (hh:c.hd=false):fu (eB c W S' env (bC Kr fi.params T.len) fi d) where
  frame:=e.en.frame
  co:=(congrArg _ e.en.scope).trans co
  free:=fun x cl h1 h2=>by
    have h1:=h1.elim id fun q=>by
      show env.scope.names.lookup x=_
      rw[e.en.scope,e.names]
      exact(eR x _).symm.trans q.2
    have h2:=(e.en.free x h1).symm.trans h2
    revert h2
    exact e.clo.casesOn (fun h=>aX h) fun cc cl' oc g1 g2 ζ ζ ζ h=>by
      unfold List.lookup at h
      revert h
      induction x==ae _ with
      |true=>exact fun h=>sm h▸⟨g1,oc,g2⟩
      |false=>exact fun h=>aX h
  hd:=hh
theorem BY (F:k8 c s b0 T args vals W fi bV a fd bb env S') (n:Kj fi env S' S2) (hp:c.C.P=PP) (hh:c.hd=false) (h3:s.reg 3=.empty) (co:fd.scope.isCoroutine=false) (j:∀c0 e L,fu c0→c0.C.P=PP→c0.env.scope.kind=.function→c0.env=env→c0.C=c.C→PS c0 e L fi.body (ex fi.body))
    (ge:zL ((ex fi.body).run (jH fi bV (s.reach args) s)) e L) x:a_ c b0 (.more (.itr fi.dp L e x) (.ref S'.heap.objs.size) T) (jI (s.reach args) s s') S2:=by
  have hr:=fun r=>y8 fi bV (s.reach args) s r
  generalize hK:qp (s.reach args)=Kr at hr
  have en:=F.e Kr
  have x2:=en.sim (F.bnd Kr) F.inp rfl rfl rfl (en.x.hd.trans hh).symm rfl fun r=>(hr r).imp id fun h=>h.imp id fun h=>⟨h.1,by
    have:=en.x.rg 3
    rw[h3] at this
    rw[h.2];exact this⟩
  obtain⟨n1,n2,nm,qn,n3⟩:=n
  have new:S2.heap.get? S'.heap.objs.size=some {cls:=.type "generator",data:=.fields #[.int S'.gens.size 0,nm,qn]}:=by rw[n3];exact Heap.get?_push_size _ rfl
  have free:S'.heap.get? S'.heap.objs.size=none:=bK _
  have k1:=Kp.pushGen (P:=Pt 0) (S':={S' with gens:=S2.gens}) x2.fits rfl n1 rfl rfl
  have x3:=(k1.trans (Kp.grow (S':=S2) k1.fits (fun b o q=>by rw[n3];exact Heap.get?_push_of_some _ q) rfl n2 (· =S'.heap.objs.size) fun b h=>⟨k1.fits.free (h▸free),k1.fits.fmfree (h▸free)⟩) x2.fits).simT x2
  have l:cH c (W.mem S') (qQ (c_ W S' env (bC Kr fi.params T.len)) S' S2) (fS (bC Kr fi.params T.len)) (fun ζ=>none) (jf env) (fun ζ=>some (.tmp T.len)) (ic Kr T.len) env (env::c.fl) fi.names fi.dp c.hd [] W.pi _ _ W.pi:=⟨en.x1.fits,en.rel.given,x3.fits,x3.fits.fun_.2.2,Ju,fun ζ ζ h=>h,fun ζ ζ=>rfl⟩
  have nog:=fun p q h=>(x2.fits.gown p q h).1
  have k6:Kp c (W.mem S') (lN (ic Kr T.len)) (BZ W (c_ W S' env (bC Kr fi.params T.len)) S' S2 Kr T.len):=(l.kp rfl).trans ((Kp.giveG l.fits4 Pl.noConfusion (fun q h=>cZ h (fun p h ζ=>a9 _ (nog _ p h)) fun p h ζ=>a9 _ (en.x1.fits.gown _ p h).1) (show S'.gens.size<S2.gens.size from by rw[n1,Array.size_push];exact dk _) (bP fun y h=>a9 _ (Array.getElem?_eq_some_iff.mp (en.x1.fits.gt _ y h)).1)).weak fun q h=>h▸(by
    show aM (decide (T.len<T.len)) _=_
    rw[decide_eq_false (a9 _)];rfl)) en.x1.fits
  have kd:=(congrArg (·.kind) en.en.scope).trans en.kind
  have g:=fu.of (d:=fi.dp) en co hh
  have sub:∀p q,(qQ (c_ W S' env (bC Kr fi.params T.len)) S' S2).own p=some q→(BZ W (c_ W S' env (bC Kr fi.params T.len)) S' S2 Kr T.len).own p=some (.tmp T.len):=fun p q h=>by
    show d8 _ _ ((qQ (c_ W S' env (bC Kr fi.params T.len)) S' S2).own p) _=_
    rw[h];rfl
  have subg:∀p q,(qQ (c_ W S' env (bC Kr fi.params T.len)) S' S2).gown p=some q→(BZ W (c_ W S' env (bC Kr fi.params T.len)) S' S2 Kr T.len).gown p=some (.tmp T.len):=fun p q h=>(if_neg (cy (nog p q h))).trans (by
    show d8 _ _ ((qQ (c_ W S' env (bC Kr fi.params T.len)) S' S2).gown p) _=_
    rw[h];rfl)
  exact .of ((k6.simBk (s4:=jI (s.reach args) s s') en.x1.popL rfl rfl rfl rfl rfl fun r=>hK▸y9 (s.reach args) s s' r).push (.itr _ _ _ _ _ (.mk W.pi _ (fun ζ ζ h=>h) (FR g (by show env.scope.kind≠_;rw[kd];decide) W.pi) (.inl ⟨qQ (c_ W S' env (bC Kr fi.params _)) S' S2,[],.func _ env,_,[],_,
    ⟨_,eh rfl new (bP fun y h=>aX (free.symm.trans (x2.fits.ok.sub _ _ h))),fun h q=>⟨_,nm,qn,q,rfl,rfl,rfl⟩⟩,
    ⟨fun p q h=>(x3.fits.own p q h).ex.imp fun o z=>⟨cx.mpr ⟨sub p q h,z⟩,z⟩,fun p q h=>⟨cy (nog p q h),_,lK.mpr ⟨subg p q h,Array.getElem?_eq_getElem (x3.fits.gown p q h).1⟩,Array.getElem?_eq_getElem _⟩,cO.refl _,
      ⟨x3.fr.own,x3.fits.fun_.2.1.elim fun L z=>z.elim fun o z=>⟨o,sm (en.en.frame.symm.trans z.1)▸z.2.2.1,z.2.2.2⟩⟩⟩,
    lK.mpr ⟨if_pos rfl,by show S2.gens[S'.gens.size]?=_;rw[n1];exact Array.getElem?_push_size⟩,.fresh _,ge.fut x3 g hp (j _ e L g hp kd rfl rfl) rfl⟩)))) rfl
end
noncomputable def MX PP (fi:FI) X:=∀c0 e L,fu c0→c0.C.P=PP→c0.env.scope.kind=.function→(jD fi.body=true→jk c0.C c0.env)→(jG fi.body=true→o8 c0.C c0.env.code)→PS c0 e L fi.body X
theorem Ji {x} (h:Jj x=true):x=.empty:=by
  induction x with
  |empty=>rfl
  |_=>exact bG h
theorem vW (hj:MX PP fi (ex fi.body)) (hfi:PP.fn a=some fi) (hg:fi.gen=true) {args} {kw} {vals kvals} (ge:GQ PP c A) (hh:c.hd=false):J (pm c) (bO c b0 T (.glob a) (.ref a) args vals kw kvals s) s (eH ex fi args kw) (gS c A (.ref a) vals kw kvals) (PV c b0 T):=
  .opt fun bV hb=>by
    rw[hg]
    refine .look (.grd fun hs=>fun S Q E i z=>?_)
    obtain⟨e,y,L,s',z1,z2⟩:=bZ.gen z fun ζ=>rfl
    induction i with|mk W x r hk hl=>
    have hfi:=ge.pt▸hfi
    have gd:=ge.dep
    induction (c.H.fn a fi hfi).is with|mk o fd I=>
    have ok:=x.fits.ok
    refine codeAny_call_generator (by unfold recursionLimit;omega) (ok.in0 _ _ I.tb I.at_) I.data I.co (I.gen.trans hg) I.body (I.code _ ok.in0) (rV hfi x hl hk hb I fun env S' bb F en=>⟨(c.H.nolim ok).keeps en.keep,z2 _ _ (BY F ?_ ge.pt hh (Ji (aa.mp hs).2) I.co (fun c0 e L g p k he hC=>hj c0 e L g p k (fun h=>hC▸he▸(Cc hfi F).1 h) fun h=>hC▸he▸(Cc hfi F).2 h) z1 y)⟩)
    exact⟨rfl,rfl,_,_,rfl⟩
end
section
variable {c:aU} {b:Str→Option Value} {W:Wd} {V:Internal.V} {v:Value} {P:Pl→Prop} {Z:Addr→Prop} {y:Str} {Q:Unit→Shared→Prop} {ρ:List (Str×Internal.V)} {m:Str→Option Value} {fr:Addr}
theorem bj.write (f:bj c W) (hz:∀a,Z a→∃p,W.own a=some p) (hk:∀a o,¬Z a→W.hp a=some o→S'.heap.get? a=some o) (hn:∀a,Z a→∃o,S'.heap.get? a=some o∧(a∈bF c.fl→∀vs,o.data≠.fields vs)) (hg:S'.gens=W.G.S.gens) (ho:S'.os=W.G.S.os):bj c (W.mem S'):=
  have nf:=fun a o e z=>(hz a z).elim fun p h=>aX ((f.own a p h).fzn.symm.trans e)
  have nt:=fun z=>(hz _ z).elim fun p h=>(f.own _ p h).tbn rfl
  have no:=fun a o e z=>(hz a z).elim fun p h=>aX ((f.own a p h).otn.symm.trans e)
  have htb:=f.ok.tbs.elim fun o e=>(hk _ o nt e).trans e.symm
  {f with
   ok:={f.ok with
    sub:=fun a o e=>hk a o (nf a o e) (f.ok.sub a o e)
    bare:=by show AllBare S'.gens;rw[hg];exact f.ok.bare
    os:=ho.trans f.ok.os
    tbi:=by show c.C.tbI (S'.heap.get? _) _;rw[htb];exact f.ok.tbi
    tbs:=f.ok.tbs.imp fun o e=>htb.trans e}
   own:=fun a p e=>(f.own a p e).casesOn fun o h1 h2 h3 h4 h5=>(Classical.em _).elim (fun z=>(hn a z).elim fun o' q=>⟨o',q.1,h2,h3,h4,h5⟩) fun z=>⟨o,hk a o z h1,h2,h3,h4,h5⟩
   ot:=fun a o e=>(f.ot a o e).casesOn fun h1 h2 h3=>⟨h1.to fun o' e'=>hk a o' (no a o e) e',h2,h3⟩
   gown:=fun k p e=>⟨by show k<S'.gens.size;rw[hg];exact(f.gown k p e).1,(f.gown k p e).2⟩
   gt:=fun k y e=>by show S'.gens[k]?=_;rw[hg];exact f.gt k y e
   fun_:=FunFrames.of (fun a m=>(Classical.em _).elim (fun z=>(hn a z).imp fun o q=>⟨q.1,q.2 m⟩) fun z=>(f.fun_.mem m).2.imp fun o q=>⟨hk a o z q.1,q.2⟩) f.fun_}
theorem Kw.write (f:bj c W) (hz:∀a,Z a→∃p,W.own a=some p) (hk:∀a o,¬Z a→W.hp a=some o→S'.heap.get? a=some o) (hn:∀a,Z a→∃o,S'.heap.get? a=some o∧(a∈bF c.fl→∀vs,o.data≠.fields vs)) (hg:S'.gens=W.G.S.gens) (ho:S'.os=W.G.S.os) (hP:∀a p,Z a→W.own a=some p→P p∨p=.frame):Kw c W P (W.mem S') where
  fits:=f.write hz hk hn hg ho
  le:=cO.refl _
  pi:=fun ζ ζ h=>h
  pir:=fun ζ ζ=>rfl
  at_:=fun q n nf=>gh (fun ζ=>.rfl) (fun ζ=>.rfl) (fun a e=>(f.own a q e).ex.elim fun o h=>(hk a o (fun z=>(hP a q z e).elim n nf) h).trans h.symm) fun k e=>by show S'.gens[k]?=_;rw[hg]
theorem Kw.trans (k:Kw c W P W') (k2:Kw c W' P W2):Kw c W P W2:=⟨k2.fits,fun a o e=>k2.le a o (k.le a o e),fun r a e=>k2.pi r a (k.pi r a e),fun r h=>(k2.pir r h).trans (k.pir r h),fun q h1 h2=>(k2.at_ q h1 h2).trans (k.at_ q h1 h2)⟩
theorem Kw.weak {R} (k:Kw c W P W') (h:∀q,P q→R q):Kw c W R W':={k with at_:=fun q n=>k.at_ q fun e=>n (h q e),pir:=fun r n=>k.pir r fun e=>n (h _ e)}
theorem mz {h:Heap} {L cl} {w} (hm:h.Ns L m) (hc:h.IsCell cl w):cl≠L:=fun e=>by
  obtain⟨o,q,hd⟩:=hc
  obtain⟨o',es,ep,q',hd',_⟩:=hm
  rw[e,q'] at q
  rw[sm q,hd'] at hd
  trivial
theorem aZ.store (x:aZ c s b (.more V v T) W) (hfr:W.own fr=some .frame) (hs:∀a,a≠fr→S'.heap.get? a=W.hp a) (hg:S'.gens=W.G.S.gens) (ho:S'.os=W.G.S.os) (hex:∃o,S'.heap.get? fr=some o∧∀vs,o.data≠.fields vs) (hk:nI (lk y c.sc)=true) (hce:∀w,W.G.S.heap.IsCell fr w→∃w',S'.heap.IsCell fr w')
    (hm:W.G.S.heap.Ns c.env.locals m) (hm':S'.heap.Ns c.env.locals m') (hx:Kx c ((W.move (.tmp T.len) (.loc y)).mem S') m' y v) (hb:∀z w,z≠y→Kx c (W.move (.tmp T.len) (.loc y)) m z w→Kx c ((W.move (.tmp T.len) (.loc y)).mem S') m' z w):∃b',aZ c (iX s (put y V s.rho)) b' T ((W.move (.tmp T.len) (.loc y)).mem S'):=by
  have k1:=Kp.move (p:=.tmp T.len) (q:=.loc y) x.fits Pl.noConfusion Pl.noConfusion Pl.noConfusion
  have f1:=k1.frm x.fits x.fr
  have k2:Kw c _ (fun ζ=>False) _:=Kw.write k1.fits (fun a z=>⟨_,z▸k1.fr _ hfr⟩) (fun a o z e=>(hs a z).trans e) (fun a z=>z▸hex.imp fun o q=>⟨q.1,fun ζ=>q.2⟩) hg ho fun a p z e=>.inr (sm ((k1.fr _ hfr).symm.trans (z▸e)))
  have k:=k1.toKw.trans (k2.weak fun ζ h=>h.elim)
  obtain⟨m1,n1,n2⟩:=f1.ns
  have e:m1=m:=by
    obtain⟨o,es,ep,h1,h2,_,h3⟩:=n1
    obtain⟨o',es',ep',g1,g2,_,g3⟩:=hm
    have e:=sm (h1.symm.trans g1)
    subst e
    have e:=(h2.symm.trans g2)
    injection e with e _
    subst e
    funext n;rw[←h3,←g3]
  subst e
  exact⟨fun z=>if z=y then some v else b z,{
    fits:=k.fits
    env:=x.env
    sc:=x.sc
    dp:=x.dp
    hd:=x.hd
    ou:=x.ou
    fr:=⟨f1.own,f1.cell,fun z h=>(f1.ce z h).elim fun cl q=>q.elim fun w q=>(Classical.em (cl=fr)).elim (fun e=>(hce w (e▸q.2)).imp' _ fun w' h=>⟨w',q.1,e▸h⟩) fun n=>⟨cl,w,q.1,q.2.imp fun o z=>⟨(hs cl n).trans z.1,z.2⟩⟩,m',hm',fun z w e=>by
     by_cases h:z=y
     ·subst h
      exact sm ((if_pos rfl).symm.trans e)▸hx
     ·exact hb z w h (n2 z w ((if_neg h).symm.trans e))⟩
    nm:=fun z U h1 h2=>by
     by_cases e:z=y
     ·subst e
      exact⟨v,if_pos rfl,by rw[k2.at_ _ id Pl.noConfusion,fZ Pl.noConfusion];exact (sm (h1.symm.trans i8))▸x.tm.1⟩
     ·rw[if_neg e];exact k.hasV (fun q=>q.elim Pl.noConfusion fun q=>e (by injection q)) Pl.noConfusion (x.nm z U ((gQ e).symm.trans h1) h2)
    kn:=fun z U h1=>by
     by_cases e:z=y
     ·exact e▸hk
     ·exact x.kn z U ((gQ e).symm.trans h1)
    rg:=fun r=>k.slot x.fits (fun q=>q.elim Pl.noConfusion Pl.noConfusion) (fun ζ q=>q.elim Pl.noConfusion Pl.noConfusion) (x.rg r)
    tm:=k.tmps (fun j hj q=>q.elim (fun e=>a9 _ (by injection e with e;exact e▸hj)) Pl.noConfusion) x.tm.2}⟩
end
section
variable {c:aU} {b:Str→Option Value} {W:Wd} {V:Internal.V} {v:Value} {P:Pl→Prop} {Z:Addr→Prop} {y:Str} {Q:Unit→Shared→Prop} {ρ:List (Str×Internal.V)} {m:Str→Option Value} {fr:Addr}
theorem IsCell.off {h h'} {cl L} {w} (hs:Heap.SameBut L h h') (n:cl≠L) (x:h.IsCell cl w):h'.IsCell cl w:=x.imp fun o z=>⟨(hs.2 cl n).trans z.1,z.2⟩
theorem w_ {R:Prop} {o} (h:tj o=true) (h1:o=some .local→R) (h2:o=some .cell→R):R:=
  (Bool.or_eq_true_iff.mp h).elim (fun h=>h1 (of_decide_eq_true h)) fun h=>h2 (of_decide_eq_true h)
theorem mM (x:aZ c s b (.more V v T) W) (hk:tj (lk y s.sc)=true) (hq:∀W' b',aZ c (iX s (put y V s.rho)) b' T W'→Q () W'.G.S):wpAny c.C.M A (storeName c.env y v) Q E W.G.S:=by
  obtain⟨m,hm,_⟩:=x.fr.ns
  have hk:=x.sc▸hk
  have kn:nI (lk y _)=true:=w_ hk fun h=>by rw[h];rfl fun h=>by rw[h];rfl
  refine w_ hk (fun hk=>?_) fun hk=>?_
  ·have kd:=x.env.sc y _ hk
   refine wpAny_storeName_local kd hm (fun h' hn' hs'=>?_) (x.env.kind▸rfl)
   obtain⟨b',z⟩:=x.store (S':={W.G.S with heap:=h',toks:=W.G.S.toks+1}) x.fr.own hs'.2 rfl rfl (by
       obtain⟨o,es,ep,q,hd,_⟩:=hn'
       exact⟨o,q,fun vs e=>by rw[hd] at e;trivial⟩) kn (fun w hc=>absurd rfl (mz hm hc)) hm hn' (.loc kd (if_pos rfl)) fun z w n q=>by
     induction q with
     |loc q1 q2=>exact .loc q1 ((if_neg n).trans q2)
     |cell cl q1 q2 q3 q4=>exact .cell cl q1 q2 (IsCell.off hs' (mz hm q3) q3) q4
     |free cl o q1 q2 q3 q4=>exact .free cl o q1 q2 (IsCell.off hs' (mz hm q3) q3) q4
   exact hq _ b' z
  ·have kd:=x.env.sc y _ hk
   obtain⟨cl,w,e1,e2⟩:=x.fr.ce y hk
   have O:=x.fr.cell y cl hk e1
   refine wpAny_storeName_cell x.env.kind kd e1 e2 fun h' hc' hs'=>?_
   obtain⟨b',z⟩:=x.store (S':={W.G.S with heap:=h'}) O.1 hs'.2 rfl rfl (hc'.imp fun o q=>⟨q.1,fun vs e=>by rw[q.2] at e;trivial⟩) kn (fun w' ζ=>⟨_,hc'⟩) hm (hm.sameBut hs' (Ne.symm O.2)) (.cell cl kd e1 hc' ((jp Pl.noConfusion).mpr (.inr ⟨Pl.noConfusion,Pl.noConfusion,O.1⟩))) fun z w n q=>by
     induction q with
     |loc q1 q2=>exact .loc q1 q2
     |cell cl' q1 q2 q3 q4=>exact .cell _ q1 q2 (IsCell.off hs' (fun e=>n (x.env.cdj z y _ q1 kd q2 (e▸e1))) q3) q4
     |free cl' o q1 q2 q3 q4=>exact .free _ o q1 q2 (IsCell.off hs' (fun e=>q4.elim (fun q=>aX ((x.fits.own _ _ O.1).fzn.symm.trans (e▸q))) fun q=>aX ((x.fits.own _ _ O.1).otn.symm.trans (e▸q))) q3) q4
   exact hq _ b' z
end
section
theorem th {k:Value} {n n'} (h:k.isStr n=true) (h':k.isStr n'=true):n=n':=by
  cases k<;>first|(trivial)|skip
  simp[Value.isStr] at h h'
  exact h.symm.trans h'
theorem nM n tk:(Value.str n tk).isStr n=true:=by unfold Value.isStr;simp
theorem BD {n n'} tk (hne:n'≠n):(Value.str n tk).isStr n'=false:=by
  induction q:(Value.str n tk).isStr n' with
  |false=>rfl
  |true=>exact absurd (th q (nM n tk)) hne
theorem kL {n n'} {h} {tk} {v}:∀es,
    ((putL n h (.str n tk) v es).any (·.refKey)=es.any (·.refKey))∧(n'≠n→((putL n h (.str n tk) v es).find? (·.key.isStr n')).map (·.val)=(es.find? (·.key.isStr n')).map (·.val))∧
      ((putL n h (.str n tk) v es).find? (·.key.isStr n)).map (·.val)=some v∧(putL n h (.str n tk) v es).length≤es.length+1∧((es.find? (·.key.isStr n)).isSome=true→(putL n h (.str n tk) v es).length=es.length)
  |[]=>by
   refine⟨by rfl,fun hne=>?_,?_,by simp[putL],fun q=>by simp at q⟩
   ·simp[putL,BD tk hne]
   ·simp[putL,nM]
  |e::es=>by
   refine hR fun o O=>?_
   have u:=kL (n:=n) (n':=n') (h:=h) (tk:=tk) (v:=v) es
   refine O ?_
   unfold putL
   induction q:e.key.isStr n with
   |true=>
    refine⟨by trivial,fun hne=>?_,?_,by simp,fun ζ=>by rfl⟩
    ·have:e.key.isStr n'=false:=by
       induction q':e.key.isStr n' with
       |false=>rfl
       |true=>exact absurd (th q' q) hne
     simp[this]
    ·simp[q]
   |false=>
    simp only[fV,if_false]
    refine⟨by simp[u.1],fun hne=>?_,?_,by simp only[cN];lia,fun hs=>?_⟩
    ·rw[cG,cG]
     split
     ·rfl
     ·exact u.2.1 hne
    ·rw[cG,q];exact u.2.2.1
    ·rw[cG,q] at hs
     simp only[cN,u.2.2.2.2 hs]
theorem mH n es:getL n es=match(es.find? (·.key.isStr n)).map (·.val) with|some v=>some (some v)|none=>if es.any (·.refKey) then none else some none:=by
  unfold getL
  cases es.find? _<;>rfl
theorem xj {n n'} {h} {tk} {v} (hne:n'≠n) es:getL n' (putL n h (.str n tk) v es)=getL n' es:=by
  have o:=kL (n:=n) (n':=n') (h:=h) (tk:=tk) (v:=v) es
  rw[mH,mH,o.2.1 hne,o.1]
theorem yZ {n} {h} {tk} {v} es:getL n (putL n h (.str n tk) v es)=some (some v):=by
  rw[mH,(kL (n':=n) es).2.2.1]
theorem fE {α} {x} {v:α}:∀l,(put x v l).length=if(lk x l).isSome then l.length else l.length+1
  |[]=>rfl
  |p::l=>by
   unfold put lk
   induction h:bx _ x with
   |true=>rfl
   |false=>
    simp only[cN,fE]
    split<;>rfl
theorem sV h₀ h L dx od od' (e:h.get? dx=some od) (h1:dx≠L) (h2:h₀.get? dx=none):
    ∃news news',News h₀ L h news∧Upd dx od od' news news'∧∀h',News h₀ L h' news'→h'.get? dx=some od'∧∀a o,a≠dx→a≠L→h.get? a=some o→h₀.get? a=none→h'.get? a=some o:=by
  let rest:=(List.range h.objs.size).filterMap fun a=>if a=dx∨a=L∨(h₀.get? a).isSome then none else(h.get? a).map fun o=>(a,o)
  have mem:∀a o,(a,o)∈rest↔(a≠dx∧a≠L∧h₀.get? a=none∧h.get? a=some o):=fun a o=>by
    simp only[rest,k4,M6]
    constructor
    ·rintro⟨b,hb,q⟩
     split at q
     ·contradiction
     ·rename_i hn
      simp only[not_or,Option.not_isSome_iff_eq_none] at hn
      rw[ay] at q
      obtain⟨o',q1,q2⟩:=q
      cases q2
      exact⟨hn.1,hn.2.1,hn.2.2,q1⟩
    ·rintro⟨g1,g2,g3,g4⟩
     refine⟨a,Heap.lt_size g4,?_⟩
     rw[if_neg (by simp[g1,g2,g3]),g4]
     rfl
  refine⟨(dx,od)::rest,(dx,od')::rest,fun p hp=>?_,.head fun p hp=>((mem _ _).mp hp).1,fun h' N=>⟨(N _ bA).1,fun a o g1 g2 g3 g4=>(N _ (aK _ ((mem a o).mpr ⟨g1,g2,g4,g3⟩))).1⟩⟩
  rcases aL.mp hp with rfl|hp
  ·trivial
  ·have O:=(mem _ _).mp hp
   exact⟨O.2.2.2,O.2.1,O.2.2.1⟩
variable {c:aU} {b:Str→Option Value} {W:Wd} {V:Internal.V} {v:Value} {n:Str} {r:Nat} {at_:List (Str×Internal.V)} {m:Str→Option Value} {y:Addr} {o:Obj} {f:Str→Value}
theorem jO (s:St) x (h:r<4) k:(s.setReg r x).reg k=if k=r then x else s.reg k:=by
  match r,h with
  |0,_=>match k with|0=>rfl|1=>rfl|2=>rfl|3=>rfl|_+4=>rfl
  |1,_=>match k with|0=>rfl|1=>rfl|2=>rfl|3=>rfl|_+4=>rfl
  |2,_=>match k with|0=>rfl|1=>rfl|2=>rfl|3=>rfl|_+4=>trivial
  |3,_=>match k with|0=>rfl|1=>rfl|2=>rfl|3=>rfl|_+4=>rfl
theorem iW (s:St) r x:(s.setReg r x).rho=s.rho∧(s.setReg r x).sc=s.sc∧(s.setReg r x).dp=s.dp∧(s.setReg r x).hd=s.hd∧(s.setReg r x).outs=s.outs:=by
  match r with|0=>trivial|1=>trivial|2=>trivial|3=>trivial|_+4=>trivial
end
section
variable {c:aU} {b:Str→Option Value} {W:Wd} {V:Internal.V} {v:Value} {n:Str} {r:Nat} {at_:List (Str×Internal.V)} {m:Str→Option Value} {y:Addr} {o:Obj} {f:Str→Value}
theorem i9 {α} {x y} {v:α} {l}:lk y (put x v l)=if y=x then some v else lk y l:=by
  by_cases e:y=x
  ·subst e;rw[if_pos rfl,i8]
  ·rw[if_neg e,gQ e]
noncomputable def GI (W:Wd) r n t S':=(W.move (.tmp t) (.attr r n)).mem S'
theorem aZ.putAttr (x:aZ c s b (.more V v T) W) (hr:s.reg r=.live cl at_) (hr4:r<4) (hy:W.own y=some (.inst r)) (hs:∀b o,b≠y→b≠c.env.locals→W.hp b=some o→S'.heap.get? b=some o) (hg:S'.gens=W.G.S.gens) (ho:S'.os=W.G.S.os)
    (hm:W.G.S.heap.Ns c.env.locals m) (hm':S'.heap.Ns c.env.locals m) (hyx:∃o,S'.heap.get? y=some o) (hn:n∈c.C.P.flds cl++c.C.P.regf cl)
    (a1:W.pi r=some a) (a2:W.own a=some (.inst r)) (a3:InstAt S'.heap a o' cl od') (a4:∀dx,o'.dict=some dx→W.own dx=some (.inst r)∧dx≠a) (a5:∀n' V',lk n' at_=some V'→n'≠n→eL c.C o' od' cl n' (f n')∧gI c.C W.G.fz W.pi (W.at (.attr r n')) V' (f n')) (a6:eL c.C o' od' cl n v)
    (a7:∀d,od'=some d→(∃es n',d=dictOf es n'∧es.length≤(put n V at_).length)∧∀n',n'≠n→lk n' at_=none→c.C.slotIx cl n'=none→lookIn n' d=some none) (a8:(∃n'∈c.C.P.flds cl++c.C.P.regf cl,c.C.slotIx cl n'=none)→∃d,od'=some d):
    aZ c (s.setReg r (.live cl (put n V at_))) b T (GI W r n T.len S'):=by
  have k1:=Kp.move (p:=.tmp T.len) (q:=.attr r n) x.fits Pl.noConfusion Pl.noConfusion Pl.noConfusion
  have f1:=k1.frm x.fits x.fr
  have ow:∀{z p},p≠.tmp T.len→p≠.attr r n→W.own z=some p→(W.move _ _).own z=some p:=fun h1 h2 h=>(jp Pl.noConfusion).mpr (.inr ⟨h1,h2,h⟩)
  have hy1:=ow Pl.noConfusion Pl.noConfusion hy
  have k2:Kw c _ _ (GI W r n _ S'):=Kw.write (Z:=fun z=>z=y∨z=c.env.locals) k1.fits (fun z h=>h.elim (fun h=>⟨_,h▸hy1⟩) fun h=>⟨_,h▸f1.own⟩) (fun z o h e=>hs z o (fun q=>h (.inl q)) (fun q=>h (.inr q)) e)
    (fun z h=>h.elim (fun h=>h▸hyx.imp fun o q=>⟨q,fun m=>absurd ((x.fits.own _ _ hy).fmn m) Pl.noConfusion⟩) fun h=>h▸hm'.elim fun o q=>q.elim fun es q=>q.elim fun ep q=>⟨o,q.1,fun ζ vs e=>by rw[q.2.1] at e;trivial⟩) hg ho fun z p h e=>h.elim (fun h=>.inl (sm (hy1.symm.trans (h▸e)))) fun h=>.inr (sm (f1.own.symm.trans (h▸e)))
  have k:Kw c W (fun q=>HW _ _ q∨q=.inst r) _:=(k1.toKw.weak fun ζ=>.inl).trans (k2.weak fun ζ=>.inr)
  obtain⟨m1,n1,n2⟩:=f1.ns
  have e:m1=m:=by
    obtain⟨o,es,ep,h1,h2,_,h3⟩:=n1
    obtain⟨o',es',ep',g1,g2,_,g3⟩:=hm
    have e:=sm (h1.symm.trans g1)
    subst e
    have e:=(h2.symm.trans g2)
    injection e with e _
    subst e
    funext n;rw[←h3,←g3]
  subst e
  have cell:∀{z w},W.G.S.heap.IsCell z w→z≠y→S'.heap.IsCell z w:=fun h n=>h.imp fun o q=>⟨hs _ o n (mz hm h) q.1,q.2⟩
  have R:=x.rg r
  rw[hr] at R
  have reg:fk _ (GI W r n _ S') r (.live cl _):=⟨R.good,fun n' V' e=>by
   rw[i9] at e
   by_cases q:n'=n
   ·exact q▸hn
   ·exact R.flds n' V' ((if_neg q).symm.trans e),.mk a o' _ (fun n'=>if n'=n then v else f n') a1 (ow Pl.noConfusion Pl.noConfusion a2) a3 (fun dx e=>⟨ow Pl.noConfusion Pl.noConfusion (a4 dx e).1,(a4 dx e).2⟩) (fun n' V' e=>by
   rw[i9] at e
   by_cases q:n'=n
   ·subst q
    rw[if_pos rfl] at e⊢
    refine⟨a6,?_⟩
    rw[k2.at_ _ Pl.noConfusion Pl.noConfusion,fZ Pl.noConfusion]
    exact sm e▸x.tm.1
   ·rw[if_neg q] at e⊢
    have z:=a5 n' V' e q
    exact⟨z.1,k.own (fun h=>h.elim (fun h=>h.elim Pl.noConfusion fun h=>q (by injection h)) Pl.noConfusion) Pl.noConfusion z.2⟩)
   (fun d e=>⟨(a7 d e).1,fun n' e1 e2=>by
     rw[i9] at e1
     by_cases q:n'=n
     ·rw[if_pos q] at e1;trivial
     ·exact(a7 d e).2 n' q ((if_neg q).symm.trans e1) e2⟩) a8⟩
  have O:=iW s r (.live cl (put n V at_))
  exact{
    fits:=k.fits
    env:=x.env
    sc:=O.2.1.trans x.sc
    dp:=O.2.2.1.trans x.dp
    hd:=O.2.2.2.1.trans x.hd
    ou:=O.2.2.2.2.trans x.ou
    fr:=⟨f1.own,f1.cell,fun z h=>(f1.ce z h).imp fun cl q=>q.imp fun w q=>⟨q.1,cell q.2 fun e=>Pl.noConfusion (sm ((e▸(f1.cell z cl h q.1).1).symm.trans hy1))⟩,m1,hm',fun z w e=>by
     induction n2 z w e with
     |loc q1 q2=>exact .loc q1 q2
     |cell cl q1 q2 q3 q4=>exact .cell cl q1 q2 (cell q3 fun e=>Pl.noConfusion (sm ((e▸q4).symm.trans hy1))) q4
     |free cl o q1 q2 q3 q4=>exact .free cl o q1 q2 (cell q3 fun e=>q4.elim (fun q=>aX ((x.fits.own _ _ hy).fzn.symm.trans (e▸q))) fun q=>aX ((x.fits.own _ _ hy).otn.symm.trans (e▸q))) q4⟩
    nm:=fun z U h1 h2=>k.hasV (fun q=>q.elim (fun q=>q.elim Pl.noConfusion Pl.noConfusion) Pl.noConfusion) Pl.noConfusion (x.nm z U (O.1▸h1) h2)
    kn:=fun z U h=>x.kn z U (O.1▸h)
    rg:=fun k'=>by
     rw[jO s _ hr4]
     by_cases e:k'=r
     ·rw[if_pos e,e];exact reg
     ·rw[if_neg e];exact k.slot x.fits (fun q=>q.elim (fun q=>q.elim Pl.noConfusion Pl.noConfusion) fun q=>e (by injection q)) (fun ζ q=>q.elim (fun q=>q.elim Pl.noConfusion fun q=>e (by injection q)) Pl.noConfusion) (x.rg k')
    tm:=k.tmps (fun j hj q=>q.elim (fun q=>q.elim (fun e=>a9 _ (by injection e with e;exact e▸hj)) Pl.noConfusion) Pl.noConfusion) x.tm.2}
end
section
variable {c:aU} {b:Str→Option Value} {W:Wd} {V:Internal.V} {v:Value} {n:Str} {r:Nat} {at_:List (Str×Internal.V)} {m:Str→Option Value} {y:Addr} {o:Obj} {f:Str→Value} {Q:Unit→Shared→Prop} {C:Cf} {ρ:eC}
theorem cP.handed (h:cP C fz pi V v):pH V=true→handedIn v=true:=
  h.casesOn (fun ζ=>rfl) (fun ζ ζ=>rfl) (fun ζ ζ ζ=>rfl) (fun ζ ζ ζ=>rfl) (fun ζ ζ ζ ζ ζ ζ=>rfl) (fun ζ ζ ζ ζ ζ ζ=>rfl) (fun ζ ζ ζ ζ ζ ζ ζ ζ ζ=>rfl) (fun ζ ζ ζ ζ=>rfl) (fun ζ ζ ζ ζ ζ ζ ζ=>rfl) (fun ζ ζ=>rfl) (fun ζ h=>bG h) (fun ζ ζ=>rfl) fun ζ ζ ζ ζ ζ ζ ζ ζ ζ ζ ζ=>rfl
theorem gI.handed (h:gI C fz pi ρ V v):pH V=true→handedIn v=true:=
  h.casesOn (fun V v r=>r.handed) (fun ζ ζ o ζ=>o.casesOn fun ζ ζ ζ ζ=>rfl) (fun ζ ζ ζ ζ ζ o ζ=>o.casesOn fun ζ ζ ζ I ζ=>I.hin) (fun ζ ζ ζ o ζ=>o.casesOn fun ζ ζ ζ ζ ζ=>rfl) fun ζ h=>bG h
theorem bj.kIn (f:bj c W) (hz:W.G.fz a=none) (ht:a≠c.C.tb):(iD c.C.h₀ (Nat.beq c.C.tb)).get? a=none:=by
  rw[ly]
  split
  ·rfl
  ·exact bP fun o q=>aX (hz.symm.trans (f.ok.base a o ht q))
theorem vq {es} {w} (h:getL n es=some (some w)):(es.find? (·.key.isStr n)).isSome=true:=by
  rw[mH] at h
  revert h
  induction es.find? _ with
  |some e=>exact fun ζ=>rfl
  |none=>
   induction es.any _ with
   |true=>exact fun h=>aX h
   |false=>exact fun h=>aX (Option.some.inj h)
theorem mP (x:aZ c s b (.more V v T) W) (hr:s.reg r=.live cl at_) (hr4:r<4) (hpi:W.pi r=some a) (hn:n∈c.C.P.flds cl++c.C.P.regf cl) (hlen:at_.length<100) (hbi:pH V=true)
    (hq:∀W',aZ c (s.setReg r (.live cl (put n V at_))) b T W'→Q () W'.G.S):wpAny c.C.M A (PySem.setAttr (.ref a) n v) Q E W.G.S:=by
  have R:=x.rg r
  replace R:=hr▸R
  induction R.is with|mk a' o od f h1 h2 h3 h4 h5 h6 h7=>
  have e:=sm (hpi.symm.trans h1)
  subst e
  induction x.frk with|mk m hfr hK=>
  have Z:=c.H.sa cl R.good
  have wf:=c.H.wf cl R.good n hn
  have hv:=x.tm.1.handed hbi
  have ofr:∀{y},W.own y=some (.inst r)→y≠c.env.locals:=fun h e=>Pl.noConfusion (sm ((e▸h).symm.trans x.fr.own))
  have old:∀z o,W.G.S.heap.get? z=some o→(iD c.C.h₀ (Nat.beq c.C.tb)).get? z=some o∨(iD c.C.h₀ (Nat.beq c.C.tb)).get? z=none:=fun z o e=>by
    induction q:(iD c.C.h₀ (Nat.beq c.C.tb)).get? z with
    |none=>exact .inr rfl
    |some o'=>exact .inl ((hfr.keep z o' q).symm.trans e)
  have plen:(put n V at_).length≤at_.length+1:=by rw[fE];split<;>lia
  generalize hs:c.C.slotIx cl n=si at wf
  induction wf with
  |dict t1 t2=>
   obtain⟨d,hod⟩:=h7 ⟨n,hn,hs⟩
   subst hod
   obtain⟨⟨es,en,hd,hes⟩,hmiss⟩:=h6 d rfl
   subst hd
   obtain⟨dx,hdx,hget⟩:∃dx,o.dict=some dx∧W.G.S.heap.get? dx=some (dictOf es en):=by
     have i4:=h3.dict
     revert i4
     induction o.dict with
     |none=>exact fun i4=>i4.elim
     |some dx=>exact fun i4=>⟨dx,rfl,i4⟩
   have Y:=h4 dx hdx
   have hin:∀n' V',lk n' at_=some V'→c.C.slotIx cl n'=none→getL n' es=some (some (f n')):=fun n' V' q hs'=>by
     have f2:=(h5 n' V' q).1.2
     rw[hs'] at f2
     obtain⟨d',e1,e2⟩:=f2
     rw[sm e1] at e2
     exact e2
   have hno:=fun n' q hs'=>(lookIn_dict n' es en).symm.trans (hmiss n' q hs')
   have isS:(getL n es).isSome=true:=by
     induction q:lk n at_ with
     |none=>rw[hno n q hs];rfl
     |some V'=>rw[hin n V' q hs];rfl
   generalize he':putL n (PyData.keyHash c.C.w.params n) (.str n (W.G.S.toks+1)) v es=es'
   generalize hn':putN n es en=en'
   obtain⟨news,news',N,U,hN⟩:=sV (iD c.C.h₀ (Nat.beq c.C.tb)) W.G.S.heap c.env.locals dx (dictOf es en) (dictOf es' en') hget (ofr Y.1) (x.fits.kIn (x.fits.own _ _ Y.1).fzn (x.fits.own _ _ Y.1).tbn)
   obtain⟨_,g2,g3,g4,g5⟩:=kL (n':=n) es
   rw[he'] at g3 g4 g5
   have hlen':es'.length≤(put n V at_).length:=by
     rw[fE]
     induction q:lk n at_ with
     |none=>exact ac g4 (aQ hes)
     |some V'=>exact(g5 (vq (hin n V' q hs))).symm▸hes
   refine set_dict hfr hK N h3 hdx Z.1 Z.2 t1 t2 isS (by rw[he',hn']) U (ac hlen' (ac plen (ac hlen (by decide)))) fun h' F' N'=>?_
   obtain⟨hd',hall⟩:=hN h' N'
   have hsame:=fun b o' q1 q2 q3=>(old b o' q3).elim (F'.keep b o') (hall b o' q1 q2 q3)
   refine hq _ (x.putAttr (S':={W.G.S with heap:=h',toks:=W.G.S.toks+2}) hr hr4 Y.1 hsame rfl rfl hfr.ns F'.ns ⟨_,hd'⟩ hn hpi h2 ⟨hsame _ o (Ne.symm Y.2) (ofr h2) h3.at_,h3.cls,h3.no,by exact hdx▸(hd')⟩ h4 (fun n' V' e q=>⟨⟨(h5 n' V' e).1.1,?_⟩,(h5 n' V' e).2⟩) ⟨hv,?_⟩ (fun d e=>sm e▸⟨⟨es',en',rfl,hlen'⟩,fun n' q e1 e2=>?_⟩) fun ζ=>⟨_,rfl⟩)
   ·have f2:=(h5 n' V' e).1.2
    revert f2
    induction hs':c.C.slotIx cl n' with
    |some i=>exact id
    |none=>exact fun ζ=>⟨_,rfl,by rw[lookIn_dict,←he',xj q];exact hin n' V' e hs'⟩
   ·rw[hs]
    exact⟨_,rfl,by rw[←he'];exact yZ es⟩
   ·rw[lookIn_dict,←he',xj q];exact hno n' e1 e2
  |slot i p t1 t2 t3 t4=>
   generalize ho':{o with slots:=(o.slots++Array.replicate (i+1 -o.slots.size) none).setIfInBounds i (some v)}=o'
   have hfree:o'.isFreed=false:=by
     have hx:=(Heap.get?_some_iff.mp h3.at_).2
     rw[←ho']
     revert hx
     exact Obj.casesOn o fun ζ ζ d ζ=>by cases d<;>first|exact id
   have az:=x.fits.own _ _ h2
   refine hR fun O u=>?_
   obtain⟨news,news',N,U,hN⟩:=sV (iD c.C.h₀ (Nat.beq c.C.tb)) W.G.S.heap c.env.locals _ o o' h3.at_ (ofr h2) (x.fits.kIn az.fzn az.tbn)
   obtain⟨pre,post,rfl,rfl,ua,ub⟩:=U.split
   refine u (set_plain (hK.keeps hfr.keep) h3 Z.1 (osa_descr KF.slot_mset (hK.keeps hfr.keep) h3 Z.2 t1 t2 (slot_set hfr N (hK.keeps hfr.keep) h3 t3 t4 ua ub ho' hfree fun h' F' N'=>?_)))
   have X:=hN h' N'
   have hsame:=fun b o' q1 q2 q3=>(old b o' q3).elim (F'.keep b o') (X.2 b o' q1 q2 q3)
   have dict:o'.dict=o.dict:=by rw[←ho']
   refine hq _ (x.putAttr (S':={W.G.S with heap:=h',toks:=W.G.S.toks+1}) hr hr4 h2 hsame rfl rfl hfr.ns F'.ns ⟨_,X.1⟩ hn hpi h2 ⟨X.1,by rw[←ho'];exact h3.cls,by rw[←ho'];exact h3.no,?_⟩ (fun dx e=>h4 dx (dict▸e)) (fun n' V' e q=>⟨⟨(h5 n' V' e).1.1,?_⟩,(h5 n' V' e).2⟩) ⟨hv,?_⟩ (fun d e=>⟨?_,fun n' q e1 e2=>(h6 d e).2 n' e1 e2⟩) h7)
   ·refine dict▸?_
    have i4:=h3.dict
    revert i4 h4
    induction o.dict with
    |none=>
     induction od with
     |none=>exact fun ζ=>id
     |some d=>exact fun ζ=>id
    |some dx=>
     induction od with
     |none=>exact fun ζ=>id
     |some d=>exact fun h4=>hsame dx d (h4 dx rfl).2 (ofr (h4 dx rfl).1)
   ·have f2:=(h5 n' V' e).1.2
    revert f2
    induction hs':c.C.slotIx cl n' with
    |none=>exact id
    |some j=>
       intro f2
       rw[←ho']
       exact(Array.getElem?_setIfInBounds_ne fun z=>q (c.H.inj cl n' n i (by rw[hs',z]) hs)).trans ((Array.getElem?_append_left (Array.getElem?_eq_some_iff.mp f2).1).trans f2)
   ·rw[hs, ←ho']
    exact Array.getElem?_setIfInBounds_self_of_lt (by simp only[Array.size_append,Array.size_replicate];omega)
   ·obtain⟨es,en,g1,g2⟩:=(h6 d e).1
    exact⟨es,en,g1,ac g2 (by rw[fE];split<;>lia)⟩
end
section
variable {c:aU} {b:Str→Option Value} {W:Wd} {V:Internal.V} {v:Value} {t:Expr} {ts:List Expr} {vals:List Value} {Q:Unit→Shared→Prop}
noncomputable def Ih (c:aU) (A:Around) (t:Expr) (v:Value):d7 Unit:=fun Q E=>wpAny c.C.M A (assign t c.env v) Q E
noncomputable def PA c T (_ _:Unit) s S:=∃b,a_ c b T s S
theorem oz {a} {l:List _} (h:l.any (bx a)=true):a∈l:=(bX.mp h).elim fun x z=>bp.mp z.2▸z.1
theorem u8 {r cl} {at_} (h:s.reg r=.live cl at_):r<4:=by
  match r,h with
  |0,_=>decide
  |1,_=>decide
  |2,_=>decide
  |3,_=>decide
  |_+4,h=>trivial
theorem j7 (hp:c.C.P=PP):J (pm c) (a_ c b (.more V v T) s) s (iK PP t V) (Ih c A t v) (PA c T):=by
  subst hp
  unfold iK
  induction e:jt t with
  |some q=>
   have e:=cR e
   subst e
   exact .look (.grd fun hk S Q E i k=>i.casesOn fun W x=>wpAny_assign_Name (mM x hk fun W' b' z=>k.2 () _ ⟨b',W',z⟩))
  |none=>
   refine .opt fun q e2=>.look (.opt fun z e3=>.grd fun hc S Q E i k=>i.casesOn fun W x=>?_)
   have e2:=fK e2
   subst e2
   have h1:=aa.mp hc
   refine qD e3 fun y p he hb hl hr=>(x.nm y _ hl Internal.V.noConfusion).casesOn fun v' g o=>?_
   obtain⟨q1,q2,q3⟩:=q
   subst he
   induction ((o.to_rep rfl).inv) with|mk a ea=>
   refine wpAny_bind (wpAny_holding (dZ x hb g (wpAny_bind (wpAny_standAt (wpAny_bind (wpAny_holding (mP x hr (u8 hr) ea (oz (aa.mp h1.1).1) (ag (aa.mp h1.1).2) h1.2 fun W' z=>wpAny_release' (k.2 () _ ⟨b,W',z⟩))))))))
noncomputable def stk:List Internal.V→List Value→Tp→Tp
  |V::Vs,v::vs,T=>.more V v (stk Vs vs T)
  |_,_,T=>T
theorem aZ.stk (x:aZ c s b T W) (h:aS c.C W.G.fz W.pi Vs vs):aZ c s b (stk Vs vs T) W:=h.ind (m:=fun Vs vs=>aZ c s b (Internal.stk Vs vs T) W) x fun V v Vs vs r ζ i=>i.push (.rep _ _ r)
noncomputable def z_ (c:aU) (A:Around) (ts:List Expr) (vals:List Value):d7 Unit:=fun Q E=>wpAny c.C.M A (assignInOrder (ts.map fun t=>assign t c.env) vals) Q E
theorem GJ (hp:c.C.P=PP) ts:∀Vs vals b s,Vs.length=vals.length→J (pm c) (a_ c b (stk Vs vals T) s) s (rt PP ts Vs) (z_ c A ts vals) (PA c T):=by
  induction ts with
  |nil=>
   intro Vs vals b s h
   induction Vs with
   |nil=>
    induction vals with
    |nil=>exact fun S Q E i k=>wpAny_pure (k.2 () S ⟨b,i⟩)
    |cons=>trivial
   |cons=>exact .stk
  |cons t ts ih=>
   intro Vs vals b s h
   cases Vs with
   |nil=>exact .stk
   |cons V Vs=>
    induction vals with
    |nil=>trivial
    |cons v vals=>
     exact(J.bind (j7 hp) fun ζ ζ s' S Q E i k=>i.elim fun b i=>ih Vs _ b s' (Nat.succ.inj h) S Q E i k).by fun Q E S k=>wpAny_bind (wpAny_holding k)
theorem jZ env:∀{ts} {l},fC ts=some l→assignEach ts env=ts.map fun t=>(false,assign t env)
  |[],_,_=>rfl
  |t::ts,l,h=>aG h fun q e h1=>(ay.mp h1).elim fun l' h2=>by
   have e:=cR e
   subst e
   exact congrArg _ (jZ _ h2.1)
theorem uO {e} {q} (h:Hd e=some q):e=.Tuple q.1 q.2.1 q.2.2:=by rcases e with⟨⟩<;>first|exact aX h|exact sm h▸rfl
theorem mc.of:mc PP:=fun t V v b T s env c A he hf ge=>by
  subst he
  unfold im
  induction e:Hd t with
  |none=>exact ((j7 ge.pt).post fun ζ ζ ζ ζ h=>h.elim fun b h=>⟨b,T,rfl,h⟩)
  |some q=>
   refine .opt fun Vs ev=>.look (.grd fun hc S Q E i k=>i.casesOn fun W x=>?_)
   have e1:=uO e
   subst e1
   have ev:=Dk ev
   subst ev
   have h1:=aa.mp hc
   induction ((x.tm.1.to_rep rfl).inv) with|mk a ws hat hr=>
   obtain⟨l,hl⟩:∃l,fC q.1=some l:=by
     have n:=h1.1
     unfold jm at n
     revert n
     induction fC _ with
     |none=>exact fun n=>bG n
     |some l=>exact fun ζ=>⟨l,rfl⟩
   have heach:=jZ c.env hl
   refine wpAny_assign_Tuple (ge.hd (x.hd.symm.trans ((ao _).mp (aa.mp h1.2).2))) (hat.here x.fits.ok.sub) (by rw[heach,au,((aj (aa.mp h1.2).1).trans hr.len)];trivial) (by rw[heach,NJ];exact fun z m=>(bw.mp m).elim fun t w=>w.2▸rfl) fun h' hext=>?_
   rw[heach,o6]
   exact(GJ ge.pt _ Vs ws b s hr.len).post (fun ζ ζ ζ ζ h=>h.elim fun b h=>⟨b,T,rfl,h⟩) _ Q E ⟨_,((x.pop.mem (S':={W.G.S with heap:=h'}) (fun b o e=>hext b o (cy (Heap.lt_size e)) e) rfl rfl).stk hr)⟩ k
end
section
variable {M:iw} {c:aU} {b:Str→Option Value} {W:Wd} {V:Internal.V} {v:Value} {st:Stmt} {t e:Expr} {ts:List Expr} {n:Nat} {r:dN} {x:Tr Fl}
noncomputable def oU PP st x:=∀env b T s,G5 PP env b T s x (exec st env) (Zx T)
theorem cK.plain (ok:cK PP M) (h:oU PP st x):uK M st x:=fun π b T s=>ok.lift π (h _ b T s)
theorem Eu:oU PP (.Pass pos) (rT .next):=fun env b T s c A he hf ge=>.by (.pure fun S i=>⟨b,T,⟨rfl,rfl⟩,i⟩) fun Q E S h=>wpAny_Pass h
theorem Ao:oU PP (.Break pos) (rT .brk):=fun env b T s c A he hf ge=>.by (.pure fun S i=>⟨b,T,⟨rfl,rfl⟩,i⟩) fun Q E S h=>wpAny_Break h
theorem Ew:oU PP (.Continue pos) (rT .cont):=fun env b T s c A he hf ge=>.by (.pure fun S i=>⟨b,T,⟨rfl,rfl⟩,i⟩) fun Q E S h=>wpAny_Continue h
theorem aZ.last (x:aZ c s b (.more V v T) W):aZ c s b (.more V v (.nil T.len)) W:={x with tm:=⟨x.tm.1,trivial⟩}
theorem Et:oU PP (.Return none pos) (rT (.ret .none)):=fun env b T s c A he hf ge=>.by (.wret fun W Q E x k=>k _ _ ⟨b,_,⟨.none,T.len,rfl,rfl⟩,W,(x.push (.rep _ _ .none)).last⟩) fun Q E S h=>wpAny_Return_none h
theorem Iz (hn:n≤90) (hev:cr PP n r.ev):oU PP (.Return (some e) pos) ((r.ev e).bind fun v=>rT (.ret (Internal.frz v))):=fun env b T s c A he hf ge=>he▸.by
  (J.bind (hev e c b T A s (ge.le hn)) fun V v s1 S Q E i k=>i.casesOn fun W x=>(a_.freeze ⟨W,x⟩).casesOn fun W' y=>k.2 _ _ ⟨b,_,⟨v,T.len,rfl,rfl⟩,W',y.last⟩) fun Q E S h=>wpAny_Return_some h
theorem gN {line} {env} {o} (h:E9 e=true):swapsWith e o line env=pure false:=by rcases e with⟨⟩<;>first|rfl|exact bG h
theorem aZ.inter (x:aZ c s b T W):interactive c.env=false:=by
  unfold interactive
  rw[x.env.kind];rfl
theorem Ev (hn:n≤90) (hev:cr PP n r.ev):oU PP (.Expr e pos) (gT (E9 e) "comp" ((r.ev e).bind fun v=>gT (qX v) "expr" (rT .next))):=fun env b T s c A he hf ge=>he▸.grd fun hc S Q E i a=>
  (J.bind (f:=fun ζ=>fun Q E S=>Q _ S) (hev e c b T A s (ge.le hn)) fun V v s1=>.grd fun hx=>fun S Q E i k=>i.casesOn fun W x=>k.2 _ _ ⟨b,T,⟨rfl,rfl⟩,W,x.pop⟩).by (m':=fun Q E S=>interactive _=false→wpAny _ A _ Q E S)
    (fun Q E S h hi=>by rw[exec_Expr _ e _ hi (gN hc)];exact wpAny_bind (wpAny_standAt (wpAny_bind (wpAny_mono h (fun ζ ζ h=>wpAny_dropValue h) fun ζ ζ h=>h)))) S Q E i a (i.casesOn fun W x=>x.inter)
end
section
variable {M:iw} {c:aU} {b:Str→Option Value} {W:Wd} {V:Internal.V} {v:Value} {st:Stmt} {t e:Expr} {ts:List Expr} {n:Nat} {r:dN} {x:Tr Unit}
noncomputable def mS (c:aU) (A:Around) (t e:Expr) (v:Value):d7 Flow:=fun Q E=>wpAny c.C.M A (swappedStores [t] e c.env>>=fun w=>assignStores c.env v w ((assignEach [t] c.env).map (·.2))) Q E
theorem Aw (h1:swappedStores [t] e c.env=pure none) (h2:assignEach [t] c.env=[(false,assign t c.env)]) (j:J (pm c) (a_ c b (.more V v T) s) s x (Ih c A t v) (PA c T)):J (pm c) (a_ c b (.more V v T) s) s (de x) (mS c A t e v) (Zs (a_ c) (Zx T)):=
  (J.bind (k:=fun ζ=>rT _) j fun ζ ζ s' S Q E i k=>i.elim fun b' i=>k.2 _ _ ⟨b',T,⟨rfl,rfl⟩,i⟩).by fun Q E S h=>by
    unfold mS
    exact h1▸h2▸(wpAny_bind (wpAny_pure (wpAny_bind (wpAny_mono h (fun ζ ζ h=>wpAny_pure h) fun ζ ζ h=>h))))
theorem uX (hp:c.C.P=PP):J (pm c) (a_ c b (.more V v T) s) s (de (iK PP t V)) (mS c A t e v) (Zs (a_ c) (Zx T)):=by
  induction e1:jt t with
  |some q=>
   have j:=j7 (A:=A) (t:=t) (v:=v) (b:=b) (T:=T) (V:=V) (s:=s) hp
   have e1:=cR e1
   subst e1
   exact Aw rfl rfl j
  |none=>
   induction e2:oS t with
   |some q=>
    have j:=j7 (A:=A) (t:=t) (v:=v) (b:=b) (T:=T) (V:=V) (s:=s) hp
    have e2:=fK e2
    subst e2
    exact Aw rfl rfl j
   |none=>
    unfold iK
    exact e1▸e2▸fun S Q E i a=>a.elim
theorem EK (hf:eZ c) (ge:GE PP 90 c A) {k} {p} (he:Hd e=none):J (pm c) (a_ c b (.more V v T) s) s (de (im PP (.Tuple ts k p) V)) (mS c A (.Tuple ts k p) e v) (Zs (a_ c) (Zx T)):=
  Aw (by rcases e with⟨⟩<;>first|trivial) rfl ((mc.of _ V v b T s _ c A rfl hf ge).post fun ζ ζ ζ ζ h=>h.elim fun b h=>h.elim fun T' h=>⟨b,h.1▸h.2⟩)
theorem pv (hn:n≤90) (hev:cr PP n r.ev) {X} (hc:E9 e=true) (hX:∀c b T A s V v,c.C.P=PP→eZ c→GE PP 90 c A→J (pm c) (a_ c b (.more V v T) s) s (X V) (mS c A t e v) (Zs (a_ c) (Zx T))):oU PP (.Assign [t] e pos) ((r.ev e).bind X):=fun env b T s c A he hf ge=>he▸
  (J.bind (hev e c b T A s (ge.le hn)) fun V v s1=>hX c b T A s1 V v ge.pt hf ge).by fun Q E S h=>by
    refine wpAny_bind (wpAny_standAt ?_)
    rw[show swapsWithSole [t] e _ _=pure _ from gN hc]
    exact wpAny_bind (wpAny_pure (wpAny_bind h))
end
section
variable {c:aU} {b:Str→Option Value} {W:Wd} {V:Internal.V} {v:Value} {t e:Expr} {n:Nat} {C:Cf}
theorem AK {Vs}:∀{vs} {T0},T0.len≤(bI Vs vs T0).len:=by
  induction Vs with
  |nil=>exact aC _
  |cons V Vs ih=>
   intro vs T0
   induction vs with
   |nil=>exact aC _
   |cons v vs=>exact bv (ih (T0:=.more V v T0))
theorem sK {Vs}:∀{vs} {T0 T1},T1.len=T0.len→gC C W (bI Vs vs T0)→(∀i,T0.len≤i→i<(bI Vs vs T0).len→W'.at (.tmp i)=W.at (.tmp i))→cO W.G.fz W'.G.fz→dW W.pi W'.pi→(gC C W T0→gC C W' T1)→gC C W' (bI Vs vs T1)∧(bI Vs vs T1).len=(bI Vs vs T0).len∧T0.len≤(bI Vs vs T0).len:=by
  induction Vs with
  |nil=>exact fun hl h ζ ζ ζ g=>⟨g h,hl,aC _⟩
  |cons V Vs ih=>
   intro vs T0 T1 hl h k le pi g
   induction vs with
   |nil=>exact⟨g h,hl,aC _⟩
   |cons v vs=>
    have lt:=AK (Vs:=Vs) (vs:=vs) (T0:=.more V v T0)
    have z:=ih (T1:=.more V v T1) (congrArg (· +1) hl) h (fun i h1 h2=>k i (bv h1) h2) le pi fun x=>⟨by
      rw[hl,k _ (aC _) lt]
      exact x.1.mono le pi,g x.2⟩
    exact⟨z.1,z.2.1,bv lt⟩
theorem AJ {Vs}:∀{vs} {T0},gC C W (bI Vs vs T0)→gC C W T0:=by
  induction Vs with
  |nil=>exact fun h=>h
  |cons V Vs ih=>
   intro vs T0 h
   induction vs with
   |nil=>exact h
   |cons v vs=>exact(ih h).2
theorem aZ.lift {Vs} {vs} (x:aZ c s b (bI Vs vs (.more V v T)) W):a_ c b (.more V v (bI Vs vs (.more .gone v T))) s W.G.S:=by
  have ne:∀{i j},i≠j→(Pl.tmp i)≠.tmp j:=fun h e=>h (by injection e)
  have hl:=(sK (T0:=.more V v T) (T1:=.more .gone v T) rfl x.tm (fun ζ ζ ζ=>rfl) (cO.refl _) (fun ζ ζ h=>h) fun h=>⟨.gone v,h.2⟩).2
  have k:=Kp.move x.fits (ne (cy hl.2)) Pl.noConfusion Pl.noConfusion
  refine⟨W.move (.tmp T.len) (.tmp (bI Vs vs (.more V v T)).len),?_⟩
  exact{x with
    fits:=k.fits
    fr:=k.frm x.fits x.fr
    nm:=fun y U h1 h2=>k.hasV (fun h=>h.elim Pl.noConfusion Pl.noConfusion) Pl.noConfusion (x.nm y U h1 h2)
    rg:=fun r=>k.slot x.fits (fun h=>h.elim Pl.noConfusion Pl.noConfusion) (fun ζ h=>h.elim Pl.noConfusion Pl.noConfusion) (x.rg r)
    tm:=⟨by
     rw[hl.1,fZ (ne (cy hl.2))]
     exact(AJ x.tm).1,(sK (T0:=.more V v T) (T1:=.more .gone v T) rfl x.tm (fun i h1 h2=>(fun i h1 h2=>k.at_ _ (fun h=>h.elim (ne h2) (ne (cy h1))) Pl.noConfusion) i h2 (Nat.ne_of_gt h1)) k.le k.pi fun h=>⟨.gone v,k.tmps (fun j hj q=>q.elim (ne (cy hj)) (ne (cy (Nat.lt_trans hj hl.2)))) h.2⟩).1⟩}
theorem Dj (hp:c.C.P=PP) ts:∀Vs vals b T s,Vs.length=vals.length→J (pm c) (a_ c b (bI Vs vals T) s) s (rt PP ts Vs) (z_ c A ts vals) (PA c T):=by
  induction ts with
  |nil=>
   intro Vs vals b T s h
   induction Vs with
   |nil=>
    induction vals with
    |nil=>exact fun S Q E i k=>wpAny_pure (k.2 () S ⟨b,i⟩)
    |cons=>trivial
   |cons=>exact .stk
  |cons t ts ih=>
   intro Vs vals b T s h
   cases Vs with
   |nil=>exact .stk
   |cons V Vs=>
    induction vals with
    |nil=>trivial
    |cons v vals=>
     exact((J.bind (R':=PA c T) (j7 hp) fun ζ ζ s' S Q E i k=>i.elim fun b i=>((ih Vs _ b _ s' (Nat.succ.inj h)).post fun ζ ζ ζ ζ i=>i.imp fun b i=>i.casesOn fun W x=>⟨W,x.pop⟩) S Q E i k).pre fun S i=>i.casesOn fun W x=>x.lift).by fun Q E S k=>wpAny_bind (wpAny_holding k)
end
section
variable {c:aU} {b:Str→Option Value} {W:Wd} {V:Internal.V} {v:Value} {t e:Expr} {n:Nat} {C:Cf} {Q:Flow→Shared→Prop} {R:Fl→Flow→St→Shared→Prop}
noncomputable def lq:List (Str×Internal.V)→List (Str×Internal.V)→List (Str×Internal.V)
  |[],rho=>rho
  |p::r,rho=>lq r (put p.1 p.2 rho)
structure P9 (l:List Str) (Vs:List Internal.V) (s:St) (Q:Flow→Shared→Prop) (R:Fl→Flow→St→Shared→Prop):Prop where
  len:l.length=Vs.length
  lc:∀x∈l,tj (lk x s.sc)=true
  fin:∀v S,R .next v (iX s (lq (l.zip Vs) s.rho)) S→Q v S
theorem Di ts:∀l Vs s,fC ts=some l→bZ (pm c) R Q E ((de (rt PP ts Vs)).run s)→P9 l Vs s Q R:=by
  induction ts with
  |nil=>
   intro l Vs s h a
   have e:=sm h
   subst e
   induction Vs with
   |nil=>exact⟨rfl,fun x h=>absurd h ft,a.2⟩
   |cons=>exact a.elim
  |cons t ts ih=>
   intro l Vs s h a
   refine aG h fun q e1 h1=>(ay.mp h1).elim fun l' h2=>?_
   have e1:=cR e1
   subst e1
   obtain⟨h2,h3⟩:=h2
   subst h3
   induction Vs with
   |nil=>exact a.elim
   |cons V Vs=>
    have a:bZ _ R Q E ((((gT _ _ (pT q.1 V _)).run s).bind _).bind _):=a
    revert a
    induction hc:tj _ with
    |false=>exact fun a=>a.elim
    |true=>
     intro a
     have z:=ih l' Vs _ h2 a
     exact⟨congrArg _ z.len,fun x h=>(aL.mp h).elim (fun e=>e▸hc) (z.lc x),z.fin⟩
theorem EH {l}:∀{vs},l.length=vs.length→stk (l++[V]) (vs++[v]) T=stk l vs (.more V v T):=by
  induction l with
  |nil=>
   intro vs h
   induction vs with
   |nil=>rfl
   |cons=>trivial
  |cons V' l ih=>
   intro vs h
   induction vs with
   |nil=>trivial
   |cons v' vs=>exact congrArg _ (ih (Nat.succ.inj h))
theorem yA {l}:∀{vs} {T},l.length=vs.length→bI l vs T=stk l.reverse vs.reverse T:=by
  induction l with
  |nil=>exact fun{vs} _ h=>by trivial
  |cons V l ih=>
   intro vs T h
   induction vs with
   |nil=>trivial
   |cons v vs=>
    rw[eF,eF,EH (by rw[cE,cE];exact Nat.succ.inj h)]
    exact ih (Nat.succ.inj h)
theorem zZ {Q} (l:List _):∀Vs vs b s S,l.length=Vs.length→Vs.length=vs.length→(∀x∈l,tj (lk x s.sc)=true)→a_ c b (stk Vs vs T) s S→(∀b S,a_ c b T (iX s (lq (l.zip Vs) s.rho)) S→Q () S)→wpAny c.C.M A (assignInOrder (l.map fun n=>bindName c.env n) vs) Q E S:=by
  induction l with
  |nil=>
   intro Vs vs b s S h1 h2 _ i k
   induction Vs with
   |nil=>
    induction vs with
    |nil=>exact wpAny_pure (k b S i)
    |cons=>trivial
   |cons=>trivial
  |cons y l ih=>
   intro Vs vs b s S h1 h2 lc i k
   cases Vs with
   |nil=>trivial
   |cons V Vs=>
    induction vs with
    |nil=>trivial
    |cons v vs=>
     induction i with|mk W x=>
     exact wpAny_bind (wpAny_holding (wpAny_bindName (mM x (lc y bA) fun W' b' z=>ih Vs vs b' (iX s (put y V _)) _ (Nat.succ.inj h1) (Nat.succ.inj h2) (fun x m=>lc x (aK _ m)) ⟨W',z⟩ k)))
end
section
variable {c:aU} {b:Str→Option Value} {W:Wd} {V:Internal.V} {v:Value} {t e:Expr} {n:Nat} {C:Cf} {Q:Flow→Shared→Prop} {R:Fl→Flow→St→Shared→Prop} {r:dN} {p:Pos} {k k2:Nat} {es:List Expr} {l:List Str}
theorem uP {ts}:∀{l},fC ts=some l→l.length=ts.length:=by
  induction ts with
  |nil=>trivial
  |cons t ts ih=>exact fun h=>aG h fun q e h1=>(ay.mp h1).elim fun l' h2=>h2.2▸congrArg _ (ih h2.1)
theorem Jv {f:Str→Pos→Bool} {g:Expr→Option Str} (hg:∀id pos,g (.Name id pos)=if f id pos=true then some id else none) {ts:List Expr}:∀{l:List Str},fC ts=some l→(ts.filterMap g).length=ts.length→ts.filterMap g=l:=by
  induction ts with
  |nil=>exact fun h ζ=>(sm h).symm
  |cons t ts ih=>
   intro l h hl
   refine aG h fun q e1 h1=>(ay.mp h1).elim fun l' h2=>?_
   have e1:g t=if f q.1 q.2=true then some q.1 else none:=cR e1▸hg _ _
   rw[cF] at hl⊢
   rw[e1] at hl⊢
   rw[←h2.2]
   revert hl
   cases f q.1 q.2 with
   |true=>exact fun hl=>congrArg (q.1::·) (ih h2.1 (Nat.succ.inj hl))
   |false=>exact fun hl=>absurd (hl▸List.length_filterMap_le g ts) (uw _)
theorem ba {α:Type} {c:Prop} [Decidable c] {x:Sem (Option α)} {l:α} (h:¬c→x=pure none∨x=pure (some l)):(if c then pure none else x)=pure none∨(if c then pure none else x)=pure (some l):=
  (Decidable.em c).elim (fun g=>.inl (if_pos g)) fun g=>(h g).imp (if_neg g).trans (if_neg g).trans
theorem uS {ts es:List Expr} {env:Env} (hl:fC ts=some l) (ht:r9 es=true):swappedStores [.Tuple ts k p] (.Tuple es k2 p2) env=pure none∨swappedStores [.Tuple ts k p] (.Tuple es k2 p2) env=pure (some l):=
  ba fun ζ=>ba fun ζ=>ba fun hn=>ba fun hf=>by
    rw[if_neg fun hc=>((dB _ _).mp ht).elim hf fun h=>by rw[hc] at h;exact bG h]
    exact .inr (congrArg (fun x=>(pure (some x):Sem (Option (List Str)))) (Jv (f:=fun id pos=>env.kindOf id==some .local&&pos.line==(ts.head?.map (·.pos.line)).getD 0) (fun ζ ζ=>rfl) hl (Decidable.byContradiction fun z=>hn ((dB _ _).mpr (.inl (bne_iff_ne.mpr z))))))
theorem ij {l}:vM l=true→l.Nodup:=by
  induction l with
  |nil=>trivial
  |cons x l ih=>
   exact fun h => dA.mpr ⟨fun hm=>bG ((ao _).mp (aa.mp h).1▸bX.mpr ⟨x,hm,bp.mpr rfl⟩),ih (aa.mp h).2⟩
theorem pJ {x} l:∀rho,(l.map (·.1)).Nodup→lk x (lq l rho)=oC (l.lookup x) some (lk x rho):=by
  induction l with
  |nil=>exact fun rho ζ=>rfl
  |cons p r ih=>
   intro rho nd
   refine(ih _ (dA.mp nd).2).trans ?_
   rw[i9]
   by_cases e:x=p.1
   ·subst e
    rw[if_pos rfl,show r.lookup p.1=none from List.lookup_eq_none_iff.mpr fun q m=>bne_iff_ne.mpr fun e=>(dA.mp nd).1 (bw.mpr ⟨q,m,e.symm⟩),bq,beq_self_eq_true];rfl
   ·rw[if_neg e,bq,beq_eq_false_iff_ne.mpr e]
theorem aZ.lk (x:aZ c (iX s ρ) b T W) (h:∀y,Internal.lk y ρ'=Internal.lk y ρ):aZ c (iX s ρ') b T W:={x with nm:=fun y V h1 h2=>x.nm y V ((h y).symm.trans h1) h2,kn:=fun y V h1=>x.kn y V ((h y).symm.trans h1)}
end
section
variable {c:aU} {b:Str→Option Value} {W:Wd} {V:Internal.V} {v:Value} {t e:Expr} {n:Nat} {C:Cf} {Q:Flow→Shared→Prop} {R:Fl→Flow→St→Shared→Prop} {r:dN} {p:Pos} {k k2:Nat} {es ts:List Expr} {l:List Str}
theorem D_ {α β:Type} {l:List α}:∀{m:List β},l.length=m.length→l.reverse.zip m.reverse=(l.zip m).reverse:=by
  induction l with
  |nil=>exact fun ζ=>rfl
  |cons a l ih=>
   intro m h
   induction m with
   |nil=>trivial
   |cons b m=>
    rw[eF,eF,List.zip_append (by rw[cE,cE];exact Nat.succ.inj h),ih (Nat.succ.inj h)]
    exact(eF ..).symm
theorem vo {x} {l:List (Str×Internal.V)} (nd:(l.map (·.1)).Nodup):l.reverse.lookup x=l.lookup x:=by
  induction l with
  |nil=>rfl
  |cons p l ih=>
   rw[eF,List.lookup_append,ih (dA.mp nd).2,bq,bq]
   by_cases e:x=p.1
   ·subst e
    rw[show l.lookup p.1=none from List.lookup_eq_none_iff.mpr fun q m=>bne_iff_ne.mpr fun e=>(dA.mp nd).1 (bw.mpr ⟨q,m,e.symm⟩)];rfl
   ·rw[beq_eq_false_iff_ne.mpr e]
    exact Option.or_none
theorem EZ {y} (hl:l.length=Vs.length) (hd:l.Nodup) rho:lk y (lq (l.zip Vs) rho)=lk y (lq (l.reverse.zip Vs.reverse) rho):=by
  have nd:((l.zip Vs).map (·.1)).Nodup:=by rw[G4 (aJ hl)];exact hd
  rw[D_ hl,pJ _ _ nd,pJ _ _ (List.map_reverse▸List.pairwise_reverse.mpr (nd.imp fun h=>Ne.symm h)),vo nd]
theorem Ls (hp:c.C.P=PP) (hd:c.hd=false→A.handled=none) (hh:c.hd=false) (hn:jm ts=true) (ht:r9 es=true):J (pm c) (NH c b T Vs vs s) s (de (rt PP ts Vs)) (fun Q E S=>vs.length≤sizeLine∧mS c A (.Tuple ts k p) (.Tuple es k2 p2) (.ref S.heap.objs.size) Q E {S with heap:=S.heap.push {cls:=.type "tuple",data:=.seq vs.toArray}}) (Zs (a_ c) (Zx T)):=fun S Q E i a=>by
  obtain⟨l,hl,hdl,h100⟩:∃l,fC ts=some l∧vM l=true∧Nat.blt l.length 100=true:=by
    unfold jm at hn
    revert hn
    induction fC ts with
    |none=>exact fun n=>bG n
    |some l=>exact fun n=>⟨l,rfl,(aa.mp n).1,(aa.mp n).2⟩
  have z:=Di ts l Vs s hl a
  obtain⟨hv,i⟩:=i
  have hea:=jZ c.env hl
  induction i with|mk W x=>
  have hk2:∀b o,W.G.S.heap.get? b=some o→(W.G.S.heap.push {cls:=.type "tuple",data:=.seq vs.toArray}).get? b=some o:=fun b o e=>Heap.get?_push_of_some _ e
  have htup:(W.G.S.heap.push {cls:=.type "tuple",data:=.seq vs.toArray}).IsTuple W.G.S.heap.objs.size (List.toArray vs):=⟨_,Heap.get?_push_size _ rfl,rfl,_,rfl⟩
  have grow:∀h',Heap.ExtBut (W.G.S.heap.push {cls:=.type "tuple",data:=.seq vs.toArray}).objs.size (W.G.S.heap.push {cls:=.type "tuple",data:=.seq vs.toArray}) h'→aZ c s b (bI Vs vs T) (W.mem {W.G.S with heap:=h'}):=fun h' hext=>x.mem (fun b o e=>hext b o (cy (Heap.lt_size (hk2 b o e))) (hk2 b o e)) rfl rfl
  refine⟨hv▸z.len▸ac (ag h100) (ac (cj _) (by decide)),?_⟩
  unfold mS
  refine(uS (k:=k) (k2:=k2) (p:=p) (p2:=p2) (env:=c.env) hl ht).elim (fun hsw=>?_) fun hsw=>?_
  ·rw[hsw]
   show wpAny _ _ (assign (.Tuple ts k p) c.env (.ref W.G.S.heap.objs.size)>>=fun ζ=>pure Flow.next) _ _ _
   refine wpAny_bind (wpAny_assign_Tuple (hd hh) htup (by rw[hea,au,←uP hl,z.len,hv];exact eE.symm) (by rw[hea,NJ];exact fun z m=>(bw.mp m).elim fun t w=>w.2▸rfl) fun h' hext=>?_)
   rw[hea,o6]
   exact(J.bind (k:=fun ζ=>rT Fl.next) (Dj hp ts Vs vs b T s hv) fun ζ ζ s' S Q E i k=>i.elim fun b' i=>wpAny_pure (k.2 _ _ ⟨b',T,⟨rfl,rfl⟩,i⟩)) _ Q E ⟨_,grow h' hext⟩ a
  ·rw[hsw]
   refine wpAny_bind (wpAny_pure (wpAny_bind (wpAny_rule (wpAny_bind ?_))))
   rw[show l.length=(List.toArray vs).size from(z.len.trans hv).trans eE.symm]
   refine wpAny_unpackItems_tuple (hd hh) htup fun h' hext=>wpAny_bind (zZ l.reverse Vs.reverse vs.reverse b s _ (by rw[cE,cE];exact z.len) (by rw[cE,cE];exact hv) (fun x m=>z.lc x (List.mem_reverse.mp m)) ⟨W.mem {W.G.S with heap:=h'},yA hv▸grow h' hext⟩ fun b' S' i=>wpAny_pure (z.fin _ _ ⟨b',T,⟨rfl,rfl⟩,i.casesOn fun W x=>⟨W,x.lk fun y=>EZ z.len (ij hdl) _⟩⟩))
theorem sj (hn:n≤90) (hev:cr PP n r.ev):oU PP (.Assign [.Tuple ts k p] (.Tuple es k2 p2) pos) (aT fun s=>gT (jm ts&&(r9 es&&(Nat.beq ts.length es.length&&!s.hd))) "targets" ((q9 r id es).bind fun vs=>de (rt PP ts vs))):=fun env b T s c A he hf ge=>he▸.look (.grd fun hc S Q E i a=>by
  have h1:=aa.mp hc
  refine(J.by (m:=(oW c A p2 es).bind fun vs=>fun Q E S=>vs.length≤sizeLine∧mS c A (.Tuple ts k p) (.Tuple es k2 p2) _ Q E _) (.bind (qZ hev (ge.le hn) (fun h=>h) es) fun Vs vs s1=>Ls ge.pt ge.hd (i.casesOn fun W x=>x.hd.symm.trans ((ao _).mp (aa.mp (aa.mp h1.2).2).2)) h1.1 (aa.mp h1.2).1) fun Q E S h=>?_) S Q E i a
  ·exact wpAny_bind (wpAny_standAt (wpAny_bind (wpAny_pure (wpAny_bind (wpAny_Tuple h))))))
end
section
variable {c:aU} {b:Str→Option Value} {W:Wd} {V:Internal.V} {v:Value} {t e:Expr} {n:Nat} {y:Str} {r:dN} {p:Pos}
theorem wl (h:aZ c s b T W) (hb:bad y=false) (e:b y=some v) (hq:Q v W.G.S):wpAny c.C.M A (loadName c.env y) Q E W.G.S:=
  h.fr.ns.elim fun m hm=>(hm.2 y v e).casesOn (fun q1 q2=>wpAny_loadName_local h.env.kind q1 hm.1 q2 hq) (fun cl q1 q2 q3 ζ=>wpAny_loadName_cell h.env.kind q1 q2 q3 hq) fun cl o q1 q2 q3 ζ=>q1.elim (fun q1=>wpAny_loadName_free h.env.kind q1 q2 q3 hq (jK hb)) fun q1=>wpAny_loadName_cell h.env.kind q1.1 q2 q3 hq
noncomputable def z7 (c:aU) (A:Around) (y:Str) (v:Value):d7 Unit:=fun Q E=>wpAny c.C.M A (storeName c.env y v) Q E
theorem ID (hp:c.C.P=PP):J (pm c) (a_ c b (.more V v T) s) s (iK PP (.Name y p) V) (z7 c A y v) (PA c T):=
  .look (.grd fun hk S Q E i k=>i.casesOn fun W x=>mM x hk fun W' b' z=>k.2 () _ ⟨b',W',z⟩)
noncomputable def Ha (c:aU) (A:Around) (a b:Value):d7 Value:=fun Q E=>wpAny c.C.M A (inplaceOp .Add a b) Q E
theorem E6 (h:w0 V=true):fb V=none:=by rcases V with⟨⟩<;>first|rfl|exact bG h
theorem pG (h:w0 V=true):plain V=true:=by rcases V with⟨⟩<;>first|rfl|exact bG h
theorem FK (hn:w0 V1=true):J (pm c) (a_ c b (.more V2 v2 (.more V1 v1 T)) s) s (nY .Add V1 V2) (Ha c A v1 v2) (PV c b T):=
  .opt fun V h=>.need fun hs=>.wret fun W Q E x k=>nv h (fun h=>aG h fun i e1 h=>aG h fun j e2 h=>(x.pop.rd.int e1).casesOn fun t=>(x.rd.int e2).casesOn fun u=>by
   have e:=sm h
   subst e
   exact iadd_int (k _ _ (.plain x.pop.pop rfl rfl rfl (.int _ _))))
    fun h=>nv h (fun h=>aG h fun i e1 h=>aG h fun j e2 h=>(x.pop.rd.str e1).casesOn fun t=>(x.rd.str e2).casesOn fun u=>by
      have e:=sm h
      subst e
      refine PyProof.Rows.iadd_str (fun t' tk=>k _ _ (by rw[fD];exact .plain x.pop.pop rfl rfl rfl (.str _ _))) ?_
      have hs:=ag hs
      rw[aq] at hs
      show i.length+j.length≤sizeLine
      unfold sizeLine;omega)
    fun h=>aG h fun l e1 ζ=>aX ((E6 hn).symm.trans e1)
theorem Ey (hn:n≤90) (hev:cr PP n r.ev):oU PP (.AugAssign (.Name y p) .Add e pos) (J7 PP r (.Name y p) y e):=fun env b T s c A he hf ge=>he▸.look (.opt fun old ho=>.grd fun hnum S Q E i a=>i.casesOn fun W x=>hG ho fun hb hl=>by
  induction x.nm y old hl fun g=>bG ((congrArg plain g).symm.trans (pG hnum)) with|mk v0 g o=>
  refine wpAny_AugAssign_Name (wl x hb g ?_)
  exact(J.bind (hev e c b (.more old v0 T) A s (ge.le hn)) fun V1 v1 s1=>.bind (FK hnum) fun V v s2=>.bind (k:=fun ζ=>rT Fl.next) (ID ge.pt) fun ζ ζ s3 S Q E i k=>i.elim fun b' i=>k.2 _ _ ⟨b',T,⟨rfl,rfl⟩,i⟩) _ Q E ⟨W,x.push (.rep _ _ (o.to_rep (pG hnum)))⟩ a)
end
section
variable {c:aU} {b:Str→Option Value} {W:Wd} {V:Internal.V} {v:Value} {t e o:Expr} {n:Nat} {y a:Str} {r:dN} {p:Pos} {z:Nat×Nat×List (Str×Internal.V)}
theorem J8 (hp:c.C.P=PP) (x:aZ c s b (.more V v T) W) (hz:gr o s=some z) (hr:s.reg z.1=.live z.2.1 z.2.2) (ea:W.pi z.1=some ad):J (pm c) (· =W.G.S) s (iK PP (.Attribute o a p) V) (fun Q E=>wpAny c.C.M A (PySem.setAttr (.ref ad) a v) Q E) (PA c T):=by
  subst hp
  suffices h:∀t,jt t=none→oS t=some _→J _ _ s (iK _ t V) _ _ from h _ rfl rfl
  intro t t1 t2
  unfold iK
  refine t1▸.opt fun q e2=>.look (.opt fun z' e3=>.grd fun hc S Q E i k=>?_)
  have e2:=sm (t2.symm.trans e2)
  subst e2
  have e3:=sm (hz.symm.trans e3)
  subst e3
  have h1:=aa.mp hc
  rw[i]
  exact mP x hr (u8 hr) ea (oz (aa.mp h1.1).1) (ag (aa.mp h1.1).2) h1.2 fun W' z=>k.2 () _ ⟨b,W',z⟩
theorem Ez:oU PP (.AugAssign t .Add e pos) (oT (oS t) "aug" fun q=>oT (tV e) "aug" fun j=>aT fun s=>oT (gr q.1 s) "aug" fun z=>oT ((lk q.2.1 z.2.2).bind j9) "aug" fun i=>de (iK PP t (.int (i+j)))):=fun env b T s c A he hf ge=>he▸.opt fun q e1=>.opt fun j e2=>.look (.opt fun z e3=>.opt fun i e4=>fun S Q E i0 k=>i0.casesOn fun W x=>aG e4 fun V0 e4 e5=>qD e3 fun y p1 e6 hb hl hr=>by
  have e1:=fK e1
  subst e1
  obtain⟨q1,q2,q3⟩:=q
  subst e6
  have e5:=lL e5
  subst e5
  obtain⟨ca,cp,e2⟩:=tU e2
  subst e2
  have R:=x.rg z.1
  rw[hr] at R
  induction R.is with|mk ad o od f g1 g2 g3 g4 g5 g6 g7=>
  induction x.nm y _ hl Internal.V.noConfusion with|mk v' g ow=>
  induction ((ow.to_rep rfl).inv) with|mk ad' ea=>
  have e7:=sm (g1.symm.trans ea)
  subst e7
  have hf5:=(g5 q2 _ e4).1
  have iv:=((g5 q2 _ e4).2.to_rep rfl).inv
  generalize f q2=w at iv hf5
  induction iv with|mk tk=>
  refine wpAny_AugAssign_AttributeAny (dZ x hb g (gR c.H (c.H.frag x.fits.ok) R.good (R.flds _ _ e4) g3 hf5 (wpAny_Constant_int (iadd_int ?_))))
  exact(J.bind (k:=fun ζ=>rT Fl.next) (J8 ge.pt ((x.mem (S':={W.G.S with toks:=W.G.S.toks+1+1+1}) (fun ζ ζ h=>h) rfl rfl).push (.rep _ _ (.int (i+j) (W.G.S.toks+1+1)))) e3 hr ea) fun ζ ζ s3 S Q E i k=>i.elim fun b' i=>k.2 _ _ ⟨b',T,⟨rfl,rfl⟩,i⟩) _ Q E rfl k)
end
section
variable {c:aU} {b:Str→Option Value} {V:Internal.V} {v:Value} {t e:Expr} {n:Nat} {r:dN} {x:Tr Fl}
theorem oU.grd {st} {k} {w} (h:k=true→oU PP st x):oU PP st (gT k w x):=fun env b T s c A he hf ge=>.grd fun hk=>h hk _ b T s c A he hf ge
theorem IA (hn:n≤90) (hev:cr PP n r.ev) (FM:∀q,LA t=some q→oU PP (.Assign [t] e pos) (aT fun s=>oT (lg PP e s) "setitem" fun v=>oT (lg PP q.2 s) "setitem" (setItem q.1 v)))
    (hcomp:∀q,I_ e=some q→jb t=true→oU PP (.Assign [t] e pos) ((rj PP r q.1 q.2.1 q.2.2).bind fun l=>de (iK PP t (.own l)))):oU PP (.Assign [t] e pos) (Cj PP r t e):=by
  unfold Cj
  induction e1:Hd t with
  |some ts=>
   have e1:=uO e1
   subst e1
   show oU PP _ (Ci PP r _ _ e)
   unfold Ci
   induction e2:Hd e with
   |some es=>
    have e2:=uO e2
    subst e2
    exact sj hn hev
   |none=>exact .grd fun hc=>pv hn hev hc fun c b T A s V v hp hf ge=>EK hf ge e2
  |none=>
   induction e3:LA t with
   |some q=>exact FM q e3
   |none=>
    induction e4:I_ e with
    |some q=>exact .grd fun hc=>hcomp q e4 hc
    |none=>exact .grd fun hc=>pv hn hev hc fun c b T A s V v hp hf ge=>uX hp
end
section
variable {C:Cf} {c:aU} {W:Wd} {p:Pl} {it:Addr} {fz0:Fz} {L:List V} {St:Nat→Obj→Prop}
theorem Kp.write (f:bj c W) (h:W.own it=some p) (hp:p≠.frame) (hk:∀b o,b≠it→W.hp b=some o→S'.heap.get? b=some o) (hi:∃o,S'.heap.get? it=some o) (hg:S'.gens=W.G.S.gens) (ho:S'.os=W.G.S.os):Kp c W (· =p) (W.mem S') where
  toKw:=Kw.write (Z:=(· =it)) f (fun a e=>⟨p,e▸h⟩) (fun a o z e=>hk a o z e) (fun a e=>e▸hi.imp fun o q=>⟨q,fun m=>absurd ((f.own _ _ h).fmn m) hp⟩) hg ho fun a q e z=>.inl (sm (h.symm.trans (e▸z)))
  fr:=fun ζ h=>h
  frh:=fun a o e q=>.same (hk a o (fun z=>hp (sm ((z▸e).symm.trans h))) q)
structure oB (C:Cf) (fz0:Fz) (pi:Pi) (it:Addr) (L:List V) (St:Nat→Obj→Prop):Prop where
  live:∀i o,St i o→∃T,o.cls=.type T∧Ff.contains T=false
  iter:∀i o (s:Shared) A Q E,s.heap.get? it=some o→St i o→Q (.ref it) s→wpAny C.M A (pyIter (.ref it)) Q E s
  spec:∀i o (s:Shared),s.heap.get? it=some o→St i o→us s (.ref it)
  item:∀i y o (G:Gs) A Q E,L[i]?=some y→fA C G→cO fz0 G.fz→G.S.heap.get? it=some o→St i o→A.handled=none→
    (∀rv h' tk o',cP C G.fz pi y rv→h'.get? it=some o'→St (i+1) o'→Heap.SameBut it G.S.heap h'→Q (some rv) {G.S with heap:=h',toks:=tk})→wpAny C.M A (callSpecial? (.ref it) (Str.ofString "__next__")) Q E G.S
  done:∀i o (G:Gs) A Q E,L[i]?=none→fA C G→cO fz0 G.fz→G.S.heap.get? it=some o→St i o→A.handled=none→
    (∀ex h' o',Heap.ExtBut it G.S.heap h'→h'.get? it=some o'→St (i+1) o'→kb h' ex→E ex {G.S with heap:=h'})→wpAny C.M A (callSpecial? (.ref it) (Str.ofString "__next__")) Q E G.S
inductive Dq (fz0:Fz) (it:Addr) (L:List V) (St:Nat→Obj→Prop) (l:List V) (fz:Fz) (ρ:eC):Prop
  |mk (o:Obj) (i:Nat):cO fz0 fz→ρ.h it=some o→St i o→l=L.drop i→Dq fz0 it L St l fz ρ
theorem Ab (w:oB C fz0 pi it L St) d:wd C d 0 (.ref it) pi (Dq fz0 it L St) where
  hin:=rfl
  mono:=fun l fz fz' ρ le h=>h.casesOn fun o i h0 h1 h2 h3=>⟨o,i,fun a o e=>le a o (h0 a o e),h1,h2,h3⟩
  iter:=fun l c A W p Q E ζ ζ f h hq=>h.casesOn fun o i h0 h1 h2 h3=>w.iter i o _ A Q E (cx.mp h1).2 h2 hq
  next:=fun y l c A W p hC hp f ga h=>h.casesOn fun o i h0 h1 h2 h3=>by
    have hy:L[i]?=some y:=by
      refine (Nat.add_zero i)▸List.getElem?_drop▸h3▸?_;rfl
    subst hC
    exact w.item i y o _ A _ _ hy f.ok h0 (cx.mp h1).2 h2 ga.hd fun rv h' tk o' r1 r2 r3 r4=>.mk rv _ (Kp.write (S':={W.G.S with heap:=h',toks:=tk}) f (cx.mp h1).1 hp (fun b o hb e=>(r4.2 b hb).trans e) ⟨o',r2⟩ rfl rfl) r1 ⟨o',i+1,h0,cx.mpr ⟨(cx.mp h1).1,r2⟩,r3,by refine cC▸h3▸?_;rfl⟩
  stop:=fun ζ c A W p hC hp f ga h=>h.casesOn fun o i h0 h1 h2 h3=>by
    subst hC
    exact w.done i o _ A _ _ (dz.mpr (cn.mp h3.symm)) f.ok h0 (cx.mp h1).2 h2 ga.hd fun ex h' o' r1 r2 r3 r4=>.mk ex _ (Kp.write (S':={W.G.S with heap:=h'}) f (cx.mp h1).1 hp r1 ⟨o',r2⟩ rfl rfl) r4 ⟨o',i+1,h0,cx.mpr ⟨(cx.mp h1).1,r2⟩,r3,by refine cC▸h3▸?_;rfl⟩
  fail:=fun h=>absurd rfl h
  spec:=fun l c W p ζ ζ f h=>h.casesOn fun o i h0 h1 h2 h3=>w.spec i o _ (cx.mp h1).2 h2
  go:=fun l c A W p t rv ζ ζ f h=>by
   have fin:HX c W p (fun W'=>Dq fz0 it L St l W'.G.fz (W'.at p)) _:=HX.mk W (Kp.mem f (fun ζ ζ h=>h) rfl rfl) h
   induction h with|mk o i h0 h1 h2 h3=>
   obtain⟨T,t1,t2⟩:=w.live i o h2
   exact zY (cx.mp h1).2 (fun n e=>by
     rw[←Value.type.inj (t1.symm.trans e)]
     exact t2) fin
end
section
variable {C:Cf} {it l:Addr} {fz0:Fz} {L:List V} {ty:String} {f:Value} {n:Nat} {o:Obj} {y:V} {s:Shared}
theorem iQ {α} {Q:α→Shared→Prop} {E} (hh:A.handled=none) (h:∀ex h',(∀b o,s.heap.get? b=some o→h'.get? b=some o)→kb h' ex→E ex {s with heap:=h'}):wpAny C.M A (newExc (.type "StopIteration") []>>=raiseNew) Q E s:=
  wpAny_bind (jL fun ex h' k i=>iR hh (h _ h' k i))
theorem aS.at_ (r:aS C fz pi L vs) (h:L[i]?=some y):∃v,vs[i]?=some v∧cP C fz pi y v:=by
  have z:=r.ind (m:=fun L vs=>∀i:Nat,L[i]?=some y→∃v,vs[i]?=some v∧cP C fz pi y v) (fun i h=>aX h) fun V v Vs vs h ζ ih i e=>by
    induction i with
    |zero=>exact⟨v,rfl,sm e▸h⟩
    |succ i=>exact ih i e
  exact z i h
inductive K3 (ty:String) (f:Value) (n i:Nat) (o:Obj):Prop
  |run:i≤n→o.cls=.type ty→o.data=.fields #[f,.int i 0]→K3 ty f n i o
  |over (j:Value):n<i→o.cls=.type ty→o.data=.fields #[.none,j]→K3 ty f n i o
theorem K3.cls (h:K3 ty f n i o):o.cls=.type ty:=h.casesOn (fun ζ h ζ=>h) fun ζ ζ h ζ=>h
theorem yd (hl:At fz l fun h=>PlainL h l (List.toArray vs)) (r:aS C fz pi L vs):oB C fz pi it L (K3 "list_iterator" (.ref l) L.length) where
  live:=fun i o st=>⟨_,st.cls,by decide⟩
  spec:=fun i o s e st=>⟨"list_iterator",_,⟨o,e,st.cls⟩,slot_listiter_next.lookup⟩
  iter:=fun i o s A Q E e st hq=>by
    have hT:s.TypeIs (.ref it) "list_iterator":=⟨o,e,st.cls⟩
    refine wpAny_pyIter_slot hT slot_listiter_iter (wpAny_call_entry slot_listiter_iter hT entry_listiter_iter ?_ (args_listiter_iter _))
    exact wpAny_pure ⟨_,rfl,"list_iterator",_,hT,slot_listiter_next.lookup,hq⟩
  item:=fun i y o G A Q E hy ok le ho st hh hQ=>by
    have hlt:=(cJ.mp hy).1
    refine st.casesOn (fun ζ hc hd=>?_) fun j q ζ ζ=>absurd hlt (Nat.lt_asymm q)
    obtain⟨v,e1,e2⟩:=r.at_ hy
    obtain⟨ol,nl,hol,_,_,hdl⟩:=(hl.mono le).here ok.sub
    refine wpAny_callSpecial?_slot ⟨o,ho,hc⟩ slot_listiter_next (wpAny_call_entry slot_listiter_next ⟨o,ho,hc⟩ entry_listiter_next ?_ (args_listiter_next _))
    show wpAny _ _ (field (.ref it) 0>>=_) _ _ _
    refine wpAny_bind (wpAny_field ho hd (x:=.ref l) rfl ?_)
    refine wpAny_bind (wpAny_field ho hd rfl ?_)
    refine wpAny_bind (wpAny_seqItems hol hdl ?_)
    simp only[g8,(show (List.toArray vs)[i]?=some v from by simpa using e1)]
    refine wpAny_bind (wpAny_setField ho hd (by simp) (wpAny_pure ⟨v,rfl,hQ v _ _ _ (e2.mono le fun ζ ζ h=>h) (Heap.get?_update_self _ ho (Obj.isFreed_of_fields (Obj.data_mapFields hd _))) (.run hlt ((Obj.cls_mapFields ..).trans hc) ?_) (Heap.SameBut.update ..)⟩))
    rw[Obj.data_mapFields hd];trivial
  done:=fun i o G A Q E hy ok le ho st hh hE=>by
    have hge:=dz.mp hy
    have hT:G.S.TypeIs (.ref it) "list_iterator":=⟨o,ho,st.cls⟩
    refine wpAny_callSpecial?_slot hT slot_listiter_next (wpAny_call_entry slot_listiter_next hT entry_listiter_next ?_ (args_listiter_next _))
    show wpAny _ _ (field (.ref it) 0>>=_) _ _ _
    refine st.casesOn (fun ζ hc hd=>?_) fun j q hc hd=>?_
    ·refine hR fun O u=>?_
     refine hR fun U X=>?_
     obtain⟨ol,nl,hol,_,_,hdl⟩:=(hl.mono le).here ok.sub
     refine X ?_
     refine u ?_
     refine wpAny_bind (wpAny_field ho hd (x:=.ref l) rfl ?_)
     refine wpAny_bind (wpAny_field ho hd rfl (wpAny_bind (wpAny_seqItems hol hdl ?_)))
     have hx:(List.toArray vs)[i]?=none:=by
       rw[dz,r.len] at hy
       simpa using hy
     simp only[g8,hx]
     exact wpAny_bind (wpAny_rule (wpAny_bind (wpAny_setField ho hd (by simp) (iQ (by exact hh) fun ex h' k1 k2=>(hE ex h' _ (fun b o' hb e=>k1 b o' (((Heap.SameBut.update (h:=G.S.heap) it _).2 b hb).trans e)) (k1 _ _ (Heap.get?_update_self _ ho (Obj.isFreed_of_fields (Obj.data_mapFields hd _)))) (.over (.int i 0) (Nat.lt_succ_of_le hge) ((Obj.cls_mapFields ..).trans hc) (by rw[Obj.data_mapFields hd];rfl)) k2)))))
    ·refine wpAny_bind (wpAny_field ho hd (x:=.none) rfl (wpAny_bind (wpAny_rule ?_)))
     exact wpAny_bind (iQ (by exact hh) fun ex h' k1 k2=>hE ex h' _ (fun b o' ζ e=>k1 b o' e) (k1 _ _ ho) (.over j (eD q) hc hd) k2)
end
section
variable {C:Cf} {it l:Addr} {fz0:Fz} {L:List V} {ty:String} {f:Value} {n:Nat} {o:Obj} {y:V} {s:Shared} {x:List Nat} {t:Tok}
noncomputable def Kf ty:=ty="str_ascii_iterator"∨ty="str_iterator"
theorem sr (hty:Kf ty) (hT:s.TypeIs (.ref it) ty) {Q} {E} (h1:wpAny C.M A.in1 (Builtin.«str_ascii_iterator.__next__» ⟨[.ref it],[]⟩) (fun fin s'=>∃v,fin=PySem.Fin.done (.ret v)∧Q (some v) s') E s) (h2:wpAny C.M A.in1 (Builtin.«str_iterator.__next__» ⟨[.ref it],[]⟩) (fun fin s'=>∃v,fin=PySem.Fin.done (.ret v)∧Q (some v) s') E s):wpAny C.M A (callSpecial? (.ref it) (Str.ofString "__next__")) Q E s:=by
  rcases hty with rfl|rfl
  ·exact wpAny_callSpecial?_slot hT F.slot_str_ascii_iterator_next (wpAny_call_entry F.slot_str_ascii_iterator_next hT F.entry_str_ascii_iterator_next h1 (F.args_str_ascii_iterator_next_1 _))
  ·exact wpAny_callSpecial?_slot hT F.slot_str_iterator_next (wpAny_call_entry F.slot_str_iterator_next hT F.entry_str_iterator_next h2 (F.args_str_iterator_next_1 _))
theorem As (hty:Kf ty) (hT:s.TypeIs (.ref it) ty):us s (.ref it):=by
  rcases hty with rfl|rfl
  ·exact⟨_,_,hT,F.slot_str_ascii_iterator_next.lookup⟩
  ·exact⟨_,_,hT,F.slot_str_iterator_next.lookup⟩
theorem r6 (hty:Kf ty):oB C fz pi it (x.map fun c=>.str [c]) (K3 ty (.str ⟨x.toArray⟩ t) x.length) where
  live:=fun i o st=>⟨_,st.cls,by rcases hty with rfl|rfl<;>decide⟩
  spec:=fun i o s e st=>As hty ⟨o,e,st.cls⟩
  iter:=fun i o s A Q E e st hq=>by
    have hT:s.TypeIs (.ref it) ty:=⟨o,e,st.cls⟩
    rcases hty with rfl|rfl
    ·refine wpAny_pyIter_slot hT F.slot_str_ascii_iterator_iter (wpAny_call_entry F.slot_str_ascii_iterator_iter hT F.entry_str_ascii_iterator_iter ?_ (F.args_str_ascii_iterator_iter_1 _))
     show wpAny _ _ (ret (.ref it)) _ _ s
     exact wpAny_pure ⟨_,rfl,"str_ascii_iterator",_,hT,F.slot_str_ascii_iterator_next.lookup,hq⟩
    ·refine wpAny_pyIter_slot hT F.slot_str_iterator_iter (wpAny_call_entry F.slot_str_iterator_iter hT F.entry_str_iterator_iter ?_ (F.args_str_iterator_iter_1 _))
     show wpAny _ _ (ret (.ref it)) _ _ s
     exact wpAny_pure ⟨_,rfl,"str_iterator",_,hT,F.slot_str_iterator_next.lookup,hq⟩
  item:=fun i y o G A Q E hy ok le ho st hh hQ=>by
    rw[List.getElem?_map] at hy
    obtain⟨c,hxi,hc0⟩:=ay.mp hy
    subst hc0
    have hlt:=(cJ.mp hxi).1
    refine st.casesOn (fun ζ hc hd=>?_) fun j q ζ ζ=>absurd hlt (Nat.lt_asymm q)
    refine sr hty ⟨o,ho,hc⟩ ?_ ?_
    all_goals
      show wpAny _ _ (field (.ref it) 0>>=_) _ _ _
      refine wpAny_bind (wpAny_field ho hd (x:=.str ⟨x.toArray⟩ t) rfl ?_)
      show wpAny _ _ (field (.ref it) 1>>=_) _ _ _
      refine wpAny_bind (wpAny_field ho hd (x:=.int i 0) rfl ?_)
      simp only[g8,(show x.toArray[i]?=some c from by simpa using hxi)]
      refine wpAny_bind (wpAny_setField ho hd (by simp) (wpAny_bind (wpAny_mkStr (wpAny_pure ⟨_,rfl,hQ (.str ⟨#[c]⟩ _) _ _ _ (.str [c] _) (Heap.get?_update_self _ ho (Obj.isFreed_of_fields (Obj.data_mapFields hd _))) (.run hlt ((Obj.cls_mapFields ..).trans hc) ?_) (Heap.SameBut.update ..)⟩) (by show 1≤sizeLine;decide))))
      rw[Obj.data_mapFields hd];trivial
  done:=fun i o G A Q E hy ok le ho st hh hE=>by
    have hge:=dz.mp hy
    rw[au] at hge
    have hx:x.toArray[i]?=none:=by simpa using hge
    refine sr hty ⟨o,ho,st.cls⟩ ?_ ?_
    all_goals
      show wpAny _ _ (field (.ref it) 0>>=_) _ _ _
      refine st.casesOn (fun ζ hc hd=>?_) fun j q hc hd=>?_
      ·refine wpAny_bind (wpAny_field ho hd (x:=.str ⟨x.toArray⟩ t) rfl ?_)
       show wpAny _ _ (field (.ref it) 1>>=_) _ _ _
       refine wpAny_bind (wpAny_field ho hd (x:=.int i 0) rfl ?_)
       simp only[g8,hx]
       refine wpAny_bind (wpAny_rule (wpAny_bind (wpAny_setField ho hd (by simp) (wpAny_bind (wpAny_letGo (iQ (by exact hh) fun ex h' k1 k2=>?_))))))
       exact hE ex h' _ (fun b o' hb e=>k1 b o' (((Heap.SameBut.update (h:=G.S.heap) it _).2 b hb).trans e)) (k1 _ _ (Heap.get?_update_self _ ho (Obj.isFreed_of_fields (Obj.data_mapFields hd _)))) (.over (.int i 0) (Nat.lt_succ_of_le hge) ((Obj.cls_mapFields ..).trans hc) (by rw[Obj.data_mapFields hd];trivial)) k2
      ·refine wpAny_bind (wpAny_field ho hd rfl ?_)
       refine wpAny_bind (wpAny_rule ?_)
       exact iQ (by exact hh) fun ex h' k1 k2=>hE ex h' _ (fun b o' ζ e=>k1 b o' e) (k1 _ _ ho) (.over j (eD q) hc hd) k2
end
section
variable {C:Cf}
theorem jS {st} (h:0<st):∀n a b i,(cQ a b st n)[i]?=if i<n∧a+i*st<b then some (.int (a+i*st)) else none
  |0,a,b,i=>by trivial
  |n+1,a,b,i=>by
   unfold cQ
   split
   ·rename_i hab
    induction i with
    |zero=>simp[hab]
    |succ i=>
     have e:a+st+i*st=a+((i+1:Nat))*st:=by
       push_cast
       rw[Int.add_mul];lia
     rw[List.getElem?_cons_succ,(jS h n _ b i),e]
     simp only[Nat.succ_lt_succ_iff]
   ·rw[if_neg]
    ·rfl
    ·have:0≤i*st:=Int.mul_nonneg (by lia) (by lia)
     omega
theorem kD {lo hi st} (h:0<st) (i:Nat):i<Builtin.Range.rangeSize lo hi st↔lo+i*st<hi:=by
  unfold Builtin.Range.rangeSize
  rw[if_pos h]
  have nn:0≤i*st:=Int.mul_nonneg (by lia) (by lia)
  split
  ·rw[Int.lt_add_one_iff,Int.le_ediv_iff_mul_le h]
   lia
  ·constructor
   ·omega
   ·omega
noncomputable def rgO (a n st:Int):Obj:={cls:=.type "range_iterator",data:=.fields #[rawInt a,rawInt n,rawInt st]}
inductive PW (lo hi st:Int) (L:List V) (i:Nat) (o:Obj):Prop
  |mk (j:Nat):(j=i∨(j≤i∧L[j]?=none))→o=rgO (lo+j*st) (Builtin.Range.rangeSize lo hi st -j) st→PW lo hi st L i o
theorem uN {fz:Fz} {pi:Pi} {it:Addr} {lo hi st:Int} (hst:0<st):oB C fz pi it (cQ lo hi st (hi -lo).toNat) (PW lo hi st (cQ lo hi st (hi -lo).toNat)) where
  live:=fun i o st=>st.casesOn fun ζ ζ e=>⟨_,by rw[e];rfl,by decide⟩
  spec:=fun i o s e st=>st.casesOn fun ζ ζ z=>⟨"range_iterator",_,⟨_,e,by rw[z];rfl⟩,F.slot_range_iterator_next.lookup⟩
  iter:=fun i o s A Q E e st hq=>st.casesOn fun j ζ z=>wpAny_pyIter_rangeiter (show IsRangeIter s.heap it _ _ _ from e.trans (congrArg some z)) hq
  item:=fun i y o G A Q E hy ok le e Nl hh hQ=>Nl.casesOn fun j hj z=>by
    have hit:=e.trans (congrArg some z)
    have hje:i=j:=hj.elim Eq.symm fun⟨q1,q2⟩=>by
      have h1:=(cJ.mp hy).1
      have h2:=dz.mp q2
      omega
    subst hje
    rw[jS hst] at hy
    split at hy
    ·rename_i hc
     cases hy
     have hleft:=(kD hst i).mpr hc.2
     refine wpAny_callSpecial?_slot ⟨_,hit,rfl⟩ F.slot_range_iterator_next
       (call_meets F.slot_range_iterator_next ⟨_,hit,rfl⟩ F.entry_range_iterator_next (F.args_range_iterator_next_1 _) (AutoRange.range_iterator___next___range_iterator_1 it (lo+i*st) (Builtin.Range.rangeSize lo hi st -i) st (by lia)) ⟨hit,?_⟩)
     refine hQ _ _ _ _ (.int _ _) ?_ ⟨i+1,.inl rfl,rfl⟩ ((Heap.SameBut.update ..).trans (Heap.SameBut.update ..))
     have:=Heap.get?_update_self (fun o=>o.mapFields (·.set! 1 (rawInt (Builtin.Range.rangeSize lo hi st -i -1)))) (Heap.get?_update_self (fun o=>o.mapFields (·.set! 0 (rawInt (lo+i*st+st)))) hit rfl) rfl
     have e1:lo+((i+1:Nat):Int)*st=lo+i*st+st:=by
       push_cast
       rw[Int.add_mul];lia
     rw[e1,(show Builtin.Range.rangeSize lo hi st -(i+1:Nat)=Builtin.Range.rangeSize lo hi st -i -1 from by push_cast;lia)]
     exact this
    ·contradiction
  done:=fun i0 o G A Q E hy ok le e Nl hh hE=>Nl.casesOn fun i hj z=>by
    have hit:=e.trans (congrArg some z)
    replace hy:(cQ lo hi st (hi -lo).toNat)[i]?=none:=by
      rcases hj with hj|hj
      ·rw[hj];exact hy
      ·exact hj.2
    have hleft:Builtin.Range.rangeSize lo hi st -i≤0:=by
      rw[jS hst] at hy
      split at hy
      ·exact nomatch hy
      ·rename_i hc
       have:=fun q=>hc ⟨by
         have hle:=by
           have:=Int.mul_le_mul_of_nonneg_left (show(1)≤st by lia) (show(0:Int)≤i by lia)
           simpa using this
         omega,q⟩
       have:=mt (kD hst i).mp this
       omega
    refine wpAny_callSpecial?_slot ⟨_,hit,rfl⟩ F.slot_range_iterator_next
      (wpAny_call_entry F.slot_range_iterator_next ⟨_,hit,rfl⟩ F.entry_range_iterator_next ?_ (F.args_range_iterator_next_1 _))
    show wpAny _ _ (field (.ref it) 0>>=_) _ _ _
    refine wpAny_bind (wpAny_field hit rfl rfl ?_)
    refine wpAny_bind (wpAny_field hit rfl rfl ?_)
    refine wpAny_bind (wpAny_field hit rfl rfl ?_)
    show wpAny _ _ (if Builtin.Range.rangeSize lo hi st -i≤0 then _ else _) _ _ _
    rw[if_pos hleft]
    refine wpAny_bind (wpAny_rule ?_)
    refine wpAny_bind ?_
    exact iQ (by exact hh) fun ex h' k1 k2=>hE ex h' o (fun b o' ζ e=>k1 b o' e) (k1 _ _ e) ⟨i,.inr ⟨by omega,hy⟩,z⟩ k2
end
section
variable {c:aU} {W:Wd} {p q:Pl} {o:Obj} {k:Nat}
noncomputable def Hg:Option Pl→Nat
  |some (.tmp j)=>j+1
  |_=>0
theorem lb (f:Nat→Option Pl):∀n,∃k,∀x,x<n→Hg (f x)≤k
  |0=>⟨0,fun x h=>absurd h (cg x)⟩
  |n+1=>(lb f n).elim fun k h=>⟨k+Hg (f n),fun x q=>(Nat.lt_succ_iff_lt_or_eq.mp q).elim (fun q=>ac (h x q) (aA _ _)) fun q=>q▸be _ _⟩
structure GY (W:Wd) (q:Pl):Prop where
  o:∀x,W.own x≠some q
  g:∀x,W.gown x≠some q
theorem bj.void (f:bj c W):∃k,GY W (.tmp k):=
  (lb W.own _).elim fun k h=>(lb W.gown _).elim fun k' h'=>⟨k+k',
    fun x e=>(f.own x _ e).ex.elim fun o z=>have:=h x (Heap.lt_size z);absurd (ac (by rw[e] at this;exact this) (aA k k')) (uw _),
    fun x e=>have:=h' x (f.gown x _ e).1;absurd (ac (by rw[e] at this;exact this) (be k' k)) (uw _)⟩
open Classical in
noncomputable def Wd.re1 (W:Wd) a q:=W.lab (fun x=>if x=a then some q else W.own x) W.gown
open Classical in
noncomputable def eC.off (ρ:eC) (a:Addr):eC:=⟨fun x=>if x=a then none else ρ.h x,ρ.g⟩
open Classical in
theorem off_h {ρ:eC} {x} (h:(ρ.off a).h x=some o):x≠a∧ρ.h x=some o:=⟨fun e=>aX ((if_pos e).symm.trans h),(if_neg fun e=>aX ((if_pos e).symm.trans h)).symm.trans h⟩
theorem fX:(W.re1 a q).own a=some q:=if_pos rfl
theorem hF {x} (h:x≠a):(W.re1 a q).own x=W.own x:=if_neg h
theorem Kp.re1 (f:bj c W) (h:W.own a=some p) (hp:p≠.frame) (hq:q≠.frame):Kp c W (HW p q) (W.re1 a q):=
  have off:∀x z,¬HW p q z→((W.re1 a q).own x=some z↔W.own x=some z):=fun x z n=>(Classical.em (x=a)).elim
    (fun e=>⟨fun g=>absurd (.inr (sm (fX.symm.trans (e▸g)))) n,fun g=>absurd (.inl (sm (h.symm.trans (e▸g)))) n⟩) fun e=>by rw[hF e]
  Kp.lab f (fun x z g=>(Classical.em _).elim (fun e=>.inr (by
    subst e
    exact(f.own x p h).casesOn fun o h1 h2 h3 h4 h5=>⟨o,h1,h2,h3,h4,fun m=>absurd (h5 m) hp⟩)) fun e=>.inl ((hF e).symm.trans g))
    (fun ζ ζ=>.inl) off (fun ζ ζ ζ=>.rfl) fun g=>g.elim (fun e=>hp e.symm) fun e=>hq e.symm
open Classical in
theorem IQ (h:p≠q):(W.re1 a q).at p=(W.at p).off a:=eC.ext (fun x=>(Classical.em _).elim
  (fun e=>(if_neg fun g=>h (sm (fX.symm.trans (e▸g)))).trans (if_pos e).symm)
  fun e=>by
    show(if _ then _ else _)=if _ then _ else(if _ then _ else _)
    rw[hF e,if_neg e];rfl) fun ζ=>rfl
open Classical in
theorem wI (h:q≠p) (hx:W.own a≠some p):((W.re1 a p).at p).off a=W.at p:=eC.ext (fun x=>(Classical.em _).elim
  (fun e=>(if_pos e).trans (if_neg fun g=>hx (e▸g)).symm)
  fun e=>by
    show(if _ then _ else(if _ then _ else _))=if _ then _ else _
    rw[hF e,if_neg e];rfl) fun ζ=>rfl
structure oP (c:aU) (W:Wd) (p:Pl) (a:Addr) (k:Nat) (o:Obj):Prop where
  void:GY W (.tmp k)
  kp:Kp c W (HW p (.tmp k)) (W.re1 a (.tmp k))
  at_:(W.re1 a (.tmp k)).at p=(W.at p).off a
  hp:W.hp a=some o
  ne:p≠.tmp k
theorem bj.aside (f:bj c W) (hp:p≠.frame) (h:(W.at p).h a=some o):∃k,oP c W p a k o:=
  f.void.elim fun k v=>have h:=cx.mp h
    have ne:p≠.tmp k:=fun e=>v.o a (e▸h.1)
    ⟨k,v,Kp.re1 f h.1 hp Pl.noConfusion,IQ ne,h.2,ne⟩
theorem wo (h:GY W q):W.at q=⟨fun ζ=>none,fun ζ=>none⟩:=eC.ext (fun x=>if_neg (h.o x)) fun x=>if_neg (h.g x)
structure v9 (W:Wd) (a:Addr) (k:Nat):Prop where
  own:W.own a=some (.tmp k)
  o:∀x,W.own x=some (.tmp k)→x=a
  g:∀x,W.gown x≠some (.tmp k)
theorem oP.sole (x:oP c W p a k o) (kp:Kp c (W.re1 a (.tmp k)) (· =p) W2):v9 W2 a k∧W2.hp a=some o:=
  have e:=kp.at_ _ (Ne.symm x.ne) Pl.noConfusion
  have z:=cx.mp (e▸cx.mpr ⟨fX,x.hp⟩)
  ⟨⟨z.1,fun y q=>(kp.fits.own y _ q).ex.elim fun o' w=>by
      have w:=cx.mpr ⟨q,w⟩
      rw[e] at w
      exact Classical.byContradiction fun n=>x.void.o y ((hF n).symm.trans (cx.mp w).1),
    fun y q=>by
      have w:(W2.at _).g y=some (W2.G.S.gens[y]'(kp.fits.gown y _ q).1):=lK.mpr ⟨q,Array.getElem?_eq_getElem _⟩
      rw[e] at w
      exact x.void.g y (lK.mp w).1⟩,z.2⟩
theorem oP.back (x:oP c W p a k o) (f:bj c W) (hp:p≠.frame) (kp:Kp c (W.re1 a (.tmp k)) (HW p (.tmp k)) W2) (s:v9 W2 a k):Kp c W (· =p) (W2.re1 a p)∧((W2.re1 a p).at p).off a=W2.at p:=
  have k3:=(x.kp.trans kp f).trans ((Kp.re1 kp.fits s.own Pl.noConfusion hp).weak fun z h=>h.elim .inr .inl) f
  have v3:GY (W2.re1 a p) _:=⟨fun y q=>by
    by_cases e:y=a
    ·subst e;exact x.ne (sm (q.symm.trans fX))
    ·exact e (s.o y ((hF e).symm.trans q)),s.g⟩
  ⟨{k3 with
   at_:=fun z n m=>(Classical.em _).elim fun e=>by rw[e,wo v3,wo x.void] fun e=>k3.at_ z (fun h=>h.elim n e) m
   pir:=fun r n=>k3.pir r fun h=>h.elim n Pl.noConfusion},wI (Ne.symm x.ne) fun e=>x.ne (sm (s.own.symm.trans e))⟩
end
section
variable {C:Cf} {s:Shared} {f0 f1 v x old:Value} {i:Int}
noncomputable def JM (f0 f1 v:Value) (i:Int) (old:Value):Obj:={cls:=.type "enumerate",dict:=none,data:=.fields #[f0,f1,v,rawInt i,.none,old],slots:=#[]}
noncomputable def KL (s:Shared) (h':Heap):Shared:=⟨h',s.gens,s.drawn,s.toks+1,s.os⟩
noncomputable def uD f0:=f0=.none∨∃T:Nat,f0=rawInt T
theorem r5 {M} {Q} (h:Q (s.heap.get? a) s):wpAny M A (loadIfAlive a) Q E s:=fun ζ ζ ζ=>h
structure P7 (s:Shared) (a:Addr) (h':Heap) (v:Value) (i:Int):Prop where
  ext:Heap.ExtBut a s.heap h'
  at_:∃f0 f1 old,h'.get? a=some (JM f0 f1 v i old)∧uD f0
theorem Ge {Q} (he:s.heap.get? a=some (JM f0 f1 v i old)) (h0:uD f0)
    (hQ:∀b h' f1',h'.get? a=some (JM f0 f1' v i old)→Heap.SameBut a s.heap h'→Q b {s with heap:=h'}):wpAny C.M A (Builtin.SmallTypes.ownedTupleIsFree (.ref a)) Q E s:=by
  refine wpAny_bind (wpAny_field he rfl (x:=f0) rfl ?_)
  have y:=hQ true _ f1 he (Heap.SameBut.refl _ _)
  refine h0.elim (fun e=>?_) fun e=>e.elim fun T e=>?_
  ·subst e;exact wpAny_pure y
  ·subst e
   refine wpAny_bind (r5 ?_)
   induction s.heap.get? _ with
   |none=>exact wpAny_pure y
   |some ob=>
    refine wpAny_bind (wpAny_field he rfl (x:=f1) rfl ?_)
    split
    ·exact wpAny_bind (wpAny_setField_rec he (ag rfl) fun h₂ he₂ hs₂=>wpAny_pure (hQ _ _ _ he₂ hs₂))
    ·exact wpAny_pure (hQ _ _ f1 he (Heap.SameBut.refl _ _))
noncomputable def CE (a:Addr) (x result:Value):Sem PySem.Fin:=do
  if←Builtin.SmallTypes.ownedTupleIsFree (.ref a) then
   rule "enumerate.__next__.owned-tuple-again"
   let old←field (.ref a) 5
   setField (.ref a) 5 x
   Builtin.SmallTypes.ownedTupleHandOut (.ref a) result
   letGo [old] [result]
  ret result
noncomputable def CD (a:Addr) (x:Value):Sem PySem.Fin:=do
  let .int i _←field (.ref a) 3|unsupported "internal:enumerate.__next__"
  let given←field (.ref a) 4
  let index←if given==.none then mkInt i else pure given
  setField (.ref a) 3 (rawInt (i+1));setField (.ref a) 4 .none
  let result←newTuple [index,x]
  CE a x result
noncomputable def Ir (i:Int) (t:Tok) (x:Value):Obj:={cls:=.type "tuple",data:=.seq #[.int i t,x]}
theorem Gd {T} {Q} (he:s.heap.get? a=some (JM f0 f1 v i old)) (h0:uD f0)
    (hQ:∀h',P7 s a h' v i→Q (.done (.ret (.ref T))) {s with heap:=h'}):wpAny C.M A (CE a x (.ref T)) Q E s:=by
  refine wpAny_bind (Ge he h0 fun b h₅ f1' he₅ hs₅=>?_)
  induction b with
  |false=>exact wpAny_pure (hQ _ ⟨hs₅.extBut,f0,f1',old,he₅,h0⟩)
  |true=>
   exact wpAny_bind (wpAny_rule (wpAny_bind (wpAny_field he₅ rfl (x:=old) rfl (wpAny_bind (wpAny_setField_rec he₅ (ag rfl) fun h₆ he₆ hs₆=>wpAny_bind (wpAny_bind (wpAny_setField_rec he₆ (ag rfl) fun h₇ he₇ hs₇=>wpAny_setField_rec he₇ (ag rfl) fun h₈ he₈ hs₈=>(wpAny_bind (wpAny_letGo (wpAny_pure (hQ _ ⟨fun b o hb e=>hs₈.extBut b o hb (hs₇.extBut b o hb (hs₆.extBut b o hb (hs₅.extBut b o hb e))),rawInt T,.bool _,x,he₈,.inr ⟨_,rfl⟩⟩)))))))))))
theorem Gc {Q} (he:s.heap.get? a=some (JM f0 f1 v i old)) (h0:uD f0)
    (hQ:∀h',P7 s a h' v (i+1)→h'.get? s.heap.objs.size=some (Ir i s.toks x)→Q (.done (.ret (.ref s.heap.objs.size))) (KL s h')):wpAny C.M A (CD a x) Q E s:=by
  refine wpAny_bind (wpAny_field he rfl rfl (wpAny_bind (wpAny_field he rfl (x:=.none) rfl (wpAny_bind (wpAny_mkInt (wpAny_bind (wpAny_setField_rec he (ag rfl) fun h₂ he₂ hs₂=>wpAny_bind (wpAny_setField_rec he₂ (ag rfl) fun h₃ he₃ hs₃=>wpAny_bind (wpAny_newTuple ?_)))))))))
  have hs:Heap.SameBut a s.heap h₃:=⟨hs₃.1.trans hs₂.1,fun b hb=>(hs₃.2 b hb).trans (hs₂.2 b hb)⟩
  refine Gd (v:=v) (Heap.get?_push_of_some _ he₃) h0 fun h' w=>?_
  have e:=hs.1
  have k:=hQ h' ⟨fun b o hb e=>w.ext b o hb (Heap.get?_push_of_some _ (hs.extBut b o hb e)),w.at_⟩ (e▸(w.ext _ _ (e▸Nat.ne_of_gt (Heap.lt_size he)) (Heap.get?_push_size _ rfl)))
  rw[←e] at k
  exact k
theorem q_ {k} {Q} (he:s.heap.get? a=some (JM f0 f1 v k old))
    (h:wpAny C.M A.in1 (callSpecial? v (Str.ofString "__next__")) (fun r s1=>∃rv,r=some rv∧wpAny C.M A.in1 (CD a rv) (fun fin s'=>∃v,fin=.done (.ret v)∧Q (some v) s') E s1) E s):
    wpAny C.M A (callSpecial? (.ref a) (Str.ofString "__next__")) Q E s:=by
  refine wpAny_callSpecial?_slot ⟨_,he,rfl⟩ F.slot_enumerate_next
    (wpAny_call_entry F.slot_enumerate_next ⟨_,he,rfl⟩ F.entry_enumerate_next ?_ (F.args_enumerate_next_1 _))
  refine wpAny_bind (m:=field _ 2) (wpAny_field he rfl (x:=v) rfl (wpAny_bind (wpAny_bind (wpAny_mono h (fun r s1 hr=>?_) fun ζ ζ q=>q))))
  obtain⟨rv,rfl,hr⟩:=hr
  exact wpAny_pure hr
end
section
variable {C:Cf} {c:aU} {W:Wd} {p:Pl} {v:Value} {e k:Nat} {I:List V→Fz→eC→Prop} {l:List V} {ρ:eC}
noncomputable def nZ (k:Int):List V→List V
  |[]=>[]
  |v::vs=>.tup [.int k,v]::nZ (k+1) vs
theorem CA l:∀k,l.mapIdx (fun i v=>V.tup [.int (k+i),v])=nZ k l:=by
  induction l with
  |nil=>exact fun k=>rfl
  |cons v vs ih=>
   intro k
   rw[List.mapIdx_cons,nZ,←ih, (show (fun(i) v=>V.tup [.int (k+(i+1:Nat)),v])=fun i v=>.tup [.int (k+1+i),v] from funext fun i=>funext fun v=>by rw[x_,Int.natCast_succ,o7 1]),Int.natCast_zero,DF]
noncomputable def Nx y:=oC (GK y) (fun l=>l.getD 1 .gone) .gone
theorem tN l:∀k,(nZ k l).map Nx=l:=by
  induction l with
  |nil=>exact fun k=>rfl
  |cons v vs ih=>exact fun k=>congrArg _ (ih _)
inductive p_ (I:List V→Fz→eC→Prop) (a:Addr) (v:Value) (l:List V) (fz:Fz) (ρ:eC):Prop
  |mk (k:Int) (f0 f1 old:Value):l=nZ k (l.map Nx)→ρ.h a=some (JM f0 f1 v k old)→uD f0→I (l.map Nx) fz (ρ.off a)→p_ I a v l fz ρ
theorem HT {G:Prop} (h:∀P:Prop,(G→P)→P):G:=h G id
theorem GA.in1 (g:GA (d+1) c A):GA d c A.in1:=⟨g.hd,by have:=g.dep;lia,by have:=g.un;lia,g.fr⟩
theorem v9.write (s:v9 W a k) (f:bj c W) (hk:Heap.ExtBut a W.G.S.heap S'.heap) (hi:∃o,S'.heap.get? a=some o) (hg:S'.gens=W.G.S.gens) (ho:S'.os=W.G.S.os):Kp c W (· =.tmp k) (W.mem S'):=
  Kp.write f s.own Pl.noConfusion (fun b o hb e=>hk b o hb e) hi hg ho
structure PZ (c:aU) (W W2:Wd) (p:Pl) (a:Addr) (h':Heap) (ob:Obj) (W3:Wd):Prop where
  S:W3.G.S=KL W2.G.S h'
  kp:Kp c W (· =p) W3
  le:cO W2.G.fz W3.G.fz
  off:(W3.at p).off a=W2.at p
  own:W3.own a=some p
  fz:W3.G.fz W2.G.S.heap.objs.size=some ob
  pi:W3.pi=W2.pi
theorem oP.made {W2} {o ob} {h'} {i} (x:oP c W p a k o) (f:bj c W) (hp:p≠.frame) (kp:Kp c (W.re1 a (.tmp k)) (· =p) W2) (s:v9 W2 a k) (w:P7 W2.G.S a h' v i) (ht:h'.get? W2.G.S.heap.objs.size=some ob):∃W3,PZ c W W2 p a h' ob W3:=
  have fr:=bK W2.G.S.heap
  have k2:Kp c W2 (· =.tmp k) (W2.mem (KL _ h')):=s.write kp.fits w.ext (w.at_.elim fun ζ z=>z.elim fun ζ z=>z.elim fun ζ z=>⟨_,z.1⟩) rfl rfl
  have k3:Kp c _ _ ((W2.mem _).ext _ (· =W2.G.S.heap.objs.size)):=Kp.grow k2.fits (fun ζ ζ e=>e) rfl rfl _ fun b hb=>hb▸⟨fun q=>kp.fits.free fr q.mem,kp.fits.fmfree fr⟩
  have k5:=x.back f hp (((kp.weak fun ζ e=>.inl e).trans (k2.weak fun ζ e=>.inr e) x.kp.fits).trans (k3.weak fun ζ e=>.inr e) x.kp.fits) ⟨s.own,s.o,s.g⟩
  ⟨_,rfl,k5.1,dS _ h' _,k5.2.trans ((k3.at_ p x.ne hp).trans (k2.at_ p x.ne hp)),fX,eh rfl ht (bP fun o q=>kp.fits.free fr (.fz o q)),rfl⟩
noncomputable def I6 (r a:Addr) (o:Obj):Sem Unit:=match o.cls,o.data with
  |.type n,.fields vs=>if Ff.contains n&&vs[0]?==some (rawInt a) then do
     rule "for.unpacks-the-owned-tuple"
     updateField r 0 .none
   else pure ()
  |_,_=>pure ()
theorem I5 t r rv:letOwnedTupleGo t (.ref r) rv=pure ()∨∃a,letOwnedTupleGo t (.ref r) rv=(load r>>=I6 r a):=by
  have z:∀m,m=(do
    let (.ref r,.ref a):=(Value.ref r,rv)|return
    let o←load r
    I6 r a o)→m=pure ()∨∃a,m=(load r>>=I6 r a):=by
    cases rv<;>first|exact fun m e=>.inl e|exact fun m e=>.inr ⟨_,e⟩
  cases t<;>first|exact .inl rfl|exact z _ rfl
theorem v9.exc {W2} {ex} {n} (s:v9 W2 a k) (h:D8 c W2 n ex):D8 c (W2.re1 a p) n ex:=
  have pr:=fun{b} h=>h.casesOn (fun q e=>(Classical.em _).elim (fun z=>.own _ (z▸s.own)) fun z=>.own q ((hF z).symm.trans e)) (fun o e=>.fz o e) (fun o e=>.ot o e) fun e=>.tb e
  h.casesOn fun b base dx h1 h2 h3 h4=>.mk b _ dx h1 (fun h=>h2 (pr h)) (fun b o h m q=>h3 b o (pr h) m q) h4
variable (t:wd C d e v pi I)
include t
open Classical in
theorem Cz:wd C (d+1) e (.ref a) pi (p_ I a v) where
  hin:=rfl
  mono:=fun l fz fz' ρ le h=>HT fun P done=>h.casesOn fun k f0 f1 old h1 h2 h3 h4=>done ⟨k,f0,f1,old,h1,h2,h3,t.mono _ _ _ _ le h4⟩
  spec:=fun l c W p ζ ζ f h=>HT fun P done=>h.casesOn fun k f0 f1 old h1 h2 h3 h4=>done ⟨"enumerate",_,⟨_,(cx.mp h2).2,rfl⟩,F.slot_enumerate_next.lookup⟩
  iter:=fun l c A W p Q E ζ ζ f h hq=>HT fun P done=>h.casesOn fun k f0 f1 old h1 h2 h3 h4=>done<|by
    have hT:W.G.S.TypeIs (.ref a) "enumerate":=⟨_,(cx.mp h2).2,rfl⟩
    exact wpAny_pyIter_slot hT F.slot_enumerate_iter (wpAny_call_entry F.slot_enumerate_iter hT F.entry_enumerate_iter (wpAny_pure ⟨_,rfl,"enumerate",_,hT,F.slot_enumerate_next.lookup,hq⟩) (F.args_enumerate_iter_1 _))
  next:=fun y l c A W p hC hp f ga h=>HT fun P done=>h.casesOn fun k f0 f1 old h1 h2 h3 h4=>(f.aside hp h2).elim fun j x=>done<|
    q_ (cx.mp h2).2 (wpAny_mono (t.next _ (l.map Nx) c A.in1 (W.re1 a (.tmp j)) p hC hp x.kp.fits ga.in1 (x.at_.symm▸h4)) (fun r s1 hr=>hr.casesOn fun rv W2 kp r1 r2=>⟨rv,rfl,
      have g:=x.sole kp
      Gc g.2 h3 fun h' w ht=>⟨_,rfl,HT fun P done=>(x.made f hp kp g.1 w ht).elim fun W3 m=>w.at_.elim fun g0 z=>z.elim fun g1 z=>z.elim fun old' z=>done<|(show xY c W p pi y (p_ I a v l) (some (.ref W2.G.S.heap.objs.size)) W3.G.S→_ from m.S▸id)<|
        .mk (.ref W2.G.S.heap.objs.size) W3 m.kp ((List.head_eq_of_cons_eq h1).symm▸.tup _ _ [.int k W2.G.S.toks,rv] ⟨_,m.fz,fun h e=>⟨_,e,rfl,_,rfl⟩⟩ (.cons _ _ _ _ (.int _ _) (.cons _ _ _ _ (r1.mono m.le fun ζ ζ h=>h) .nil)))
          ⟨k+1,g0,g1,old',List.tail_eq_of_cons_eq h1,cx.mpr ⟨m.own,(congrArg (fun S=>S.heap.get? a) m.S).trans z.1⟩,z.2,m.off.symm▸t.mono _ _ _ _ m.le r2⟩⟩⟩) fun ζ ζ q=>q.elim)
  stop:=fun he c A W p hC hp f ga h=>HT fun P done=>h.casesOn fun k f0 f1 old h1 h2 h3 h4=>(f.aside hp h2).elim fun j x=>done<|
    q_ (cx.mp h2).2 (wpAny_mono (t.stop he c A.in1 (W.re1 a (.tmp j)) p hC hp x.kp.fits ga.in1 (x.at_.symm▸h4)) (fun r s1 hr=>hr.elim) fun ex s1 hr=>hr.casesOn fun W2 kp r1 r2=>
      have g:=x.sole kp
      have z:=x.back f hp (kp.weak fun ζ e=>.inl e) g.1
      .mk ex (W2.re1 a p) z.1 r1 ⟨k,f0,f1,old,rfl,cx.mpr ⟨fX,g.2⟩,h3,z.2.symm▸r2⟩)
  fail:=fun he c A W p hC hp f ga h=>HT fun P done=>h.casesOn fun k f0 f1 old h1 h2 h3 h4=>(f.aside hp h2).elim fun j x=>done<|
    q_ (cx.mp h2).2 (wpAny_mono (t.fail he c A.in1 (W.re1 a (.tmp j)) p hC hp x.kp.fits ga.in1 (x.at_.symm▸h4)) (fun r s1 hr=>hr.elim) fun ex s1 hr=>hr.casesOn fun W2 kp r1=>
      have g:=x.sole kp
      .mk ex (W2.re1 a p) (x.back f hp (kp.weak fun ζ e=>.inl e) g.1).1 (g.1.exc r1))
  go:=fun l c A W p t' rv hC hp f h=>HT fun P done=>h.casesOn fun k f0 f1 old h1 h2 h3 h4=>done<|by
   have hh:=(cx.mp h2)
   have fin:HX c W p (fun W'=>p_ I a v l W'.G.fz (W'.at p)) W.G.S:=HX.mk W (Kp.mem f (fun ζ ζ h=>h) rfl rfl) h
   have upd:wpAny C.M A (setField (.ref a) 0 .none) (fun ζ=>HX c W p fun W'=>p_ I a v l W'.G.fz (W'.at p)) ff W.G.S:=by
     refine wpAny_setField_rec hh.2 (ag rfl) fun h' he' hs'=>.mk _ (Kp.write (S':={W.G.S with heap:=h'}) f hh.1 hp (fun b o hb e=>(hs'.2 b hb).trans e) ⟨_,he'⟩ rfl rfl) ⟨k,.none,f1,old,h1,cx.mpr ⟨hh.1,he'⟩,.inl rfl,?_⟩
     have e:((W.mem {W.G.S with heap:=h'}).at p).off a=(W.at p).off a:=eC.ext (fun x=>(Classical.em (x=a)).elim (fun e=>(if_pos e).trans (if_pos e).symm) fun e=>by
       show(if _ then _ else(if _ then _ else _))=if _ then _ else(if _ then _ else _)
       rw[if_neg e,if_neg e]
       exact congrArg (fun z=>if W.own x=some p then z else none) (hs'.2 x e)) fun ζ=>rfl
     exact e▸(h4)
   rcases I5 t' a rv with e|⟨b,e⟩<;>rw[e]
   ·exact wpAny_pure fin
   ·refine wpAny_bind (wpAny_load hh.2 ?_)
    show wpAny _ _ (if _ then _ else _) _ _ _
    split
    ·assumption
    ·exact wpAny_pure fin
end
section
variable {c:aU} {W:Wd} {b:Str→Option Value} {V:Internal.V} {v:Value} {o:Obj} {q:Nat×List Internal.V×Nat×Internal.V}
theorem a_.fresh (x:aZ c s b T W) (hh:S'.heap=W.G.S.heap.push o) (hn:o.isFreed=false) (hg:S'.gens=W.G.S.gens) (ho:S'.os=W.G.S.os) (k:∀ρ,ρ.h W.G.S.heap.objs.size=some o→gI c.C W.G.fz W.pi ρ V v):a_ c b (.more V v T) s S':=by
  have e:S'.heap.get? W.G.S.heap.objs.size=some o:=by rw[hh];exact Heap.get?_push_size _ hn
  have y:=x.mem (fun a o e=>by rw[hh];exact Heap.get?_push_of_some _ e) hg ho
  have fr:=bK W.G.S.heap
  exact⟨_,(((Kp.give y.fits e (fun h=>x.fits.free fr h.mem) (x.fits.fmfree fr) Pl.noConfusion).weak (Pt.eq _)).simT y).push (k _ (qP e))⟩
inductive M7:Internal.V→Nat×List Internal.V×Nat×Internal.V→Prop
  |seq (V:Internal.V) (l:List Internal.V):fb V=some l→M7 V (0,l,0,.none)
  |str (x:List Nat):M7 (.str x) (0,x.map fun c=>.str [c],0,.none)
  |rng (l:List Internal.V):M7 (.rng l) (0,l,0,.none)
  |itr (d:Nat) (l:List Internal.V) (e:Nat) (x:Internal.V):M7 (.itr d l e x) (d,l,e,x)
theorem itC:f_ V=some q→M7 V q:=by rcases V with⟨⟩<;>first|exact aX|exact fun h=>sm h▸.seq _ _ rfl|exact fun h=>sm h▸.str _|exact fun h=>sm h▸.rng _|exact fun h=>sm h▸.itr _ _ _ _
theorem ky (h:fb V=some l):frz V=.lst l:=by rcases V with⟨⟩<;>first|exact aX h|exact sm h▸rfl
theorem qg {St} (x:aZ c s b T W) (hn:o.isFreed=false) (w:oB c.C W.G.fz W.pi W.G.S.heap.objs.size l St) (h0:St 0 o):a_ c b (.more (.itr 0 l 0 .none) (.ref W.G.S.heap.objs.size) T) s {W.G.S with heap:=W.G.S.heap.push o}:=
  .fresh x rfl hn rfl rfl fun ρ e=>.itr 0 l 0 _ _ ⟨W.pi,_,fun ζ ζ h=>h,Ab w 0,o,0,.refl _,e,h0,rfl⟩
theorem qJ (x:aZ c s b (.more V v T) W) (hV:f_ V=some q) (k:∀it S,a_ c b (.more (.itr q.1 q.2.1 q.2.2.1 q.2.2.2) it T) s S→Q it S):wpAny c.C.M A (pyIter v) Q E W.G.S:=
  (itC hV).casesOn
    (fun V l e x k=>(x.freeze (by rw[ky e];rfl)).casesOn fun W x=>
      have r:=ky e▸x.tm.1.to_rep (by rw[ky e];rfl)
      (show uy c.C W.G.fz W.pi l v from r.inv).casesOn (fun a vs h0 r=>(h0.here x.fits.ok.sub).elim fun o h=>h.elim fun n h=>
        wpAny_pyIter_list ⟨o,h.1,h.2.1,n,h.2.2.2⟩ (k _ _ (qg x.pop rfl (yd h0 r) (.run (bt _) rfl rfl)))))
    (fun y x k=>(x.rd.str rfl).casesOn fun t=>by
      rcases ha:(⟨y.toArray⟩:Str).cps.all (· <128) with⟨⟩
      ·exact wpAny_pyIter_wide ha (k _ _ (qg x.pop rfl (r6 (.inr rfl)) (.run (bt _) rfl rfl)))
      ·exact wpAny_pyIter_ascii ha (k _ _ (qg x.pop rfl (r6 (.inl rfl)) (.run (bt _) rfl rfl))))
    (fun l x k=>(show Dw W.G.fz l v from(x.tm.1.to_rep rfl).inv).casesOn fun a lo hi st t u w h g=>
      wpAny_pyIter_range (h.here x.fits.ok.sub) g.small (k _ _ (g.is▸qg x.pop rfl (uN g.pos) ⟨0,.inl rfl,by unfold rgO;rw[Int.natCast_zero,Int.zero_mul,DF,Int.sub_zero]⟩)))
    (fun d l e y x k=>by
      induction x.tm.1.itrI rfl with|mk p0 I h1 h2 h3=>
      exact h2.iter l c A W (.tmp T.len) _ _ rfl Pl.noConfusion x.fits h3 (k _ _ ⟨W,x⟩)) x k
theorem Bt:we PP:=fun V d l e x hV v b T s env c A ζ ζ ζ=>.wret fun W Q E y k=>qJ y hV fun it S h=>k it S ⟨b,_,⟨rfl,rfl⟩,h⟩
end
section
variable {c:aU} {W:Wd} {b:Str→Option Value} {V f:Internal.V} {v g:Value} {vals:List Value} {o:Obj} {kw:List (Str×Internal.V)} {x y:Tr Internal.V} {α:Type} {n:Nat}
theorem bO.same (h:bO c b T f fv args vals kw kvals s S) (q:iu s s'):bO c b T f fv args vals kw kvals s' S:=h.casesOn fun W x r k e=>⟨W,x.same q,r,k,e⟩
theorem J.ite {Sh β} {md} {I} {x x':Tr α} {m:jC Sh β} {R} {p} [d:Decidable p] (h1:p→J md I s x m R) (h2:¬p→J md I s x' m R):J md I s (if p then x else x') m R:=match d with
  |.isTrue h=>h1 h
  |.isFalse h=>h2 h
theorem a_.froze (x:aZ c s b T W) (hh:S'.heap=W.G.S.heap.push o) (hn:o.isFreed=false) (hg:S'.gens=W.G.S.gens) (ho:S'.os=W.G.S.os) (k:∀fz,cO W.G.fz fz→fz W.G.S.heap.objs.size=some o→cP c.C fz W.pi V (.ref W.G.S.heap.objs.size)):a_ c b (.more V (.ref W.G.S.heap.objs.size) T) s S':=
  have fr:=bK _
  have e:=hh▸Heap.get?_push_size _ hn
  ⟨_,(x.grow (fun a o e=>hh▸Heap.get?_push_of_some _ e) hg ho (· =W.G.S.heap.objs.size) fun a e=>e▸⟨x.fits.free fr,x.fits.fmfree fr⟩).push (.rep _ _ (k _ (dS _ _ _) (eh rfl e (bP fun o q=>x.fits.free fr (.fz o q)))))⟩
noncomputable def pq (c:aU) (A:Around) (g:Value) (vals:List Value):d7 Value:=fun Q E=>wpAny c.C.M A (PySem.call g vals) Q E
theorem Bd {α:Type} {n} {l} {P:List α→Prop} (e:n+1=l.length) (h:∀v l',n=l'.length→P (v::l')):P l:=l.casesOn (fun e=>absurd e (oH n)) (fun v l' e=>h v l' (Nat.succ.inj e)) e
theorem OL {α:Type} {l} {P:List α→Prop} (e:0=l.length) (h:P []):P l:=dX.mp e.symm▸h
section
variable {l:List β} {P:List β→Prop}
theorem jW (e:1=l.length) (h:∀v,P [v]):P l:=Bd e fun v l e=>OL (P:=fun l=>P _) e (h v)
theorem Bf (e:2=l.length) (h:∀v w,P [v,w]):P l:=Bd e fun v l e=>jW (P:=fun l=>P _) e (h v)
theorem OK (e:3=l.length) (h:∀v w u,P [v,w,u]):P l:=Bd e fun v l e=>Bf (P:=fun l=>P _) e (h v)
end
section
variable (hf:∀{fz pi},cP c.C fz pi f fv→fv=g)
include hf
theorem J.few {args} (h:∀W Q E,args.length=vals.length→aZ c s b (bI args vals T) W→bZ (pm c) (PV c b T) Q E (x.run s)→wpAny c.C.M A (PySem.call g vals) Q E W.G.S):J (pm c) (bO c b T f fv args vals [] kvals s) s x (fB c A fv vals [] kvals) (PV c b T):=
  fun S Q E i a=>i.casesOn fun W z r ζ e=>hf r▸h W Q E e z a
theorem J.call1 (h:∀v,J (pm c) (a_ c b (.more V v T) s) s x (pq c A g [v]) (PV c b T)):J (pm c) (bO c b T f fv [V] vals [] kvals s) s x (fB c A fv vals [] kvals) (PV c b T):=
  .few hf fun W Q E e z a=>jW (P:=fun vals=>aZ c s b (bI [V] vals T) W→pq c A g vals Q E _) e (fun v z=>h v _ Q E ⟨W,z⟩ a) z
theorem J.call2 (h:∀v w,J (pm c) (a_ c b (.more V2 w (.more V1 v T)) s) s x (pq c A g [v,w]) (PV c b T)):J (pm c) (bO c b T f fv [V1,V2] vals [] kvals s) s x (fB c A fv vals [] kvals) (PV c b T):=
  .few hf fun W Q E e z a=>Bf (P:=fun vals=>aZ c s b (bI [V1,V2] vals T) W→pq c A g vals Q E _) e (fun v w z=>h v w _ Q E ⟨W,z⟩ a) z
theorem J.call3 (h:∀v w u,J (pm c) (a_ c b (.more V3 u (.more V2 w (.more V1 v T))) s) s x (pq c A g [v,w,u]) (PV c b T)):J (pm c) (bO c b T f fv [V1,V2,V3] vals [] kvals s) s x (fB c A fv vals [] kvals) (PV c b T):=
  .few hf fun W Q E e z a=>OK (P:=fun vals=>aZ c s b (bI [V1,V2,V3] vals T) W→pq c A g vals Q E _) e (fun v w u z=>h v w u _ Q E ⟨W,z⟩ a) z
end
theorem a_.num (x:aZ c s b T W) {i} {t} (hk:∀a o,W.hp a=some o→S'.heap.get? a=some o) (hg:S'.gens=W.G.S.gens) (ho:S'.os=W.G.S.os):a_ c b (.more (.int i) (.int i t) T) s S':=⟨_,(x.mem hk hg ho).push (.rep _ _ (.int _ _))⟩
theorem HC (ok:fA c.C W.G) (r:Rd c.C W.G W.pi V v) (h:Be V=some n) (hb:Nat.ble n 1000000=true) (k:∀t tk,Q (.int n t) {W.G.S with toks:=tk}):wpAny c.C.M A (PySem.call (.builtin "len") [v]) Q E W.G.S:=by
  have hb:=ag hb
  unfold Be at h
  induction e:fb V with
  |some l=>
   rw[e] at h
   induction r.seq ok e with|mk a vs e1 p w=>
   subst e1
   have hz:(List.toArray vs).size=n:=(w.len.symm.trans (sm h).symm)
   exact call_len_list p.isList (by rw[hz];lia) (hz▸k _ _)
  |none=>
   replace h:=e▸h
   obtain⟨l,e1,e2⟩:=ay.mp h
   exact(r.str e1).casesOn fun t=>PySem.P.len_str (by show¬((l.length:Int)≥_);rw[e2];lia) (by subst e2;exact k _ _)
theorem yW {C} {fz} {pi} {vs} (r:aS C fz pi l vs):∀{is},jX l=some is→∃xs:List (Int×Tok),vs=xs.map (fun p=>.int p.1 p.2)∧xs.map (·.1)=is:=
  r.ind (m:=fun l vs=>∀{is},jX l=some is→∃xs:List _,vs=xs.map _∧xs.map _=is) (fun h=>⟨[],rfl,(sm h).symm⟩) fun V v Vs vs r _ ih {is} h=>by
    have z:∃i js,V=.int i∧jX Vs=some js∧is=i::js:=by
      revert h
      cases V<;>first|exact aX|skip
      intro h
      obtain⟨js,h1,h2⟩:=ay.mp (show(jX Vs).map _=some is from h)
      exact⟨i,js,rfl,h1,h2.symm⟩
    obtain⟨i,js,e1,e2,e3⟩:=z
    subst e1 e3
    obtain⟨xs,h1,h2⟩:=ih e2
    exact(show ji i v from r.inv).casesOn fun t=>⟨(i,t)::xs,congrArg _ h1,congrArg _ h2⟩
theorem sP xs:preSum (numAt xs) xs.size=(xs.toList.map (·.1)).sum:=by
  rw[preSum_eq,List.take_of_length_le (by rw[au];exact aC _)]
theorem Lq (hh:A.handled=none) (ok:fA c.C W.G) (r:Rd c.C W.G W.pi V v) (e:fb V=some l) {is} (h:jX l=some is) (k:∀h' tk t,(∀a o,W.hp a=some o→h'.get? a=some o)→Q (.int is.sum t) {W.G.S with heap:=h',toks:=tk}):wpAny c.C.M A (PySem.call (.builtin "sum") [v]) Q E W.G.S:=by
  induction r.seq ok e with|mk a vs e1 p w=>
  subst e1
  obtain⟨xs,h1,h2⟩:=yW w h
  subst h1
  refine sum_intListG hh (by rw[show intItems xs.toArray=(xs.map fun p=>.int p.1 p.2).toArray from by simp[intItems]];exact p.isList) fun h' tk t' hk=>?_
  rw[sP]
  exact h2▸k h' tk t' hk
theorem L1 {i j} (hh:A.handled=none) {t u} (k:∀h' tk t,(∀a o,W.hp a=some o→h'.get? a=some o)→Q (.int (if i<j then j else i) t) {W.G.S with heap:=h',toks:=tk}):wpAny c.C.M A (PySem.call (.builtin "max") [.int i t,.int j u]) Q E W.G.S:=
  max_two_ints hh fun h' tk hk=>by
    by_cases q:i<j
    ·have:=k h' tk u hk
     rw[if_pos q] at this
     rw[if_pos q]
     exact this
    ·have:=k h' tk t hk
     rw[if_neg q] at this
     rw[if_neg q]
     exact this
theorem Dh (hh:A.handled=none) {id}:J (pm c) (bO c b T (.bi id) fv args vals [] kvals s) s (J3 id args) (fB c A fv vals [] kvals) (PV c b T):=by
  have hf:∀{fz pi},cP c.C fz pi (.bi id) fv→fv=.builtin id:=fun r=>r.inv
  match args with
  |[]=>exact .stk
  |[a]=>
   refine .ite (fun e=>?_) fun ζ=>.ite (fun e=>?_) fun ζ=>.stk
   ·subst e
    exact .call1 hf fun v=>.opt fun n h=>.need fun hb=>.wret fun W Q E x k=>HC x.fits.ok x.rd h hb fun t tk=>k _ _ (.num x.pop (fun ζ ζ e=>e) rfl rfl)
   ·subst e
    exact .call1 hf fun v=>.grd fun ζ=>.opt fun l h=>.opt fun is hi=>.wret fun W Q E x k=>Lq hh x.fits.ok x.rd h hi fun h' tk t hk=>k _ _ (.num x.pop hk rfl rfl)
  |[a,b']=>
   refine .ite (fun e=>?_) fun ζ=>.stk
   subst e
   exact .call2 hf fun v w=>.opt fun i hi=>.opt fun j hj=>.wret fun W Q E x k=>(x.pop.rd.int hi).casesOn fun t=>(x.rd.int hj).casesOn fun u=>L1 hh fun h' tk t hk=>k _ _ (.num x.pop.pop hk rfl rfl)
  |_::_::_::_=>exact .stk
end
section
variable {c:aU} {W:Wd} {b:Str→Option Value} {V f:Internal.V} {v g:Value} {vals:List Value} {o:Obj} {kw:List (Str×Internal.V)} {x y:Tr Internal.V} {α:Type} {n:Nat} {i j d:Int} {p:Pl}
theorem nW {x} (h:x.natAbs≤4000000):Builtin.Range.rangeFitsLong x=true:=by
  unfold Builtin.Range.rangeFitsLong
  rw[aI,decide_eq_true_iff,decide_eq_true_iff]
  omega
theorem IG (hd:0<d) (hi:i.natAbs≤1000000) (hj:j.natAbs≤1000000):(Builtin.Range.rangeSize i j d).natAbs≤2000001:=by
  unfold Builtin.Range.rangeSize
  rw[if_pos hd]
  split
  ·have h4:0≤(j -i -1)/d:=Int.ediv_nonneg (by omega) (by lia)
   have h5:(j -i -1)/d≤j -i -1:=Int.ediv_le_self _ (by omega)
   omega
  ·exact bt _
structure PU (i j d:Int):Prop where
  small:Builtin.Range.small i j d=true
  pos:0<d
  few:d.natAbs<1073741824
theorem lm (h:jF i j d=true):PU i j d:=by
  have h:=aa.mp h
  have h2:=aa.mp h.2
  have h3:=aa.mp h2.2
  have hd:=of_decide_eq_true h.1
  have hi:=ag h2.1
  have hj:=ag h3.1
  have hk:=ag h3.2
  refine⟨?_,hd,aR hk (by decide)⟩
  have hs:=IG hd hi hj
  have hb:∀{x:Int},x.natAbs≤1000000→x.natAbs≤4000000:=fun h=>ac h (by decide)
  unfold Builtin.Range.small
  rw[nW (hb hi),nW (hb hj),nW (hb hk),nW (ac hs (by decide))]
  simp only[hd]
  rw[nW (by omega)]
  exact Bool.or_true _
theorem u6 {t u w} (x:aZ c s b T W) (h:jF i j d=true) (hh:S'.heap=W.G.S.heap.push {cls:=.type "range",data:=.fields #[.int i t,.int j u,.int d w]}) (hg:S'.gens=W.G.S.gens) (ho:S'.os=W.G.S.os):a_ c b (.more (.rng (cQ i j d (j -i).toNat)) (.ref W.G.S.heap.objs.size) T) s S':=
  have k:=lm h
  .froze x hh rfl hg ho fun fz le e=>.rng _ _ i j d t u w ⟨_,e,fun h e=>e⟩ ⟨k.small,k.pos,rfl⟩
section
variable {w:World} {P:β→Shared→Prop} {R:Value→Shared→Prop} {X:Shared}
theorem NM {t t'} (h:wpAny (model prog w) A t' P R X) (e:t=t'):wpAny (model prog w) A t P R X:=e▸h
theorem Ii n {t} {a} (h:P a X) (e:skim ⟨prog,w.params⟩ n t=.pure a):wpAny (model prog w) A t P R X:=x_skim n (e▸x_pure h)
theorem vP {cls} {P} (h:∀b,P b X):wpAny (model prog w) A (Builtin.SmallTypes.calledThroughType cls) P R X:=wpAny_bind (wpAny_stack_any fun st=>wpAny_pure (h _))
noncomputable def AV (it:Value):Obj:={cls:=.type "enumerate",data:=.fields #[.none,.bool false,it,rawInt 1,.none,.none]}
theorem Cy v t:MeetsIn prog w (Builtin.«enumerate.__new__» ⟨[.type "enumerate",v,.int 1 t],[]⟩)
    fun A R s=>wpAny (model prog w) A.in1 (pyIter v) (fun it s1=>R (.ok (.ret (.ref s1.heap.objs.size))) {s1 with heap:=s1.heap.push (AV it)}) (fun e s1=>R (.error e) s1) s:=
  .of_wp fun A R s h=>by
    have fin:wpAny (model prog w) A.in1 (pyIter v>>=fun it=>newObj (.type "enumerate") (.fields #[.none,.bool false,it,rawInt 1,.none,.none])>>=fun r=>ret r) (fun fin s'=>∃v,fin=.done (.ret v)∧R (.ok (.ret v)) s') (fun e s'=>R (.error e) s') s:=
      wpAny_bind (wpAny_mono h (fun it s1 h1=>wpAny_bind (wpAny_newObj_type (wpAny_pure ⟨_,rfl,h1⟩) (by size_fits))) fun ζ ζ q=>q)
    refine wpAny_bind (Ii 9 (a:=(.type "enumerate",[v,.int 1 t])) (wpAny_bind (vP fun b=>?_)) rfl)
    cases b<;>exact NM fin rfl
end
end
section
theorem iS a b:checkTypeCall "enumerate" ⟨[a,b],[]⟩=pure ():=by kernel_rfl
theorem ju a b:checkBuiltinCall "enumerate.__new__" ⟨[.type "enumerate",a,b],[]⟩=pure ():=by kernel_rfl
theorem zp {prog} {w} {A} {E} {s} {v} {t} {Q} (h:wpAny (model prog w) A.in1.in1 (pyIter v) (fun it s1=>Q (.ref s1.heap.objs.size) {s1 with heap:=s1.heap.push (AV it)}) (fun e s1=>E e s1) s):
    wpAny (model prog w) A (call (.type "enumerate") [v,.int 1 t]) Q E s:=
  callType_newIn PySem.F.called_enumerate rfl (iS _ _) (ju _ _) (fun obj=>PySem.F.initArgs_range_2 obj _ _) PySem.F.entry_enumerate_new
    (Cy v t) (wpAny_mono h (fun it s1 h1=>⟨⟨_,Heap.get?_push_size _ rfl,rfl⟩,h1⟩) fun e s1 h1=>h1)
variable {c:aU} {W:Wd} {b:Str→Option Value} {V f:Internal.V} {v g it:Value} {vals:List Value} {o:Obj} {kw:List (Str×Internal.V)} {x y:Tr Internal.V} {α:Type} {n e:Nat} {p:Pl}
theorem Kp.add (f:bj c W) (h:W.hp a=some o) (n:¬bH c W a) (m:a∉bF c.fl) (hp:p≠.frame):Kp c W (· =p) (W.re1 a p):=
  have off:∀x z,z≠p→((W.re1 a p).own x=some z↔W.own x=some z):=fun x z k=>(Classical.em (x=a)).elim
    (fun e=>⟨fun g=>absurd (sm (fX.symm.trans (e▸g))) k,fun g=>absurd (.own z (e▸g)) n⟩) fun e=>by rw[hF e]
  Kp.lab f (fun x z g=>(Classical.em (x=a)).elim (fun e=>.inr (e▸⟨o,h,bP fun y q=>n (.fz y q),fun q=>n (.tb q),bP fun y q=>n (.ot y q),fun q=>absurd q m⟩)) fun e=>.inl ((hF e).symm.trans g))
    (fun ζ ζ=>.inl) off (fun ζ ζ ζ=>.rfl) (Ne.symm hp)
theorem zh (x:aZ c s b (.more (.itr d l e V) it T) W) (hh:S'.heap=W.G.S.heap.push (AV it)) (hg:S'.gens=W.G.S.gens) (ho:S'.os=W.G.S.os):a_ c b (.more (.itr (d+1) (nZ 1 l) e V) (.ref W.G.S.heap.objs.size) T) s S':=by
  have fr:=bK W.G.S.heap
  have y:=x.mem (fun a o e=>hh▸Heap.get?_push_of_some _ e) hg ho
  have nf:=x.fits.free fr
  induction y.tm.1.itrI rfl with|mk p0 I h1 h2 h3=>
  refine⟨_,(((Kp.add y.fits (by show S'.heap.get? _=_;rw[hh];exact Heap.get?_push_size _ rfl) (fun h=>nf h.mem) (x.fits.fmfree fr) Pl.noConfusion).weak (Pt.eq _)).simT y.pop).push (.itr _ _ _ _ _ ⟨p0,p_ I _ it,h1,Cz h2,1,.none,.bool _,.none,congrArg _ (tN l 1).symm,cx.mpr ⟨fX,by show S'.heap.get? _=_;rw[hh];exact Heap.get?_push_size _ rfl⟩,.inl rfl,?_⟩)⟩
  rw[wI (q:=.frame) (W:=W.mem S') Pl.noConfusion fun h=>nf (.own _ h),tN]
  exact h3
theorem Jk (h:OV V=true):V=.int 1:=by
  unfold OV at h
  revert h
  induction q:j9 V with
  |none=>exact fun h=>bG h
  |some i=>exact fun h=>lL q▸of_decide_eq_true h▸rfl
theorem mK {n} (h:rB V=some n):V=.bi n:=by rcases V with⟨⟩<;>first|exact aX h|exact sm h▸rfl
theorem xN {n} (h:J9 V=some n):V=.ty n:=by rcases V with⟨⟩<;>first|exact aX h|exact sm h▸rfl
theorem Im {n}:J (pm c) (bO c b T (.ty n) fv args vals [] kvals s) s (tyV n args) (fB c A fv vals [] kvals) (PV c b T):=by
  have hf:∀{fz pi},cP c.C fz pi (.ty n) fv→fv=.type n:=fun r=>r.inv
  refine .ite (fun e=>?_) fun ζ=>?_
  ·subst e
   match args with
   |[]=>exact .stk
   |[a]=>exact .call1 hf fun v=>.opt fun i hi=>.need fun h=>.wret fun W Q E x k=>(x.rd.int hi).casesOn fun t=>call_range_1 (k _ _ (u6 x.pop h rfl rfl rfl))
   |[a,b']=>exact .call2 hf fun v w=>.opt fun i hi=>.opt fun j hj=>.need fun h=>.wret fun W Q E x k=>(x.pop.rd.int hi).casesOn fun t=>(x.rd.int hj).casesOn fun u=>call_range_2 (k _ _ (u6 x.pop.pop h rfl rfl rfl))
   |[a,b',d]=>exact .call3 hf fun v w u=>.opt fun i hi=>.opt fun j hj=>.opt fun d hd=>.need fun h=>.wret fun W Q E x k=>(x.pop.pop.rd.int hi).casesOn fun t=>(x.pop.rd.int hj).casesOn fun u=>(x.rd.int hd).casesOn fun w=>call_range_3 (Int.ne_of_gt (lm h).pos) (k _ _ (u6 x.pop.pop.pop h rfl rfl rfl)) (.inl (PyProof.noPylong_small (lm h).few))
   |_::_::_::_::_=>exact .stk
  ·match args with
   |[]=>exact .stk
   |[a]=>exact .stk
   |[a,b']=>
    refine .ite (fun e=>?_) fun ζ=>.stk
    subst e
    refine .grd fun h1=>.opt fun q hq=>?_
    have e:=Jk h1
    subst e
    exact .call2 hf fun v w=>.wret fun W Q E x k=>(x.rd.int rfl).casesOn fun t=>zp (qJ x.pop hq fun it S h=>h.casesOn fun W y=>k _ _ (by
      show a_ c b (.more (.itr _ _ _ _) _ T) s _
      rw[CA]
      exact zh y rfl rfl rfl))
   |_::_::_::_=>exact .stk
theorem v4 (hh:A.handled=none):J (pm c) (bO c b T f fv args vals [] kvals s) s (builtin f args) (fB c A fv vals [] kvals) (PV c b T):=by
  unfold builtin
  induction e:rB f with
  |some id=>
   have e:=mK e
   subst e
   exact Dh hh
  |none=>
   refine .opt fun n e=>?_
   have e:=xN e
   subst e
   exact Im
end
section
variable {c:aU} {W:Wd} {b:Str→Option Value} {V f:Internal.V} {v:Value} {vals:List Value} {o:Obj} {es:List Expr} {α:Type} {n:Nat} {r:dN} {C:Cf}
theorem iG.bi {id}:iG C (.builtin id) S:=fun A E Q h=>wpAny_pure (h _)
theorem iG.ty {id}:iG C (.type id) S:=fun A E Q h=>wpAny_pure (h _)
theorem iG.fn {fd} (e:S.heap.get? a=some o) (d:o.data=.func fd):iG C (.ref a) S:=fun A E Q h=>wpAny_bind (wpAny_load e (d▸(wpAny_pure (h _))))
section
variable {M:Model} {xs:List (Bool×Sem Value)} {kw:List (Option Str×Sem Value)} (ha:xs.any (·.1)=false) (hk:kw.all (·.1.isSome)=true)
include ha hk
theorem ee {Q} (h:wpAny M A (spliced xs) (fun vs s₁=>wpAny M A (evalAll (kw.map (·.2))) (fun ks s₂=>Q ⟨vs,(kw.filterMap (·.1)).zip ks⟩ s₂) E s₁) E S):wpAny M A (evalArgs v true xs kw) Q E S:=by
  induction xs with
  |nil=>
   refine wpAny_bind (wpAny_mono h (fun vs s₁ h₁=>wpAny_bind (wpAny_pure (wpAny_holding ?_))) fun ζ ζ x=>x)
   simp only[hk]
   exact wpAny_bind (wpAny_mono h₁ (fun ks s₂ h₂=>wpAny_bind (wpAny_pure (wpAny_pure h₂))) fun ζ ζ x=>x)
  |cons x rest=>
   obtain⟨y,x⟩:=x
   induction y with
   |false=>exact evalArgs_kw hk h
   |true=>trivial
theorem eg {Q} (h:wpAny C.M A (evalArgs fv true xs kw) (fun x s₁=>iG C fv s₁∧wpAny C.M A (PySem.call fv (first++x.pos) x.kw) Q E s₁) E S):wpAny C.M A (callWith pos fv first xs kw) Q E S:=by
  have hk':kw.any (·.1.isNone)=false:=eG.mpr fun x hx=>by
    have:=aB.mp hk x hx
    revert this
    induction x.1 with
    |none=>exact fun h=>bG h
    |some _=>exact fun ζ h=>bG h
  refine wpAny_bind (wpAny_holding (wpAny_mono h (fun a s₁ h₁=>wpAny_bind (wpAny_standAt ?_)) fun ζ ζ x=>x))
  have tail:∀{t},wpAny C.M A t Q E s₁→wpAny _ A (t>>=fun r=>holding [r] _>>=fun ζ=>pure r) Q E _:=
    fun ht=>wpAny_bind (wpAny_mono ht (fun r s₂ hr=>wpAny_bind (wpAny_holding (wpAny_point (wpAny_pure hr)))) fun ζ ζ x=>x)
  rw[ha,hk']
  have h2:=tail h₁.2
  refine wpAny_bind (h₁.1 _ _ _ fun k=>?_)
  induction k with
  |frame=>exact wpAny_ite_split (fun ζ=>h2) fun ζ=>(tail (wpAny_keep h₁.2))
  |boundFrame=>exact wpAny_ite_split (fun ζ=>h2) fun ζ=>(tail (wpAny_keep h₁.2))
  |machine=>exact h2
  |caller=>exact tail (wpAny_operating h₁.2)
end
end
section
variable {c:aU} {W:Wd} {b:Str→Option Value} {V f:Internal.V} {v:Value} {fs:List Internal.V} {vals:List Value} {o:Obj} {es:List Expr} {α:Type} {n:Nat} {r:dN} {C:Cf}
theorem J.fact {md} {I} {x:Tr α} {m:jC Sh β} {R} {p} (h:p→J md I s x m R):J md (fun S=>p∧I S) s x m R:=fun S Q E i a=>h i.1 S Q E i.2 a
theorem a_.sink (h:a_ c b (.more V v (.more U u T)) s S):a_ c b (.more V v T) s S:=h.casesOn fun W x=>
  have ne:=fun e=>fq _ (by injection e)
  have k:=Kp.move x.fits ne Pl.noConfusion Pl.noConfusion
  ⟨W.move _ _,((k.weak fun z e=>e.elim (fun e=>e▸.mk _ (cj _)) fun e=>e▸.mk _ (aC _)).simT x.pop.pop).push (fZ ne▸x.tm.1)⟩
noncomputable def G_ (c:aU) (A:Around) (pos:Pos) (ks:List Keyword):d7 (List Value):=fun Q E=>wpAny c.C.M A (evalAll ((backToKw pos (keywordEach ks c.env)).map (·.2))) Q E
noncomputable def AY (c:aU) pos ks:=(backToKw pos (keywordEach ks c.env)).filterMap (·.1)
theorem Ja (hev:cr PP n r.ev) (ge:GE PP n c A):J (pm c) (a_ c b T s) s (zS r ks) (G_ c A pos ks) fun kvs kvals s S=>AY c pos ks=kvs.map (·.1)∧gW c b T (kvs.map (·.2)) kvals s S:=by
  cases ks with
  |nil=>exact .by (.pure fun S i=>⟨rfl,i.casesOn fun W x=>⟨W,x,.nil⟩⟩) fun Q E S h=>wpAny_evalAll_nil h
  |cons k ks=>
   refine .grd fun h=>.opt fun m hm=>?_
   have h:=aE.mp h
   subst h
   obtain⟨a,e,p⟩:=k
   subst hm
   exact .by (.bind (hev e c b T A s ge) fun V v s1=>.grd fun hp=>.pure fun S i=>⟨rfl,i.casesOn fun W x=>(x.freeze hp).casesOn fun W x=>⟨W,x.pop,.cons _ _ _ _ (x.tm.1.to_rep hp) .nil⟩⟩)
     fun Q E S h=>wpAny_evalAll_cons (wpAny_bind (wpAny_mono h (fun v S h=>wpAny_bind (wpAny_standAt (wpAny_pure (wpAny_evalAll_nil h)))) fun ζ ζ q=>q))
noncomputable def jM (c:aU) (A:Around) (pos:Pos) (fv:Value) (first:List Value) (es:List Expr) (ks:List Keyword):d7 Value:=fun Q E=>wpAny c.C.M A (callWith pos fv first (backTo pos (starEach es c.env)) (backToKw pos (keywordEach ks c.env))) Q E
theorem cW {env} (h:es.all hZ=true):(backTo pos (starEach es env)).any (·.1)=false:=by
  induction es with
  |nil=>rfl
  |cons e es ih=>
   rw[dI (aa.mp h).1,iM,ih (aa.mp h).2];rfl
theorem vt {env} (h:ks.all named=true):(backToKw pos (keywordEach ks env)).all (·.1.isSome)=true:=by
  induction ks with
  |nil=>rfl
  |cons k ks ih=>
   obtain⟨n,e,p⟩:=k
   induction n with
   |none=>trivial
   |some n=>exact ih (aa.mp h).2
structure Ni (es:List Expr) (ks:List Keyword):Prop where
  star:es.all hZ=true
  named:ks.all named=true
  few:es.length+ks.length<20
theorem ur (h:cu es ks=true):Ni es ks:=
  have h:=aa.mp h
  have h2:=aa.mp h.2
  ⟨h2.1,h2.2,ag h.1⟩
theorem xP (hev:cr PP n r.ev) (hcall:fU PP n r.call) (ge:GE PP n c A) (hall:cu es ks=true) (h1:∀{Vs vals kvs kvals s W},Vs.length=vals.length→aZ c s b (bI Vs vals T1) W→aS c.C W.G.fz W.pi (kvs.map (·.2)) kvals→bO c b T2 f fv (fs++Vs) (first++vals) kvs kvals s W.G.S)
    (h2:∀{V v s S},a_ c b (.more V v T2) s S→a_ c b (.more V v T) s S):J (pm c) (a_ c b T1 s) s ((q9 r frz es).bind fun vs=>(zS r ks).bind fun kv=>r.call f (fs++vs) kv) (jM c A pos fv first es ks) (PV c b T):=
  have k:=ur hall
  .by (m:=(oW c A _ es).bind fun vals=>(G_ c A _ ks).bind fun kvals Q E S=>iG _ fv S∧wpAny _ A (PySem.call fv (first++vals) ((AY c _ ks).zip _)) Q E S)
    (.bind (qZ hev ge a_.freeze es) fun Vs vals s1=>.fact fun e=>.bind (Ja hev ge) fun kvs kvals s2=>.fact fun e2=>by
      refine e2▸?_
      exact((hcall f _ _ c b T2 A s2 fv _ _ ge).pre fun S i=>i.casesOn fun W x r=>h1 e x r).post fun V v s S i=>h2 i)
    fun Q E S h=>eg (cW k.star) (vt k.named) (ee (cW k.star) (vt k.named) h)
theorem tZ (hev:cr PP n r.ev) (hcall:fU PP n r.call) (ge:GE PP n c A) (hall:cu es ks=true):J (pm c) (a_ c b (.more f fv T) s) s (mI r es ks f) (jM c A pos fv [] es ks) (PV c b T):=
  .grd fun hp=>xP (fs:=[]) hev hcall ge hall (fun e x r=>⟨_,x,x.popL.tm.1.to_rep hp,r,e⟩) fun i=>i.sink
theorem t0 {i g} {ad} (hev:cr PP n r.ev) (hcall:fU PP n r.call) (ge:GE PP n c A) (hall:cu es ks=true):J (pm c) (a_ c b (.more (.inst i) (.ref ad) T) s) s ((q9 r frz es).bind fun vs=>(zS r ks).bind fun kv=>r.call (.glob g) ([.inst i]++vs) kv) (jM c A pos (.ref g) [.ref ad] es ks) (PV c b T):=
  xP hev hcall ge hall (fun e x r=>⟨_,x,.glob _,r,congrArg _ e⟩) id
end
section
variable {c:aU} {W:Wd} {b:Str→Option Value} {V:Internal.V} {v:Value} {e:Expr} {p:Pl} {l:List (Str×Internal.V)} {n:Str} {C:Cf}
theorem zl {h} {a} {o o'} {od od'} (x:InstAt h a o cl od) (y:InstAt h a o' cl od'):o'=o∧od'=od:=by
  have e:=sm (x.at_.symm.trans y.at_)
  subst e
  refine⟨rfl,?_⟩
  have d1:=x.dict
  have d2:=y.dict
  revert d1 d2
  cases o'.dict<;>cases od<;>cases od'<;>first|exact fun ζ ζ=>rfl|exact fun h=>h.elim|exact fun ζ h=>h.elim|exact fun h g=>congrArg _ (sm (h.symm.trans g))
theorem E0 {α} {x} {v:α} {l}:l.length≤(put x v l).length:=by
  rw[fE]
  split
  ·exact aC _
  ·exact cj _
theorem Kp.poke (x:aZ c s b T W) (h:gD c s b W e V v p) (k:Kp c W (· =p) W') (o:gI c.C W'.G.fz W'.pi (W'.at p) V' v):Internal.poke e V' s=some s'→aZ c s' b T W':=
  h.casesOn
    (fun y q V v hb hl hv ow k o hs=>sm hs▸(k.weak fun z e=>.inl e).put x (fun ζ=>⟨v,hv,o⟩) (x.kn y V hl))
    (fun y q n q2 i cl l V v hb hl hr h1 ow fl k o hs=>by
      have e1:gr (.Name y q) s=some (i,cl,l):=by
        show(uG y s).bind _=_
        unfold uG
        rw[hb,hl]
        show(lS (s.reg i)).bind _=_
        rw[hr];rfl
      have hs:((gr (.Name y q) s).bind fun x=>some (s.setReg x.1 (.live x.2.1 (Internal.put n V' x.2.2))))=some s':=hs
      rw[e1] at hs
      have hs:=sm hs
      subst hs
      have R:=x.rg i
      rw[hr] at R
      obtain⟨e1,e2,e3,e4,e5⟩:=iW s i (.live cl (Internal.put n V' l))
      have reg:fk c.C W' i (.live cl (Internal.put n V' l)):=by
        refine⟨R.good,fun n' U e=>?_,?_⟩
        ·rw[i9] at e
         by_cases z:n'=n
         ·exact z▸R.flds n V h1
         ·exact R.flds n' U ((if_neg z).symm.trans e)
        ·induction R.is with|mk a ob od f g1 g2 g3 g4 g5 g6 g7=>
         induction fl with|mk a' ob' od' z1 z2 z3=>
         have ea:=sm (z1.symm.trans g1)
         subst ea
         obtain⟨eo,ed⟩:=zl g3 z2
         subst eo ed
         have K:∀a,W.own a=some (.inst i)→W'.own a=some (.inst i)∧W'.hp a=W.hp a:=fun a=>x.fits.move (k.at_ _ Pl.noConfusion Pl.noConfusion)
         refine⟨a,ob',od',fun n'=>if n'=n then v else f n',(k.pir i Pl.noConfusion).trans g1,(K _ g2).1,tq g3 (K _ g2).2 fun dx e=>(K dx (g4 dx e).1).2,fun dx e=>⟨(K dx (g4 dx e).1).1,(g4 dx e).2⟩,fun n' U e=>?_,fun d e=>⟨(g6 d e).1.imp fun es z=>z.imp fun n z=>⟨z.1,ac z.2 E0⟩,fun n' e1 e2=>(g6 d e).2 n' ?_ e2⟩,g7⟩
         ·rw[i9] at e
          by_cases z:n'=n
          ·rw[if_pos z] at e⊢
           subst z
           exact⟨z3,sm e▸o⟩
          ·rw[if_neg z] at e⊢
           exact⟨(g5 n' U e).1,k.own (fun w=>z (by injection w)) Pl.noConfusion (g5 n' U e).2⟩
         ·rw[i9] at e1
          by_cases z:n'=n
          ·rw[if_pos z] at e1;exact aX e1.symm
          ·exact(if_neg z).symm.trans e1
      exact{
        fits:=k.fits
        env:=x.env
        sc:=e2.trans x.sc
        dp:=e3.trans x.dp
        hd:=e4.trans x.hd
        ou:=e5.trans x.ou
        fr:=k.frm x.fits x.fr
        nm:=fun z U h1 h2=>k.hasV Pl.noConfusion Pl.noConfusion (x.nm z U (e1▸h1) h2)
        kn:=fun z U h=>x.kn z U (e1▸h)
        rg:=fun k'=>by
         rw[jO s _ (u8 hr)]
         by_cases z:k'=i
         ·rw[if_pos z,z];exact reg
         ·rw[if_neg z];exact k.slot x.fits Pl.noConfusion (fun ζ w=>z (by injection w)) (x.rg k')
        tm:=k.tmps (fun j ζ w=>Pl.noConfusion w) x.tm}) k o
end
section
open PyProof.V
section
variable {w:World} {s:Shared} {l:Addr} {its:Array Value}
theorem PlainL.upd {h} {its'} (hl:PlainL h l its) f (hf:f its=its'):PlainL (h.update l (Obj.mapSeq f)) l its':=by
  obtain⟨o,n,ho,hc,hdn,hd⟩:=hl
  obtain⟨n',hd'⟩:=Obj.data_mapSeq hd f
  subst hf
  refine⟨_,n',Heap.get?_update_self _ ho (Obj.isFreed_of_seq hd'),(Obj.cls_mapSeq ..).trans hc,?_,hd'⟩
  obtain⟨c,d,dt,sl⟩:=o
  subst hd
  exact hdn
theorem nG (hl:PlainL s.heap l its) {Q} (hsz:its.size≤1000001)
    (hQ:∀h',PlainL h' l #[]→Heap.SameBut l s.heap h'→Q .none {s with heap:=h'}):wpAny (model prog w) A (call (.builtin "list.clear") [.ref l]) Q E s:=by
  obtain⟨o,n,ho,hc,hdn,hd⟩:=id hl
  refine wpAny_call_entry F.slot_list_clear hl.isList.typeIs F.entry_list_clear ?_ (F.args_list_clear_1 _)
  have fin:=hQ _ (PlainL.upd hl (fun ζ=>#[]) rfl) (Heap.SameBut.update ..)
  obtain⟨c,d,dt,sl⟩:=o
  dsimp only at hc hdn hd
  subst hc hdn hd
  wp_walk using (wpAny_updateSeq ho rfl (hz:=by rfl)),wpAny_loadPart' ho
  exact⟨_,rfl,fin⟩
theorem me (hl:PlainL s.heap l its) {Q:Value→Shared→Prop} {y:Value} {u:Tok} (hsz:its.size≤1000001)
    (hQ:∀h',PlainL h' l (#[y]++its)→Heap.SameBut l s.heap h'→Q .none {s with heap:=h'}):wpAny (model prog w) A (call (.builtin "list.insert") [.ref l,.int 0 u,y]) Q E s:=by
  obtain⟨o,n,ho,hc,hdn,hd⟩:=id hl
  refine wpAny_call_entry F.slot_list_insert hl.isList.typeIs F.entry_list_insert ?_ (F.args_list_insert_3 _ _ _)
  let f:Array Value→Array Value:=fun xs=>have k:=if(0:Int)<0 then((0:Int)+(xs.size:Int)).toNat else min (0:Int).toNat xs.size;(xs.extract 0 k).push y++xs.extract k
  have hf:f its=#[y]++its:=by simp[f]
  have fin:=hQ _ (PlainL.upd hl f hf) (Heap.SameBut.update ..)
  obtain⟨c,d,dt,sl⟩:=o
  dsimp only at hc hdn hd
  subst hc hdn hd
  obtain⟨hp,g,d,tk,os⟩:=s
  dsimp only at fin ho
  have f1:=AutoSeq1.idx_int
  have hc0:¬(!Builtin.List.listFitsIndex 0)=true:=by decide
  wp_walk using (wpAny_updateSeq ho rfl (hz:=by unfold sizeLine;omega) (_hz':=(show (f its).size≤sizeLine+1 from by rw[hf];unfold sizeLine;simp;lia))),wpAny_loadPart' ho
  exact⟨_,rfl,fin⟩
theorem kH (hl:PlainL s.heap l its) {Q:Value→Shared→Prop} {i:Int} {k:Nat} {x:Value} {u:Tok} (hsz:its.size≤1000001) (hi:Builtin.List.listFitsIndex i=true) (hk:seqIndex? i its.size=some k) (hx:its[k]?=some x)
    (hQ:∀h',PlainL h' l (its.eraseIdxIfInBounds k)→Heap.SameBut l s.heap h'→Q x {s with heap:=h'}):wpAny (model prog w) A (call (.builtin "list.pop") [.ref l,.int i u]) Q E s:=by
  obtain⟨o,n,ho,hc,hdn,hd⟩:=id hl
  refine wpAny_call_entry F.slot_list_pop hl.isList.typeIs F.entry_list_pop ?_ (F.args_list_pop_2 _ _)
  have hz':((fun xs:Array Value=>xs.eraseIdxIfInBounds k) its).size≤sizeLine+1:=by
    dsimp only
    have:(its.eraseIdxIfInBounds k).size≤its.size:=by unfold Array.eraseIdxIfInBounds;split<;>simp<;>omega
    unfold sizeLine;omega
  have fin:=hQ _ (PlainL.upd hl (fun xs=>xs.eraseIdxIfInBounds k) rfl) (Heap.SameBut.update ..)
  obtain⟨c,d,dt,sl⟩:=o
  dsimp only at hc hdn hd
  subst hc hdn hd
  obtain⟨hp,g,d,tk,os⟩:=s
  dsimp only at fin ho
  have f1:=AutoSeq1.idx_int
  have hc0:(!Builtin.List.listFitsIndex i)=false:=by rw[hi];rfl
  have hc1:its.isEmpty=false:=by
    induction q:its.isEmpty with
    |false=>rfl
    |true=>
     rw[Array.isEmpty_iff] at q
     subst q
     simp at hx
  wp_walk using (wpAny_updateSeq ho rfl (hz:=by unfold sizeLine;rfl) (_hz':=hz')),wpAny_loadPart' ho
  rw[(show (seqIndex? i its.size).bind (fun k=>its[k]?.map (k,·))=some (k,x) from by rw[hk];simp[hx])]
  dsimp only
  wp_walk using (wpAny_updateSeq ho rfl (hz:=by unfold sizeLine;omega) (_hz':=hz')),wpAny_loadPart' ho
  exact⟨_,rfl,fin⟩
end
end
section
section
variable {w:World} {s:Shared}
theorem tX {t u} {y} {Q} (hy:y.length≤1000000)
    (h:∀t' k,Q (.str (⟨#[69,120,112,101,99,116,101,100,32]⟩++y) t') {s with toks:=k}):
    wpAny (model prog w) A (call (.builtin "str.format") [.str ⟨#[69,120,112,101,99,116,101,100,32,123,125]⟩ t,.str y u]) Q E s:=by
  refine KFm.call_k rfl (KFm.args_2 _ _) ?_ h
  kfm_run
theorem mh {t} {x} {Q} (hx:x.cps.contains 9=false) (h:Q (.str x t) s):
    wpAny (model prog w) A (call (.builtin "str.expandtabs") [.str x t]) Q E s:=by
  refine wpAny_call_entry F.slot_str_expandtabs (typeIs_str _ _ _) F.entry_str_expandtabs ?_ (F.args_str_expandtabs_1 _)
  wp_walk
  rw[if_pos (by rw[hx];rfl)]
  wp_walk
  exact⟨_,rfl,h⟩
end
end
section
variable {c:aU} {W:Wd} {b:Str→Option Value} {V:Internal.V} {v:Value} {vals:List Value} {e:Expr} {p:Pl} {name:Str} {α:Type} {k n:Nat} {C:Cf}
theorem J.poke {md} {I} {x:Tr α} {m:jC Sh β} {R} (h:∀s',poke e V s=some s'→J md I s' x m R):J md I s (iC e V x) m R:=fun S Q E i=>by
  unfold iC
  dsimp only
  induction q:Internal.poke e V s with
  |none=>exact fun a=>a.elim
  |some s'=>exact h s' q S Q E i
theorem J.need' {I} {x:Tr α} {m:d7 β} {R} {o} (h:o=true→J (pm c) I (wK s (av s.ob o)) x m R):J (pm c) I s (nT o x) m R:=fun S Q E i a=>h (kW.mp (a.ob (x.mo _))).2 S Q E i a
inductive G3 (c:aU) (s:St) (b:Str→Option Value) (T:Tp) (e:Expr) (l:List Internal.V) (a:Addr) (args:List Internal.V) (vals:List Value):Shared→Prop
  |mk (W:Wd) (p:Pl):aZ c s b T W→gD c s b W e (.own l) (.ref a) p→aS c.C W.G.fz W.pi args vals→G3 c s b T e l a args vals W.G.S
theorem gD.nofr (h:gD c s b W e V v p):p≠.frame:=h.casesOn (fun ζ ζ ζ ζ ζ ζ ζ ζ=>Pl.noConfusion) fun ζ ζ ζ ζ ζ ζ ζ ζ ζ ζ ζ ζ ζ ζ ζ=>Pl.noConfusion
theorem AI (x:aZ c s b T W) (h:gD c s b W e (.own l) (.ref a) p) (hs:poke e (.own l') s=some s') (hsame:Heap.SameBut a W.G.S.heap h') (hl:PlainL h' a (List.toArray vs)) (r:aS c.C W.G.fz W.pi l' vs) (rv:cP c.C W.G.fz W.pi V v):a_ c b (.more V v T) s' {W.G.S with heap:=h'}:=by
  have ow:=(h.own.ownL rfl).casesOn (motive:=fun v ζ=>v=.ref a→W.own a=some p) (fun a' vs g ζ e=>by
    injection e with e
    exact e▸g.casesOn fun o g ζ=>(cx.mp g).1) rfl
  have k:Kp c W _ (W.mem {W.G.S with heap:=h'}):=Kp.write x.fits ow h.nofr (fun b o hb e=>(hsame.2 b hb).trans e) (hl.elim fun o q=>q.elim fun n q=>⟨o,q.1⟩) rfl rfl
  refine⟨_,(Kp.poke x h k (.own _ _ ⟨a,vs,?_,r⟩) hs).push (.rep _ _ rv)⟩
  exact hl.elim fun o q=>q.elim fun n q=>⟨o,cx.mpr ⟨ow,q.1⟩,fun h e=>⟨o,n,e,q.2⟩⟩
noncomputable def HF n:=cond (bx n (ae "append")) "list.append" (cond (bx n (ae "pop")) "list.pop" (cond (bx n (ae "insert")) "list.insert" "list.clear"))
section
variable {E:Value×List Value→Shared→Prop} {Q:Value×List Value→Shared→Prop} {s:Shared} {its:Array Value}
theorem Ma (hn:wY name=true) (hl:PlainL s.heap a its) (h:Q (.builtin (HF name),[.ref a]) s):wpAny C.M A (getMethod (.ref a) name pl) Q (fun e s=>E (e,[]) s) s:=by
  have hd:∀b,Value.ref a=.ref b→∃o,s.heap.get? b=some o∧o.dict=none:=fun b e=>by
    injection e with e
    exact hl.elim fun o q=>q.elim fun n q=>⟨o,e▸q.1,q.2.2.1⟩
  have hT:=hl.isList.typeIs
  unfold HF at h
  unfold wY at hn
  induction h1:bx _ _ with
  |true=>
   have h:=h1▸h
   exact bp.mp h1▸getMethod_builtin hT PySem.F.plainAttrs_list PySem.F.slot_list_append PySem.F.type_list_append hd h
  |false=>
  rw[h1] at h hn
  induction h2:bx _ _ with
  |true=>
   have h:=h2▸h
   exact bp.mp h2▸getMethod_builtin hT PySem.F.plainAttrs_list PySem.F.slot_list_pop PySem.F.type_list_pop hd h
  |false=>
  rw[h2] at h hn
  induction h3:bx _ _ with
  |true=>
   rw[h3] at h
   exact bp.mp h3▸getMethod_builtin hT PySem.F.plainAttrs_list PySem.F.slot_list_insert PySem.F.type_list_insert hd h
  |false=>
  rw[h3] at h hn
  exact bp.mp hn▸getMethod_builtin hT PySem.F.plainAttrs_list PySem.F.slot_list_clear PySem.F.type_list_clear hd h
end
theorem aS.one (r:aS C fz pi [V] vals):∃w,vals=[w]∧cP C fz pi V w:=by
  have e:=r.len
  revert r
  exact jW (P:=fun vals=>aS C fz pi _ vals→∃w,vals=[w]∧cP C fz pi V w) e fun v r=>⟨v,rfl,by
    have:=r.get 0 Nat.zero_lt_one
    exact this.casesOn fun w e h=>sm e▸h⟩
theorem aS.dropLast (r:aS C fz pi l vs):aS C fz pi l.dropLast vs.dropLast:=by
  rw[List.dropLast_eq_take,List.dropLast_eq_take,r.len]
  exact r.take _
theorem aS.last (r:aS C fz pi l vs) (h:l≠[]):∃v,vs[vs.length -1]?=some v∧cP C fz pi (l.getLastD .gone) v:=by
  have:=r.get _ (Nat.sub_lt (List.length_pos_iff.mpr h) Nat.zero_lt_one)
  rw[r.len] at this
  exact this.casesOn fun v e q=>⟨v,e,(show l.getD _ .gone=l.getLastD _ from by rw[NI,List.getLast?_eq_getElem?,cB,r.len])▸q⟩
theorem cP.frz (r:cP C fz pi V v):frz V=V:=by
  rcases V with⟨⟩<;>first|rfl|exact bG r.plain
end
section
variable {c:aU} {W:Wd} {b:Str→Option Value} {V:Internal.V} {v:Value} {vals:List Value} {e:Expr} {p:Pl} {name:Str} {α:Type} {k n:Nat} {C:Cf}
theorem gD.list (h:gD c s b W e (.own l) (.ref a) p):∃vs,PlainL W.G.S.heap a (List.toArray vs)∧aS c.C W.G.fz W.pi l vs:=
  (h.own.ownL rfl).casesOn (motive:=fun v ζ=>v=.ref a→∃vs,PlainL _ a (List.toArray vs)∧aS _ _ _ l vs) (fun a' vs g r e=>by
    injection e with e
    exact⟨vs,e▸g.casesOn fun o e g=>g _ (cx.mp e).2,r⟩) rfl
noncomputable def uM (c:aU) (A:Around) (id:String) (a:Addr) (vals:List Value):d7 Value:=fun Q E=>wpAny c.C.M A (PySem.call (.builtin id) (.ref a::vals)) Q E
theorem BJ (h:Mg V=true):V=.int 0:=by
  unfold Mg at h
  revert h
  induction q:j9 V with
  |none=>exact fun h=>bG h
  |some i=>exact fun h=>lL q▸of_decide_eq_true h▸rfl
theorem Fx (h:Jf V=true):V=.int (-1):=by
  unfold Jf at h
  revert h
  induction q:j9 V with
  |none=>exact fun h=>bG h
  |some i=>exact fun h=>lL q▸of_decide_eq_true h▸rfl
noncomputable def K1 c A id l args l' V:=∀S a fz pi vs vals Q E,PlainL S.heap a (List.toArray vs)→aS c.C fz pi l vs→aS c.C fz pi args vals→
  (∀vs' v h',Heap.SameBut a S.heap h'→PlainL h' a (List.toArray vs')→aS c.C fz pi l' vs'→cP c.C fz pi V v→Q v {S with heap:=h'})→uM c A id a vals Q E S
theorem sY {id} {o} {x} (g:o=true→K1 c A id l args l' V) (hx:∀v s,J (pm c) (a_ c b (.more V v T) s) s x (fun Q ζ S=>Q v S) (PV c b T)):J (pm c) (G3 c s b T e l a args vals) s (iC e (.own l') (nT o x)) (uM c A id a vals) (PV c b T):=
  .poke fun s' hs=>.need' fun ho=>fun S Q E i k=>i.casesOn fun W p y h r=>h.list.elim fun vs q=>g ho _ a _ _ vs _ Q E q.1 q.2 r fun vs' v h' z1 z2 z3 z4=>hx v _ _ Q E ((AI y h hs z1 z2 z3 z4).same (ll _)) k
theorem few (h:Nat.ble l.length 1000000=true) (r:aS C fz pi l vs):vs.length≤1000000:=r.len▸ag h
theorem MV (h:Nat.ble l.length 1000000=true):K1 c A "list.append" l [V] (l++[frz V]) .none:=fun S a fz pi vs vals Q E hl r ra k=>by
  obtain⟨w,rfl,rw_⟩:=ra.one
  exact list_append_plainL hl (fun h' q1 q2=>k _ _ h' q2 (by rw[←List.push_toArray];exact q1) (r.append (.cons _ _ _ _ (rw_.frz.symm▸rw_) .nil)) .none) (ac (few h r) (by decide))
theorem aS.un (r:aS C fz pi (V::l) (v::vs)):cP C fz pi V v∧aS C fz pi l vs:=⟨(r.get 0 (Nat.zero_lt_succ _)).casesOn fun w e h=>sm e▸h,r.drop 1⟩
theorem aS.two (r:aS C fz pi [V,V'] vals):∃v w,vals=[v,w]∧cP C fz pi V v∧cP C fz pi V' w:=
  Bf (P:=fun vals=>aS C fz pi _ vals→∃v w,vals=[v,w]∧cP C fz pi V v∧cP C fz pi V' w) r.len (fun v w r=>⟨v,w,rfl,r.un.1,r.un.2.un.1⟩) r
theorem Mj (h:Nat.ble l.length 1000000=true):K1 c A "list.insert" l [.int 0,V] (frz V::l) .none:=fun S a fz pi vs vals Q E hl r ra k=>by
  obtain⟨u,w,rfl,r0,r1⟩:=ra.two
  induction r0.inv with|mk t=>
  exact me hl (aW (few h r)) fun h' q1 q2=>k _ _ h' q2 (by simpa using q1) (.cons _ _ _ _ (r1.frz.symm▸r1) r) .none
theorem MM (h:Nat.ble l.length 1000000=true):K1 c A "list.clear" l [] [] .none:=fun S a fz pi vs vals Q E hl r ra k=>by
  have e:=dX.mp ra.len.symm
  subst e
  exact nG hl (aW (few h r)) fun h' q1 q2=>k [] _ h' q2 q1 .nil .none
theorem IW {x} (h:Nat.ble l.length 1000000=true):K1 c A "list.pop" (x::l) [.int 0] l x:=fun S a fz pi vs vals Q E hl r ra k=>by
  obtain⟨w,rfl,rw_⟩:=ra.one
  induction rw_.inv with|mk t=>
  have e:=r.len
  revert hl r k
  refine Bd (P:=fun vs=>PlainL _ a _→aS _ fz pi _ vs→_→uM c A _ a _ Q E S) e fun v vs e hl r k=>?_
  have hn:=ag h
  exact kH (k:=0) (x:=v) hl (by show vs.length+1≤_;omega) rfl (by rw[seqIndex_of (by decide) (by show(0:Int)<((vs.length+1:Nat));omega)];rfl) rfl fun h' q1 q2=>k vs _ h' q2 (by simpa [Array.eraseIdxIfInBounds] using q1) r.un.2 r.un.1
theorem IV (h:(!l.isEmpty&&Nat.ble l.length 1000000)=true):K1 c A "list.pop" l [.int (-1)] l.dropLast (l.getLastD .gone):=fun S a fz pi vs vals Q E hl r ra k=>by
  obtain⟨w,rfl,rw_⟩:=ra.one
  induction rw_.inv with|mk t=>
  have h:=aa.mp h
  have hne:l≠[]:=fun e=>bG (e▸h).1
  obtain⟨x,hx,rx⟩:=r.last hne
  have hp:=r.len▸List.length_pos_iff.mpr hne
  refine kH hl (aW (few h.2 r)) rfl ?_ (by simpa using hx) fun h' q1 q2=>k _ _ h' q2 ?_ r.dropLast rx
  ·rw[seqIndex_neg (by decide) (by show-(vs.length:Int)≤-1;lia)]
   refine congrArg _ ?_
   show(-1+(vs.length:Int)).toNat=_
   lia
  ·have e:(List.toArray vs).eraseIdxIfInBounds (vs.length -1)=List.toArray vs.dropLast:=by
     unfold Array.eraseIdxIfInBounds
     rw[dif_pos (by show vs.length -1<vs.length;omega)]
     simp[List.eraseIdx_length_sub_one]
   exact e▸q1
theorem HA:J (pm c) (G3 c s b T e l a args vals) s (eU e l name args) (uM c A (HF name) a vals) (PV c b T):=by
  have plainR:∀{V} v s,J (pm c) (a_ c b (.more V v T) s) s _ _ (PV c b T):=fun v s=>.pure fun S i=>i
  unfold eU HF
  induction bx _ _ with
  |true=>
   refine .opt fun v hv=>?_
   have e:=dD hv id
   subst e
   exact sY MV plainR
  |false=>
  induction bx _ _ with
  |true=>
   refine .opt fun v hv=>?_
   have e:=dD hv id
   subst e
   unfold Hq
   induction h0:Mg v with
   |true=>
    have e:=BJ h0
    subst e
    induction l with
    |nil=>exact .stk
    |cons x l=>exact sY IW plainR
   |false=>
    refine .grd fun h1=>?_
    have e:=Fx h1
    subst e
    exact sY IV fun v s=>wH
  |false=>
  induction bx _ _ with
  |true=>
   match args with
   |[]=>exact .stk
   |[_]=>exact .stk
   |[z,v]=>
    refine .grd fun h0=>?_
    have e:=BJ h0
    subst e
    exact sY Mj plainR
   |_::_::_::_=>exact .stk
  |false=>
   refine .grd fun h=>?_
   have e:=aE.mp (aa.mp h).2
   subst e
   exact sY MM plainR
end
section
variable {c:aU} {W:Wd} {b:Str→Option Value} {V:Internal.V} {v:Value} {vals:List Value} {o:Expr} {args:List Expr} {p:Pl} {name y:Str} {α:Type} {k n:Nat} {C:Cf} {r:dN}
theorem gD.tk (h:gD c s b W o V v p) (x:aZ c s b T W) (t:Tk W.G.S S'):gD c s b (W.mem S') o V v p:=
  have e:=fun{p} n=>(Kp.mem (P:=fun ζ=>False) x.fits (fun a o e=>by rw[t.heap];exact e) t.gens t.os).at_ p id n
  h.casesOn (fun y q V v h1 h2 h3 h4=>.name _ _ _ _ h1 h2 h3 (e (p:=.loc y) Pl.noConfusion▸h4)) fun y q n q2 i cl l V v h1 h2 h3 h4 h5 h6=>
    .attr _ _ _ _ _ _ _ _ _ h1 h2 h3 h4 (e (p:=.attr i n) Pl.noConfusion▸h5) (h6.casesOn fun a o od g1 g2 g3=>⟨a,o,od,g1,by show InstAt S'.heap a o cl od;rw[t.heap];exact g2,g3⟩)
theorem Ay {e} {P} (h:lg P e s=some V):hZ e=true:=by rcases e with⟨⟩<;>first|rfl|exact aX h
theorem Ec:∀{es} {W} {Vs} {Q},sB c.C.P es s=some Vs→aZ c s b T W→(∀vals S',Tk W.G.S S'→aS c.C W.G.fz W.pi Vs vals→Q vals S')→wpAny c.C.M A (spliced (backTo pos (starEach es c.env))) Q E W.G.S:=by
  intro es
  induction es with
  |nil=>exact fun h x hq=>Calls.spliced_nil (hq [] _ .refl (sm h▸.nil))
  |cons e es ih=>
   intro W Vs Q h x hq
   refine aG h fun V e1 h=>aG h fun Vs e2 h=>?_
   have h:=sm h
   subst h
   rw[dI (Ay e1)]
   exact Calls.spliced_cons (mO e1 x fun v S' t rv=>ih e2 (x.mem (fun a o e=>by rw[t.heap];exact e) t.gens t.os) fun vals S2 t2 r=>hq _ S2 ⟨t2.heap.trans t.heap,t2.gens.trans t.gens,t2.os.trans t.os⟩ (.cons _ _ _ _ rv r))
theorem G9 {id} (hall:cu args []=true) (h:wpAny c.C.M A (spliced (backTo pos (starEach args c.env))) (fun vals S=>uM c A id a vals Q E S) E S):jM c A pos (.builtin id) [.ref a] args [] Q E S:=
  have k:=ur hall
  eg (cW k.star) rfl (ee (cW k.star) rfl (wpAny_mono h (fun vals S h=>wpAny_evalAll_nil ⟨.bi,h⟩) fun ζ ζ q=>q))
theorem E2 {l} (x:aZ c s b T W) (h:(eP (.Name y pos) s).bind xO=some l) (e:b y=some (.ref a)):∃p,gD c s b W (.Name y pos) (.own l) (.ref a) p:=
  aG h fun V h1 h2=>by
    have h2:=ru h2
    subst h2
    exact wG (show pk _=some _ from h1) fun h1 h2=>hG h1 fun hb h1=>(x.nm y _ h1 h2).casesOn fun v g ow=>by
      have e2:=sm (e.symm.trans g)
      subst e2
      exact⟨_,.name _ _ _ _ hb h1 g ow⟩
theorem vV (hev:cr PP n r.ev) (ge:GE PP n c A) (hall:cu args []=true) (e:b y=some (.ref a)):J (pm c) (a_ c b T s) s ((uH r args).bind fun vs=>sS (.Name y apos) fun l=>eU (.Name y apos) l name vs) (jM c A pos (.builtin (HF name)) [.ref a] args []) (PV c b T):=
  .by (.bind (nX hev ge _) fun Vs vals s1=>.look (.opt fun l hl=>HA.pre fun S i=>i.casesOn fun W x r=>(E2 x hl e).elim fun p h=>⟨W,p,x,h,r⟩)) fun Q E S h=>G9 hall h
theorem sW {ks} {env} (k:Ni args ks):methodCallForm (args.length+ks.length) (backTo pos (starEach args env)) (backToKw pos (keywordEach ks env))=true:=by
  unfold methodCallForm
  rw[show(backTo _ _).all _=true from aB.mpr fun x hx=>(ao _).mpr (cD.mpr (eG.mp (cW k.star) x hx)),vt k.named]
  have:=k.few
  split<;>lia
theorem pd {ks} {env} (hs:attributeBase o name env=fun w=>w) (hall:cu args ks=true) (hl:Nat.beq apos.endLine pos.line=true) (h:∀pl,wpAny C.M A (eval o env) (fun ov s1=>wpAny C.M A (getMethod ov name pl) (fun fp s2=>wpAny C.M A (callWith pos fp.1 fp.2 (backTo pos (starEach args env)) (backToKw pos (keywordEach ks env))) Q E s2) E s1) E S):
    wpAny C.M A (eval (.Call (.Attribute o name apos) args ks pos) env) Q E S:=by
  rw[arm_eval_Call,hs]
  refine wpAny_bind (wpAny_mono (h (do return(←importBound o env).getD true)) (fun ov s1 h4=>wpAny_bind (wpAny_standAt ?_)) fun ζ ζ q=>q)
  have hpos:methodCallPos true o env apos pos=pure pos:=by
    unfold methodCallPos
    rw[show(apos.endLine==pos.line)=true from beq_iff_eq.mpr (aj hl)]
    rfl
  unfold methodCall
  exact ((sW (ur hall)))▸wpAny_bind (wpAny_holding (wpAny_mono h4 (fun fp s2 h5=>wpAny_bind (wpAny_of_eq hpos h5)) fun ζ ζ q=>q))
end
section
variable {c:aU} {W:Wd} {b:Str→Option Value} {V:Internal.V} {v:Value} {vals:List Value} {o:Expr} {args:List Expr} {p:Pl} {name y:Str} {α:Type} {n:Nat} {C:Cf} {r:dN}
noncomputable def gJ (c:aU) (A:Around) (v:Value) (name:Str) (args:List Expr) (ks:List Keyword) (pos:Pos) (pl:Sem Bool):d7 Value:=fun Q E=>wpAny c.C.M A (getMethod v name pl) (fun fp=>jM c A pos fp.1 fp.2 args ks Q E) E
theorem yI {od} (h:rF name od):shadowIn od name=some false:=by
  induction h with
  |none=>rfl
  |some d e=>
   show(lookIn _ d).map _=_
   rw[e];rfl
theorem t8 (hev:cr PP n r.ev) (hcall:fU PP n r.call) (ge:GE PP n c A) (hall:cu args ks=true):J (pm c) (a_ c b (.more (.inst i) v T) s) s (p7 PP r i name args ks) (gJ c A v name args ks pos pl) (PV c b T):=
  .look (.opt fun q hq=>.grd fun hl=>.opt fun f hf=>fun S Q E k a=>k.casesOn fun W x=>by
    have h1:=x.tm.1.to_rep rfl
    refine mD (R:=fun v=>aZ c s b (.more _ v T) W→gJ c A v _ _ ks _ pl Q E _) x hq h1 (fun ad ob od f' h1 h2 hg ζ h4 x=>?_) x
    obtain⟨m,hm,e⟩:=aw.mp hf
    have e:=ip e
    subst e
    have M:=c.H.meth _ _ _ hg (ge.pt▸hm)
    have K:=c.H.good _ hg
    refine M.2.casesOn (motive:=fun V ζ=>V=.glob f→gJ c A _ _ _ ks _ pl Q E _) (fun f' m1 m2 ζ ζ ζ e=>?_) (fun V v e1 ζ ζ ζ e=>aX (e1.symm.trans (congrArg ry e))) rfl
    injection e with e
    subst e
    exact method_fn (c.H.frag x.fits.ok) h2 K.ga K.gn m2 m1 (yI (h4 _ (aO.mp hl) M.1)) (t0 hev hcall ge hall _ Q E ⟨W,x⟩ a))
theorem C5 (hev:cr PP n r.ev) (ge:GE PP n c A) (hall:cu args ks=true) {l0} (h0:(eP o s).bind xO=some l0) {m:d7 Value} (hm:∀{Q E S},wpAny c.C.M A (eval o c.env) (fun ov S=>gJ c A ov name args ks pos pl Q E S) E S→m Q E S):
    J (pm c) (a_ c b T s) s (gT (ks.isEmpty&&wY name) "kw" (C6 PP r o name args)) m (PV c b T):=.grd fun hk=>fun S Q E i k=>hm<|i.casesOn fun W x=>by
  have e:=aE.mp (aa.mp hk).1
  subst e
  obtain⟨V,e1,e2⟩:=aw.mp h0
  have e2:=ru e2
  subst e2
  refine fW e1 x fun v p W' tk x' pk=>?_
  have lst:=fun e=>(pk.own.ownL rfl).casesOn (motive:=fun v ζ=>v=.ref e→∃vs,PlainL W'.G.S.heap e (List.toArray vs)) fun a' vs g r e=>by
    injection e with e
    exact⟨vs,e▸g.casesOn fun o e g=>g _ (cx.mp e).2⟩
  obtain⟨a,e⟩:=((pk.own.ownL rfl).casesOn (motive:=fun v ζ=>∃a,v=.ref a) fun a ζ ζ ζ=>⟨a,rfl⟩)
  refine (fun{a} e h=>(lst a e).elim fun vs hl=>e▸Ma (E:=fun e S=>E e.1 S) (aa.mp hk).2 hl h) e ?_
  subst e
  unfold C6 at k
  induction hn:jb o with
  |true=>
   rw[hn] at k
   revert k
   exact pk.casesOn (motive:=fun o V v p ζ=>jb o=true→V=.own l0→v=.ref a→bZ (pm c) (PV c b T) Q E (((uH r _).bind fun vs=>sS o fun l=>eU o l _ vs).run s)→jM c A _ _ _ _ [] Q E _) (fun y q V v ζ ζ hb ζ ζ ζ e k=>(vV hev ge hall (e▸hb) _ Q E ⟨W',x'⟩ k)) (fun ζ ζ ζ ζ ζ ζ ζ ζ ζ ζ ζ ζ ζ ζ ζ hn=>bG hn) hn rfl rfl
  |false=>
   rw[hn] at k
   have k:bZ _ _ Q E ((oT _ _ _).run s):=k
   induction hs:sB PP _ s with
   |none=>rw[hs] at k;trivial
   |some Vs=>
    rw[hs] at k
    refine G9 hall (Ec (ge.pt▸hs) x' fun vals S' t r=>?_)
    have k:bZ _ _ Q E ((oT ((eP o s).bind xO) _ _).run s):=k
    have k:=h0▸k
    exact HA _ Q E (.mk _ p (x'.mem (fun a o e=>by rw[t.heap];exact e) t.gens t.os) (pk.tk x' t) r) k
end
section
open Builtin Builtin.Str
theorem qj {x y} {i} (h:i≤x.length):StrLaws.At x y x.length i↔y.cps.toList.isPrefixOf (x.cps.toList.drop i)=true:=by
  unfold StrLaws.At
  rw[StrLaws.subAt_eq,beq_iff_eq,List.isPrefixOf_iff_prefix,List.prefix_iff_eq_take]
  refine⟨fun q=>q.2.symm,fun q=>⟨?_,q.symm⟩⟩
  have e:=congrArg List.length q
  rw[List.length_take,dY] at e
  have e2:=Nat.min_le_right y.length (x.length -i)
  rw[←(show y.length=min y.length (x.length -i) from e)] at e2
  exact DA h▸dQ e2 i
inductive M8 (y l:List Nat) (k:Nat):Option Nat→Prop
  |no:(∀j,j≤l.length→y.isPrefixOf (l.drop j)=false)→M8 y l k none
  |at_ (j:Nat):j≤l.length→y.isPrefixOf (l.drop j)=true→(∀i,i<j→y.isPrefixOf (l.drop i)=false)→M8 y l k (some (k+j))
theorem tI y:∀l k,M8 y l k (dy y l k)
  |[],k=>by
   induction y with
   |nil=>exact .at_ 0 (aC 0) rfl fun i h=>absurd h (cg i)
   |cons a y=>exact .no fun j ζ=>by rw[P0];rfl
  |c::r,k=>by
   show M8 y _ k (if y.isPrefixOf _=true then some k else dy y r _)
   by_cases h:y.isPrefixOf (c::r)=true
   ·rw[if_pos h]
    exact .at_ 0 (bt _) h fun i h=>absurd h (cg i)
   ·rw[if_neg h]
    have z:=tI y r (k+1)
    generalize dy y r _=o at z
    induction z with
    |no g=>exact .no fun j q=>match j with
     |0=>cD.mpr h
     |j+1=>g j (bg q)
    |at_ j q1 q2 q3=>
     have:=M8.at_ (l:=c::r) (k:=k) (j+1) (aQ q1) q2 fun i q=>match i with
       |0=>cD.mpr h
       |i+1=>q3 i (aV q)
     rwa [←bS,bQ] at this
theorem Ce x y k (h0:0≤k) (hk:k≤x.length):Txt.find3 x y k=(match dy y.cps.toList (x.cps.toList.drop k.toNat) k.toNat with|some i=>i|none=>-1):=by
  obtain⟨n,rfl⟩:=Int.eq_ofNat_of_zero_le h0
  unfold Txt.find3
  have e:fromIndex x.length n=n:=by
    rfl
  rw[e]
  show _=(match dy _ (x.cps.toList.drop n) n with|some i=>(i:Int)|none=>-1)
  have z:=tI y.cps.toList (x.cps.toList.drop n) n
  generalize dy _ _ n=o at z
  have hd:∀{j},(x.cps.toList.drop n).drop j=x.cps.toList.drop _:=fun{j}=>by rw[cC]
  have hl:∀{j},j≤(x.cps.toList.drop n).length→n+j≤x.length:=fun{j} h=>by
    rw[dY] at h
    exact DA (DE.mp hk)▸dQ h n
  have no:∀{i},StrLaws.At x y _ i→i≤x.length:=fun h=>ac (aA _ _) h.1
  rcases StrLaws.occ_head_from x y n 1 (aC 1) with⟨g0,g1⟩|⟨i,r,g0,g1,g2,g3⟩
  ·rw[g0]
   induction z with
   |no _=>rfl
   |at_ j q1 q2 q3=>exact absurd ((qj (hl q1)).mpr (hd▸q2)) (g1 _ (aA n j))
  ·rw[g0]
   obtain⟨i,rfl⟩:=(show ∀{i},n≤i→∃j,i=n+j from fun h=>⟨_,(DA h).symm⟩) g1
   have li:i≤(x.cps.toList.drop n).length:=by
     rw[dY]
     exact Nat.le_sub_of_add_le (cA n i▸no g2)
   have hi:=(qj (no g2)).mp g2
   induction z with
   |no g=>exact absurd (hd▸hi) (cD.mp (g i li))
   |at_ j q1 q2 q3=>
    exact ((Nat.le_antisymm (Nat.le_of_not_lt fun q=>g3 _ (aA n j) (Nat.add_lt_add_left q n) ((qj (hl q1)).mpr (hd▸q2))) (Nat.le_of_not_lt fun q=>cD.mp (q3 i q) (hd▸hi))))▸rfl
theorem qH sep:∀l,Str.join ⟨sep.toArray⟩ (l.map fun s=>⟨s.toArray⟩)=⟨(b_ sep l).toArray⟩
  |[]=>rfl
  |[x]=>rfl
  |x::y::r=>by
   show(⟨x.toArray⟩++⟨sep.toArray⟩)++Str.join _ _=_
   rw[(qH _ _),fD,fD];rfl
theorem nK sep l:Txt.join ⟨sep.toArray⟩ (l.map fun s=>⟨s.toArray⟩)=⟨(b_ sep l).toArray⟩:=by
  unfold Txt.join
  rw[StrLaws.glued_eq_join,qH]
theorem g_ c:∀p cur q,c∉p→bN c cur (p++q)=bN c (cur++p) q
  |[],cur,q,_=>by rw[ax];rfl
  |a::p,cur,q,h=>by
   show(if a=c then _ else bN c _ (p++q))=_
   rw[if_neg (show ¬a=c from fun e=>h (e▸List.Mem.head _)),g_ c p _ q fun q=>h (.tail _ q),am];rfl
theorem jE c:∀l,l≠[]→(∀p∈l,c∉p)→bN c [] (b_ [c] l)=l
  |[],h,_=>absurd rfl h
  |[p],_,h=>by
   have:=g_ c p [] [] (h p (.head _))
   rw[ax] at this
   exact this
  |p::q::r,_,h=>by
   show bN c [] (p++[c]++b_ _ _)=_
   rw[am,g_ c p [] _ (h p (.head _))]
   show(if c=c then p::bN c [] (b_ _ _) else _)=_
   rw[if_pos rfl,jE c _ (br _ _) fun y hy=>h y (.tail _ hy)]
theorem toL (l:List Str):(l.map fun s=>s.cps.toList).map (fun s=>⟨s.toArray⟩)=l:=by
  rw[o6]
  exact(List.map_congr_left fun ζ ζ=>rfl).trans (List.map_id l)
theorem gL x c:Txt.split ⟨x.toArray⟩ ⟨#[c]⟩=(bN c [] x).map fun s=>⟨s.toArray⟩:=by
  have hfree:=StrLaws.split_free ⟨x.toArray⟩ c
  have hj:=StrLaws.join_split ⟨x.toArray⟩ ⟨#[c]⟩
  have hp:=split_pos ⟨x.toArray⟩ ⟨#[c]⟩
  revert hfree hj hp
  generalize Txt.split _ _=parts
  intro hfree hj hp
  have z:=qH [c] (parts.map fun s=>s.cps.toList)
  rw[toL] at z
  have w:=jE c (parts.map _) fun h=>by
    rw[List.map_eq_nil_iff.mp h] at hp
    trivial fun p hp=>by
    obtain⟨q,hq,e⟩:=bw.mp hp
    exact e▸hfree q hq
  rw[(show b_ _ _=x from congrArg (fun s=>s.cps.toList) (z.symm.trans hj))] at w
  rw[w,toL]
end
section
open Builtin Builtin.Str
variable {C:Cf}
noncomputable def KA n:=cond (bx n (ae "join")) "str.join" (cond (bx n (ae "find")) "str.find" (cond (bx n (ae "split")) "str.split" (cond (bx n (ae "expandtabs")) "str.expandtabs" "str.format")))
theorem Hh {name:Str} (hn:se name=true) {A:Around} {E:Value→Shared→Prop} {s:Shared} {x:Str} {t:Tok} {pl:Sem Bool} {Q:Value×List Value→Shared→Prop} (h:Q (.builtin (KA name),[.str x t]) s):wpAny C.M A (getMethod (.str x t) name pl) Q E s:=by
  unfold se at hn
  unfold KA at h
  cases h1:bx name (ae "join") with
  |true=>
   rw[h1] at h
   exact bp.mp h1▸GM.join h
  |false=>
  rw[h1] at h hn
  cases h2:bx name (ae "find") with
  |true=>
   rw[h2] at h
   exact bp.mp h2▸GM.find h
  |false=>
  rw[h2] at h hn
  cases h3:bx name (ae "split") with
  |true=>
   rw[h3] at h
   exact bp.mp h3▸GM.split h
  |false=>
  rw[h3] at h hn
  induction h4:bx name (ae "expandtabs") with
  |true=>
   rw[h4] at h
   have e:=bp.mp h4
   subst e
   have h:Q (.builtin "str.expandtabs",[.str x t]) s:=h
   show wpAny C.M A (getMethod (.str x t) (Str.ofString "expandtabs") pl) Q E s
   with_reducible exact GM.of _ (typeIs_str _ _ _) PySem.F.slot_str_expandtabs PySem.F.type_str_expandtabs GM.noRef h
  |false=>
  rw[h4] at h hn
  have e:=bp.mp hn
  subst e
  have h:Q (.builtin "str.format",[.str x t]) s:=h
  show wpAny C.M A (getMethod (.str x t) (Str.ofString "format") pl) Q E s
  with_reducible exact GM.of _ (typeIs_str _ _ _) PySem.F.slot_str_format_m PySem.F.type_str_format_m GM.noRef h
section
variable {w:World} {s:Shared} {x:Str} {t:Tok}
theorem vQ {y} {u} (hy:(y.length==0)=false)
    (hq:∀l k,l.map (·.1)=Txt.split x y→Q (.ref s.heap.objs.size) {s with heap:=s.heap.push {cls:=.type "list",data:=.seq (strValues l).toArray},toks:=k})
    (hsz:x.length≤sizeLine) (hsz2:(partsBetween x (occurrences x y 0 x.length (x.length+1)) y.length).length≤sizeLine):
    wpAny (model prog w) A (call (.builtin "str.split") [.str x t,.str y u]) Q E s:=by
  rcases h1:(decide (x.length<y.length)||decide (Builtin.Str.strKind x<Builtin.Str.strKind y)) with⟨⟩
  ·rcases hf:(occurrences x y 0 x.length (x.length+1)).isEmpty with⟨⟩
   ·refine call_meets PySem.F.slot_str_split (typeIs_str _ _ _) PySem.F.entry_str_split (PySem.F.args_str_split_2 _ _) (meets_str_split_sep x y t u h1 hy hf hsz hsz2) ?_
    rw[strsFrom_eq]
    exact hq (numbered s.toks _) _ ((numbered_texts _ _).trans ((if_neg (ne_true_of_eq_false h1)).trans (if_neg (ne_true_of_eq_false hf))).symm)
   ·exact call_meets PySem.F.slot_str_split rfl PySem.F.entry_str_split (PySem.F.args_str_split_2 _ _) (meets_str_split_not_found x y t u h1 hy hf)
      (hq [(x,t)] s.toks ((if_neg (ne_true_of_eq_false h1)).trans (if_pos hf)).symm)
  ·exact call_meets PySem.F.slot_str_split rfl PySem.F.entry_str_split (PySem.F.args_str_split_2 _ _) (meets_str_split_cannot_occur x y t u h1)
     (hq [(x,t)] s.toks (if_pos h1).symm)
theorem uY {y:List _}:∀{vs},vs.length=y.length→(∀j v,vs[j]?=some v→SignAt ⟨y.toArray⟩ j v)→∃l,strValues l=vs∧l.map (·.1)=y.map fun c=>⟨#[c]⟩:=by
  induction y with
  |nil=>exact fun h ζ=>⟨[],(dX.mp h).symm,rfl⟩
  |cons a y ih=>
   intro vs h k
   refine Bd (P:=fun vs=>(∀j v,vs[j]?=some v→SignAt _ j v)→∃l,strValues l=vs∧l.map _=(a::y).map _) h.symm (fun v vs g k=>?_) k
   obtain⟨c,u,e1,e2⟩:=k 0 v rfl
   have e1:=sm e1
   subst e1
   obtain⟨l,h1,h2⟩:=ih g.symm fun j w hw=>(k (j+1) w hw).imp fun c' q=>q.imp fun u' f=>⟨by simpa using f.1,f.2⟩
   exact⟨(⟨#[c]⟩,u)::l,by rw[←h1,e2];rfl,congrArg _ h2⟩
theorem rp (hh:A.handled=none) {y:List Nat} {u:Tok} (hy:y.length≤1000000) (hok:JoinOk x (y.map fun c=>⟨#[c]⟩)=true)
    (hq:∀(s':Shared) (t':Tok) (k:Nat),(∀b o,s.heap.get? b=some o→s'.heap.get? b=some o)→s'.gens=s.gens→s'.os=s.os→Q (.str (Txt.join x (y.map fun c=>⟨#[c]⟩)) t') {s' with toks:=k}):
    wpAny (model prog w) A (call (.builtin "str.join") [.str x t,.str ⟨y.toArray⟩ u]) Q E s:=by
  refine wpAny_call (codeAny_call_builtin PySem.F.slot_str_join.plain PySem.F.entry_str_join (PySem.F.slot_str_join.check _ _ _ _ _ _ _ _ (typeIs_str _ _ _) (PySem.F.args_str_join_2 _ _) ?_))
  rw[(show Builtin.«str.join» ⟨[.str x t,.str ⟨y.toArray⟩ u],[]⟩=(do
   let ty←typeOf (.str ⟨y.toArray⟩ u)
   if(ty==.type "list"||ty==.type "tuple")=true then(do
    match←seqItems? (.str ⟨y.toArray⟩ u) with
    |some xs=>joinTail x xs.toList
    |none=>unsupported "internal:str.join")
   else(do
     let it←(pyIter (.str ⟨y.toArray⟩ u)).tryCatch fun e=>do
       if←isInstance e (.type "TypeError") then rule "str.join.not-iterable";raiseError "TypeError" "can only join an iterable" else throw e
     let items←collect it
     joinTail x items)) from rfl)]
  refine wpAny_bind (wpAny_typeOf (T:="str") (v:=.str ⟨y.toArray⟩ u) rfl ?_)
  have tail:∀(s':Shared) (bW:Array Value),(∀b o,s.heap.get? b=some o→s'.heap.get? b=some o)→s'.gens=s.gens→s'.os=s.os→ItemsOf (SignAt ⟨y.toArray⟩) bW y.length→wpAny (model prog w) A.in1 (joinTail x bW.toList) (fun fin s'=>match fin with|.done f=>wants Q E (.ok f) s'|.again c'=>c'.quiet=true∧codeAny (model prog w) A c' (wants Q E) s') (fun e s'=>wants Q E (.error e) s') s':=fun s' bW h1 h2 h3 h4=>by
    obtain⟨l,e1,e2⟩:=uY (y:=y) (vs:=bW.toList) (by simpa using h4.1) fun j v hv=>h4.2 j v (by simpa using hv)
    have hok':=hok
    unfold JoinOk at hok'
    rw[ao,←e2] at hok'
    refine e1▸?_
    have g:Gives (joinTail x (strValues l)) (joinMade x l):=by
      have g0:=gives_joinTail x l hok'
      cases l with
      |nil=>exact g0
      |cons p r=>induction r with
       |nil=>exact g0
       |cons q r'=>exact g0
    exact wpAny_mono (g prog w A (wants Q E) s' (post_join (s:=s') (Q:=Q) l ⟨joinFit_length hok',fun t' k=>by rw[e2];exact hq s' t' k h1 h2 h3⟩)) (fun ζ ζ q=>q) fun ζ ζ q=>q
  show wpAny _ A.in1 ((pyIter (.str ⟨y.toArray⟩ u)).tryCatch _>>=fun it=>collect it>>=fun items=>joinTail x items) _ _ s
  have step:∀ty,(ty="str_ascii_iterator"∨ty="str_iterator")→wpAny (model prog w) A.in1 (collect (.ref s.heap.objs.size)>>=fun items=>joinTail x items) (fun fin s'=>match fin with|.done f=>wants Q E (.ok f) s'|.again c'=>c'.quiet=true∧codeAny (model prog w) A c' (wants Q E) s') (fun e s'=>wants Q E (.error e) s') {s with heap:=s.heap.push {cls:=.type ty,data:=.fields #[.str ⟨y.toArray⟩ u,.int 0 0]}}:=fun ty hty=>by
    refine wpAny_bind (wpAny_collect_strIter (A:=A.in1) (x:=⟨y.toArray⟩) (t:=u) hh hty ⟨_,Heap.get?_push_size _ rfl,rfl,rfl⟩ (fun s' bW h1 h2 ζ h3 h4=>?_) (by show y.toArray.size≤_;simp;unfold sizeLine;omega))
    refine tail s' bW (fun b o e=>h1 b o (fun q=>by rw[q,(bK s.heap)] at e;contradiction) (Heap.get?_push_of_some _ e)) h2 h3 ?_
    have:(⟨y.toArray⟩:Str).cps.size=y.length:=by rfl
    refine this▸?_;exact h4
  refine wpAny_bind (wpAny_tryCatch ?_)
  rcases ha:(⟨y.toArray⟩:Str).cps.all (· <128) with⟨⟩
  ·exact wpAny_pyIter_wide ha (step _ (.inr rfl))
  ·exact wpAny_pyIter_ascii ha (step _ (.inl rfl))
end
end
section
open Builtin Builtin.Str
variable {c:aU} {W:Wd} {b:Str→Option Value} {V:Internal.V} {v:Value} {vals:List Value} {name:Str} {α:Type} {n:Nat} {C:Cf} {x:List Nat} {t:Tok} {ss:List (List Nat)}
theorem gW.same (h:gW c b T l vs s S) (q:iu s s'):gW c b T l vs s' S:=h.casesOn fun W x r=>⟨W,x.same q,r⟩
theorem J.vl {a:α} {m:d7 β} {R} (h:∀W Q E,aZ c s b T W→aS c.C W.G.fz W.pi l vs→(∀v S,R a v s S→Q v S)→m Q E W.G.S):J (pm c) (gW c b T l vs s) s (rT a) m R:=fun S Q E i k=>i.casesOn fun W x r=>h W Q E x r k.2
theorem J.needV {y:Tr α} {m:d7 β} {R} {o} (h:o=true→J (pm c) (gW c b T l vs (wK s (av s.ob o))) (wK s (av s.ob o)) y m R):J (pm c) (gW c b T l vs s) s (nT o y) m R:=.needI (K:=gW c b T l vs) gW.same h
set_option tactic.hygienic true in
theorem ED (r:aS C fz pi l vs):∀{ss},iU l=some ss→∃L,vs=strValues L∧L.map (·.1)=ss.map fun s=>⟨s.toArray⟩:=
  r.ind (m:=fun l vs=>∀{ss},iU l=some ss→∃L,vs=strValues L∧L.map _=ss.map _) (fun h=>⟨[],rfl,by rw[sm h];rfl⟩) fun V v Vs vs r _ ih {ss} h=>by
    have z:∃i js,V=.str i∧iU Vs=some js∧ss=i::js:=by
      revert h
      cases V<;>first|exact aX|skip
      rename_i i
      intro h
      obtain⟨js,h1,h2⟩:=ay.mp (show(iU Vs).map _=some ss from h)
      exact⟨i,js,rfl,h1,h2.symm⟩
    obtain⟨i,js,e1,e2,e3⟩:=z
    subst e1 e3
    obtain⟨xs,h1,h2⟩:=ih e2
    exact(show gX i v from r.inv).casesOn fun t=>⟨(⟨i.toArray⟩,t)::xs,congrArg _ h1,congrArg _ h2⟩
theorem pw:∀{ss:List _} {L},L.map (·.1)=ss.map (fun s=>⟨s.toArray⟩)→aS C fz pi (ss.map .str) (strValues L)
  |[],L,h=>by
   have e:=List.map_eq_nil_iff.mp h
   subst e
   exact .nil
  |a::ss,L,h=>by
   induction L with
   |nil=>trivial
   |cons p L=>
    obtain⟨p1,p2⟩:=p
    injection h with h1 h2
    subst h1
    exact .cons _ _ _ _ (.str _ _) (pw h2)
theorem tH sep:∀ss bW,(ss.map fun s=>(⟨s.toArray⟩:Str)).foldl (fun a s=>a+s.length+(⟨sep.toArray⟩:Str).length) bW≤bW+(b_ sep ss).length+sep.length
  |[],bW=>ac (aA bW _) (aA _ _)
  |[s],bW=>aC _
  |s::s2::r,bW=>by
   have e3:(b_ sep (s::s2::r)).length=s.length+sep.length+(b_ sep (s2::r)).length:=by
     show(s++sep++b_ _ _).length=_
     rw[aq,aq]
   refine ac (tH _ _ (bW+s.length+sep.length)) (aJ ?_)
   rw[e3,bS bW,bS bW]
theorem lA (h1:x.length≤100000) (h2:(b_ x ss).length≤1000000):JoinOk ⟨x.toArray⟩ (ss.map fun s=>⟨s.toArray⟩)=true:=by
  unfold JoinOk
  have h:=tH x ss 0
  rw[bD] at h
  rw[List.foldl_toArray' _ _ _ rfl]
  refine(ao _).mpr (decide_eq_false fun q=>a9 _ (et q (ac h (ac (gZ h2 h1) (by decide)))))
theorem sy x c (h:x.length≤1000000):(partsBetween x (occurrences x ⟨#[c]⟩ 0 x.length (x.length+1)) (⟨#[c]⟩:Str).length).length≤sizeLine:=by
  rw[length_partsBetween]
  exact ac (aQ (ac (StrLaws.occ_length_le x _ 0 _ _) (aQ h))) (by decide)
noncomputable def Ee (c:aU) (A:Around) (id:String) (x:List Nat) (t:Tok) (vals:List Value):d7 Value:=fun Q E=>wpAny c.C.M A (PySem.call (.builtin id) (.str ⟨x.toArray⟩ t::vals)) Q E
theorem Fq (hh:s.hd=false→A.handled=none):J (pm c) (gW c b T [V] vals s) s (Bp x V) (Ee c A "str.join" x t vals) (PV c b T):=by
  unfold Bp
  induction e:fb V with
  |some l=>
   refine .opt fun ss hs=>.needV fun hb=>.vl fun W Q E y r k=>?_
   have hb:=aa.mp hb
   obtain⟨w,rfl,rw_⟩:=r.one
   have e2:=rw_.frz.symm.trans (ky e)
   subst e2
   induction rw_.inv with|mk a vs hat hr=>
   obtain⟨L,rfl,e2⟩:=ED hr hs
   exact SC.join (hat.here y.fits.ok.sub).isList e2 (lA (ag hb.1) (ag hb.2)) fun t' k'=>by
     rw[nK]
     exact k _ _ (.res y ⟨rfl,rfl,rfl⟩ (.str _ _))
  |none=>
   refine .opt fun l hl=>.look (.grd fun hd=>.needV fun hb=>.vl fun W Q E y r k=>?_)
   have hb:=aa.mp hb
   obtain⟨w,rfl,rw_⟩:=r.one
   have e2:=j8 hl
   subst e2
   induction rw_.inv with|mk u=>
   have em:(l.map fun c=>(⟨#[c]⟩:Str))=(l.map fun c=>[c]).map fun s=>⟨s.toArray⟩:=by rw[o6];rfl
   refine rp (hh ((ao _).mp hd)) (ag (aa.mp hb.2).1) (em▸lA (ag hb.1) (ag (aa.mp hb.2).2)) fun s' t' k' h1 h2 h3=>?_
   rw[em,nK]
   exact k _ _ ⟨_,(y.mem (S':={s' with toks:=k'}) h1 h2 h3).push (.rep _ _ (.str _ _))⟩
theorem FW:J (pm c) (gW c b T args vals s) s (HM x args) (Ee c A "str.find" x t vals) (PV c b T):=by
  match args with
  |[]=>exact .stk
  |[_]=>exact .stk
  |[v,i]=>
   refine .opt fun y hy=>.opt fun k hk=>.needV fun hb=>.vl fun W Q E z r f=>?_
   obtain⟨w1,w2,rfl,r1,r2⟩:=r.two
   have e1:=j8 hy
   have e2:=lL hk
   subst e1 e2
   induction r1.inv with|mk u=>
   induction r2.inv with|mk u2=>
   refine SC.find3 ?_
   rw[Ce ⟨x.toArray⟩ _ k (of_decide_eq_true (aa.mp hb).1) (of_decide_eq_true (aa.mp (aa.mp hb).2).1)]
   exact f _ _ (.res z ⟨rfl,rfl,rfl⟩ (.int _ _))
  |_::_::_::_=>exact .stk
theorem Li (hh:s.hd=false→A.handled=none):J (pm c) (gW c b T args vals s) s (ez x name args) (Ee c A (KA name) x t vals) (PV c b T):=by
  unfold ez KA
  induction bx _ _ with
  |true=>
   refine .opt fun v hv=>?_
   have e:=dD hv id
   subst e
   exact Fq hh
  |false=>
  induction bx _ _ with
  |true=>exact FW
  |false=>
  induction bx _ (ae _) with
  |true=>
   refine .opt fun v hv=>?_
   have e:=dD hv id
   subst e
   exact .opt fun y hy=>.opt fun d hd=>.needV fun hb=>.vl fun W Q E z r f=>by
     obtain⟨w,rfl,rw_⟩:=r.one
     have e1:=j8 hy
     have e2:=vf hd
     subst e1 e2
     induction rw_.inv with|mk u=>
     exact vQ rfl (fun l k hl=>f _ _ (.list z rfl rfl (pw (hl.trans (gL x d))) rfl)) (ac (ag hb) (by decide)) (sy _ _ (ag hb))
  |false=>
  induction bx _ _ with
  |true=>
   refine .grd fun ha=>.needV fun hb=>.vl fun W Q E z r f=>?_
   have e:=aE.mp ha
   subst e
   have e:=dX.mp r.len.symm
   subst e
   exact mh (cD.mpr fun q=>eG.mp ((ao _).mp (aa.mp hb).1) 9 (by simpa using q) (dG 9)) (f _ _ (.res z .refl (.str _ _)))
  |false=>
   refine .grd fun hx=>.opt fun v hv=>.opt fun y hy=>.needV fun hb=>.vl fun W Q E z r f=>?_
   have e:=dD hv id
   subst e
   have hx:=of_decide_eq_true (aa.mp hx).2
   subst hx
   obtain⟨w,rfl,rw_⟩:=r.one
   have e1:=j8 hy
   subst e1
   induction rw_.inv with|mk u=>
   exact tX (ac (ag hb) (by decide)) fun t' k=>f _ _ (.res z ⟨rfl,rfl,rfl⟩ (by
     rw[show((⟨#[69,120,112,101,99,116,101,100,32]⟩:Str)++⟨y.toArray⟩)=⟨([69,120,112,101,99,116,101,100,32]++y).toArray⟩ from fD _ _]
     exact .str _ _))
end
section
variable {c:aU} {W:Wd} {b:Str→Option Value} {V:Internal.V} {v dflt:Value} {vals:List Value} {e:Expr} {args:List Expr} {p:Pl} {name:Str} {α:Type} {n k:Nat} {C:Cf} {I:List Internal.V→Fz→eC→Prop} {r:dN} {id:String} {x y:Internal.V}
theorem vR {M} {s} (hM:∃prog w,M=model prog w) (sp:us s v) (h:wpAny M A.in1 (pyNext v) (fun o S'=>Q (o.getD dflt) S') ff s):wpAny M A (PySem.call (.builtin "next") [v,dflt]) Q E s:=by
  obtain⟨prog,w,rfl⟩:=hM
  refine call_function_entry (by rfl) (by rfl) kdk_entry_next (kdk_args_next2 _ _) ?_
  refine wpAny_bind (wpAny_of_eq (a:=[v,dflt]) rfl ?_)
  induction sp with|mk T f hT hl=>
  exact wpAny_bind (wpAny_specialOf hT hl (wpAny_bind (wpAny_mono h (fun o S' ho=>wpAny_pure ⟨_,rfl,ho⟩) fun ζ ζ q=>q.elim)))
section
variable (t:wd c.C d k v pi I) (f:bj c W) (hp:p≠.frame) (ga:GA d c A)
include t f hp ga
theorem AG {Q} (h:I (y::l) W.G.fz (W.at p)) (q:∀rv W',Kp c W (· =p) W'→cP c.C W'.G.fz pi y rv→I l W'.G.fz (W'.at p)→Q (some rv) W'.G.S):wpAny c.C.M A (pyNext v) Q E W.G.S:=by
  refine wpAny_bind (wpAny_attempt (wpAny_mono (t.next y l c A W p rfl hp f ga h) (fun r S' hr=>?_) fun ζ ζ q=>q.elim))
  induction hr with|mk rv W' kp h1 h2=>exact wpAny_pure (q rv W' kp h1 h2)
theorem AH {Q} (he:k=0) (h:I [] W.G.fz (W.at p)) (q:∀W',Kp c W (· =p) W'→I [] W'.G.fz (W'.at p)→Q none W'.G.S):wpAny c.C.M A (pyNext v) Q E W.G.S:=by
  refine wpAny_bind (wpAny_attempt (wpAny_mono (t.stop he c A W p rfl hp f ga h) (fun r S' hr=>hr.elim) fun ex S' hr=>?_))
  induction hr with|mk W' kp h1 h2=>
  induction h1 with|mk a o h1 h3=>
  exact wpAny_bind (wpAny_isInstance ⟨o,h1,h3⟩ isSubtype_stop (wpAny_pure (q W' kp h2)))
end
theorem wF {R:Prop} {z:Tr Internal.V} {Rr} (k:bZ (pm c) Rr Q E ((iC e V z).run s)) (g:∀s',poke e V s=some s'→bZ (pm c) Rr Q E (z.run s')→R):R:=by
  unfold iC at k
  dsimp only at k
  induction hs:poke e V s with
  |none=>rw[hs] at k;trivial
  |some s'=>rw[hs] at k;exact g s' hs k
noncomputable def NK (c:aU) (A:Around) (v dflt:Value):d7 Value:=fun Q E=>wpAny c.C.M A (PySem.call (.builtin "next") [v,dflt]) Q E
theorem AU {q} {dv} (ga:GA q.1 c A.in1):∀W Q E,aZ c s b T W→gD c s b W e (.itr q.1 q.2.1 q.2.2.1 q.2.2.2) v p→cP c.C W.G.fz W.pi dv dflt→bZ (pm c) (PV c b T) Q E ((Hu e q dv).run s)→NK c A v dflt Q E W.G.S:=fun W Q E x pk rd k=>by
  obtain⟨d,l,e',z⟩:=q
  induction pk.own.itrI rfl with|mk p0 I h1 h2 h3=>
  refine vR ⟨_,_,rfl⟩ (h2.spec _ c W p rfl pk.nofr x.fits h3) ?_
  induction l with
  |cons y l=>
   exact AG h2 x.fits pk.nofr ga h3 fun rv W' kp r i=>wF k fun s' hs k=>k.2 _ _ ⟨W',(Kp.poke x pk kp (.itr _ _ _ _ _ ⟨p0,I,fun r a h=>kp.pi r a (h1 r a h),h2,i⟩) hs).push (.rep _ _ (r.mono (.refl _) fun r a h=>kp.pi r a (h1 r a h)))⟩
  |nil=>
   have k:bZ _ _ Q E ((gT _ _ (iC e (.itr d [] e' z) _)).run s):=k
   induction he:Nat.beq e' 0 with
   |false=>replace k:=he▸k;exact k.elim
   |true=>
    replace k:=he▸k
    exact AH h2 x.fits pk.nofr ga (aj he) h3 fun W' kp i=>wF k fun s' hs k=>k.2 _ _ ⟨W',(Kp.poke x pk kp (.itr _ _ _ _ _ ⟨p0,I,fun r a h=>kp.pi r a (h1 r a h),h2,i⟩) hs).push (.rep _ _ (rd.mono kp.le kp.pi))⟩
end
section
variable {c:aU} {W:Wd} {b:Str→Option Value} {V f:Internal.V} {v:Value} {vals:List Value} {a d e:Expr} {es args:List Expr} {p:Pl} {α:Type} {n k:Nat} {r:dN} {id:String}
theorem qd (hall:cu es []=true) (h:wpAny c.C.M A (spliced (backTo pos (starEach es c.env))) (fun vals S=>wpAny c.C.M A (PySem.call (.builtin id) (first++vals)) Q E S) E S):jM c A pos (.builtin id) first es [] Q E S:=
  have k:=ur hall
  eg (cW k.star) rfl (ee (cW k.star) rfl (wpAny_mono h (fun vals S h=>wpAny_evalAll_nil ⟨.bi,h⟩) fun ζ ζ q=>q))
theorem GE.next (ge:GE PP n c A) (h:k<c.dp) (hd:c.hd=false):GA k c A.in1:=⟨ge.hd hd,by have:=ge.dep;show A.depth+4*k+32≤900;omega,by have:=ge.un;lia,ge.fr⟩
theorem J.hd {m:d7 β} {x:Tr α} {R} (h:c.hd=s.hd→c.dp=s.dp→J (pm c) (a_ c b T s) s x m R):J (pm c) (a_ c b T s) s x m R:=fun S Q E i a=>h (i.casesOn fun W x=>x.hd.symm) (i.casesOn fun W x=>x.dp.symm) S Q E i a
section
variable (hev:cr PP n r.ev) (ge:GE PP n c A) (hall:cu es []=true)
include hev ge hall
theorem rq (hh:A.handled=none):J (pm c) (a_ c b T s) s ((q9 r frz es).bind (J3 id)) (jM c A pos (.builtin id) [] es []) (PV c b T):=
  .by (.bind (qZ hev ge a_.freeze es) fun Vs vals s1=>.fact fun e=>(Dh hh).pre fun S i=>i.casesOn fun W x=>⟨W,x,.bi id,.nil,e⟩) fun Q E S h=>qd hall h
theorem zt (hd:s.hd=false):J (pm c) (a_ c b T s) s (C8 PP r id es) (jM c A pos (.builtin id) [] es []) (PV c b T):=.hd fun h1 h2=>by
  have hh:=ge.hd (h1.trans hd)
  match es,hall with
  |[],hall=>exact rq hev ge hall hh
  |[a],hall=>
   refine .look ?_
   have gen:=rq (b:=b) (T:=T) (s:=s) (pos:=pos) (id:=id) hev ge hall hh
   induction hi:decide (id="len") with
   |false=>exact gen
   |true=>
    induction hp:eP a s with
    |none=>exact gen
    |some v=>
     have e:=of_decide_eq_true hi
     subst e
     refine(.ite (fun ζ=>.opt fun k h=>.need' fun hb=>fun S Q E i g=>i.casesOn fun W x=>qd hall ?_) fun n=>absurd rfl n)
     rw[dI (aa.mp (ur hall).star).1]
     exact Calls.spliced_cons (fW hp x fun w p W' tk x' pk=>Calls.spliced_nil (HC x'.fits.ok (pk.rd x'.fits) h hb fun t tk=>g.2 _ _ (a_.same (a_.num x' (fun ζ ζ e=>e) rfl rfl) (ll _))))
  |[a,d],hall=>
   refine .look ?_
   have gen:=rq (b:=b) (T:=T) (s:=s) (pos:=pos) (id:=id) hev ge hall hh
   induction hi:decide (id="next") with
   |false=>exact gen
   |true=>
    induction hp:(eP a s).bind om with
    |none=>exact gen
    |some q=>
     have e:=of_decide_eq_true hi
     subst e
     refine .grd fun hg=>.opt fun dv hdv=>fun S Q E i g=>i.casesOn fun W x=>qd hall ?_
     obtain⟨V,hp,hV⟩:=aw.mp hp
     have hV:=uq hV
     subst hV
     have st:=aa.mp (ur hall).star
     rw[dI st.1,dI (aa.mp st.2).1]
     exact Calls.spliced_cons (fW hp x fun w p W' tk x' pk=>Calls.spliced_cons (mO (ge.pt▸hdv) x' fun dw S' t rd=>Calls.spliced_nil (AU (ge.next (h2▸ag (aa.mp hg).1) (h1.trans hd)) _ Q E (x'.mem (fun a o e=>by rw[t.heap];exact e) t.gens t.os) (pk.tk x' t) rd g)))
  |_::_::_::_,hall=>exact rq hev ge hall hh
end
theorem C7 (hev:cr PP n r.ev) (hcall:fU PP n r.call) (ge:GE PP n c A) (hall:cu es ks=true):J (pm c) (a_ c b (.more f fv T) s) s (t7 PP r es ks f) (jM c A pos fv [] es ks) (PV c b T):=by
  unfold t7
  induction e:rB f with
  |none=>exact tZ hev hcall ge hall
  |some id=>
   refine .look (.grd fun h=>?_)
   have e1:=mK e
   have e2:=aE.mp (aa.mp h).1
   subst e1 e2
   exact fun S Q E i g=>(show fv=.builtin id from i.casesOn fun W x=>(x.tm.1.to_rep rfl).inv)▸zt hev ge hall ((ao _).mp (aa.mp h).2) S Q E i.pop g
theorem oq (h:oS e=none) args ks p env:eval (.Call e args ks p) env=(do callWith p (←eval e env) [] (backTo p (starEach args env)) (backToKw p (keywordEach ks env))):=by
  rcases e with⟨⟩<;>first|rfl|trivial
theorem F6 (hev:cr PP n r.ev) (hcall:fU PP n r.call) (ha:oS e=none) (hall:cu args ks=true):ma PP n (.Call e args ks pos) ((r.ev e).bind (t7 PP r args ks)):=fun c b T A s ge=>
  .by (.bind (hev e c b T A s ge) fun V v s1=>C7 hev hcall ge hall) fun Q E S h=>by
    show wpAny _ _ _ _ _ _
    rw[oq ha]
    exact wpAny_bind h
end
section
variable {c:aU} {W:Wd} {b:Str→Option Value} {V:Internal.V} {v:Value} {o:Expr} {args:List Expr} {name:Str} {n:Nat} {r:dN} {x:List Nat}
theorem C3 (hev:cr PP n r.ev) (ge:GE PP n c A) (hall:cu args ks=true) (hx:l7 V=some x):J (pm c) (a_ c b (.more V v T) s) s (gT (ks.isEmpty&&se name) "kw" ((uH r args).bind (ez x name))) (gJ c A v name args ks pos pl) (PV c b T):=.grd fun hk=>by
  have e:=aE.mp (aa.mp hk).1
  subst e
  refine fun S Q E i a=>?_
  induction (show gX x v from i.casesOn fun W y=>y.rd.str hx) with|mk t=>
  refine Hh (aa.mp hk).2 (qd hall ?_)
  exact(J.bind (nX hev ge args) fun Vs vals s1 S Q E i=>Li (fun h=>ge.hd (i.casesOn fun W x ζ=>x.hd.symm.trans h)) S Q E i) S Q E i.pop a
theorem zq (hev:cr PP n r.ev) (hcall:fU PP n r.call) (ge:GE PP n c A) (hall:cu args ks=true):J (pm c) (a_ c b (.more V v T) s) s (C2 PP r name args ks V) (gJ c A v name args ks pos pl) (PV c b T):=by
  unfold C2
  induction hx:l7 V with
  |some x=>exact C3 hev ge hall hx
  |none=>
   refine .opt fun i hi=>?_
   have e:=fM hi
   subst e
   exact t8 hev hcall ge hall
theorem Co (hev:cr PP n r.ev) (hcall:fU PP n r.call) (hall:cu args ks=true) (hl:Nat.beq apos.endLine pos.line=true):ma PP n (.Call (.Attribute o name apos) args ks pos) (p6 PP r o name args ks):=fun c b T A s ge=>.grd fun hs=>by
  have wm:∀{Q E S},(∀pl,wpAny _ A _ (fun ov S=>gJ c A ov name _ ks _ pl Q E S) E S)→mn c A _ Q E S:=fun h=>pd (funext fun w=>xL ((aa.mp hs).1) _ _ w) hall hl h
  refine .look ?_
  induction h0:(eP o s).bind xO with
  |some l0=>exact fun S Q E i a=>wm fun pl=>C5 hev ge hall h0 id S Q E i a
  |none=>
   induction h1:(eP o s).bind uJ with
   |some i=>
    refine fun S Q E k a=>wm fun pl=>k.casesOn fun W x=>?_
    obtain⟨V,e1,e2⟩:=aw.mp h1
    have e2:=fM e2
    subst e2
    exact fW e1 x fun v p W' tk x' pk=>t8 hev hcall ge hall _ Q E ⟨W',x'.push (.rep _ _ (pk.own.to_rep rfl))⟩ a
   |none=>exact fun S Q E i a=>wm fun pl=>(J.bind (hev o c b T A s ge) fun V v s1=>zq hev hcall ge hall) S Q E i a
end
section
variable {c:aU} {W:Wd} {b:Str→Option Value} {V:Internal.V} {v:Value} {keys:List (Option Expr)} {values:List Expr} {ks vs:List (List Nat)} {n:Nat} {C:Cf}
theorem MO {k} {i} (h:cS k=some i):k=.str i:=by rcases k with⟨⟩<;>first|exact aX h|exact sm h▸rfl
theorem xB {e} {x} (h:JV e=some x):∃k a p,e=.Constant (.str k) a p∧x=ys k:=aG h fun c e1 h=>(n8 e1).elim fun a q=>q.elim fun p q=>by
  obtain⟨k,e2,e3⟩:=ay.mp h
  have e2:=MO e2
  subst e2
  exact⟨k,a,p,q,e3.symm⟩
inductive Ki:List (Option Expr)→List Expr→List (List Nat)→List (List Nat)→Prop
  |nil:Ki [] [] [] []
  |cons (k:Str) (ka:Nat) (kp:Pos) (v:Str) (va:Nat) (vp:Pos) (keys:List (Option Expr)) (values:List Expr) (ks vs:List (List Nat)):Ki keys values ks vs→Ki (some (.Constant (.str k) ka kp)::keys) (.Constant (.str v) va vp::values) (ys k::ks) (ys v::vs)
theorem prs:∀{keys} {values} {ks vs},n7 (keys.map fun k=>k.getD (.Constant .none 0 default))=some ks→n7 values=some vs→ks.length=vs.length→Ki keys values ks vs
  |[],values,ks,vs,h1,h2,h3=>by
   have e:=sm h1
   subst e
   have e:=dX.mp h3.symm
   subst e
   induction values with
   |nil=>exact .nil
   |cons v values=>
    refine aG h2 fun x ζ h=>?_
    obtain⟨y,_,e⟩:=ay.mp h
    trivial
  |k::keys,values,ks,vs,h1,h2,h3=>aG h1 fun x e1 h1=>by
   obtain⟨ks',h4,e⟩:=ay.mp h1
   subst e
   cases values with
   |nil=>
    have e:=sm h2
    subst e
    trivial
   |cons v values=>
    refine aG h2 fun y e2 h2=>?_
    obtain⟨vs',h5,e⟩:=ay.mp h2
    subst e
    obtain⟨vx,va,vp,f1,f2⟩:=xB e2
    obtain⟨kx,ka,kp,g1,g2⟩:=xB e1
    subst f1 f2 g2
    induction k with
    |none=>trivial
    |some k=>
     subst g1
     exact .cons _ _ _ _ _ _ _ _ _ _ (prs h4 h5 (Nat.succ.inj h3))
theorem zX (h:Ki keys values ks vs):∀{S} {Q},(∀ps tk ws,allStrKeys ps=true→strPairs ps=(bU ks).zip ws→(∀fz pi,aS C fz pi (vs.map .str) ws)→Q ps {S with toks:=tk})→wpAny C.M A (evalPairs (pairTrees keys values env pos)) Q E S:=by
  induction h with
  |nil=>exact fun{S Q} hQ=>pairTrees_nil_walk (hQ [] _ [] rfl rfl fun ζ ζ=>.nil)
  |cons k ka kp v va vp keys values ks vs h ih=>exact fun{S Q} hQ=>pairTrees_cons_walk (wpAny_Constant_str (wpAny_Constant_str (ih fun ps tk ws q1 q2 q3=>hQ _ tk _ q1 (congrArg _ q2) fun fz pi=>.cons _ _ _ _ (.str _ _) (q3 fz pi))))
structure PY (keys:List (Option Expr)) (values:List Expr) (ks vs:List (List Nat)):Prop where
  all:keys.all (·.isSome)=true
  kk:keys.length=ks.length
  vv:values.length=vs.length
  eq:ks.length=vs.length
theorem Ki.k (h:Ki keys values ks vs):PY keys values ks vs:=by
  induction h with
  |nil=>exact⟨rfl,rfl,rfl,rfl⟩
  |cons k ka kp v va vp keys values ks vs h ih=>exact⟨ih.all,congrArg _ ih.kk,congrArg _ ih.vv,congrArg (· +1) ih.eq⟩
theorem vu (h:ks.Pairwise (· ≠·)):(bU ks).Nodup:=by
  unfold bU
  rw[List.Nodup,List.pairwise_map]
  exact h.imp fun hn e=>hn (congrArg (fun s=>s.cps.toList) e)
theorem xA {l} {ws} {h'} {tk} {D:Addr} (x:aZ c s b T W) (hD:D=W.G.S.heap.objs.size) (hk:∀a o,W.hp a=some o→h'.get? a=some o) (hd:h'.DictOf (strKind c.C.prog c.C.w) D ((bU ks).zip ws)) (hl:ks.length=ws.length) (r:aS c.C W.G.fz W.pi l ws):
    a_ c b (.more (.dct ks l) (.ref D) T) s {W.G.S with heap:=h',toks:=tk}:=by
  subst hD
  have fr:=bK W.G.S.heap
  obtain⟨o,es,ep,e,q⟩:=hd
  have y:=x.mem (S':={W.G.S with heap:=h',toks:=tk}) hk rfl rfl
  exact⟨_,(((Kp.give y.fits e (fun h=>x.fits.free fr h.mem) (x.fits.fmfree fr) Pl.noConfusion).weak (Pt.eq _)).simT y).push (.dct _ _ _ ⟨_,ws,⟨o,qP e,fun h e=>⟨o,es,ep,e,q⟩⟩,hl,r⟩)⟩
theorem F5 keys values pos:ma PP n (.Dict keys values pos) (oT (n7 (keys.map fun k=>k.getD (.Constant .none 0 default))) "dict" fun ks=>oT (n7 values) "dict" fun vs=>Cq ks vs):=fun c b T A s ge=>
  .opt fun ks h1=>.opt fun vs h2=>.grd fun hg=>.wret fun W Q E x f=>by
    have hg:=aa.mp hg
    have h:=prs h1 h2 (aj hg.1)
    have k:=h.k
    have wk:keys≠[]→mn c A (.Dict _ _ pos) Q E W.G.S:=fun ne=>by
      refine wpAny_Dict_walk (knd:=strKind _ _) k.all (k.kk.trans (k.eq.trans k.vv.symm)) ne (k.kk▸ag (aa.mp hg.2).1) (zX h fun ps tk ws q1 q2 q3=>?_)
      have lw:=by
        have:=(q3 (fun ζ=>none) fun ζ=>none).len
        rw[au] at this
        exact k.eq.trans this
      refine display_done_str q1 (by rw[q2,G4 (by unfold bU;rw[au,lw];exact aC _)];exact vu (of_decide_eq_true (aa.mp hg.2).2)) (Heap.DictOf.new _) fun h' hd hs=>f _ _ (xA x rfl (fun b o e=>?_) (q2▸hd) lw (q3 _ _))
      exact(hs.2 b fun q=>by
        have e:W.G.S.heap.get? b=some o:=e
        rw[q,bK] at e;trivial).trans (Heap.get?_push_of_some _ e)
    induction h with
    |nil=>exact wpAny_Dict_empty (f _ _ (xA x rfl (fun ζ ζ e=>Heap.get?_push_of_some _ e) (Heap.DictOf.new _) rfl .nil))
    |cons=>exact wk (br _ _)
end
section
variable {C:Cf}
theorem tT env cs:∀(l:List (Str×NameKind)),l.all fun p=>p.2==NameKind.local=true→
    (forIn l cs (fun(x) r=>match x with|(name,kind)=>if(kind==NameKind.free)=true then(do let a←cellOf env name;pure (ForInStep.yield ((name,a)::r))) else pure (ForInStep.yield r)):Sem _)=pure cs:=by
  intro l
  induction l with
  |nil=>exact fun ζ=>rfl
  |cons p l ih=>
   intro h
   obtain⟨n,k⟩:=p
   have hk:=eq_of_beq (aa.mp h).1
   subst hk
   rw[jB]
   exact ih (aa.mp h).2
theorem oi {sc} {env} (h:sc.names.all fun p=>p.2==NameKind.local=true):closureFor sc env=pure []:=by
  exact congrArg (· >>=pure) (tT _ [] _ h)
theorem lW n:passing (fun ζ=>true) n 0=List.range n:=by
  unfold passing;simp
theorem GenOnlyQ.keepB {g} {a b} (x:GenOnlyQ g a b):b.size=a.size∧∀k,k≠g→b[k]?=a[k]?:=by
  rcases x with rfl|x
  ·exact⟨rfl,fun ζ ζ=>rfl⟩
  ·exact x.1
inductive Kt (C:Cf) (fz:Fz) (pi:Pi) (a:Str) (y:List Nat):Value→Prop
  |mk (ad:Addr) (vs:List Value) (o:Obj) (od:Option Obj) (cl:Nat) (w:Value):l8 C fz cl ad vs o od→a∈C.P.flds cl→eL C o od cl a w→gX y w→Kt C fz pi a y (.ref ad)
theorem zd {fz} {pi} {a} {l} {vs} (r:aS C fz pi l vs):∀{ss},ej C.P a l=some ss→vs.length=ss.length∧∀(i:Nat) v,vs[i]?=some v→∃y,ss[i]?=some y∧Kt C fz pi a y v:=
  r.ind (m:=fun l vs=>∀{ss},ej _ a l=some ss→vs.length=ss.length∧∀i v,vs[i]?=some v→∃y,ss[i]?=some y∧Kt C fz pi a y v) (fun h=>by
    have e:=sm h
    subst e
    exact⟨rfl,fun i v e=>aX e⟩) fun V v Vs vs r _ ih {ss} h=>aG h fun q e1 h=>aG h fun w e2 h=>aG h fun x e3 h=>by
    obtain⟨ss',e4,e5⟩:=ay.mp h
    subst e5
    have e1:=on e1
    have e3:=j8 e3
    subst e1 e3
    refine⟨congrArg _ (ih e4).1,fun i v' e=>?_⟩
    induction i with
    |zero=>
     have e:=sm e
     subst e
     induction r.inv with|mk ad ws o od ra rs=>
     induction (pZ ra.flds e2 rs) with|mk w m f rw_=>exact⟨x,rfl,ad,ws,o,od,q.1,w,ra,m,f,rw_.inv⟩
    |succ i=>exact (ih e4).2 i v' e
theorem Kp.table {c} {W} {S'} {P} (f:bj c W) (hk:∀a o,W.hp a=some o→a≠c.C.tb→S'.heap.get? a=some o) (htb:c.C.tbI (S'.heap.get? c.C.tb) W.G.fz) (htbs:∃o,S'.heap.get? c.C.tb=some o) (hg:W.G.S.gens.size≤S'.gens.size) (hgk:∀k,k<W.G.S.gens.size→S'.gens[k]?=W.G.S.gens[k]?)
    (hb:AllBare S'.gens) (ho:S'.os=W.G.S.os):Kp c W P (W.mem S'):=
  have nt:∀{a o},W.G.fz a=some o→a≠c.C.tb:=fun e q=>aX (f.ok.tbn.symm.trans (q▸e))
  {fits:={f with
     ok:=⟨fun a o e=>hk a o (f.ok.sub a o e) (nt e),f.ok.base,f.ok.tbn,hb,ho.trans f.ok.os,htb,htbs⟩
     own:=fun a p e=>(f.own a p e).casesOn fun o h1 h2 h3 h4 h5=>⟨o,hk a o h1 h3,h2,h3,h4,h5⟩
     ot:=fun a o e=>(f.ot a o e).casesOn fun h1 h2 h3=>⟨h1.to fun o e=>hk a o e h3,h2,h3⟩
     gown:=fun k p e=>⟨et (f.gown k p e).1 hg,(f.gown k p e).2⟩
     gt:=fun k y e=>(hgk k (Array.getElem?_eq_some_iff.mp (f.gt k y e)).1).trans (f.gt k y e)
     fun_:=lZ f.fun_ fun a m o e=>hk a o e (f.fm a m).1}
   le:=cO.refl _
   pi:=fun ζ ζ h=>h
   pir:=fun ζ ζ=>rfl
   at_:=fun q n ζ=>gh (fun ζ=>.rfl) (fun ζ=>.rfl) (fun a e=>(f.own a q e).ex.elim fun o z=>(hk a o z (f.own a q e).tbn).trans z.symm) fun k e=>hgk k (f.gown k q e).1
   fr:=fun ζ h=>h
   frh:=fun a o e q=>.same (hk a o q (f.own a _ e).tbn)}
theorem lB {M} {A} {E} {s} {env} {c P} {ps} {pos} {qualname} {scope} {Q} (hc:env.code=.ref c) (hok:s.heap.IsCode c P ps) (htab:s.heap.TableAt c P ps)
    (hQ:∀code h' tk more,Heap.ExtBut P s.heap h'→h'.IsCode c P (ps++more)→h'.TableAt c P (ps++more)→Q code {s with heap:=h',toks:=tk}):wpAny M A (genexprCode env pos qualname scope) Q E s:=by
  induction h:codeAmong _ _ with
  |some cv=>exact wpAny_genexprCode_hit hc hok h (hQ cv _ _ #[] (Heap.ExtBut.refl _ _) (by assumption) (by trivial))
  |none=>exact wpAny_genexprCodeX hc hok htab h fun c' h' tk x1 ζ ζ x2 ζ x3 ζ=>hQ _ h' tk _ x1 x2 x3
structure P4 (P:PT) (sc:Scope) (s:St) (ss:List (List Nat)) (y a:Str) (it:Expr) (l:List V):Prop where
  bad:bad y=false
  co:sc.isCoroutine=false
  kind:sc.kind=.function
  all:sc.names.all (fun p=>p.2==NameKind.local)=true
  h0:sc.names.lookup (Str.ofString ".0")=some NameKind.local
  hy:sc.names.lookup y=some NameKind.local
  pk:eP it s=some (.own l)
  fs:ej P a l=some ss
theorem B7 {P} {s} {elt} {gens} {sc} {ss} {R:Prop} (hg:nQ P elt gens sc s=some ss)
    (h:∀y qx a qa qy ei ai qe l,elt=.Attribute (.Name y qx) a qa→gens=[⟨.Name y qy,.Attribute ei ai qe,[],0⟩]→P4 P sc s ss y a (.Attribute ei ai qe) l→R):R:=
  aG hg fun g e0 g0=>aG g0 fun qa e1 g1=>aG g1 fun qx e2 g2=>aG g2 fun qy e3 g3=>bE g3 fun hc g3=>aG g3 fun V hpk g4=>aG g4 fun l e4 hfs=>by
    have c2:=aa.mp (aa.mp hc).2
    have c4:=aa.mp (aa.mp c2.2).2
    have c6:=aa.mp (aa.mp (aa.mp c4.2).2).1
    have c8:=aa.mp (aa.mp c6.2).2
    obtain⟨qe,e5⟩:=bL.mp (aa.mp c2.2).1
    exact h _ _ _ _ qy.2 _ _ _ l ((fK e1).trans (congrArg (fun z=>Expr.Attribute z _ _) (cR e2))) ((dD e0 id).trans (congrArg (· ::[]) (((show ∀g,g=⟨g.target,g.iter,g.ifs,g.is_async⟩ from fun g=>Comprehension.casesOn g fun ζ ζ ζ ζ=>rfl) g).trans (((bp.mp c4.1))▸((cR e3))▸((fK e5))▸((of_decide_eq_true (aa.mp hc).1))▸((aE.mp c2.1))▸rfl)))) ⟨(ao _).mp (aa.mp c4.2).1,(ao _).mp c6.1,eq_of_beq (aa.mp c6.2).1,c8.1,eq_of_beq (aa.mp c8.2).1,(bp.mp c4.1)▸eq_of_beq (aa.mp c8.2).2,(fK e5)▸hpk.trans (congrArg _ (ru e4)),hfs⟩
theorem BQ:∀{ss:List _} {lt},lt.length=ss.length→(∀(j:Nat) v,(strValues lt)[j]?=some v→∃(z:List _) (u:Tok),ss[j]?=some z∧v=Value.str ⟨z.toArray⟩ u)→lt.map (·.1)=ss.map fun s=>⟨s.toArray⟩
  |[],[],_,_=>rfl
  |[],_::_,h,_=>nomatch h
  |_::_,[],h,_=>nomatch h
  |z::ss,p::lt,h,g=>by
   obtain⟨z',u,e1,e2⟩:=g 0 _ rfl
   show p.1::lt.map _=_::_
   exact (((Value.str.inj e2).1))▸((Option.some.inj e1))▸(BQ (Nat.succ.inj h) fun j v e=>g (j+1) v e)▸rfl
theorem yc {c} {s} {b} {T} {W} {A} {E} (sim:aZ c s b T W) (hh:A.handled=none) (hroom:A.depth<recursionLimit) (gx:o8 c.C c.env.code) {elt} {gens} {sc} {pg} {ss} (hg:nQ c.C.P elt gens sc s=some ss)
    {x} {t} (b1:x.length≤100000) (b2:ss.length≤1000000) (b3:(b_ x ss).length≤1000000) {Q} (hQ:∀W' t',aZ c s b T W'→Q (.str ⟨(b_ x ss).toArray⟩ t') W'.G.S):
    wpAny c.C.M A (eval (.GeneratorExp elt gens sc pg) c.env) (fun v s1=>wpAny c.C.M A (PySem.call (.builtin "str.join") [.str ⟨x.toArray⟩ t,v]) Q E s1) E W.G.S:=by
  refine B7 hg fun y qx a qa qy ei ai qe l e0 e1 go=>?_
  subst e0 e1
  refine hR fun Y Z=>?_
  obtain⟨hbad,hco,hkind,hall,h0,hy,hpk,hfs⟩:=go
  have hcell:∀z∈sc.names,z.2≠.cell:=fun z hz e=>by
    have:=eq_of_beq (aB.mp hall z hz)
    rw[e] at this
    exact nomatch this
  obtain⟨cda,hcode,O0,gx2,mg,bm,ob,m1,m2,m3,m4,m5,m6,m7,m8⟩:=gx
  refine Z (wpAny_GeneratorExp_walksQD hh hco (oi hall) hcell h0 hy hkind hroom (fW hpk sim fun v pl W1 tk1 sim1 pk=>?_) fun ζ=>rfl)
  have ol:=pk.own.ownL rfl
  induction ol with|mk la vs hat hr=>
  have hl:PlainL W1.G.S.heap la (List.toArray vs):=hat.casesOn fun o e g=>g _ (cx.mp e).2
  have ok:=sim1.fits.ok
  have fresh:=bK W1.G.S.heap
  refine hR fun O U=>?_
  obtain⟨otb,etb⟩:=ok.tbs
  have Itb:W1.G.S.heap.objs.size≠c.C.tb:=fun e=>by rw[←e,fresh] at etb;exact nomatch etb
  obtain⟨k1,k2⟩:=zd hr hfs
  obtain⟨ol,nl,el,hlc,hld,hls⟩:=id hl
  refine U (wpAny_pyIter_list hl.isList ?_)
  let io:Obj:={cls:=.type "list_iterator",data:=.fields #[.ref la,.int 0 0]}
  have p2:∀b o,W1.G.S.heap.get? b=some o→(W1.G.S.heap.push io).get? b=some o:=fun b o e=>Heap.get?_push_of_some _ e
  refine⟨(c.H.nolim ok).keeps p2,?_⟩
  have hcd:=O0 _ W1.G.fz (fun b o e=>p2 b o (ok.sub b o e)) ok.base (by rw[p2 _ _ etb,←etb];exact ok.tbi)
  obtain⟨ps,hcd,htab⟩:=hcd
  refine lB hcode hcd htab fun code h3 tk more hx3 hcd3 htab3=>?_
  have p3:=fun b o e t=>hx3 b o t (p2 b o e)
  have eI:=hx3 _ _ Itb (Heap.get?_push_size _ rfl)
  have hmg:h3.Ns mainGlobals mg:=by
    obtain⟨o',es,ep,e',r'⟩:=m1
    exact⟨o',es,ep,p3 _ _ (ok.sub _ _ (ok.base _ _ c.H.glt.1 e')) c.H.glt.1,r'⟩
  rw[sim.env.globals]
  refine wpAny_builtinsFor hmg m2 m3 (p3 _ _ (ok.sub _ _ (ok.base _ _ m4 m5)) m4) m6 m7 m8 ?_
  have hla3:=p3 _ _ el (by
    intro e
    exact(sim1.fits.own _ _ (hat.casesOn fun o g ζ=>(cx.mp g).1)).tbn e)
  have hlim3:=by
    exact(c.H.nolim ok).at fun o e=>p3 _ _ e c.H.glt.2.2
  refine⟨W1.G.S.heap.objs.size,[W1.G.S.heap.objs.size,la],[W1.G.S.heap.objs.size],(List.toArray vs).size,_,_,fun ζ=>true,fun i v=>∃z u,ss[i]?=some z∧v=.str ⟨z.toArray⟩ u,rfl,
    fun A' hA=>Walks.list hA W1.G.S.heap.objs.size la (fun e=>by rw[e,fresh] at el;exact nomatch el) (List.toArray vs),⟨⟨io,eI,rfl,rfl⟩,⟨ol,hla3,hlc,nl,hls⟩⟩,fun b hb=>?_,hlim3,?_,fun href hhr=>⟨fun A' E' i v s₂ m₂ hA ζ ζ hP hn hm hkeep=>?_,fun A' E' i v s₂ m₂ hA ζ ζ hP ζ hn hm hkeep=>?_⟩,fun ga h₅ tk5 gs hgb ha1 ha2 ha3 W5 hst5=>?_⟩
  ·simp at hb
   rcases hb with rfl|rfl
   ·exact (Heap.lt_size eI)
   ·exact Heap.lt_size hla3
  ·simp
   intro e
   obtain⟨_,hNs,_⟩:=c.H.nolim ok
   have:=hNs.lt
   rw[e] at this
   exact a9 _ this
  ·exact wpAny_pure ⟨rfl,s₂.heap,s₂.toks,rfl,fun ζ ζ e=>e⟩
  ·obtain⟨z,f1,fv⟩:=k2 i v (by simpa using hP)
   have fzin:∀b o,W1.G.fz b=some o→s₂.heap.get? b=some o:=fun b o e=>by
     have e1:=ok.sub _ _ e
     have e3:=p3 b o e1 (fun b o e q=>by rw[q,ok.tbn] at e;contradiction b o e)
     refine hkeep b (M6.mpr (Heap.lt_size e3)) (fun q=>?_) o (hhr b o e3)
     simp at q
     rw[q,fresh] at e1;contradiction
   have X:=fun b o e=>by
     have K:=c.H.kin b o e
     exact fzin _ _ (ok.base _ _ K.1 K.2)
   induction fv with|mk ad ws od' odd cl w ra f7 f8 f9=>
   refine Attribute_any_ (wpAny_Name (wpAny_loadName_local hkind hy hn hm (gR c.H X ra.good (jh _ f7) (ra.inst fzin) f8 ?_)) (lJ hbad))
   induction f9 with|mk u=>
   exact⟨⟨z,u,f1,rfl⟩,s₂.heap,s₂.toks+1,rfl,fun ζ ζ e=>e⟩
  ·have hpl:(passing (fun ζ=>true) (List.toArray vs).size 0).length=ss.length:=by rw[lW];simp[k1]
   refine SC.joinGen W5.in4_2 (fun i s5 st=>st.1.typeIs) hst5 (fun b hb=>?_) (bA ..) (fun j v hv=>?_) (fun s' lt hm hacc=>?_) (by rw[hpl];unfold sizeLine;lia)
   ·rw[ha2]
    rcases aL.mp hb with h|hb
    ·rw[h];exact dk _
    ·rcases aL.mp hb with h|hb
     ·rw[h];exact eD ha1
     ·exact eD (Nat.lt_trans (M6.mp hb) ha1)
   ·obtain⟨i,_,z,u,_,e⟩:=hv
    exact⟨_,_,e⟩
   ·have hlt:=by
      have:=hacc.1
      rw[hpl] at this
      simpa [strValues] using this
    rw[BQ hlt fun j v e=>by
     obtain⟨i,e1,z,u,e2,e3⟩:=hacc.2 j v (by rw[List.getElem?_toArray];exact e)
     rw[lW,cJ] at e1
     obtain⟨_,e1⟩:=e1
     rw[List.getElem_range] at e1
     exact⟨z,u,e1▸e2,e3⟩]
    refine⟨lA b1 b3,fun t' k=>?_⟩
    rw[nK]
    have nb5:∀b o,h3.get? b=some o→b≠W1.G.S.heap.objs.size→s'.heap.get? b=some o:=fun b o e hn=>hm.heap b o (fun q=>by
      rcases aL.mp q with q|q
      ·have h1:=Heap.lt_size e
       rw[q] at h1
       exact a9 _ h1
      ·simp at q
       exact hn q) (ha3 b o e)
    obtain⟨op,etb3⟩:∃op,h3.get? c.C.tb=some op:=by
      obtain⟨_,_,_,_,_,_,_,_,_,op,_,_,_,_,_,_,_,z,_⟩:=id hcd3
      exact⟨op,z⟩
    have etb':=nb5 _ _ etb3 (Ne.symm Itb)
    obtain⟨g1,g2⟩:=GenOnlyQ.keepB hm.gens
    have g1':s'.gens.size=W1.G.S.gens.size+1:=by
      rw[g1, Array.size_push]
    exact hQ _ t' ((Kp.table sim1.fits (S':={s' with toks:=k}) (fun b o e tb=>nb5 b o (p3 b o e tb) fun q=>aX (fresh.symm.trans (q▸e))) (by
        rw[etb',←etb3]
        exact gx2 (W1.G.S.heap.push io) h3 W1.G.fz _ ps more (by rw[p2 _ _ etb,←etb];exact ok.tbi) htab htab3 hcd3) ⟨op,etb'⟩ (by rw[g1'];exact cj _) (fun k hk=>by
        rw[g2 k (cy hk), Array.getElem?_push_lt hk,Array.getElem?_eq_getElem hk]) (hm.gens.bare (AllBare.push ok.bare hgb)) hm.os).simT sim1)
end
section
variable {c:aU} {W:Wd} {b:Str→Option Value} {V:Internal.V} {v:Value} {x y:Str} {rho:List (Str×Internal.V)} {names:List (Str×NameKind)} {α:Type}
theorem zb (h:Jw V=some V'):(Internal.plain V=true∧V'=V)∨∃l,V=.own l∧V'=.lst l:=by
  rcases V with⟨⟩<;>first|exact aX h|exact .inl ⟨rfl,sm h⟩|exact .inr ⟨_,rfl,sm h⟩
theorem pW (h:Jw V=some V'):Internal.plain V'=true∧Jw V'=some V':=by
  rcases V with⟨⟩<;>first|exact aX h|exact sm h▸⟨rfl,rfl⟩
structure P5 (rho:List (Str×Internal.V)) (names:List (Str×NameKind)) (n:Str) (u:Internal.V):Prop where
  free:(n,NameKind.free)∈names
  is:∃V,lk n rho=some V∧Jw V=some u
theorem pQ {k} (h:qN k=true):k=.free:=by rcases k with⟨⟩<;>first|rfl|exact bG h
theorem xn {u} (h:(x,u)∈lY rho names):P5 rho names x u:=by
  obtain⟨p,hm,e⟩:=k4.mp h
  refine bE e fun hf e=>aG e fun V e1 e=>?_
  obtain⟨w,e2,e3⟩:=ay.mp e
  injection e3 with e3 e4
  have hf:=pQ hf
  obtain⟨n,k⟩:=p
  subst hf e3 e4
  exact⟨hm,V,e1,e2⟩
theorem pK:lk y (dr rho F)=AQ (lk y F) (lk y rho):=by
  induction F with
  |nil=>rfl
  |cons p F ih=>
   show lk y (put _ _ _)=_
   rw[i9,cU]
   by_cases e:y=p.1
   ·rw[if_pos e,bp.mpr e.symm];rfl
   ·rw[if_neg e,jV (Ne.symm e)];exact ih
theorem xl (x:aZ c s b T W) (h:lk y s.rho=some V) (hf:Jw V=some V'):a_ c b T (iX s (put y V' s.rho)) W.G.S:=by
  have hk:=x.kn y V h
  refine(zb hf).elim (fun q=>?_) fun q=>q.elim fun l q=>?_
  ·have e:=q.2
   subst e
   exact .of ((Kp.mem x.fits (fun ζ ζ e=>e) rfl rfl).put x (fun hn=>x.nm y V' h hn) hk) rfl
  ·obtain⟨e1,e2⟩:=q
   subst e1 e2
   exact(x.nm y _ h Internal.V.noConfusion).casesOn fun v g o=>(Kp.freeze x.fits Pl.noConfusion (o.ownL rfl)).elim fun W' q=>.of ((q.2.1.weak fun ζ e=>.inl e).put x (fun ζ=>⟨v,g,.rep _ _ q.2.2⟩) hk) q.1
theorem nS:∀{F},(∀n u,(n,u)∈F→∃V,lk n s.rho=some V∧Jw V=some u)→a_ c b T s S→a_ c b T (iX s (dr s.rho F)) S
  |[],_,i=>i
  |(n,u)::F,h,i=>by
   obtain⟨V,h1,h2⟩:=h n u (bA ..)
   refine (nS (fun n u m=>h n u (aK _ m)) i).casesOn fun W x=>?_
   have e:lk n (dr s.rho F)=AQ _ _:=pK
   induction q:lk n F with
   |none=>
    rw[q,h1] at e
    exact xl x e h2
   |some w=>
    have e:=q▸e
    obtain⟨V2,g1,g2⟩:=h n w (aK _ (bM q))
    have e2:=sm (h1.symm.trans g1)
    subst e2
    have e3:=sm (h2.symm.trans g2)
    subst e3
    exact xl x e (pW h2).2
structure DR (env:Env) (l:List (Str×NameKind)) (cs0 cs:List (Str×Addr)) (x:Str):Prop where
  yes:(x,NameKind.free)∈l→cs.lookup x=env.cells.lookup x
  no:(x,NameKind.free)∉l→cs.lookup x=cs0.lookup x
theorem gv env:∀l cs,(∀p∈l,p.2=.free→∃cl,env.cells.lookup p.1=some cl)→
    ∃cs',(forIn l cs fun(x) r=>match x with|(name,kind)=>if(kind==NameKind.free)=true then(do let a←cellOf env name;pure (ForInStep.yield ((name,a)::r))) else pure (ForInStep.yield r):Sem _)=pure cs'∧∀x,DR env l cs cs' x
  |[],cs,_=>⟨cs,rfl,fun ζ=>⟨fun h=>(nomatch h),fun ζ=>rfl⟩⟩
  |(n,k)::l,cs,h=>by
   rw[jB]
   have hl:=fun p hp=>h p (aK _ hp)
   by_cases hk:k=NameKind.free
   ·subst hk
    obtain⟨cl,e⟩:=h _ (bA ..) rfl
    obtain⟨cs',e1,e2⟩:=gv _ l _ hl
    refine⟨cs',?_,fun x=>⟨fun hm=>?_,fun hn=>?_⟩⟩
    ·show(cellOf _ n>>=fun a=>_)>>=_=_
     rw[(show cellOf _ n=pure cl from by unfold cellOf;rw[show env.cells.lookup n=some cl from e])]
     exact e1
    ·by_cases hm':(x,NameKind.free)∈l
     ·exact(e2 x).yes hm'
     ·have hx:x=n:=(aL.mp hm).elim (fun q=>by injection q) fun q=>absurd q hm'
      subst hx
      rw[(e2 x).no hm',bq,beq_self_eq_true]
      exact e.symm
    ·rw[(e2 x).no fun q=>hn (aK _ q),bq,(show (x==n)=false from beq_eq_false_iff_ne.mpr fun q=>hn (q▸bA ..))]
   ·obtain⟨cs',e1,e2⟩:=gv _ l cs hl
    refine⟨cs',?_,fun x=>⟨fun hm=>(e2 x).yes ((aL.mp hm).elim (fun q=>absurd (by injection q with _ q;exact q.symm) hk) id),fun hn=>(e2 x).no fun q=>hn (aK _ q)⟩⟩
    dsimp only
    exact (if_neg fun q=>hk (eq_of_beq q))▸e1
theorem lH {sc} {env} (h:∀p∈sc.names,p.2=.free→∃cl,env.cells.lookup p.1=some cl):∃cs,closureFor sc env=pure cs∧∀x,DR env sc.names [] cs x:=by
  obtain⟨cs,e1,e2⟩:=gv _ _ [] h
  refine⟨cs,?_,e2⟩
  exact congrArg (· >>=pure) e1
end
section
variable {c:aU} {W:Wd} {b:Str→Option Value} {V:Internal.V} {v it:Value} {bW:List Internal.V} {n:Nat} {r:dN} {α:Type}
theorem bZ.imp {md} {R:α→β→St→Sh→Prop} {Q Q'} {E E'} {o} (a:bZ md R Q E o) (h:∀v S,Q v S→Q' v S) (g:∀v S,E v S→E' v S):bZ md R Q' E' o:=
  o.casesOn (fun ζ ζ a=>⟨a.1,fun v S r=>h _ _ (a.2 v S r)⟩) (fun ζ ζ ζ a=>⟨a.1,fun v S r=>g _ _ (a.2 v S r)⟩) (fun ζ=>id) a
theorem bZ.step {md} {δ ε:Type} {R:α→β→St→Sh→Prop} {Q} {R1:γ→δ→St→Sh→Prop} {Q'} {E'} {x:Tr γ} {k} (a:bZ md R Q ff ((x.bind k).run s)) (h:∀z v s' S,R1 z v s' S→bZ md R Q ff ((k z).run s')→Q' v S):bZ md R1 Q' E' (x.run s):=
  (bZ.split a).imp (fun v S z=>z.elim fun a' z=>z.elim fun s' z=>h a' v s' S z.1 z.2) fun v S z=>z.elim fun k z=>z.elim fun s' z=>(z.2 v S z.1).elim
theorem bZ.grd {md} {R:α→β→St→Sh→Prop} {Q} {E} {x} {k} {w} {p:Prop} (a:bZ md R Q E ((gT k w x).run s)) (h:k=true→bZ md R Q E (x.run s)→p):p:=
  k.casesOn (motive:=fun z=>k=z→bZ md R Q E ((gT z w x).run s)→p) (fun ζ a=>a.elim) (fun e a=>h e a) rfl a
theorem a_.dp (i:a_ c b T s S):s.dp=c.dp∧s.hd=c.hd:=i.casesOn fun W x=>⟨x.dp,x.hd⟩
theorem Do (x:aZ c s b (.more V v (.more U u (.more (.own l) (.ref D) T))) W) (hp:plain V=true) (hl:l.length<1000000) (k:∀S,a_ c b (.more U u (.more (.own (l++[V])) (.ref D) T)) s S→Q .none S):wpAny c.C.M A (PySem.call (.builtin "list.append") [.ref D,v]) Q E W.G.S:=
  (x.tm.2.2.1.ownL rfl).casesOn (motive:=fun w ζ=>w=.ref D→wpAny _ A _ Q E _) (fun a vs h r e=>by
    injection e with e
    subst e
    have ow:W.own a=some _:=h.casesOn fun o g ζ=>(cx.mp g).1
    refine list_append_plainL (h.casesOn fun o g z=>z _ (cx.mp g).2) (fun h' q1 q2=>?_) (by rw[eE,←r.len];exact aY (et hl (by decide)))
    have kp:Kp c W _ (W.mem {W.G.S with heap:=h'}):=Kp.write x.fits ow Pl.noConfusion (fun b o hb e=>(q2.2 b hb).trans e) (q1.elim fun o q=>q.elim fun n q=>⟨o,q.1⟩) rfl rfl
    exact k _ ⟨_,(((kp.weak (Pt.eq _)).simT x.pop.pop.pop).push (.own _ _ ⟨a,vs++[v],q1.elim fun o q=>q.elim fun n q=>⟨o,cx.mpr ⟨ow,q.1⟩,fun h e=>⟨o,n,e,q.2.1,q.2.2.1,by rw[q.2.2.2];simp⟩⟩,r.append (.cons _ _ _ _ (x.tm.1.to_rep hp) .nil)⟩)).push (kp.own (fun e=>fq _ (by injection e)) Pl.noConfusion x.tm.2.1)⟩) rfl
noncomputable def K_ (c:aU) (A:Around) (ifs:List Expr):d7 Bool:=fun Q E=>wpAny c.C.M A (forIn ifs true fun t k=>if k=true then do let ok←PySem.isTrue t c.env (eval t c.env);pure (ForInStep.yield ok) else pure (ForInStep.yield k)) Q E
theorem Ak (htr:iq PP n r.tr) (ge:GE PP n c A) ifs:J (pm c) (a_ c b T s) s (kQ r ifs) (K_ c A ifs) (PB c b T):=by
  induction ifs with
  |nil=>exact .by (.pure fun S i=>⟨rfl,i⟩) fun Q E S h=>wpAny_pure h
  |cons t ts=>
   refine .grd fun e=>?_
   have e:=aE.mp e
   subst e
   refine .by (htr t c b T A s ge) fun Q E S h=>?_
   unfold K_
   rw[jB]
   exact wpAny_bind (wpAny_bind (wpAny_mono h (fun k S h=>wpAny_pure (wpAny_pure h)) fun ζ ζ q=>q))
section
variable (hev:cr PP n r.ev) (htr:iq PP n r.tr) (ge:GE PP n c A) (hd:d<c.dp) (hh:c.hd=false)
include hev htr ge hd hh
theorem zn {t elt it0} {ifs} {sc} {pos} {R} (ht:∀v,letOwnedTupleGo t it v=pure ()) (i:a_ c b (.more (.itr d l 0 x0) it (.more (.own bW) (.ref D) T)) s S)
    (a:bZ (pm c) (fun out (_:Unit) s S=>∃b,a_ c b (.more (.own out) (.ref D) T) s S) (fun ζ S=>R (.ok .next) S) ff ((dT PP r t ifs elt l bW).run s)):codeAny c.C.M A (.compLoop (.ListComp elt [⟨t,it0,ifs,0⟩] sc pos) 0 it (.ref D) c.env) R S:=
  codeAny_compLoop_tests (fun m S=>∃l bW s b,m=List.length l∧a_ c b (.more (.itr d l 0 x0) it (.more (.own bW) _ T)) s S∧bZ _ _ _ ff ((dT PP r t _ _ l bW).run s)) (by
    rintro m S ⟨l,bW,s,b,rfl,i,a⟩
    have z:=i.dp
    have ob:=a.good ((dT PP r t _ _ l bW).mo s)
    cases l with
    |nil=>
     refine Hl (z.1▸hd) (z.2.trans hh) ge rfl S _ _ i (.rT ob fun o S w=>?_)
     obtain⟨b',T',⟨rfl,rfl,rfl⟩,j⟩:=w
     exact a.2 () S ⟨b',j⟩
    |cons y l=>
     refine nB (z.1▸hd) (z.2.trans hh) ge S _ _ i (.rT ob fun o S w=>?_)
     obtain⟨b',T',⟨rv,rfl,rfl,rfl⟩,j⟩:=w
     refine j7 ge.pt S _ _ j (bZ.step (ε:=Unit) a fun ζ ζ s1 S w a=>w.elim fun b1 j=>Ak htr ge _ S _ _ j (bZ.step (ε:=Unit) a fun k k' s2 S w a=>?_))
     obtain⟨rfl,j⟩:=w
     induction k' with
     |false=>exact⟨l.length,dk _,l,bW,s2,b1,rfl,j,a⟩
     |true=>
      refine hev _ c b1 _ A s2 ge S _ _ j (bZ.step (ε:=Unit) a fun V v s3 S w a=>a.grd fun g a=>?_)
      exact(a_.freeze w).casesOn fun W x=>Do x (aa.mp g).1 (ag (aa.mp g).2) fun S j=>⟨l.length,dk _,l,_,s3,b1,rfl,j,a⟩) _ ⟨l,bW,s,b,rfl,i,a⟩ ht
end
end
section
variable {c:aU} {W:Wd} {b:Str→Option Value} {V:Internal.V} {v it:Value} {L:Addr} {bW out:List Internal.V} {n:Nat} {r:dN} {α:Type} {p q:Pl} {sc:Scope} {cs:List (Str×Addr)} {x y:Str} {k:NameKind} {osc:List (Str×NameKind)} {m:Str→Option Value} {oL:Obj}
theorem aZ.swap (x:aZ c s b (.more U u (.more V v T)) W):a_ c b (.more V v (.more U u T)) s W.G.S:=
  have ne:∀{i j},i≠j→Pl.tmp i≠.tmp j:=fun h e=>h (by injection e)
  have n1:=(fq _).symm
  have n2:=(fq _).symm
  have n3:T.len≠T.len+2:=fun e=>absurd e (by lia)
  have k1:=Kp.move x.fits (ne n2) Pl.noConfusion Pl.noConfusion
  have k2:=Kp.move k1.fits (ne n1) Pl.noConfusion Pl.noConfusion
  have k3:=Kp.move k2.fits (ne n3.symm) Pl.noConfusion Pl.noConfusion
  have a1:=fZ (ne n2)
  have a2:=fZ (ne n1)
  have a3:=fZ (ne n3.symm)
  have le:∀{z i j},T.len≤i→T.len≤j→HW _ _ z→Pt T.len z:=fun h1 h2 e=>e.elim (fun e=>e▸.mk _ h1) fun e=>e▸.mk _ h2
  have kk:=((k1.weak fun z=>le (aA _ 1) (aA _ 2)).trans (k2.weak fun z=>le (aC _) (aA _ 1)) x.fits).trans (k3.weak fun z=>le (aA _ 2) (aC _)) x.fits
  have e1:=a3.trans ((k2.at_ _ (fun h=>h.elim (fun e=>ne n3 e.symm) fun e=>ne n2 e.symm) Pl.noConfusion).trans a1)
  have e2:=(k3.at_ _ (fun h=>h.elim (ne n2) fun e=>ne n1 e.symm) Pl.noConfusion).trans (a2.trans (k1.at_ _ (fun h=>h.elim (ne n1) (ne n3)) Pl.noConfusion))
  .of (((kk.simT x.pop.pop).push (e1.symm▸x.tm.1)).push (show gI _ _ _ _ V v from e2.symm▸x.tm.2.1)) rfl
noncomputable def K0 (_:Nat):=false
noncomputable def oh (k:Nat):Pl→Option Pl
  |.tmp j=>aM (Nat.ble k j) (some (.tmp j))
  |_=>none
theorem Gr {j} (h:kt≤j):oh kt (.tmp j)=some (.tmp j):=by
  show aM _ _=_
  rw[iF h];rfl
theorem tS (h:oh kt p=some q):p=q:=by
  induction p with
  |tmp j=>exact bE h fun ζ h=>sm h.symm
  |loc=>exact aX h
  |frame=>exact aX h
  |inst=>exact aX h
  |attr=>exact aX h
theorem Gq (h:oh kt p=some .frame):False:=by
  have e:=tS h
  subst e
  exact aX h
theorem JZ:l_ (fS (oh kt)) (fx K0 kt kt) (ic K0 kt) where
  eq:=ib
  no:=fun{p q} h g=>by
   have e:=ib h
   subst e
   induction q with
   |tmp j=>exact bE h fun hj ζ=>bE (fO g) fun hk ζ=>absurd (ag hk) (oJ (of_decide_eq_true hj))
   |inst r=>exact bG g
   |attr r n=>exact bG g
   |loc=>exact bG g
   |frame=>exact bG g
  dj:=(xJ (ps:=[])).dj
  fr:=.inl rfl
theorem tQ {z} (h:CO osc z=true):z.2=.local∨z.2=.globalImplicit∨(z.2=.free∧lk z.1 osc=some .cell):=by
  unfold CO at h
  induction hf:qN _ with
  |true=>rw[hf] at h;exact .inr (.inr ⟨pQ hf,of_decide_eq_true h⟩)
  |false=>rw[hf] at h;exact((dB _ _).mp h).imp of_decide_eq_true fun h=>.inl (of_decide_eq_true h)
structure iz (sc:Scope) (y:Str) (osc:List (Str×NameKind)):Prop where
  kind:sc.kind=.function
  nd:(sc.names.map (·.1)).Nodup
  k:∀z∈sc.names,z.2=.local∨z.2=.globalImplicit∨(z.2=.free∧lk z.1 osc=some .cell)
theorem zo (h:lE sc y osc=true):iz sc y osc:=
  have h1:=aa.mp h
  have h2:=aa.mp h1.2
  have h3:=aa.mp h2.2
  ⟨eq_of_beq h1.1,ij h3.1,fun z hz=>tQ (aB.mp h3.2 z hz)⟩
noncomputable def LE (env:Env) x k:=if(k==NameKind.free&&env.scope.kind==ScopeKind.function&&env.kindOf x==some NameKind.cell)=true then .cell else k
theorem kz:(compEnvC sc cs L env).kindOf x=(lk x sc.names).map (LE env x):=by
  show List.lookup x (sc.names.map _)=_
  rw[eR]
  induction sc.names with
  |nil=>rfl
  |cons p l ih=>
   rw[cw,bq,bq]
   refine ((show (if(p.2==NameKind.free&&env.scope.kind==ScopeKind.function&&env.kindOf p.1==some NameKind.cell)=true then(p.1,NameKind.cell) else(p.1,p.2))=(p.1,LE env p.1 p.2) from by unfold LE;split<;>rfl))▸?_
   induction q:x==p.1 with
   |true=>rw[eq_of_beq q];rfl
   |false=>exact ih
section
variable (h:iz sc y osc)
include h
theorem iz.free (ek:c.env.scope.kind=.function) (ec:c.env.kindOf x=some .cell) (e:lk x sc.names=some .free):(compEnvC sc cs L c.env).kindOf x=some .cell:=by
  rw[kz,e]
  unfold LE
  rw[ek,ec];rfl
theorem iz.up (e:lk x sc.names=some .free):lk x osc=some .cell:=(h.k _ (bM e)).elim (fun q=>nomatch q) fun q=>q.elim (fun q=>nomatch q) fun q=>q.2
theorem iz.nocell (e:lk x sc.names=some .cell) {R:Prop}:R:=(h.k _ (bM e)).elim (fun q=>nomatch q) fun q=>q.elim (fun q=>nomatch q) fun q=>nomatch q.1
theorem iz.lk' (e:(x,k)∈sc.names):lk x sc.names=some k:=(eR x _).trans (gO h.nd e)
end
structure kg (c:aU) (s:St) (b:Str→Option Value) (T:Tp) (U:Internal.V) (u:Value) (V:Internal.V) (v:Value) (W:Wd) (sc:Scope) (y:Str) (cs:List (Str×Addr)) (L:Addr) (F:List (Str×Internal.V)):Prop where
  x:aZ c s b (.more U u (.more V v T)) W
  sk:iz sc y c.sc
  ck:∀x,DR c.env sc.names [] cs x
  np:¬bH c W L
  nf:L∉bF c.fl
  ns:W.G.S.heap.Ns L fun ζ=>none
  h0:c.C.h₀.objs.size≤L
  F:∀n V,lk n F=some V→(n,NameKind.free)∈sc.names∧plain V=true∧lk n s.rho=some V
section
variable {y:Str} (e:kg c s b T U u V v W sc y cs L F)
include e
theorem kg.rel:p9 c W (· =L) (oh T.len) c.fl where
  fits:=e.x.fits
  new:=fun a h=>h▸⟨e.ns.elim fun o q=>q.elim fun es q=>q.elim fun ep q=>⟨o,q.1⟩,e.np⟩
  fr:=rfl
  nf:=fun p=>Gq
  fun_:=e.x.fits.fun_
  fm:=fun a=>.inl
  up:=fun a=>id
  nw:=fun a m h=>e.nf (h▸m)
noncomputable def CN (W:Wd) L k:=W.lab (oY (· =L) (oh k) W) (u7 (oh k) W)
noncomputable def oa (c:aU) W L k sc cs:=c.go W (fS (oh k)) (fun ζ=>none) (compEnvC sc cs L c.env) c.fl sc.names c.dp c.hd c.outs W.pi
theorem kg.at_ {j} (h:T.len≤j):(CN W L T.len).at (.tmp j)=W.at (.tmp j):=e.rel.at_ (Gr h) fun p' g=>tS g
theorem kg.sim (e1:s'.rho=F) (e2:s'.sc=sc.names) (e3:s'.dp=s.dp) (e4:s'.hd=s.hd) (e5:s'.outs=s.outs) (e6:∀k,s'.reg k=.taken):aZ (oa c W L T.len sc cs) s' (fun x=>aM (decide (lk x sc.names=some .free)) (b x)) (.more U u (.more V v (.nil T.len))) (CN W L T.len):=
  have cell:=fun x h=>e.x.env.sc x _ (e.sk.up h)
  have up:∀x,(compEnvC sc cs L _).kindOf x=some _→lk x _=some _:=fun x h=>by
    rw[kz] at h
    obtain⟨k,h1,h2⟩:=ay.mp h
    rw[h1]
    exact(e.sk.k _ (bM h1)).elim (fun q=>by subst q;trivial) fun q=>q.elim (fun q=>by subst q;trivial) fun q=>by have q:k=.free:=q.1;rw[q]
  have cl:=fun x h=>(e.ck x).yes (bM h)
  {fits:=e.rel.given.fits e.x.fits fun ζ ζ h=>h
   env:={
     sc:=fun x k h=>by
      have h:lk x sc.names=some k:=h
      show Bn k ((compEnvC sc cs L _).kindOf x)
      exact(e.sk.k _ (bM h)).elim fun q=>by subst q;rw[kz,h];rfl fun q=>q.elim fun q=>by subst q;rw[kz,h];rfl fun q=>by
        have q:=q.1
        subst q
        exact .inr (e.sk.free e.x.env.kind (cell x h) h)
     kind:=e.sk.kind
     globals:=e.x.env.globals
     builtins:=e.x.env.builtins
     frn:=e.h0
     cdj:=fun x y a h1 h2 h3 h4=>e.x.env.cdj x y a (cell x (up x h1)) (cell y (up y h2)) ((cl x (up x h1)).symm.trans h3) ((cl y (up y h2)).symm.trans h4)}
   sc:=e2
   dp:=e3.trans e.x.dp
   hd:=e4.trans e.x.hd
   ou:=e5.trans e.x.ou
   fr:={
    own:=ni rfl
    cell:=fun x a h ζ=>e.sk.nocell h
    ce:=fun x h=>e.sk.nocell h
    ns:=⟨_,e.ns,fun x w h=>bE h fun hk h=>by
     have hk:=of_decide_eq_true hk
     obtain⟨m,_,h2⟩:=e.x.fr.ns
     have ec:=cell x hk
     induction (h2 x w h) with
     |loc q1 q2=>exact nomatch ec.symm.trans q1
     |free a o q1 q2 q3 q4=>exact q1.elim (fun q=>nomatch ec.symm.trans q) fun q=>nomatch q.2.symm.trans (e.sk.up hk)
     |cell a q1 q2 q3 q4=>exact(e.x.fits.own a _ q4).ex.elim fun o q=>.free a o (.inr ⟨e.sk.free e.x.env.kind ec hk,hk⟩) ((cl x hk).trans q2) q3 (.inr (da e.x.fits q4 (fun h=>bG h) q))⟩}
   nm:=fun x X h1 h2=>by
    rw[e1] at h1
    have O:=e.F x X h1
    refine(e.x.nm x X O.2.2 h2).casesOn fun w q o=>⟨w,?_,.rep _ _ (o.to_rep O.2.1)⟩
    rw[e.sk.lk' O.1];exact q
   kn:=fun x X h1=>by
    have h1:=e1▸h1
    show nI (lk x sc.names)=true
    rw[e.sk.lk' (e.F x X h1).1];rfl
   rg:=fun k=>e6 k▸trivial
   tm:=⟨(e.at_ (cj _)).symm▸e.x.tm.1,(e.at_ (aC _)).symm▸e.x.tm.2.1,trivial⟩}
end
end
section
variable {c:aU} {W:Wd} {b:Str→Option Value} {V:Internal.V} {v it:Value} {L:Addr} {bW out:List Internal.V} {n:Nat} {r:dN} {α:Type} {Q':Value→Shared→Prop} {p q:Pl} {sc:Scope} {cs:List (Str×Addr)} {x y:Str} {use:Option (Value→Sem Unit)}
theorem aS.noI {C} {fz} {pi pi'} {vs} (r:aS C fz pi l vs):l.all (noI 20)=true→aS C fz pi' l vs:=
  r.ind (m:=fun l vs=>l.all _=true→aS C fz _ l vs) (fun ζ=>.nil) fun V v Vs vs h ζ i e=>.cons _ _ _ _ (h.noI 20 (aa.mp e).1) (i (aa.mp e).2)
theorem bZ.opt {md} {R:α→β→St→Sh→Prop} {Q} {E} {k:γ→Tr α} {w} {p:Prop} {o} (a:bZ md R Q E ((oT o w k).run s)) (h:∀z,o=some z→bZ md R Q E ((k z).run s)→p):p:=
  o.casesOn (motive:=fun z=>o=z→bZ md R Q E ((oT z w k).run s)→p) (fun ζ a=>a.elim) (fun z e a=>h z e a) rfl a
set_option backward.match.sparseCases false in
theorem bZ.noErr {md} {R:α→β→St→Sh→Prop} {Q} {E} {x} (a:bZ md R Q E ((noErr x).run s)):bZ md R Q ff (x.run s):=by
  revert a
  show bZ md R Q E (match x.run s with|.err c v s'=>.stuck _|o=>o)→_
  induction x.run s with
  |ok a s'=>exact id
  |err=>exact fun a=>a.elim
  |stuck=>exact id
inductive zI (c:aU) (b:Str→Option Value) (T:Tp) (out:List Internal.V) (s:St) (D L:Addr):Shared→Prop
  |mk (W:Wd) (m:Str→Option Value):aZ c s b (.more (.own out) (.ref D) T) W→¬bH c W L→L∉bF c.fl→W.G.S.heap.Ns L m→zI c b T out s D L W.G.S
theorem vN (e:kg c s b T U u V v W sc y cs L F) (hn:out.all (noI 20)=true) (h:v8 K0 s s3 s4) (i:a_ (oa c W L T.len sc cs) b3 (.more (.own out) (.ref D) (.nil T.len)) s3 S):zI c b T out s4 D L S:=i.casesOn fun W3 x3=>by
  have lv:cH c W W3 _ _ _ _ _ _ _ _ _ _ _ _ _ _ _:=⟨e.x.fits,e.rel.given,x3.fits,x3.fits.fun_,JZ,fun ζ ζ h=>h,fun ζ ζ=>rfl⟩
  have fo:=x3.fits.own _ _ x3.fr.own
  refine(x3.tm.1.ownL rfl).casesOn (motive:=fun v ζ=>v=.ref D→zI c b T _ s4 D L _) (fun a vs h1 r e2=>?_) rfl
  have o1:gI c.C _ W.pi _ _ _:=.own _ _ ⟨a,vs,h1,r.noI hn⟩
  rw[e2] at o1
  exact x3.fr.ns.elim fun m ns=>⟨dP W W3 _ _ _,m,(lv.sim e.x.pop.pop (fun r h=>bG h) x3.rg h).push (lv.val o1),fun pr=>pr.casesOn (fun p q=>cZ q (fun p' g1 g2=>by
    have z:=sm (x3.fr.own.symm.trans g1)
    subst z
    exact aX g2) fun p' g1 ζ=>e.np (.own p' g1)) (fun o q=>aX (fo.fzn.symm.trans q)) (fun o q=>aX (fo.otn.symm.trans (dU q))) fun q=>fo.tbn q,e.nf,ns.1⟩
variable (hev:cr PP n r.ev) (htr:iq PP n r.tr) (ge:GE PP n c A)
include hev htr ge
theorem Gp {t elt it0} {ifs} {pos} {hg} (ht:∀v,letOwnedTupleGo t it v=pure ()) (e:kg c (iX s (dr s.rho (lY s.rho sc.names))) b T (.itr d l 0 x0) it (.own []) (.ref D) W sc y cs L (lY s.rho sc.names)) (hd:d<c.dp) (hh:c.hd=false)
    (a:bZ (pm c) (fun out (v:Addr×Addr) s S=>zI c b T out s v.1 v.2 S) (fun v S=>compPost c.C.M A E use Q' (.ref v.1) v.2 (.ok .next) S) E ((pX (j4 sc) (lF sc) hg (noErr ((dT PP r t ifs elt l []).bind fun out=>gT (out.all (noI 20)) "comp value" (rT out)))).run s)):
    codeAny c.C.M A (.compStart (.ListComp elt [⟨t,it0,ifs,0⟩] sc pos) 0 it (.ref D) (compEnvC sc cs L c.env)) (compPost c.C.M A E use Q' (.ref D) L) W.G.S:=by
  have xc:=e.sim (s':=j4 sc s) rfl rfl rfl rfl rfl fun k=>by match k with|0=>rfl|1=>rfl|2=>rfl|3=>rfl|_+4=>rfl
  have a2:=bZ.noErr (bZ.fr (c2:=oa c W L T.len sc cs) (β':=Unit) (R2:=fun out ζ s' S=>(∃b3,a_ (oa c W L _ sc cs) b3 (.more (.own out) (.ref D) _) s' S)∧out.all _=true) a (fun ζ=>rfl)
    (fun out s' hq ζ S r=>r.1.elim fun b3 i=>hq (D,L) S (vN e r.2 ⟨rfl,rfl,rfl,rfl,rfl,fun r=>.inr (.inl ⟨rfl,by trivial⟩)⟩ i)) fun ζ ζ ζ ζ ζ ζ=>trivial)
  have loop:codeAny _ A (.compLoop (.ListComp _ [⟨t,it0,ifs,0⟩] sc pos) 0 it _ _) _ _:=
    zn (c:=oa c W L _ sc cs) hev htr ⟨ge.pt,ge.hd,ge.dep,ge.un,ge.fr⟩ hd hh ht (.of xc rfl) (bZ.step (ε:=Unit) a2 fun out ζ s' S r a=>a.grd fun g a=>a.2 () S ⟨r,g⟩)
  refine codeAny_compStart_list loop ?_
  induction xc.tm.1.itrI rfl with|mk p0 I h1 h2 h3=>
  exact h2.iter l _ A (CN W L _) _ _ _ rfl Pl.noConfusion xc.fits h3 loop
theorem CR {t elt it0} {ifs} {pos} (ht:∀it v,letOwnedTupleGo t it v=pure ()) (hsc:iz sc y c.sc) (hcl:∀x,DR c.env sc.names [] cs x) (i:a_ c b (.more V v T) s S)
    (a:bZ (pm c) (fun out (v:Addr×Addr) s S=>zI c b T out s v.1 v.2 S) (fun v S=>compPost c.C.M A E use Q' (.ref v.1) v.2 (.ok .next) S) E ((tR PP r t ifs elt sc V).run s)):
    wpAny c.C.M A (pyIter v) (fun it s₂=>wpAny c.C.M A (newList []) (fun bW s₃=>wpAny c.C.M A (newFunctionEnv sc c.env.globals cs [] c.env.qual none .none (some c.env)) (fun cenv s₄=>
      codeAny c.C.M A (.compStart (.ListComp elt [⟨t,it0,ifs,0⟩] sc pos) 0 it bW {cenv with scope:=relabel sc c.env}) (compPost c.C.M A E use Q' bW cenv.locals) s₄) E s₃) E s₂) E S:=
  a.opt fun q hq a=>bZ.grd a fun g a=>by
  have g:=aa.mp g
  refine hR fun O U=>?_
  obtain⟨d,l,e0,x0⟩:=q
  have he0:=aj g.1
  subst he0
  refine U ?_
  have z:=i.dp
  refine i.casesOn fun W x=>qJ x hq fun it S i=>?_
  refine(nS (F:=lY _ sc.names) (fun n u m=>(xn m).is) i).casesOn fun W x=>wpAny_newObj_type ?_
  refine(a_.list (S':={W.G.S with heap:=W.G.S.heap.push _}) x rfl rfl .nil rfl).casesOn fun W x=>?_
  refine x.swap.casesOn fun W x=>(wpAny_newFunctionEnv (fun z hz e=>(hsc.k z hz).elim (fun q=>nomatch q.symm.trans e) fun q=>q.elim (fun q=>nomatch q.symm.trans e) fun q=>nomatch q.1.symm.trans e) (fun ζ h=>nomatch h) (fun h' hns hsb=>?_) hsc.kind)
  have fresh:=bK W.G.S.heap
  have e:kg c _ b T _ it _ _ _ sc y cs _ (lY s.rho _):=⟨(x.mem (S':={W.G.S with heap:=h',toks:=W.G.S.toks+([]:List (Str×Value)).length}) (fun a o q=>(hsb.2 a fun e=>aX (fresh.symm.trans (e▸q))).trans (Heap.get?_push_of_some _ q)) rfl rfl),hsc,hcl,fun p=>x.fits.free fresh p.mem,x.fits.fmfree fresh,hns,x.h0,fun n V h=>by
    refine⟨(xn (bM h)).free,(xn (bM h)).is.elim fun V0 q=>(pW q.2).1,?_⟩
    show lk n (dr _ _)=_
    rw[pK,h];rfl⟩
  exact Gp hev htr ge (ht it) e (z.1▸ag (aa.mp g.2).2) (z.2.symm.trans ((ao _).mp (aa.mp g.2).1)) a
end
section
variable {c:aU} {W:Wd} {b:Str→Option Value} {V:Internal.V} {v ex:Value} {L:Addr} {out:List Internal.V} {n k:Nat} {r:dN} {α:Type} {sc:Scope} {m:Str→Option Value} {oL:Obj} {elt t:Expr} {gens:List Comprehension} {ps:Pos} {g:Comprehension}
theorem J.optB {md} {I} {m} {R:α→β→St→Sh→Prop} {δ} {o} {w} {f:δ→Tr γ} {k} (h:∀z,o=some z→J md I s ((f z).bind k) m R):J md I s ((oT o w f).bind k) m R:=
  o.casesOn (motive:=fun z=>o=z→J md I s ((oT z w f).bind k) m R) (fun ζ S Q E i a=>a.elim) (fun z e=>h z e) rfl
theorem aZ.off (x:aZ c s b T W) (np:¬bH c W L) (nf:L∉bF c.fl) (hs:Heap.SameBut L W.G.S.heap h'):aZ c s b T (W.mem {W.G.S with heap:=h'}):=
  (Kp.slots x.fits (fun a o p ζ e=>(hs.2 a fun q=>np (q▸p)).trans e) fun a m o e=>⟨o.slots,(hs.2 a fun q=>nf (q▸m)).trans e⟩).simT x
open Classical in
noncomputable def aU.hold (c:aU) L o:={c with ot:=⟨fun a=>if a=L then some o else c.ot.h a,c.ot.g⟩}
open Classical in
theorem xd (h:a≠L):(c.hold L oL).ot.h a=c.ot.h a:=if_neg h
open Classical in
theorem mE {o} {R:Prop} (h:(c.hold L oL).ot.h a=some o) (h1:a=L→o=oL→R) (h2:a≠L→c.ot.h a=some o→R):R:=
  (Classical.em _).elim (fun e=>h1 e (sm ((if_pos e).symm.trans h))) fun e=>h2 e ((if_neg e).symm.trans h)
theorem FN (np:¬bH c W L) {p} (h:W.own a=some p) (ho:c.ot.h a=none):(c.hold L oL).ot.h a=none:=(xd fun q=>np (.own p (by subst q;exact h))).trans ho
theorem kJ {o} (np:c.ot.h L=none) (h:c.ot.h a=some o):(c.hold L oL).ot.h a=some o:=(xd fun q=>aX (np.symm.trans (q▸h))).trans h
theorem nD (np:¬bH c W L):c.ot.h L=none:=bP fun o h=>np (.ot o h)
theorem aZ.hold (x:aZ c s b T W) (np:¬bH c W L) (nf:L∉bF c.fl) (e:W.hp L=some oL):aZ (c.hold L oL) s b T W:=
  have f:=x.fits
  {x with
   fits:={f with
     own:=fun a p h=>(f.own a p h).casesOn fun o h1 h2 h3 h4 h5=>⟨o,h1,h2,h3,FN np h h4,h5⟩
     ot:=fun a o h=>mE h (fun e1 e2=>by
      subst e1 e2
      exact⟨.same e,bP fun y q=>np (.fz y q),fun q=>np (.tb q)⟩) fun ζ h=>(f.ot a o h).casesOn fun h1 h2 h3=>⟨h1,h2,h3⟩
     fo:=fun a m=>(f.fo a m).imp id fun z=>z.imp fun o z=>kJ (nD np) z}
   env:=⟨x.env.sc,x.env.kind,x.env.globals,x.env.builtins,x.env.frn,x.env.cdj⟩
   fr:=⟨x.fr.own,x.fr.cell,x.fr.ce,x.fr.ns.imp fun m h=>⟨h.1,fun y v e=>(h.2 y v e).casesOn (fun q1 q2=>.loc q1 q2) (fun cl q1 q2 q3 q4=>.cell cl q1 q2 q3 q4) fun cl o q1 q2 q3 q4=>.free cl o q1 q2 q3 (q4.imp id fun z=>kJ (nD np) z)⟩⟩}
theorem bH.hold (np:c.ot.h L=none) (h:bH c W a):bH (c.hold L oL) W a:=h.casesOn (fun p h=>.own p h) (fun o h=>.fz o h) (fun o h=>.ot o (kJ np h)) fun h=>.tb h
theorem aZ.unhold (x:aZ (c.hold L oL) s b T W) (np:c.ot.h L=none) (nf:L∉bF c.fl) (nc:∀v,oL.data≠.cell v):aZ c s b T W:=
  have f:=x.fits
  {x with
   fits:={f with
     own:=fun a p h=>(f.own a p h).casesOn fun o h1 h2 h3 h4 h5=>⟨o,h1,h2,h3,bP fun y q=>aX (h4.symm.trans (kJ np q)),h5⟩
     ot:=fun a o h=>(f.ot a o (kJ np h)).casesOn fun h1 h2 h3=>⟨h1,h2,h3⟩
     fo:=fun a m=>(f.fo a m).imp id fun z=>z.imp fun o z=>mE z (fun e ζ=>absurd (e▸m) nf) fun ζ h=>h}
   env:=⟨x.env.sc,x.env.kind,x.env.globals,x.env.builtins,x.env.frn,x.env.cdj⟩
   fr:=⟨x.fr.own,x.fr.cell,x.fr.ce,x.fr.ns.imp fun m h=>⟨h.1,fun y v e=>(h.2 y v e).casesOn (fun q1 q2=>.loc q1 q2) (fun cl q1 q2 q3 q4=>.cell cl q1 q2 q3 q4) fun cl o q1 q2 q3 q4=>.free cl o q1 q2 q3 (q4.imp id fun z=>mE z (fun e1 e2=>by
    subst e1 e2
    exact q3.elim fun o' q=>absurd ((congrArg _ (sm (((f.ot _ _ z).up.off nf).symm.trans q.1))).symm.trans q.2) (nc _)) fun ζ h=>h)⟩⟩}
theorem kK (x:aZ (c.hold L oL) s b T W) (nf:L∉bF c.fl) (np:c.ot.h L=none):W.hp L=some oL∧¬bH c W L:=
  have e:=if_pos rfl
  have z:=x.fits.ot L oL e
  ⟨z.up.off nf,fun p=>p.casesOn (fun q h=>aX ((x.fits.own L q h).otn.symm.trans e)) (fun o h=>aX (z.fzn.symm.trans h)) (fun o h=>aX (np.symm.trans h)) z.tbn⟩
theorem oV.unhold (np:c.ot.h L=none) (nf:L∉bF c.fl) (nc:∀v,oL.data≠.cell v) (i:oV (c.hold L oL) k ex s S):oV c k ex s S:=i.casesOn fun W b x e=>⟨W,b,x.unhold np nf nc,e.casesOn fun e base dx h1 h2 h3 h4=>⟨e,base,dx,h1,fun p=>h2 (p.hold np),fun a o p=>h3 a o (p.hold np),h4⟩⟩
end
section
variable {c:aU} {W:Wd} {b:Str→Option Value} {V:Internal.V} {v ex:Value} {L:Addr} {out:List Internal.V} {n k:Nat} {r:dN} {α:Type} {sc:Scope} {elt t e:Expr} {gens:List Comprehension} {ps:Pos} {g:Comprehension}
theorem a_.scn (i:a_ c b T s S):s.sc=c.sc:=i.casesOn fun W x=>x.sc
noncomputable def Ie (c:aU) (A:Around) (elt:Expr) (g:Comprehension) (sc:Scope) (pos:Pos):d7 (Addr×Addr):=fun Q E S=>∀use Q' q,(∀v S,Q v S→compPost c.C.M A E use Q' (.ref v.1) v.2 (.ok .next) S)→
  wpAny c.C.M A (comprehension (.ListComp elt [g] sc pos) sc c.env q (newList []) (firstAsync [g]) (firstIter [g] c.env) use) Q' E S
noncomputable def MK (P:PT) (r:dN) (elt:Expr) (sc:Scope) (g:Comprehension):=oT (jt g.target) "comp" fun x=>aT fun s=>gT (decide (g.is_async=0)&&(lE sc x.1 s.sc&&fF g.iter)) "comp" ((r.ev g.iter).bind (tR P r g.target g.ifs elt sc))
noncomputable def P2 c b T out (v:Addr×Addr) s S:=zI c b T out s v.1 v.2 S
section
variable (hev:cr PP n r.ev) (htr:iq PP n r.tr) (ge:GE PP n c A)
include hev htr ge
theorem xE:J (pm c) (a_ c b T s) s (MK PP r elt sc g) (Ie c A elt g sc pos) (P2 c b T):=fun S Q E i a=>a.opt fun q hq a=>bZ.grd a fun hg a=>by
  have hg:=aa.mp hg
  obtain⟨t,it0,ifs,ia⟩:=g
  have hq:=cR hq
  have hia:ia=0:=of_decide_eq_true hg.1
  subst hq hia
  have hsc:=i.scn▸zo (aa.mp hg.2).1
  obtain⟨cs,e1,e2⟩:=lH fun z hz e=>(hsc.k z hz).elim (fun q=>nomatch q.symm.trans e) fun q=>q.elim (fun q=>nomatch q.symm.trans e) fun q=>i.casesOn fun W x=>(x.fr.ce _ q.2).imp fun cl q=>q.elim fun v q=>q.1
  exact fun use Q' qual hQ => wpAny_comprehension_free rfl (nV (aa.mp hg.2).2 _) e1 hsc.kind (fun z hz e=>gO hsc.nd (e▸hz)) (hev _ c b T A s ge S _ _ i ((bZ.split a).imp (fun v S z=>z.elim fun V z=>z.elim fun s1 z=>CR hev htr ge (fun ζ ζ=>rfl) hsc e2 z.1 (z.2.imp hQ fun ζ ζ h=>h)) fun v S z=>z.elim fun k z=>z.elim fun s' z=>z.2 v S z.1))
end
noncomputable def I8 (c:aU) (f:Value→d7 β) (v:Addr×Addr):d7 β:=fun Q E S=>∃m,S.heap.Ns v.2 m∧∀h',Heap.SameBut v.2 S.heap h'→f (.ref v.1) Q E {S with heap:=h'}
theorem wV {v} {x:Tr α} {f:Value→d7 β} {R} (j:∀u,J (pm c) (a_ c b (.more (.own out) u T) s) s x (f u) R):J (pm c) (P2 c b T out v s) s x (I8 c f v) R:=fun S Q E i a=>i.casesOn fun W m x np nf ns=>⟨m,ns,fun h' hs=>j _ _ _ _ (.of (x.off np nf hs) rfl) a⟩
theorem Mw (hev:cr PP n r.ev) (htr:iq PP n r.tr):ma PP n (.ListComp elt gens sc pos) ((rj PP r elt gens sc).bind fun l=>rT (.own l)):=fun c b T A s ge=>J.optB fun g hg=>by
  have e:=dD hg id
  subst e
  exact .by (.bind (xE hev htr ge) fun out v s1=>wV fun u=>.pure fun S i=>i) fun Q E S h=>by
    exact h _ Q _ fun v S q=>q
noncomputable def Id (c:aU) (A:Around) (t:Expr) (v:Addr×Addr):d7 Flow:=fun Q E S=>wpAny c.C.M A (assign t c.env (.ref v.1)) (fun ζ S=>∃m,S.heap.Ns v.2 m∧∀h',Heap.SameBut v.2 S.heap h'→Q .next {S with heap:=h'}) E S
theorem Lm {v} (hp:c.C.P=PP):J (pm c) (P2 c b T out v s) s (de (iK PP t (.own out))) (Id c A t v) (Zs (a_ c) (Zx T)):=fun S Q E i a=>i.casesOn fun W m x np nf ns=>by
  obtain⟨o,es,ep,h1,h2,h3⟩:=ns
  have nc:∀w,o.data≠.cell w:=fun w e=>nomatch h2.symm.trans e
  have no:=nD np
  have a1:=bZ.split (R1:=PA (c.hold v.2 o) T) a
  refine j7 (c:=c.hold _ o) hp _ _ _ ⟨W,x.hold np nf h1⟩ ?_
  revert a1
  induction (iK PP t _).run s with
  |ok z s1=>exact fun a1=>⟨a1.1,fun ζ S w=>(a1.2 () S w).elim fun ζ z=>z.elim fun s2 z=>z.1.elim fun b' w=>w.casesOn fun W' y=>
   have is:=kK y nf no
   ⟨m,⟨o,es,ep,is.1,h2,h3⟩,fun h' hs=>z.2.2 _ _ ⟨b',T,⟨rfl,rfl⟩,.of ((y.unhold no nf nc).off is.2 nf hs) rfl⟩⟩⟩
  |err k w s1=>exact fun a1=>⟨a1.1,fun v S w=>(a1.2 v S (w.unhold no nf nc)).elim fun k z=>z.elim fun s' z=>z.2 v S z.1⟩
  |stuck=>exact id
theorem I9 {R:Prop} {q} (h:I_ e=some q) (k:∀ps,e=.ListComp q.1 q.2.1 q.2.2 ps→R):R:=by rcases e with⟨⟩<;>first|exact aX h|(have e:=sm h;subst e;exact k _ rfl)
theorem Ex (hn:n≤90) (hev:cr PP n r.ev) (htr:iq PP n r.tr) q (he:I_ e=some q) (ht:jb t=true):oU PP (.Assign [t] e pos) ((rj PP r q.1 q.2.1 q.2.2).bind fun l=>de (iK PP t (.own l))):=fun env b T s c A h1 hf ge=>h1▸J.optB fun g hg=>by
  have e1:=dD hg id
  obtain⟨elt,gens,sc⟩:=q
  subst e1
  refine I9 he fun ps he=>?_
  subst he
  refine .by (m:=(Ie c A elt g sc ps).bind fun v Q E S=>I8 c (mS c A t (.ListComp elt [g] sc ps)) v Q E S∧Id c A t v Q E S) (.bind (xE hev htr (ge.le hn)) fun out v s1 S Q E i a=>⟨wV (fun u=>uX ge.pt) S Q E i a,Lm ge.pt S Q E i a⟩) fun Q E S h=>wpAny_bind (wpAny_standAt ?_)
  obtain⟨b,hsw⟩:∃b,swapsWithSole [t] (.ListComp elt [g] sc ps) _ c.env=pure b:=by rcases t with⟨⟩<;>first|exact bG ht|exact⟨_,rfl⟩
  rw[hsw]
  refine wpAny_bind (wpAny_pure ?_)
  induction b with
  |false=>
   exact wpAny_bind (h _ _ _ fun v S q=>q.1)
  |true=>
   refine wpAny_bind ?_
   rcases t with⟨⟩<;>first|exact bG ht|skip
   exact wpAny_bind (h _ _ _ fun v S q=>wpAny_mono q.2 (fun ζ S z=>z.imp fun m z=>⟨z.1,fun h' hs=>wpAny_pure (wpAny_pure (z.2 h' hs))⟩) fun ζ ζ z=>z)
end
section
variable {c:aU} {W:Wd} {b:Str→Option Value} {V:Internal.V} {v w:Value} {n:Nat} {r:dN} {e t:Expr} {k:List Nat} {C:Cf} {vs:List Internal.V} {p:Pl}
theorem vw {a b:List _} (h:a≠b):¬(⟨a.toArray⟩:Str)=⟨b.toArray⟩:=fun e=>h (by simpa using congrArg Str.cps e)
theorem gI.ownD {ρ} {d} (h:gI C fz pi ρ V v):Dm V=some d→wb C fz pi d.1 d.2 ρ v:=
  h.casesOn (fun V v r e=>bG ((congrArg _ (rA e)).symm.trans r.plain)) (fun ζ ζ ζ=>aX) (fun ζ ζ ζ ζ ζ ζ=>aX) (fun ζ ζ ζ o e=>sm e▸o) fun ζ=>aX
theorem oA:∀ks (ws:List Value),ks.length=ws.length→((bU ks).zip ws).any fun kv=>kv.1=⟨k.toArray⟩=ks.any fun q=>decide (q=k)
  |[],_,_=>rfl
  |_::_,[],h=>nomatch h
  |q::ks,w::ws,h=>by
   have e2:(decide ((⟨q.toArray⟩:Str)=⟨k.toArray⟩)||((bU ks).zip ws).any (fun kv=>kv.1=⟨k.toArray⟩))=(decide (q=k)||ks.any fun q=>decide (q=k)):=?_
   exact e2
   rw[oA ks ws (Nat.succ.inj h)]
   by_cases e:q=k
   ·rw[e,decide_eq_true rfl,decide_eq_true rfl]
   ·rw[decide_eq_false e,decide_eq_false (vw e)]
theorem wQ:∀ks ws,k∉ks→((bU ks).zip ws).map (fun kv=>if kv.1=⟨k.toArray⟩ then(kv.1,w) else kv)=(bU ks).zip ws
  |[],_,_=>rfl
  |_::_,[],_=>rfl
  |q::ks,v::ws,h=>by
   show(if(⟨q.toArray⟩:Str)=⟨k.toArray⟩ then _ else _)::_=(⟨q.toArray⟩,v)::(bU ks).zip ws
   exact (if_neg (vw fun e=>h (aL.mpr (.inl e.symm))))▸congrArg _ (wQ ks ws fun q=>h (aK _ q))
structure M1 (C:Cf) (fz:Fz) (pi:Pi) (k:List Nat) (V:Internal.V) (w:Value) (ks:List (List Nat)) (vs:List Internal.V) (ws ws':List Value):Prop where
  st:stored ((bU ks).zip ws) ⟨k.toArray⟩ w=(bU (lp k V ks vs).1).zip ws'
  len:(lp k V ks vs).1.length=ws'.length
  r:aS C fz pi (lp k V ks vs).2 ws'
theorem uW (hw:cP C fz pi V w) (r:aS C fz pi vs ws):∀{ks},ks.length=ws.length→ks.Nodup→∃ws',M1 C fz pi k V w ks vs ws ws':=
  r.ind (m:=fun vs ws=>∀{ks},ks.length=ws.length→ks.Nodup→∃ws',M1 C fz pi k V w ks vs ws ws') (fun{ks}=>ks.casesOn (fun ζ ζ=>⟨[w],rfl,rfl,.cons _ _ _ _ hw .nil⟩) fun ζ ζ h=>nomatch h) fun x y vs ws rx r ih {ks}=>ks.casesOn (fun h=>nomatch h) fun q ks h nd=>by
    have o:=dA.mp nd
    have hl:=Nat.succ.inj h
    have ak:=oA (k:=k) _ _ h
    by_cases e:q=k
    ·subst e
     refine⟨w::ws,?_,?_,?_⟩
     ·unfold stored lp
      rw[ak,iM,decide_eq_true rfl,if_pos rfl]
      show(if(⟨q.toArray⟩:Str)=⟨q.toArray⟩ then _ else _)::((bU ks).zip ws).map _=_
      rw[if_pos rfl]
      exact congrArg _ (wQ ks ws o.1)
     ·unfold lp;rw[if_pos rfl];exact h
     ·unfold lp;rw[if_pos rfl];exact .cons _ _ _ _ hw r
    ·obtain⟨ws',z⟩:=ih hl o.2
     have hp:lp k V (q::ks) (x::vs)=(q::(lp k V ks vs).1,x::(lp k V ks vs).2):=by
       show(if q=k then _ else _)=_
       rw[if_neg e]
     refine⟨y::ws',?_,?_,?_⟩
     ·rw[hp]
      have h1:=z.st
      unfold stored at h1⊢
      rw[oA ks ws hl] at h1
      rw[ak,iM,decide_eq_false e]
      show(if(false||ks.any _)=true then List.map _ ((⟨q.toArray⟩,y)::(bU ks).zip ws) else(⟨q.toArray⟩,y)::(bU ks).zip ws++[_])=(⟨q.toArray⟩,y)::(bU _).zip _
      rw[←h1,iP]
      split
      ·rw[cw,if_neg (vw e)]
      ·rfl
     ·rw[hp];exact congrArg _ z.len
     ·rw[hp];exact .cons _ _ _ _ rx z.r
theorem vh {ks} (hl:ks.length=ws.length) (h:(((bU ks).zip ws).map (·.1)).Nodup):ks.Nodup:=by
  rw[G4 (by unfold bU;rw[au,hl];exact aC _)] at h
  exact(List.pairwise_map.mp h).imp fun hn e=>hn (by rw[e])
theorem IJ {q} (h:LA t=some q):∃p,t=.Subscript q.1 q.2 p:=by rcases t with⟨⟩<;>first|exact aX h|(have e:=sm h;subst e;exact⟨_,rfl⟩)
theorem EM {P} (h:lg P e s=some V):E9 e=true:=dE h (fun k e1 ζ=>(n8 e1).elim fun ζ e=>e.elim fun ζ e=>e▸rfl) fun h=>dE h (fun q e1 ζ=>cR e1▸rfl) fun h=>aG h fun z e1 ζ=>(Ht e1).elim fun ζ e=>e▸rfl
theorem uR {q} (ht:LA t=some q):oU PP (.Assign [t] e pos) (aT fun s=>oT (lg PP e s) "setitem" fun v=>oT (lg PP q.2 s) "setitem" (Internal.setItem q.1 v)):=fun env b T s c A he hf ge=>he▸
  .look (.opt fun V hv=>.opt fun K hk=>.look (.opt fun d hd=>.opt fun k hkk=>.grd fun hp=>.poke fun s' hs=>.need' fun hlen S Q E i an=>i.casesOn fun W x=>by
    obtain⟨pt,ht⟩:=IJ ht
    subst ht
    have hK:=j8 hkk
    subst hK
    obtain⟨dv,hpk,hd⟩:=aw.mp hd
    have hd:=rA hd
    subst hd
    rw[exec_Assign_Subscript _ _ _ _ _ (gN (EM hv))]
    refine wpAny_bind (wpAny_standAt (wpAny_bind (mO (ge.pt▸hv) x fun v S1 t1 r1=>wpAny_bind (wpAny_bind (wpAny_holding (fW hpk ((x.mem (fun a o e=>by rw[t1.heap];exact e) t1.gens t1.os).push (.rep _ _ r1)) fun ov p W2 t2 x2 pk=>wpAny_bind (wpAny_holding (mO (ge.pt▸hk) x2 fun kv S3 t3 rk=>?_))))))))
    have x3:=(x2.mem (fun a o e=>by rw[t3.heap];exact e) t3.gens t3.os).pop
    have pk3:=pk.tk x2 t3
    induction rk.inv with|mk tt=>
    refine(pk3.own.ownD rfl).casesOn (fun a ws hat hl hr pk3=>?_) pk3
    obtain⟨o,g1,g2⟩:=id hat
    have g1:=cx.mp g1
    have nd:d.1.Nodup:=by
      obtain⟨_,_,_,_,_,_,_,_,nd⟩:=id (g2 _ g1.2)
      exact vh hl nd
    obtain⟨ws',z⟩:=uW (x2.tm.1.to_rep hp) hr hl nd
    refine wpAny_bind (wpAny_standAt (wpAny_bind (wpAny_holding (wpAny_setItem_pairs (strKind_is _ _ _ tt) (g2 _ g1.2) (fun h' hd' hs'=>wpAny_release' (wpAny_pure ?_)) (by
      rw[List.length_zip,Kk (by unfold bU;rw[au,hl];exact aC _)]
      unfold bU
      rw[au]
      exact ac (ag hlen) (by decide))))))
    rw[z.st] at hd'
    have kp:Kp c _ _ ((W2.mem S3).mem {S3 with heap:=h',toks:=S3.toks+1}):=Kp.write x3.fits g1.1 pk3.nofr (fun b o hb e=>(hs'.2 b hb).trans e) (hd'.elim fun o q=>q.elim fun es q=>q.elim fun ep q=>⟨o,q.1⟩) rfl rfl
    exact an.2 _ _ ⟨b,T,⟨rfl,rfl⟩,(a_.of (kp.poke x3 pk3 (.dct _ _ _ ⟨a,ws',hd'.elim fun o q=>q.elim fun es q=>q.elim fun ep q=>⟨o,cx.mpr ⟨g1.1,q.1⟩,fun h e=>⟨o,es,ep,e,q.2⟩⟩,z.len,z.r⟩) hs) rfl).same (ll _)⟩))
end
section
variable {c:aU} {W:Wd} {b:Str→Option Value} {V f:Internal.V} {v:Value} {n k:Nat} {p q:Pl} {vals:List Value} {kw:List (Str×Internal.V)} {m:d7 Value} {X:Tr Internal.V}
noncomputable def jv (k:Nat):Pl→Option Pl
  |.frame=>some .frame
  |.tmp j=>aM (Nat.ble k j) (some (.tmp j))
  |_=>none
noncomputable def BB (k:Nat):Pl→Option Pl
  |.frame=>some .frame
  |.tmp j=>aM (decide (j=k)) (some (.tmp j))
  |_=>none
noncomputable def yS (k:Nat):Pl→Option Pl
  |.frame=>none
  |.tmp j=>aM (decide (j<k)) (some (.tmp j))
  |p=>some p
theorem td (h:jv k p=some q):p=q:=by
  induction p with
  |tmp j=>exact bE h fun ζ h=>sm h.symm
  |loc=>exact aX h
  |frame=>exact sm h.symm
  |inst=>exact aX h
  |attr=>exact aX h
theorem nL (h:BB k p=some q):p=q∧yS k q=none:=by
  induction p with
  |tmp j=>
   refine bE h fun hj h=>?_
   have e:=sm h
   subst e
   refine⟨rfl,?_⟩
   show aM _ _=_
   rw[decide_eq_false (of_decide_eq_true hj▸a9 _)];rfl
  |loc=>exact aX h
  |frame=>exact(by have e:=sm h;subst e;trivial)
  |inst=>exact aX h
  |attr=>exact aX h
theorem tc (h:yS k p=some q):q=p∧jv k q=none:=by
  induction p with
  |tmp j=>
   refine bE h fun hj h=>?_
   have e:=sm h
   subst e
   refine⟨rfl,?_⟩
   show aM _ _=_
   rw[cD.mpr fun q=>absurd (ag q) (oJ (of_decide_eq_true hj))];rfl
  |loc=>exact(by have e:=sm h;subst e;trivial)
  |frame=>exact aX h
  |inst=>exact(by have e:=sm h;subst e;trivial)
  |attr=>exact(by have e:=sm h;subst e;trivial)
theorem Jd:l_ (fS (jv k)) (BB k) (yS k) where
  eq:=fun h=>(tc h).1
  no:=fun h g=>by unfold fS at g;rw[(tc h).2] at g;exact bG g
  dj:=fun h=>(nL h).2
  fr:=.inr ⟨rfl,rfl,fun p h=>(nL h).1⟩
noncomputable def Bz (W:Wd) k:=W.lab (fun a=>(W.own a).bind (jv k)) fun g=>(W.gown g).bind (jv k)
noncomputable def qK (c:aU) W k:=c.go W (fS (jv k)) (fun ζ=>none) c.env c.fl c.sc c.dp c.hd c.outs W.pi
theorem uf {α:Type} {o} {f} (h:o.bind f=some q):∃p,o=some p∧fS f p:=(aw.mp h).imp fun p z=>⟨z.1,by unfold fS;rw[z.2];rfl⟩
theorem pO (f:bj c W):iH c W (fS (jv k)) (fun ζ=>none) (fun ζ=>False) c.fl (fun a=>(W.own a).bind (jv k)) fun g=>(W.gown g).bind (jv k) where
  own:=fun a q h=>.inl (uf (α:=Unit) h)
  fr:=fun a q h m=>(aw.mp h).elim fun p z=>by
   have e:=(f.own a p z.1).fmn m
   subst e
   exact sm z.2
  new:=fun a h=>h.elim
  gown:=fun g q h=>⟨uf (α:=Unit) h,rfl⟩
  xg:=fun ζ ζ h=>aX h
  fun_:=f.fun_
  fm:=fun a=>.inl
  kf:=fun ζ a h=>by rw[h];rfl
  up:=fun a=>id
theorem Fv (h:jv k q=some q):(Bz W k).at q=W.at q:=
  gh (fun a=>kB h fun p' g=>td g) (fun a=>kB h fun p' g=>td g) (fun ζ ζ=>rfl) fun ζ ζ=>rfl
theorem Jc {a} (h:W.own a=some .frame):(W.own a).bind (jv k)=some .frame:=by rw[h];rfl
theorem BA {j} (h:k≤j):jv k (.tmp j)=some (.tmp j):=by
  show aM _ _=_
  rw[iF h];rfl
theorem yJ (h:noI 20 V=true):plain V=true:=by rcases V with⟨⟩<;>first|rfl|exact bG h
theorem pB {C}:∀{Vs} {vs} {T T'},T'.len=T.len→(gC C W T→gC C (Bz W kt) T')→kt≤T.len→gC C W (bI Vs vs T)→gC C (Bz W kt) (bI Vs vs T')
  |[],_,_,_,_,h,_,x=>h x
  |_::_,[],_,_,_,h,_,x=>h x
  |V::Vs,v::vs,T,T',e,h,l,x=>pB (Vs:=Vs) (T:=.more V v T) (congrArg (· +1) e) (fun y=>⟨by
    rw[e,Fv (BA l)]
    exact y.1,h y.2⟩) (aW l) x
theorem Cb s r:((eW s).reg r=.empty∧s.reg r=.empty)∨(eW s).reg r=.taken:=by
  have f:∀x,(pU x=.empty∧x=.empty)∨pU x=.taken:=fun x=>by cases x<;>first|exact .inl ⟨rfl,rfl⟩|exact .inr rfl
  match r with
  |0=>exact f _
  |1=>exact f _
  |2=>exact f _
  |3=>exact f _
  |_+4=>exact .inr rfl
theorem Jb (x:aZ c s b (bI args vals T) W):aZ (qK c W T.len) (eW s) b (bI args vals (.nil T.len)) (Bz W T.len) where
  fits:=(pO x.fits).fits x.fits fun ζ ζ h=>h
  env:=⟨x.env.sc,x.env.kind,x.env.globals,x.env.builtins,x.env.frn,x.env.cdj⟩
  sc:=x.sc
  dp:=x.dp
  hd:=x.hd
  ou:=x.ou
  fr:=⟨Jc x.fr.own,fun y cl h1 h2=>⟨Jc (x.fr.cell y cl h1 h2).1,(x.fr.cell y cl h1 h2).2⟩,x.fr.ce,x.fr.ns.imp fun m h=>⟨h.1,fun y v e=>(h.2 y v e).casesOn (fun q1 q2=>.loc q1 q2) (fun cl q1 q2 q3 q4=>.cell cl q1 q2 q3 (Jc q4)) fun cl o q1 q2 q3 q4=>.free cl o q1 q2 q3 (q4.imp id dU)⟩⟩
  nm:=fun y V h=>aX h
  kn:=fun y V h=>aX h
  rg:=fun r=>(Cb s r).elim (fun z=>by
   have R:=x.rg r
   rw[z.2] at R
   rw[z.1]
   exact R) fun z=>z▸trivial
  tm:=pB (T:=T) rfl (fun ζ=>trivial) (aC _) x.tm
theorem yT s s' r:(pP s s').reg r=s.reg r:=by rfl
theorem Fu (x:aZ c s b T W) (hn:noI 20 V=true) (x3:aZ (qK c W T.len) s3 b (.more V v (.nil T.len)) W3):a_ c b (.more V v T) (pP s s3) W3.G.S:=by
  have e:cH c W W3 (fS (jv T.len)) (fun ζ=>none) (fun ζ=>False) (BB T.len) (yS T.len) c.env c.fl c.sc c.dp c.hd c.outs W.pi (fun a=>(W.own a).bind (jv T.len)) (fun g=>(W.gown g).bind (jv T.len)) W.pi:=⟨x.fits,pO x.fits,x3.fits,x3.fits.fun_,Jd,fun ζ ζ h=>h,fun ζ ζ=>rfl⟩
  have fo:∀{a},W3.own a=some .frame→(dP W W3 (BB T.len) (yS T.len) W.pi).own a=some .frame:=fun h=>(e.giv rfl fun p h=>(nL h).1).mpr h
  refine .of {
    fits:=e.fits4
    env:=x.env
    sc:=x.sc
    dp:=x.dp
    hd:=x.hd
    ou:=x.ou
    fr:=⟨fo x3.fr.own,fun y cl h1 h2=>⟨fo (x3.fr.cell y cl h1 h2).1,(x3.fr.cell y cl h1 h2).2⟩,x3.fr.ce,x3.fr.ns.imp fun m h=>⟨h.1,fun y w hb=>(h.2 y w hb).casesOn (fun q1 q2=>.loc q1 q2) (fun cl q1 q2 q3 q4=>.cell cl q1 q2 q3 (fo q4)) fun cl o q1 q2 q3 q4=>?_⟩⟩
    nm:=fun y V h1 h2=>e.kw.hasV (fun z=>aX z.symm) Pl.noConfusion (x.nm y V h1 h2)
    kn:=x.kn
    rg:=fun r=>yT s s3 r▸e.kw.slot x.fits (fun z=>aX z.symm) (fun ζ z=>aX z.symm) (x.rg r)
    tm:=⟨?_,e.kw.tmps (fun j hj z=>?_) x.tm⟩} rfl
  ·obtain⟨m0,h0,h1⟩:=x.fr.ns
   refine .free cl o q1 q2 q3 (q4.imp id fun z=>?_)
   refine(h1 y w hb).casesOn (fun g1 ζ=>q1.elim (fun q=>nomatch g1.symm.trans q) fun q=>nomatch g1.symm.trans q.1) (fun cl' g1 g2 g3 g4=>?_) fun cl' o' g1 g2 g3 g4=>?_
   ·have e:=sm (g2.symm.trans q2)
    subst e
    exact(fL z).casesOn (fun q=>aX ((x.fits.own _ _ g4).otn.symm.trans q)) fun p' k1 k2 ζ=>absurd (show fS _ p' from sm (g4.symm.trans k1)▸rfl) k2
   ·have e:=sm (g2.symm.trans q2)
    subst e
    exact g4.elim (fun q=>aX ((Ky.out x.fits (fL z)).fzn.symm.trans q)) fun q=>sm ((dU q).symm.trans z)▸q
  ·exact .rep _ _ ((x3.tm.1.to_rep (yJ hn)).noI 20 hn)
  ·have z:aM _ _=none:=z
   rw[decide_eq_true hj] at z
   trivial
theorem By (h:∀W,J (pm (qK c W T.len)) (bO (qK c W T.len) b (.nil T.len) f fv args vals kw kvals (eW s)) (eW s) X m (PV (qK c W T.len) b (.nil T.len))):J (pm c) (bO c b T f fv args vals kw kvals s) s (Nu X args kw) m (PV c b T):=.grd fun hg S Q E i a=>i.casesOn fun W x r hk hl=>
  h W _ Q E ⟨Bz W _,Jb x,r,hk,hl⟩ (bZ.step (ε:=Value) (bZ.noErr (bZ.fr (R2:=fun V v s' S=>PV _ b _ V v s' S∧noI 20 V=true) a (fun ζ=>rfl) (fun V s' hq v S r=>hq v S (r.1.casesOn fun W3 x3=>Fu x.popL r.2 x3)) fun ζ ζ ζ ζ ζ ζ=>trivial)) fun V v s' S r a=>a.grd fun g a=>a.2 v S ⟨r,g⟩)
end
section
variable {c c':aU} {W:Wd} {b:Str→Option Value} {T':Tp} {V f:Internal.V} {v:Value} {n k:Nat} {p q:Pl} {vals:List Value} {kw:List (Str×Internal.V)} {m:d7 Value} {X:Tr Internal.V} {dx:Addr} {ox:Obj} {α:Type}
noncomputable def zP (k:Nat):Pl→Pl
  |.tmp j=>.tmp (cond (Nat.ble k j) (j+1) j)
  |p=>p
theorem uZ {j} (h:k≤j):zP k (.tmp j)=.tmp (j+1):=by
  show Pl.tmp _=_
  rw[iF h];rfl
theorem u0 {j} (h:j<k):zP k (.tmp j)=.tmp j:=by
  show Pl.tmp _=_
  rw[cD.mpr fun q=>absurd (ag q) (oJ h)];rfl
theorem wA {j} (h:zP k p=.tmp j):∃i,p=.tmp i∧((k≤i∧j=i+1)∨(i<k∧j=i)):=by
  induction p with
  |tmp i=>exact⟨i,rfl,(Dz i k).elim (fun l=>.inr ⟨l,by rw[u0 l] at h;injection h with h;exact h.symm⟩) fun l=>.inl ⟨l,by rw[uZ l] at h;injection h with h;exact h.symm⟩⟩
  |loc=>trivial
  |frame=>trivial
  |inst=>trivial
  |attr=>trivial
theorem EO (h:zP k p=zP k q):p=q:=by
  induction q with
  |tmp j=>
   rcases Dz j k with l|l
   ·rw[u0 l] at h
    obtain⟨i,rfl,z⟩:=wA h
    rw[show i=j by lia]
   ·rw[uZ l] at h
    obtain⟨i,rfl,z⟩:=wA h
    rw[show i=j by lia]
  |loc=>cases p<;>first|exact h|trivial
  |frame=>cases p<;>first|exact h|trivial
  |inst=>cases p<;>first|exact h|trivial
  |attr=>cases p<;>first|exact h|trivial
noncomputable def Wd.sh (W:Wd) k:=W.lab (fun a=>(W.own a).map (zP k)) fun g=>(W.gown g).map (zP k)
theorem qm {o}:o.map (zP k)=some (zP k p)↔o=some p:=⟨fun h=>(ay.mp h).elim fun p' z=>EO z.2▸z.1,fun h=>by rw[h];rfl⟩
theorem Lz:(W.sh k).at (zP k p)=W.at p:=gh (fun ζ=>qm) (fun ζ=>qm) (fun ζ ζ=>rfl) fun ζ ζ=>rfl
theorem IH (h:¬Pt k q):zP k q=q:=by
  induction q with
  |tmp j=>exact u0 ((Dz j k).elim id fun l=>absurd (.mk j l) h)
  |loc=>rfl
  |frame=>rfl
  |inst=>rfl
  |attr=>rfl
theorem shN {x} {r} (n:¬Pt k q) (h:x=some (zP k q)↔r):x=some q↔r:=by rw[IH n] at h;exact h
theorem Kp.sh (f:bj c W):Kp c W (Pt k) (W.sh k):=
  Kp.lab f (fun a q h=>(ay.mp h).elim fun p z=>.inr ((f.own a p z.1).casesOn fun o h1 h2 h3 h4 h5=>⟨o,h1,h2,h3,h4,fun m=>by
      have e:=h5 m
      subst e
      exact z.2.symm⟩))
    (fun g q h=>(ay.mp h).elim fun p z=>.inr (f.gown g p z.1)) (fun a q n=>shN n qm) (fun a q n=>shN n qm) fun h=>nomatch h
theorem sL {C}:∀{Vs} {vs} {T T'},T'.len=T.len+1→(gC C W T→gC C (W.sh k) T')→k≤T.len→gC C W (bI Vs vs T)→gC C (W.sh k) (bI Vs vs T')
  |[],_,_,_,_,h,_,x=>h x
  |_::_,[],_,_,_,h,_,x=>h x
  |V::Vs,v::vs,T,T',e,h,l,x=>sL (Vs:=Vs) (T:=.more V v T) (congrArg _ e) (fun y=>⟨by
    rw[e,←uZ l,Lz]
    exact y.1,h y.2⟩) (aW l) x
theorem aZ.under (x:aZ c s b (bI args vals T) W) (r:cP c.C W.G.fz W.pi V v):aZ c s b (bI (V::args) (v::vals) T) (W.sh T.len):=
  have y:=(Kp.sh x.fits).simT x.popL
  {y with tm:=sL (T':=.more V v T) rfl (fun ζ=>⟨.rep _ _ r,y.tm⟩) (aC _) x.tm}
noncomputable def aU.pin (c:aU) pi hd:={c with pi0:=pi,hd:=hd}
structure xV (s s':St):Prop where
  rho:s'.rho=s.rho
  sc:s'.sc=s.sc
  dp:s'.dp=s.dp
  ou:s'.outs=s.outs
  reg:∀r,s'.reg r=s.reg r
theorem xV.refl s:xV s s:=⟨rfl,rfl,rfl,rfl,fun ζ=>rfl⟩
section
variable {hd:Bool}
theorem bj.pin (h:dW pi2 W.pi) (f:bj c W):bj (c.pin pi2 hd) W:=⟨f.ok,f.le,h,fun a p h=>(f.own a p h).casesOn fun o h1 h2 h3 h4 h5=>⟨o,h1,h2,h3,h4,h5⟩,fun a o h=>(f.ot a o h).casesOn fun h1 h2 h3=>⟨h1,h2,h3⟩,f.gown,f.gt,f.fun_,f.fm,f.fo⟩
theorem bj.unpin (h:dW c.pi0 pi2) (f:bj (c.pin pi2 hd) W):bj c W:=⟨f.ok,f.le,fun r a e=>f.ple r a (h r a e),fun a p h=>(f.own a p h).casesOn fun o h1 h2 h3 h4 h5=>⟨o,h1,h2,h3,h4,h5⟩,fun a o h=>(f.ot a o h).casesOn fun h1 h2 h3=>⟨h1,h2,h3⟩,f.gown,f.gt,f.fun_,f.fm,f.fo⟩
theorem DK.pin (h:DK c W b):DK (c.pin pi2 hd) W b:=⟨h.own,h.cell,h.ce,h.ns.imp fun m h=>⟨h.1,fun y v e=>(h.2 y v e).casesOn (fun q1 q2=>.loc q1 q2) (fun cl q1 q2 q3 q4=>.cell cl q1 q2 q3 q4) fun cl o q1 q2 q3 q4=>.free cl o q1 q2 q3 q4⟩⟩
theorem DK.unpin (h:DK (c.pin pi2 hd) W b):DK c W b:=⟨h.own,h.cell,h.ce,h.ns.imp fun m h=>⟨h.1,fun y v e=>(h.2 y v e).casesOn (fun q1 q2=>.loc q1 q2) (fun cl q1 q2 q3 q4=>.cell cl q1 q2 q3 q4) fun cl o q1 q2 q3 q4=>.free cl o q1 q2 q3 q4⟩⟩
theorem aZ.pin (x:aZ c s b T W) (h:dW pi2 W.pi) (q:xV s s') (e:s'.hd=hd):aZ (c.pin pi2 hd) s' b T W:=⟨x.fits.pin h,⟨x.env.sc,x.env.kind,x.env.globals,x.env.builtins,x.env.frn,x.env.cdj⟩,q.sc.trans x.sc,q.dp.trans x.dp,e,q.ou.trans x.ou,x.fr.pin,fun y V h1=>x.nm y V (q.rho▸h1),fun y V h1=>x.kn y V (q.rho▸h1),fun r=>q.reg r▸x.rg r,x.tm⟩
theorem aZ.unpin (h:dW c.pi0 pi2) (x:aZ (c.pin pi2 hd) s b T W) (q:xV s s') (e:s'.hd=c.hd):aZ c s' b T W:=⟨x.fits.unpin h,⟨x.env.sc,x.env.kind,x.env.globals,x.env.builtins,x.env.frn,x.env.cdj⟩,q.sc.trans x.sc,q.dp.trans x.dp,e,q.ou.trans x.ou,x.fr.unpin,fun y V h1=>x.nm y V (q.rho▸h1),fun y V h1=>x.kn y V (q.rho▸h1),fun r=>q.reg r▸x.rg r,x.tm⟩
theorem bH.pin {a} (h:bH c W a):bH (c.pin pi2 hd) W a:=h.casesOn (fun p h=>.own p h) (fun o h=>.fz o h) (fun o h=>.ot o h) fun h=>.tb h
end
theorem oV.unpin {ex} (h:dW c.pi0 pi2) (i:oV (c.pin pi2 c.hd) k ex s S):oV c k ex s S:=i.casesOn fun W b x e=>⟨W,b,x.unpin h (.refl s) x.hd,e.casesOn fun e base dx h1 h2 h3 h4=>⟨e,base,dx,h1,fun p=>h2 p.pin,fun a o p=>h3 a o p.pin,h4⟩⟩
theorem bZ.act {R R':α→β→St→Shared→Prop} {Q Q'} {E} {o} (a:bZ (pm c) R Q E o) (h:∀z s v S,(∀v S,R z v s S→Q v S)→R' z v s S→Q' v S) (g:∀k v s S,oV c' k v s S→oV c k v s S):bZ (pm c') R' Q' E o:=
  o.casesOn (fun z s a=>⟨a.1,fun v S r=>h z s v S a.2 r⟩) (fun k ζ s a=>⟨a.1,fun v S r=>a.2 v S (g k v s S r)⟩) (fun ζ=>id) a
theorem Kp.repi (f:bj c W) (hp:dW W.pi pi2) (hr:∀r,r≠k→pi2 r=W.pi r):Kp c W (· =.inst k) (W.re pi2) where
  fits:=⟨f.ok,f.le,fun r a e=>hp r a (f.ple r a e),fun a p h=>(f.own a p h).casesOn fun o h1 h2 h3 h4 h5=>⟨o,h1,h2,h3,h4,h5⟩,fun a o h=>(f.ot a o h).casesOn fun h1 h2 h3=>⟨h1,h2,h3⟩,f.gown,f.gt,f.fun_,f.fm,f.fo⟩
  le:=cO.refl _
  pi:=hp
  pir:=fun r n=>hr r fun e=>n (congrArg _ e)
  at_:=fun ζ ζ ζ=>rfl
  fr:=fun ζ h=>h
  frh:=fun a o ζ e=>.same e
theorem aZ.slot (x:aZ c s b T W) (hk:k<4) (kp:Kp c W (fun p=>p=.inst k∨∃n,p=.attr k n) W') {sl} (ok:fk c.C W' k sl):aZ c (s.setReg k sl) b T W':=
  have q:=iW s k sl
  {fits:=kp.fits
   env:=x.env
   sc:=q.2.1.trans x.sc
   dp:=q.2.2.1.trans x.dp
   hd:=q.2.2.2.1.trans x.hd
   ou:=q.2.2.2.2.trans x.ou
   fr:=kp.frm x.fits x.fr
   nm:=fun y V h1 h2=>kp.hasV (fun h=>h.elim Pl.noConfusion fun h=>h.elim fun ζ=>Pl.noConfusion) Pl.noConfusion (x.nm y V (q.1▸h1) h2)
   kn:=fun y V h=>x.kn y V (q.1▸h)
   rg:=fun r=>by
    rw[jO s _ hk]
    by_cases z:r=k
    ·rw[if_pos z,z];exact ok
    ·rw[if_neg z];exact kp.slot x.fits (fun h=>h.elim (fun e=>z (by injection e)) fun h=>h.elim fun ζ=>Pl.noConfusion) (fun ζ h=>h.elim Pl.noConfusion fun h=>h.elim fun ζ e=>z (by injection e)) (x.rg r)
   tm:=kp.tmps (fun j ζ h=>h.elim Pl.noConfusion fun h=>h.elim fun ζ=>Pl.noConfusion) x.tm}
end
section
variable {c c':aU} {W:Wd} {b:Str→Option Value} {T':Tp} {V f:Internal.V} {v:Value} {n k a:Nat} {p q:Pl} {vals:List Value} {kw:List (Str×Internal.V)} {dx:Addr} {ox:Obj} {r:dN} {P:Addr→Prop}
open Classical in
noncomputable def Wd.takes (W:Wd) (P:Addr→Prop) p:=W.lab (fun x=>if P x then some p else W.own x) W.gown
open Classical in
theorem Kp.takes (f:bj c W) (h:∀a,P a→¬bH c W a∧a∉bF c.fl∧∃o,W.hp a=some o) (hp:p≠.frame):Kp c W (· =p) (W.takes P p):=
  Kp.lab f (fun x q g=>(Classical.em _).elim (fun e=>.inr (have z:=h x e
      z.2.2.elim fun o w=>⟨o,w,bP fun y q=>z.1 (.fz y q),fun q=>z.1 (.tb q),bP fun y q=>z.1 (.ot y q),fun m=>absurd m z.2.1⟩)) fun e=>.inl ((if_neg e).symm.trans g)) (fun ζ ζ=>.inl)
    (fun x q n=>⟨fun g=>(Classical.em _).elim (fun e=>absurd (sm ((if_pos e).symm.trans g)) n) fun e=>(if_neg e).symm.trans g,fun g=>(if_neg fun e=>(h x e).1 (.own q g)).trans g⟩) (fun ζ ζ ζ=>.rfl) (Ne.symm hp)
open Classical in
theorem pu {x} (h:P x):(W.takes P p).own x=some p:=if_pos h
theorem aZ.newReg (x:aZ c s b T W) (hk:s.reg k=.empty) (hk4:k<4) (hg:c.C.good cl) (h1:W.hp ad=some (instObj cl dx)) (h2:W.hp dx=some emptyDict) (ne:dx≠ad) (u1:¬bH c W ad) (u2:¬bH c W dx) (m1:ad∉bF c.fl) (m2:dx∉bF c.fl):∃W',W'.G=W.G∧dW W.pi W'.pi∧W'.pi k=some ad∧aZ c (s.setReg k (.live cl [])) b T W':=by
  have hpi:=by
    have:=x.rg k
    rw[hk] at this
    exact this
  have k1:Kp c W (· =.inst k) (W.takes (fun a=>a=ad∨a=dx) _):=Kp.takes x.fits (fun a h=>h.elim (fun e=>e▸⟨u1,m1,_,h1⟩) fun e=>e▸⟨u2,m2,_,h2⟩) Pl.noConfusion
  have ple:dW _ fun r=>if r=k then some ad else W.pi r:=fun r a e=>(if_neg fun q=>aX (hpi.symm.trans (q▸e))).trans e
  refine⟨(W.takes _ _).re _,rfl,ple,if_pos rfl,x.slot hk4 ((k1.trans (Kp.repi k1.fits ple fun r n=>if_neg n) x.fits).weak fun q e=>.inl e) (show HZ _ _ _ _ _ from⟨hg,fun n V e=>aX e,⟨ad,instObj cl dx,some _,fun ζ=>.none,if_pos rfl,pu (P:=fun a=>a=ad∨a=dx) (.inl rfl),⟨h1,rfl,rfl,h2⟩,fun dx' e=>?_,fun n V e=>aX e,fun d e=>?_,fun ζ=>⟨_,rfl⟩⟩⟩)⟩
  ·have e:=sm e
   subst e
   exact⟨pu (P:=fun a=>a=ad∨a=dx') (.inr rfl),ne⟩
  ·have e:=sm e
   subst e
   exact⟨⟨[],0,rfl,aC _⟩,fun n ζ ζ=>rfl⟩
theorem mT (A:Around) C rest kw:(A.under (.builtin "type.__call__" ⟨.ref C::rest,kw⟩)).handled=A.handled∧(A.under (.builtin "type.__call__" ⟨.ref C::rest,kw⟩)).depth=A.depth+1∧(A.under (.builtin "type.__call__" ⟨.ref C::rest,kw⟩)).units=A.units+1∧(A.under (.builtin "type.__call__" ⟨.ref C::rest,kw⟩)).frames=A.frames:=by
  refine⟨rfl,?_,rfl,?_⟩
  ·rfl
  ·unfold Around.under
   dsimp only
   cases A.frames<;>rfl
noncomputable def G0 PP (call:Internal.V→List _→List _→Tr _):=∀f fi args kw c b T A s vals kvals,PP.fn f=some fi→fi.gen=false→fi.fence=false→GQ PP c A→J (pm c) (bO c b T (.glob f) (.ref f) args vals kw kvals s) s (call (.glob f) args kw) (gS c A (.ref f) vals kw kvals) (PV c b T)
noncomputable def DB c b T k V v s S:=V=.inst k∧PV c b T V v s S
theorem GQ.make (g:GE PP n c A) {C} {rest} {kw} {pi}:GQ PP (c.pin pi c.hd) (A.under (.builtin "type.__call__" ⟨.ref C::rest,kw⟩)):=
  have u:=mT A C _ kw
  ⟨g.pt,fun h=>u.1.trans (g.hd h),by rw[u.2.1];have:=g.dep;show A.depth+1+4*c.dp+27≤900;lia,by rw[u.2.2.1];have:=g.un;show A.units+1+400*c.dp+363≤9800;lia,u.2.2.2.trans g.fr⟩
theorem bO.of {c} (x:aZ c s b (bI args vals T) W) (h:cP c.C W.G.fz W.pi f fv) (hk:aS c.C W.G.fz W.pi (kw.map (·.2)) kvals) (hl:args.length=vals.length) (e:W.G=W'.G):bO c b T f fv args vals kw kvals s W'.G.S:=by
  rw[←(congrArg Gs.S e)]
  exact⟨W,x,h,hk,hl⟩
theorem wR (hq:G0 PP r.call) (ge:GE PP n c A) (hm:G2 c.C a k):J (pm c) (bO c b T (.glob a) (.ref a) args vals kw kvals s) s (make PP r a k args kw) (gS c A (.ref a) vals kw kvals) (DB c b T k):=
  .look (.grd fun he=>.opt fun g hg=>fun S Q E i an=>i.casesOn fun W x ζ hk hl=>by
    induction hm.init with|mk f fi hf hfi hgen hfe=>
    have e:=sm (hf.symm.trans (ge.pt▸hg))
    subst e
    have he:s.reg k=.empty:=by
      revert he
      cases s.reg k<;>first|exact fun ζ=>rfl|exact fun h=>bG h
    have X:=c.H.frag x.fits.ok
    refine (c.H.meth a _ _ hm.good hf).2.casesOn (motive:=fun V ζ=>V=.glob f→gS c A _ _ kw _ Q E _) (fun f' m1 m2 ζ ζ ζ e=>?_) (fun V v e1 ζ ζ ζ e=>aX (e1.symm.trans (congrArg ry e))) rfl
    injection e with e
    subst e
    refine make_core (makes_of X hm.makes) (looks_findIn X m2) (fun self=>bind_fn X _ m1) (.inl rfl) ?_
    have f1:=bK W.G.S.heap
    have f2:W.G.S.heap.get? _=none:=Heap.get?_none_of_le (cj _)
    refine hR fun O u=>?_
    obtain⟨W1,e1,e2,e3,x2⟩:=(x.mem (S':={W.G.S with heap:=(W.G.S.heap.push _).push _}) (fun b o e=>Heap.get?_push_of_some _ (Heap.get?_push_of_some _ e)) rfl rfl).newReg he hm.lt hm.good (ad:=W.G.S.heap.objs.size+1) ((Heap.size_push ..)▸Heap.get?_push_size _ rfl) (Heap.get?_push_of_some _ (Heap.get?_push_size _ rfl)) (fq _).symm (fun p=>x.fits.free f2 p.mem) (fun p=>x.fits.free f1 p.mem) (x.fits.fmfree f2) (x.fits.fmfree f1)
    refine u ?_
    have ple:=fun r a h=>e2 r a (x.fits.ple r a h)
    have a2:=bZ.act (R':=PV (c.pin _ c.hd) b T) (Q':=fun v S=>v=.none∧Q _ S) ((bZ.split an).imp (fun ζ ζ h=>h) fun v S z=>z.elim fun k z=>z.elim fun s' z=>z.2 v S z.1) (fun V s' v S h r=>(h v S r).elim fun V2 z=>z.elim fun s2 z=>z.2.grd fun hN a3=>by
      have e:=qL hN
      subst e
      refine z.1.casesOn (fun W3 x4 h=>?_) a3.2
      exact⟨(x4.tm.1.to_rep rfl).inv,h _ _ ⟨rfl,_,(x4.unpin ple (.refl _) x4.hd).pop.push (.rep _ _ (.inst _ _ (x4.fits.ple k _ e3)))⟩⟩) fun k v s S i=>i.unpin ple
    refine codeAny_mono (hq f' fi _ kw (c.pin W1.pi _) b T _ _ _ _ (ge.pt▸hfi) hgen hfe (.make ge) _ _ _ (.of ((x2.under (.inst _ _ e3)).pin (fun ζ ζ h=>h) (.refl _) x2.hd) (.glob f') (show aS c.C W1.G.fz _ _ _ from by rw[e1];exact hk.mono (cO.refl _) e2) (congrArg _ hl) e1) a2) fun rr S' z=>?_
    trivial)
end
section
variable {c:aU} {W:Wd} {b:Str→Option Value} {V:Internal.V} {v:Value} {n a:Nat} {vals:List Value} {kw:List (Str×Internal.V)} {at_:List (Str×Internal.V)} {r:dN} {C:Cf} {o:Obj} {f:Str→Value} {ρ:Str→eC}
theorem xq (h:∀n V,lk n at_=some V→eL C o od cl n (f n)∧gI C fz pi (ρ n) V (f n)):∀ns vs,qT at_ ns=some vs→vs.all plain=true→∃ws,g9 C o od cl ns ws∧aS C fz pi vs ws
  |[],vs,e,_=>sm e▸⟨[],.nil,.nil⟩
  |n::ns,vs,e,hp=>aG e fun V e1 e=>by
   obtain⟨vs',e2,e3⟩:=ay.mp e
   subst e3
   obtain⟨ws,i1,i2⟩:=xq h ns _ e2 (aa.mp hp).2
   exact⟨f n::ws,.cons _ _ _ _ (h n V e1).1 i1,.cons _ _ _ _ ((h n V e1).2.to_rep (aa.mp hp).1) i2⟩
theorem IP (hp:c.C.P=PP):J (pm c) (DB c b T 3 V v s) s (live 3 fun cl at_=>oT (qT at_ (PP.flds a)) "fields" fun vs=>gT (decide (cl=a)&&vs.all plain) "record" (uT (fun s=>r3S s .taken) (fun ζ=>⟨id,aD _⟩) (rT (.rcd a vs)))) (nA v) (PV c b T):=fun S Q E i an=>by
  obtain⟨rfl,i⟩:=i
  refine bZ.opt an fun q hq a1=>a1.opt fun vs hf a2=>a2.grd fun g a3=>i.casesOn fun W x=>?_
  have e:=of_decide_eq_true (aa.mp g).1
  subst e
  have R:=x.rg 3
  rw[(ku hq)] at R
  induction R.is with|mk ad o od f g1 g2 g3 g4 g5 g6 g7=>
  induction ((x.tm.1.to_rep rfl).inv) with|mk ad' ea=>
  have e:=sm (g1.symm.trans ea)
  subst e
  obtain⟨ws,f1,f2⟩:=xq g5 _ _ (hp▸hf) (aa.mp g).2
  have k1:=Kp.drop (p:=.inst 3) x.fits Pl.noConfusion
  have fzn:∀b o,W.own b=some (.inst 3)→W.hp b=some o→((W.drop (.inst 3)).ext _ fun b=>W.own b=some _).G.fz b=some o:=fun b o h e=>eh (N:=fun b=>W.own b=some _) h e ((fun b h=>(x.fits.own b _ h).fzn) b h)
  refine a3.2 _ _ (.of ((x.slot (by decide) ((k1.trans (Kp.grow k1.fits (fun ζ ζ e=>e) rfl rfl _ fun b e=>⟨(x.fits.own b _ e).drop e,fun m=>Pl.noConfusion ((x.fits.own b _ e).fmn m)⟩) x.fits).weak fun q e=>.inl e) (sl:=.taken) trivial).pop.push (.rep _ _ (.rcd _ _ _ _ o od ⟨fzn _ _ g2 g3.at_,g3.cls,g3.no,?_,f1,R.good⟩ (f2.mono (dS _ _ _) fun ζ ζ h=>h)))) rfl)
  have d:=g3.dict
  revert d g4
  rcases o.dict with _|dx<;>rcases od with _|d0<;>intro g4 d
  ·exact .none
  ·exact d.elim
  ·exact d.elim
  ·exact .some _ _ (fzn _ _ (g4 dx rfl).1 d)
theorem AZ (hq:G0 PP r.call) (ge:GE PP n c A) (hm:G2 c.C a 3):J (pm c) (bO c b T (.glob a) (.ref a) args vals kw kvals s) s (Hv PP r a args kw) (gS c A (.ref a) vals kw kvals) (PV c b T):=
  By fun W=>.by (.bind (wR hq ⟨ge.pt,ge.hd,ge.dep,ge.un,ge.fr⟩ hm) fun V v s1=>IP ge.pt) fun Q E S h=>h
end
section
variable {c:aU} {W:Wd} {b:Str→Option Value} {v:Value} {e:Addr} {name:Str} {tk:Nat} {C:Cf}
inductive Rz (C:Cf) (E:Value→Shared→Prop):Value→Shared→Prop
  |mk (e:Addr) (oe:Obj) (t:Addr) (S:Shared):Kv C S.heap→S.heap.get? e=some oe→oe.cls=.ref C.P.cErr→oe.data=.fields #[.ref t,.none,.none,.none,.bool false,.none]→E (.ref e) S→Rz C E (.ref e) S
theorem u9 {env:Env} {x:Sem Value} {Q:Flow→Shared→Prop} (hh:A.handled=none) (h:wpAny C.M A x (Rz C E) E S):wpAny C.M A (raiseStmt env (some x) none) Q E S:=by
  unfold raiseStmt
  refine wpAny_bind (wpAny_mono h (fun v s₁ h₁=>?_) fun ζ ζ x=>x)
  induction h₁ with|mk e oe t s₁ hK he hcls hdata hE=>
  induction hK with|mk nm q N bs sn sub ab col dd k0 k1 k2 k3 k5 mN f hC _ _ _ _ _ _=>
  obtain⟨hp,g,d,tk,os⟩:=s₁
  obtain⟨oc,od,oda,osl⟩:=oe
  dsimp only at hcls hdata he hC
  subst hcls hdata
  have hcB:(Value.ref C.P.cErr::D3).contains (.type "BaseException")=true:=by unfold D3;simp
  repeat (first|with_reducible refine wpAny_loadPart_at he ?_|with_reducible refine wpAny_loadPart_at hC ?_|(with_reducible refine wpAny_isSubtype_exc hC ?_;rw[hcB])|wp_step)
  exact wpAny_raiseNew_none hh hE
open Builtin Builtin.ObjectAttr in
theorem FZ (H:All C) {h} {g} {d} {t} {os} {oe} {Q} (X:C.K.In h) (hn:name∈C.P.regf C.P.cErr) (he:h.get? e=some oe) (hc:oe.cls=.ref C.P.cErr) (hd:oe.dict=none) (hf:∃vs,oe.data=.fields vs)
    (hq:∀h' tk,h'.get? e=some {oe with dict:=some h.objs.size}→h'.Ns1 h.objs.size (fun y=>if y=name then some v else none)→(∀b o,b≠e→h.get? b=some o→h'.get? b=some o)→Q () ⟨h',g,d,tk,os⟩):
    wpAny C.M A (setAttr (.ref e) name v) Q E ⟨h,g,d,t,os⟩:=by
  obtain⟨vs,hf⟩:=hf
  have SF:=PySem.F.store_object
  obtain⟨oc,od,oda,osl⟩:=oe
  dsimp only at hc hd hf hq
  subst hc hd hf
  have I:InstAt h e _ _ none:=⟨he,rfl,rfl,trivial⟩
  obtain⟨cd,hcd,hmro,hhas⟩:=H.ecd
  refine set_plain X I H.eset ?_
  have sub:Looks C.M h (isInstance _ (.type "object")) _:=I.type.andThen (looks_mroIn X (by
    unfold mroIn
    rw[hcd,aN,hmro]
    rfl))
  refine codeAny_call_builtin SF.slot.plain SF.entry (@check_slot _ _ _ ⟨h,g,d,t+1,os⟩ _ _ _ _ _ [] _ SF.kind SF.split sub (SF.args _ _ v) ?_)
  rw[osa_eq,refuse_eq]
  refine wpAny_bind (wpAny_bind (I.type.here (wpAny_bind ((show Looks _ h (mroOf (.ref _)) _ from (looks_clsIn X hcd).andThen .now).here ?_))))
  rw[hmro,refuseLoop_ref,show refuseLoop _ _ D3=pure () from PySem.F.store_Exception.passes _]
  refine wpAny_pure (wpAny_bind (I.type.here (wpAny_bind ((looks_findIn X (H.enm _ hn)).here (wpAny_bind ?_)))))
  refine wpAny_pure (wpAny_bind (wpAny_pure (wpAny_bind (wpAny_bind (wpAny_loadPart he (wpAny_bind ((looks_clsIn X hcd).here ?_)))))))
  rw[hhas]
  have hx₁:(h.push emptyDict).get? e=some _:=Heap.get?_push_of_some _ he
  have hxs:=cy (Heap.lt_size he)
  refine wpAny_bind (wpAny_alloc' (wpAny_bind (wpAny_update' hx₁ (wpAny_pure ?_))))
  generalize hH:(h.push _).update e _=H1
  refine wpAny_bind (wpAny_pure (wpAny_bind (wpAny_nsSet1 (Heap.Ns1.of_empty ⟨_,#[],_,(hH▸(Heap.get?_update_ne _ _ _ _ hxs.symm).trans (Heap.get?_push_at rfl rfl)),rfl,fun e he=>absurd he (by simp),fun ζ=>rfl⟩) fun h' hn' hs=>?_)))
  refine hR fun O u=>?_
  obtain⟨oD,esD,epD,hoD,hdD,hcD⟩:=hn'.count (Within.cons _ v Within.nil)
  exact u (wpAny_bind (wpAny_lookBehind hoD (by rw[hdD];exact pastItsLine_dict (ac hcD (by rw[cN,List.length_nil,sizeLine_eq];omega))) (wpAny_pure (hq h' _ ((hs.2 e hxs).trans (hH▸Heap.get?_update_self _ hx₁ rfl)) hn' fun b o n q=>(hs.2 b (cy (Heap.lt_size q))).trans ((fun b o n q=>hH▸(Heap.get?_update_ne _ _ _ _ n).trans (Heap.get?_push_of_some _ q)) b o n q)))))
inductive P6 (c:aU) (W:Wd) (e:Addr):Option Addr→Prop
  |none:P6 c W e none
  |some (D:Addr) (mA:Str→Option Value):D≠e→W.G.S.heap.Ns1 D mA→Within mA (c.C.P.regf c.C.P.cErr)→¬bH c W D→D∉bF c.fl→P6 c W e (some D)
inductive EI (c:aU) (W:Wd) (e:Addr):Prop
  |mk (oe:Obj) (t:Addr):W.hp e=some oe→oe.cls=.ref c.C.P.cErr→oe.data=.fields #[.ref t,.none,.none,.none,.bool false,.none]→¬bH c W e→e∉bF c.fl→P6 c W e oe.dict→EI c W e
theorem aZ.besides (x:aZ c s b T W) (hk:∀a o,bH c W a∨a∈bF c.fl→W.hp a=some o→h'.get? a=some o):aZ c s b T (W.mem {W.G.S with heap:=h',toks:=tk}):=
  have y:=(Kp.slots (P:=fun ζ=>False) x.fits (fun a o p ζ e=>hk a o (.inl p) e) fun a m o e=>⟨o.slots,hk a o (.inr m) e⟩).sim x (fun ζ=>id) (fun ζ=>id) (fun ζ ζ=>id) fun ζ ζ=>id
  y.mem (fun ζ ζ e=>e) rfl rfl
theorem rQ {Q:Unit→Shared→Prop} (x:aZ c s b T W) (ei:EI c W e) (hn:name∈c.C.P.regf c.C.P.cErr) (hQ:∀W',aZ c s b T W'→EI c W' e→Q () W'.G.S):wpAny c.C.M A (setAttr (.ref e) name v) Q E W.G.S:=by
  have ok:=x.fits.ok
  have X:=c.H.frag ok
  induction ei with|mk oe t h1 h2 h3 h4 h4' h5=>
  refine h5.casesOn (motive:=fun od ζ=>oe.dict=od→wpAny c.C.M A (setAttr (.ref e) name v) Q E W.G.S) (fun hd=>?_) (fun D mA g1 g2 g3 g4 g5 hd=>?_) rfl
  ·have fr:=bK W.G.S.heap
   refine FZ c.H (h:=W.G.S.heap) (g:=W.G.S.gens) X hn h1 h2 hd ⟨_,h3⟩ fun h' tk z1 z2 z3=>?_
   have ne:W.G.S.heap.objs.size≠e:=fun q=>aX (fr.symm.trans (q▸h1))
   exact hQ (W.mem {W.G.S with heap:=h',toks:=tk}) (x.besides fun a o p=>z3 a o fun q=>p.elim (fun p=>h4 (q▸p)) fun m=>h4' (q▸m)) ⟨_,t,z1,h2,h3,fun p=>h4 p.mem,h4',.some _ _ ne z2 (fun y hy=>by
     by_cases q:y=name
     ·rw[q];exact hn
     ·rw[if_neg q] at hy;exact absurd rfl hy) (fun p=>x.fits.free fr p.mem) (x.fits.fmfree fr)⟩
  ·obtain⟨nm,q,N,bs,sn,sub,ab,col,dd,k0,k1,k2,k3,k5,mN,f,hC,hN,_,hns,_,_,hnm⟩:=c.H.ecls _ ok.in0
   obtain⟨hna,hB⟩:=hnm name hn
   have hxC:e≠c.C.P.cErr:=fun q=>by
     rw[q] at h1
     have:=sm (h1.symm.trans hC)
     rw[←this] at h3
     exact nomatch h3
   have I:W.G.S.heap.Inst e c.C.P.cErr mA:=⟨oe,h1,h2,(fun c q=>nomatch h3.symm.trans q),.inr ⟨D,hd,g1,g2⟩⟩
   refine store_attr (h:=W.G.S.heap) (g:=W.G.S.gens) PySem.F.store_Exception hC hN hns hna hB hxC I (fun h' tk I' hk hsame=>?_) g3 (ac c.H.efew (by rw[sizeLine_eq];omega))
   obtain⟨o1,y1,y2,y3,y4,y5⟩:=hsame oe h1
   obtain⟨o2,x1,x2,x3,x4⟩:=I'
   have e1:=sm (y1.symm.trans x1)
   subst e1
   have hdD:=y5 D hd
   have x4:=x4.resolve_left fun z=>nomatch z.1.symm.trans hdD
   obtain⟨d,x4,x5,x6⟩:=x4
   have e2:=sm (x4.symm.trans hdD)
   subst e2
   refine hQ (W.mem {W.G.S with heap:=h',toks:=tk}) (x.besides fun a o p=>hk a o (fun q=>p.elim (fun p=>h4 (q▸p)) fun m=>h4' (q▸m)) fun o₀ dx e1 e2 z=>?_) ⟨o2,t,y1,y2.trans h2,y3.trans h3,fun p=>h4 p.mem,h4',hdD▸.some _ _ g1 x6 (fun y hy=>?_) (fun p=>g4 p.mem) g5⟩
   ·have e1:=sm (h1.symm.trans e1)
    subst e1
    have e2:=sm (hd.symm.trans e2)
    exact p.elim (fun p=>g4 (e2▸z▸p)) fun m=>g5 (e2▸z▸m)
   ·by_cases q:y=name
    ·rw[q];exact hn
    ·rw[if_neg q] at hy;exact g3 y hy
end
section
variable {c:aU} {W:Wd} {b:Str→Option Value} {v:Value} {e:Addr} {name:Str} {n:Nat} {r:dN} {α:Type} {st:Stmt} {rest:List Stmt}
noncomputable def ut PP (ex:List _→Tr Fl):=∀N body c A,lr N body=true→eZ c→GE PP 90 c A→zU (u_ c A) body (ex body)
inductive D9 (c:aU) (b:Str→Option Value) (T:Tp) (e:Addr) (s:St):Shared→Prop
  |mk (W:Wd):aZ c s b T W→EI c W e→D9 c b T e s W.G.S
theorem Ch {M} {env} {Q} (h:wpAny M A (execs [st] env) Q E S):wpAny M A (exec st env) Q E S:=fun Γ p hΓ=>by
  have h1:=h Γ p hΓ
  rw[execs_cons,Sem.wp_bind'] at h1
  refine Sem.wp_mono M Γ _ (fun f p' s' h'=>?_) (fun ζ ζ ζ h'=>h') _ _ h1
  cases f<;>exact h'
theorem JA (hex:ut PP r.ex) (hy:lr 90 [st]=true) (hf:eZ c) (ge:GE PP 90 c A) {Q} (i:D9 c b T e s S) (a:bZ (pm c) (fun fl f s S=>∃b T',Zx T b T' fl f∧D9 c b T' e s S) Q E ((r.ex [st]).run s)):wpAny c.C.M A (exec st c.env) Q E S:=
  Ch<|i.casesOn fun W x ei=>by
    induction ei with|mk oe t h1 h2 h3 h4 h4' h5=>
    have n1:∀v,oe.data≠.cell v:=fun v q=>nomatch h3.symm.trans q
    have o1:=nD h4
    have x1:=x.hold h4 h4' h1
    refine h5.casesOn (motive:=fun od ζ=>oe.dict=od→wpAny c.C.M A (execs [st] c.env) Q E W.G.S) (fun hd=>?_) (fun D mA g1 g2 g3 g4 g5 hd=>?_) rfl
    ·refine hex 90 [st] (c.hold e oe) A hy ⟨hf.fl,hf.frame⟩ ⟨ge.pt,ge.hd,ge.dep,ge.un,ge.fr⟩ () b T s W.G.S Q E ⟨W,x1⟩ (a.act (fun fl s f S k q=>?_) fun k v s S i=>i.unhold o1 h4' n1)
     obtain⟨b',T',z,i⟩:=q
     exact i.casesOn (fun W' y k=>k f _ ⟨b',T',z,W',y.unhold o1 h4' n1,have w:=kK y h4' o1;⟨oe,t,w.1,h2,h3,w.2,h4',hd▸.none⟩⟩) k
    ·obtain⟨oD,es,ep,k1,k2,k3⟩:=g2
     have n2:∀v,oD.data≠.cell v:=fun v q=>nomatch k2.symm.trans q
     have np2:¬bH (c.hold e oe) W D:=fun p=>p.casesOn (fun p q=>g4 (.own p q)) (fun o q=>g4 (.fz o q)) (fun o q=>mE q (fun q ζ=>g1 q) fun ζ q=>g4 (.ot o q)) fun q=>g4 (.tb q)
     have o2:=nD np2
     refine hex 90 _ ((c.hold e oe).hold D oD) A hy ⟨hf.fl,hf.frame⟩ ⟨ge.pt,ge.hd,ge.dep,ge.un,ge.fr⟩ () b T s _ Q E ⟨W,(x1.hold np2 g5 k1)⟩ (a.act (fun fl s f S k q=>?_) fun k v s S i=>(i.unhold o2 g5 n2).unhold o1 h4' n1)
     obtain⟨b',T',z,i⟩:=q
     exact i.casesOn (fun W' y k=>by
       have y1:=y.unhold o2 g5 n2
       have w1:=kK y1 h4' o1
       exact k f _ ⟨b',T',z,W',y1.unhold o1 h4' n1,⟨oe,t,w1.1,h2,h3,w1.2,h4',hd▸.some D mA g1 ⟨oD,es,ep,(kK y g5 o2).1,k2,k3⟩ g3 (fun p=>(kK y g5 o2).2 (p.hold o1)) g5⟩⟩) k
theorem GL {q} (h:J_ st=some q):st=.Assign q.1 q.2.1 q.2.2:=by rcases st with⟨⟩<;>first|exact aX h|exact sm h▸rfl
theorem F9 {q} (h:zg st=some q):∃yp ap xp pos,st=.Assign [.Attribute (.Name q.1 yp) q.2.1 ap] (.Name q.2.2 xp) pos:=
  aG h fun z e1 h=>aG h fun t e2 h=>aG h fun a e3 h=>aG h fun y e4 h=>by
    obtain⟨x,e5,e6⟩:=ay.mp h
    subst e6
    obtain⟨l,e,p⟩:=z
    obtain⟨a1,a2,a3⟩:=a
    have d2:=dD e2 id
    have d3:t=.Attribute a1 a2 a3:=fK e3
    have d4:=cR e4
    have d5:e=.Name _ _:=cR e5
    subst d2 d3 d4 d5
    exact⟨_,_,_,_,GL e1⟩
section
variable (hex:ut PP r.ex) (hp3:c.pi0 3=some e) (hf:eZ c) (ge:GE PP 90 c A)
include hex hp3 hf ge
theorem JB {Q:Shared→Prop}:∀{s} {b} {S},body.all (tM c.C.P)=true→D9 c b T e s S→bZ (pm c) (fun(_) (_:Unit) s S=>∃b,D9 c b T e s S) (fun ζ S=>Q S) ff ((JC r body).run s)→wpAny c.C.M A (execs body c.env) (fun f S=>f=.next∧Q S) E S:=by
  induction body with
  |nil=>exact fun ζ i a=>wpAny_execs_nil ⟨rfl,a.2 () _ ⟨_,i⟩⟩
  |cons st rest ih=>
   intro s b S hb i a
   refine wpAny_execs_cons ?_
   have hb:=aa.mp hb
   have a:bZ _ _ _ ff ((match zg st with
     |some q=>aT _
     |.none=>(r.ex _).bind _).run s):=a
   have hs:oC _ _ _=true:=hb.1
   induction he:zg st with
   |none=>
    rw[he] at a hs
    refine JA hex hs hf ge i (bZ.step (ε:=Unit) a fun fl f s' S w a=>a.grd fun hx a=>?_)
    obtain⟨b',T',z,i2⟩:=w
    cases fl<;>first|exact bG hx|skip
    obtain⟨rfl,rfl⟩:=z
    exact ih hb.2 i2 a
   |some q=>
    rw[he] at a hs
    refine bZ.opt a fun i0 hi a1=>a1.opt fun V hv a2=>a2.grd fun g a3=>?_
    have g:=aa.mp g
    refine hR fun O u=>?_
    obtain⟨yp,ap,xp,pos,e1⟩:=F9 he
    subst e1
    refine u (aG hi fun V0 hi h3=>hG hi fun hby hly=>hG hv fun hbx hlx=>i.casesOn fun W x ei=>?_)
    have e2:=fM h3
    have e3:=aj g.1
    subst e2 e3
    refine wpAny_bind (wpAny_standAt (wpAny_bind (wpAny_pure ?_)))
    refine(x.nm _ V hlx fun h=>by rw[h] at g;exact bG g.2).casesOn fun xv gx ζ=>wpAny_bind (dZ x hbx gx ?_)
    refine wpAny_bind (wpAny_pure ?_)
    refine(x.nm _ _ hly Internal.V.noConfusion).casesOn fun yv gy oy=>wpAny_bind (wpAny_bind (wpAny_holding (dZ x hby gy ?_)))
    induction ((oy.to_rep rfl).inv) with|mk ad ea=>
    have e4:=sm ((x.fits.ple 3 e hp3).symm.trans ea)
    subst e4
    exact wpAny_bind (wpAny_standAt (wpAny_bind (wpAny_holding (rQ x ei (oz hs) fun W1 x1 ei1=>wpAny_release' (wpAny_pure (ih hb.2 ⟨W1,x1,ei1⟩ a3))))))
end
end
section
variable {c:aU} {W:Wd} {b:Str→Option Value} {V:Internal.V} {v:Value} {e:Addr} {n k:Nat} {r:dN} {α:Type} {vs:List Internal.V} {vals:List Value} {bV:List (Str×Internal.V)} {dp:Nat}
theorem aZ.pushR (r:aS c.C W.G.fz W.pi vs vals):∀{T},aZ c s b T W→aZ c s b (bI vs vals T) W:=
  r.ind (m:=fun vs vals=>∀{T},aZ c s b T W→aZ c s b (bI vs vals T) W) (fun x=>x) fun V v Vs vs h ζ ih T x=>ih (x.push (.rep _ _ h))
theorem bH.repi {a} (h:bH c W a):bH c (W.re pi2) a:=h.casesOn (fun p h=>.own p h) (fun o h=>.fz o h) (fun o h=>.ot o h) fun h=>.tb h
theorem bH.unre {a} (h:bH c (W.re pi2) a):bH c W a:=h.casesOn (fun p h=>.own p h) (fun o h=>.fz o h) (fun o h=>.ot o h) fun h=>.tb h
theorem df.protI {Kr} (en:df c s b0 T args vals W fi fd bV bb env S' Kr) {a} (h:bH (eB c W S' env (bC Kr fi.params T.len) fi dp) (c_ W S' env (bC Kr fi.params T.len)) a):bH c W a∨jf env a:=
  h.casesOn (fun p h=>(mw h).elim (fun z=>.inr z.1) fun z=>z.2.elim fun p z=>.inl (.own p z.1)) (fun o h=>.inl (.fz o h)) (fun o h=>.inl ((fL h).casesOn (fun h=>.ot o h) fun p h ζ ζ=>.own p h)) fun h=>.inl (.tb h)
section
variable {K:Pl→Prop} {xg:Nat→Option GenState} {hf:Pl→Option Pl} {hd:Bool} {outs:List Internal.V}
theorem cH.repi (l:cH c (W.re pi2) W3 K xg N bf hf env fl sc dp hd outs pi0 own2 gown2 pi4) (f:bj c W):cH c W W3 K xg N bf hf env fl sc dp hd outs pi0 own2 gown2 W.pi:=
  ⟨f,⟨l.g.own,l.g.fr,fun a n=>⟨(l.g.new a n).1,fun p=>(l.g.new a n).2 p.repi⟩,l.g.gown,l.g.xg,l.g.fun_,l.g.fm,l.g.kf,l.g.up⟩,l.x,l.fun_,l.lab,fun ζ ζ h=>h,fun ζ ζ=>rfl⟩
end
theorem tE {h:Heap} {fl} (hf:h.FunFrames {} fl):h.FunFrames (hideAll h (e::bF fl)) fl:=funFrames_hide hf fun env he a q=>aK _ (k4.mpr ⟨env,he,q⟩)
theorem F8 (x:aZ c s b T W) (en:df c s' b0 T args vals (W.re pi2) fi fd bV bb env S' K0) (ep:¬bH c W e) (em:e∉bF c.fl) (i:D9 (eB c (W.re pi2) S' env (bC K0 fi.params T.len) fi dp) b3 T3 e s3 S):oV c 1 (.ref e) (E5 s s3) S:=i.casesOn fun W3 x3 ei=>by
  have xm:=x.mem en.en.keep en.en.gens en.en.os
  have l:=cH.repi (en.leave (k:=0) x3 (fun ζ ζ h=>h) fun ζ ζ=>rfl) xm.fits
  induction ei with|mk oe t h1 h2 h3 h4 h4' h5=>
  have y:aZ c (E5 s s3) b T _:=l.sim xm (fun ζ h=>bG h) x3.rg ⟨rfl,rfl,rfl,rfl,rfl,fun r=>.inr (.inl ⟨rfl,by trivial⟩)⟩
  refine .mk (dP _ W3 _ _ _) b y.nil (.mk e _ _ ⟨fun a o q=>of_hideAll _ q,hideAll_none _ (.head _),tE y.fits.fun_,.new oe _ h1 h2 rfl h3 rfl⟩ (fun p=>h4 (l.prot p).1) (fun a o p m z=>hideAll_get _ z fun w=>?_) (.inl rfl))
  exact(aL.mp w).elim (fun w=>h4 (w▸(l.prot p).1)) m
noncomputable def Ef (c:aU) (A:Around) (vals:List Value):d7 Flow:=fun Q E S=>iG c.C (.ref c.C.P.cErr) S∧wpAny c.C.M A (PySem.call (.ref c.C.P.cErr) vals) (Rz c.C E) E S
theorem Dg {ps} {as dfl:List α} {kw} {b} (h:dm ps as dfl kw=some b):as.length≤ps.length:=bE h fun g ζ=>ag (aa.mp g).1
theorem Cv {R:Fl→Flow→St→Shared→Prop} {Q} {f} {t} (hex:ut PP r.ex) (gq:GQ PP c A) (hh:c.hd=false) (hdp:c.dp=dp+1) (hcls:fi.cls=none) (hbody:fi.body.all (tM c.C.P)=true) (x:aZ c s b T W) (m1:W.hp e=some {cls:=.ref c.C.P.cErr,data:=.fields #[.ref t,.none,.none,.none,.bool false,.none]}) (p3:pi2 3=some e) (np:¬bH c W e) (nm:e∉bF c.fl)
    (F:k8 c (s.setReg 3 .taken) b T args vals (W.re pi2) fi bV f fd bb env S') (an:bZ (pm c) R Q E (((pX (Cw fi bV dp) E5 (fun ζ ζ h=>⟨h.ob,aD _⟩) (noErr (JC r fi.body))).bind fun ζ=>eT 1 .none).run s)):
    wpAny c.C.M (A.deeper env) (execs fi.body env) (fun f S=>f=.next∧Rz c.C E (.ref e) S) (fun ζ ζ=>False) S':=by
  have en:=F.e K0
  have ef:¬jf _ e:=fun h=>aX ((en.fresh h).symm.trans m1)
  have ei:EI (eB c _ S' _ _ fi dp) _ e:=⟨_,t,en.en.keep _ _ m1,rfl,rfl,fun p=>(en.protI p).elim (fun p=>np p.unre) ef,fun m=>(en.fmc m).elim nm ef,.none⟩
  refine JB hex p3 ⟨⟨c.fl,rfl⟩,en.en.frame⟩ (gq.deeper hdp hh) hbody (.mk _ ((en.sim (s1:=Cw fi bV dp s) (F.bnd K0) F.inp (show bV=bV++CW _ by rw[hcls];exact(ax _).symm) rfl rfl rfl rfl fun r=>.inr (.inl (by match r with|0=>rfl|1=>rfl|2=>rfl|3=>rfl|_+4=>rfl))).nil (k:=0)) ei) ?_
  exact(bZ.fr (R:=fun(_) v s' S=>oV c 1 v s' S) (bZ.split an) (fun ζ=>rfl) (fun ζ s3 hq ζ S r=>r.elim fun b3 i=>by
    have z:=hq _ S (F8 x en np nm i)
    refine i.casesOn (fun W3 x5 ei z=>?_) z
    induction ei with|mk oe t h1 h2 h3 _ _ _=>
    exact .mk e oe t _ (c.H.ecls _ x5.fits.ok.in0) h1 h2 h3 (z.elim fun ζ z=>z.elim fun s' z=>z.2.2 _ _ z.1)) fun ζ ζ ζ ζ ζ ζ=>trivial).noErr
theorem A0 {R:Fl→Flow→St→Shared→Prop} (hex:ut PP r.ex) (ge:GE PP n c A) (hh:c.hd=false):J (pm c) (gW c b T vs vals s) s (Hw PP r vs) (Ef c A vals) R:=
  .opt fun f hf=>.opt fun fi hfi=>.opt fun bV hb=>.look (.dp fun dp hdp=>.grd fun hg=>fun S Q E i an=>i.casesOn (motive:=fun S ζ=>Ef c A vals Q E S) fun W x rv=>by
    have hg:=aa.mp hg
    have hg2:=aa.mp hg.2
    have hr3:s.reg 3=.empty:=by
      have h:=hg.1
      revert h
      show Jj s.r3=true→s.r3=.empty
      cases s.r3<;>first|exact fun ζ=>rfl|exact fun h=>bG h
    have hcls:fi.cls=none:=aO.mp hg2.2
    have hgen:=(ao _).mp hg2.1
    have ok:=x.fits.ok
    obtain⟨nm,qn,N,bs,sn,sub,ab,col,dd,k0,k1,k2,k3,k5,mN,f',hC,hN,hinit,hns,hmeth,⟨oI,hfI,hfc⟩,hnm⟩:=c.H.ecls _ ok.in0
    obtain⟨Vf,hf,ef⟩:=aw.mp hf
    have ef:=ip ef
    subst ef
    have ef:f=f':=by
      have:=sm (hf.symm.trans (ge.pt▸hmeth))
      injection this with this
      exact this.symm
    subst ef
    have hfi:c.C.P.fn f=some fi:=ge.pt▸hfi
    have hbody:=c.H.ebody f fi hmeth hfi
    have hlen:vals.length≤1000:=by
      have:=Dg hb
      rw[cN,rv.len] at this
      exact ac (bv this) hbody.2
    refine⟨fun A E Q hQ=>wpAny_keeperOf_exc (h:=W.G.S.heap) (g:=W.G.S.gens) hC (hQ _),?_⟩
    refine wpAny_call_exc_init (h:=W.G.S.heap) (g:=W.G.S.gens) PySem.F.excBase_Exception hC hN hinit hfI hfc (fun h' e mk=>?_) (ac hlen (by rw[sizeLine_eq];omega))
    obtain⟨t,m1,m2,m3⟩:=mk.there
    have hpi:W.pi 3=none:=by
      have:=x.rg 3
      rw[hr3] at this
      exact this
    have x1:=x.mem (S':={W.G.S with heap:=h'}) mk.keeps rfl rfl
    have ple:dW W.pi fun r=>if r=3 then some e else W.pi r:=fun r a q=>(if_neg fun z=>aX (hpi.symm.trans (z▸q))).trans q
    have p3:(fun r=>if r=3 then some e else W.pi r) 3=some e:=if_pos rfl
    have x2:=x1.slot (k:=3) (by decide) ((Kp.repi (k:=3) x1.fits ple fun r n=>if_neg n).weak fun q e=>.inl e) (sl:=.taken) trivial
    have x3:aZ c (s.setReg 3 .taken) b (bI (.inst 3::vs) (.ref e::vals) T) ((W.mem {W.G.S with heap:=h'}).re fun r=>if r=3 then some e else W.pi r):=aZ.pushR (T:=.more (.inst 3) (.ref e) T) (show aS c.C W.G.fz (fun r=>if r=3 then some e else W.pi r) vs vals from rv.mono (cO.refl _) ple) (x2.push (.rep _ _ (.inst 3 e p3)))
    obtain⟨u1,u2,u3,u4⟩:=mT A c.C.P.cErr vals []
    have gq:GQ PP c (A.under (.builtin "type.__call__" ⟨.ref c.C.P.cErr::vals,[]⟩)):=GQ.make (pi:=c.pi0) ge
    have np:¬bH c (W.mem {W.G.S with heap:=h'}) e:=fun p=>x.fits.free mk.new p.mem
    have nm:=x.fits.fmfree mk.new
    refine wpAny_call (rP (kw:=[]) (kvals:=[]) hfi x3 (congrArg (· +1) rv.len) .nil hb hgen (by have:=gq.dep;unfold recursionLimit;omega) fun env S' fd bb F=>?_)
    exact PySem.wpAt_mono (_root_.PySem.wpAt_of_wpAny (Cv hex gq hh (x.dp.symm.trans hdp) hcls hbody.1 x1 m1 p3 np nm F an)) (fun fl S3 h=>⟨by rw[h.1];rfl,h.2⟩) fun ζ ζ h=>h.elim)
end
section
variable {c:aU} {W:Wd} {b:Str→Option Value} {V:Internal.V} {v:Value} {n:Nat} {r:dN} {e:Expr} {p:Pos} {x:Str} {P:PT}
structure Ko (P:PT) (x:Str) (s:St) (V:Internal.V):Prop where
  bad:bad x=false
  sc:lk x s.sc=some .globalImplicit
  gl:P.glob x=some V
theorem xi (h:KM P x s=some V):Ko P x s V:=bE h fun g h=>
  have g:=aa.mp g
  ⟨(ao _).mp g.1,of_decide_eq_true g.2,h⟩
theorem qc (g:Ko c.C.P x s V) (h:aZ c s b T W) (hQ:∀v,cP c.C W.G.fz W.pi V v→Q v W.G.S):wpAny c.C.M A (eval (.Name x p) c.env) Q E W.G.S:=pe h g.bad (h.sc▸g.sc) g.gl hQ
theorem lI {q} (h:Gx e=some q):e=.Call q.1 q.2.1 q.2.2.1 q.2.2.2:=by rcases e with⟨⟩<;>first|exact aX h|exact sm h▸rfl
theorem AX {q} (h:Oz e=some q):∃px p,e=.Call (.Name q.1 px) q.2 [] p:=
  aG h fun z e1 h=>aG h fun y e2 h=>by
    obtain⟨f,as,ks,pp⟩:=z
    have e2:=cR e2
    revert h
    show(match ks.isEmpty with|true=>some (y.1,as)|false=>none)=some q→_
    induction hk:ks.isEmpty with
    |false=>exact fun h=>aX h
    |true=>
     intro h
     have h:=sm h
     have hk:=aE.mp hk
     subst h e2 hk
     exact⟨_,_,(lI e1)⟩
theorem An (hn:n≤90) (hev:cr PP n r.ev) (hex:ut PP r.ex):oU PP (.Raise (some e) none pos) (xx PP r e):=fun env b T s c A he hf ge=>he▸.opt fun q hq=>.look (.opt fun a ha=>.grd fun hg S Q E i an=>by
  have hg2:=aa.mp (aa.mp hg).2
  have hh:=i.dp.2.symm.trans ((ao _).mp (aa.mp hg).1)
  obtain⟨px,p,e1⟩:=AX hq
  subst e1
  obtain⟨V,ha,hV⟩:=aw.mp ha
  have hV:=ip hV
  subst hV
  have ea:=of_decide_eq_true hg2.1
  subst ea
  refine wpAny_bind (wpAny_standAt (u9 (ge.hd hh) (wpAny_bind ?_)))
  have j:=J.bind (nX (pos:=p) hev (ge.le hn) _) (fun vs vals s1=>A0 hex ge hh) S Q E i an
  refine i.casesOn (fun W x j=>wpAny_bind (qc (ge.pt▸(xi ha)) x fun fv rv=>?_)) j
  have rv:=rv.inv
  subst rv
  exact eg (cW (ur hg2.2).star) rfl (ee (cW (ur hg2.2).star) rfl (wpAny_mono j (fun vals S h=>wpAny_evalAll_nil ⟨ge.pt▸h.1,(wpAny_mono (ge.pt▸h.2) (fun v S' h=>wpAny_bind (wpAny_standAt (wpAny_pure h))) fun ζ ζ h=>h)⟩) fun ζ ζ h=>h)))
theorem yi {m}:oU PP (.Assert e m pos) (tL PP e):=fun env b T s c A he hf ge=>he▸.opt fun q hq=>.opt fun xc hxc=>.opt fun x hx=>.opt fun z hz=>.look (.opt fun bid hid=>.opt fun rc hrc=>.opt fun k hk=>.grd fun hg S Q E i an=>i.casesOn fun W y=>by
  obtain⟨px,p,e1⟩:=AX hq
  have e2:=Ad hxc id
  rw[(cR hx),(cR hz)] at e2
  rw[e2] at e1
  subst e1
  refine hR fun O u=>?_
  obtain⟨V,h1,hV⟩:=aw.mp hid
  have hV:=mK hV
  have ei:=of_decide_eq_true (aa.mp hg).1
  subst hV ei
  obtain⟨Vk,h3,hV⟩:=aw.mp hk
  have hV:=ip hV
  have ek:=of_decide_eq_true (aa.mp hg).2
  subst hV ek
  obtain⟨Vr,h2,hV⟩:=aw.mp hrc
  have hV:=on hV
  subst hV
  refine u (hG h2 fun hb hl=>wpAny_Assert_holds (wpAny_isTrue_value (wpAny_bind (qc (ge.pt▸xi h1) y fun fv rv=>?_)) rfl))
  have rv:=rv.inv
  subst rv
  refine eg rfl rfl (ee rfl rfl ?_)
  refine(y.nm _ _ hl Internal.V.noConfusion).casesOn fun yv g oy=>Calls.spliced_cons (dZ y hb g ?_)
  refine Calls.spliced_cons (qc (ge.pt▸xi h3) y fun kv rk=>?_)
  have rk:=rk.inv
  subst rk
  refine Calls.spliced_nil (wpAny_evalAll_nil ⟨.bi,?_⟩)
  induction ((oy.to_rep rfl).inv) with|mk ad ws o od ra rs=>
  exact isi_call (t:=.ref rc.1) (c.H.frag y.fits.ok) (fun M=>(Looks.ld (y.fits.ok.sub _ _ ra.at_)).andThen (ra.cls▸(.now))) (by simp[isIn]) (by simp) (wpAny_truthy_bool ⟨rfl,an.2 _ _ ⟨b,T,⟨rfl,rfl⟩,W,y⟩⟩))
end
section
variable {c:aU} {W:Wd} {b:Str→Option Value} {V:Internal.V} {v:Value} {n k k0 N:Nat} {r:dN} {α:Type} {p:Pos} {P:PT} {Q:Flow→Shared→Prop} {els fin:List Stmt} {hs:List ExceptHandler}
set_option backward.match.sparseCases false in
theorem bZ.catch {md} {R:α→β→St→Sh→Prop} {Q} {E} {x} {k} (a:bZ md R Q E ((cT x k).run s)):bZ md R Q (fun v S=>∃c w s',md.Xc c v s' S∧bZ md R Q E ((k c w).run s')) (x.run s):=by
  revert a
  show bZ md R Q E (match x.run s with|.err c v s'=>(k c v).run s'|o=>o)→_
  induction x.run s with
  |ok a s'=>exact id
  |err c v s'=>exact fun h=>⟨h.good ((k c v).mo s'),fun v' S z=>⟨c,v,s',z,h⟩⟩
  |stuck=>exact id
theorem PX.unpin (hh:c.hd=false) {fl} {f} (h:PX (c.pin c.pi0 true) T fl f s S):PX c T fl f (Js s false) S:=h.imp fun b h=>h.imp fun T' h=>⟨h.1,h.2.casesOn fun W x=>⟨W,x.unpin (fun ζ ζ h=>h) ⟨rfl,rfl,rfl,rfl,fun k=>by rfl⟩ hh.symm⟩⟩
theorem vE {R:Prop} {md} {Re:Fl→β→St→Sh→Prop} {Q} {E} (a:bZ md Re Q E ((mF PP r k hs).run s1))
    (h:∀x0 xp st hb hp,hs=[⟨some (.Name x0 xp),none,st::hb,hp⟩]→Ko PP x0 s1 (.glob PP.cErr)→k=1→bZ md Re Q E ((pX (fun s=>Js s true) (fun ζ s'=>Js s' false) (fun ζ ζ h=>⟨h.ob,h.ou⟩) (noErr (r.ex (st::hb)))).run s1)→R):R:=a.opt fun q hq a=>by
  obtain⟨eo,xo,hb,hp⟩:=q
  refine bZ.opt a fun n hn a1=>bZ.opt a1 fun ak hk a2=>a2.grd fun g a3=>aG hn fun en e5 e6=>aG hk fun Vk hk e7=>?_
  have g2:=aa.mp (aa.mp g).2
  induction hb with
  |nil=>exact bG g2.1
  |cons st hb=>exact h _ _ st hb hp (by rw[(dD hq id),e5,cR e6,show xo=none from (aO.mp (aa.mp g).1)]) ((of_decide_eq_true (aa.mp g2.2).1)▸ip e7▸xi hk) (aj (aa.mp g2.2).2) a3
section
variable (hex:ut PP r.ex) (hf:eZ c) (ge:GE PP 90 c A)
include hex hf ge
theorem yY (hh:c.hd=false) (hy:∀h∈hs,lr N (Jr h)=true) (i:oV c k v s1 S) (a:bZ (pm c) (PX c (.nil k0)) Q E ((mF PP r k hs).run s1)):
    wpAny c.C.M A (noteFrame v c.env) (fun ζ s₂=>wpAny c.C.M A (setFlight v none) (fun ζ s₃=>wpAny c.C.M A (handleBy v c.env hs) Q E s₃) E s₂) E S:=vE a fun x0 xp st hb hp e1 gk e4 a3=>by
  subst e1 e4
  have hyb:lr N (st::hb)=true:=hy _ (bA ..)
  induction i with|mk W b x hx=>
  induction hx with|mk e0 base dx hin hn' hst hk'=>
  obtain⟨outer,hfl⟩:=hf.fl
  have hin':=hin
  rw[hfl] at hin'
  refine mm (A:=A) (by rw[ge.fr,hfl]) hf.frame hin' fun h1 y1 y2 y3 y4 y5=>?_
  rw[←hfl] at y2 y5
  have sl:∀{h h':Heap},h.FunFrames base c.fl→(∀b o,h.get? b=some o→(∀vs,o.data≠.fields vs)→h'.get? b=some o)→fj c.fl h h':=fun y2 z5 b hm o q=>by
    obtain⟨_,o',q',hn⟩:=y2.mem hm
    exact⟨o.slots,z5 b o q (sm (q.symm.trans q')▸hn)⟩
  refine kh (s:={W.G.S with heap:=h1}) y1 y2 y3 fun h2 z1 z2 z3 z4 z5=>?_
  have s2:=y5.trans (sl y2 z5)
  have x2:=(kN x hn' hst hk' z1 s2 ⟨z1,hin.new,z2,.bare z3⟩).1
  refine wpAny_handleBy_cons (codeAny_handlers_test (qc (ge.pt▸gk) x2 fun cv rv=>?_)) (by intro q;cases q)
  have rv:cv=.ref c.C.P.cErr:=rv.inv
  subst rv
  obtain⟨tn,qn,nN,bs',sn,sub,ab,col,dd,j0,j1,j2,j3,j5,mN,f',hC,_⟩:=c.H.ecls _ x2.fits.ok.in0
  obtain⟨oe,vs0,T,oT,ts,t1,t2,t3⟩:=id z3
  refine wpAny_excMatches_sub_self (h:=h2) hC t1 (t2.trans (by unfold ig;rw[if_pos rfl])) (by unfold D3;simp) ?_
  refine codeAny_handlers_suite ?_
  refine kh (s:={W.G.S with heap:=h2}) z1 z2 z3 fun h3 w1 w2 w3 w4 w5=>?_
  have x3:=(kN x hn' hst hk' w1 (s2.trans (sl z2 w5)) ⟨w1,hin.new,w2,.bare w3⟩).1
  have x4:=(x3.nil (k:=k0)).pin (hd:=true) (s':=Js s1 true) x3.fits.ple ⟨rfl,rfl,rfl,rfl,fun k=>by match k with|0=>rfl|1=>rfl|2=>rfl|3=>rfl|_+4=>rfl⟩ rfl
  refine hex N (st::hb) (c.pin c.pi0 true) (A.mark (some (.ref e0))) hyb ⟨hf.fl,hf.frame⟩ ⟨ge.pt,(fun h=>nomatch h),ge.dep,ge.un,ge.fr⟩ () b (.nil k0) (Js s1 true) _ _ _ ⟨_,x4⟩ (bZ.imp (bZ.noErr (bZ.fr (c2:=c.pin c.pi0 true) (R2:=PX (c.pin c.pi0 true) (.nil k0)) (Q':=Q) (E':=fun ζ ζ=>True) a3 (fun ζ=>rfl) (fun fl s' hq f S z=>hq f S (z.unpin hh)) fun ζ ζ ζ ζ ζ ζ=>trivial)) (fun f S h=>?_) fun ζ ζ h=>h.elim)
  exact h
theorem It:J (pm c) (a_ c b (.nil k0) s) s (HP PP r body hs els fin) (fun Q E=>wpAny c.C.M A (exec (.Try body hs els fin pos) c.env) Q E) (PX c (.nil k0)):=.look (.grd fun hg S Q E i an=>by
  have hg2:=aa.mp (aa.mp hg).2
  have hg4:=aa.mp (aa.mp hg2.2).2
  have e1:=aE.mp (aa.mp hg).1
  have e2:=aE.mp hg2.1
  subst e1 e2
  induction hs with
  |nil=>exact bG hg4.1
  |cons h0 hs=>
  exact wpAny_Try_except (wpAny_mono (hex 90 _ c A (aa.mp hg4.2).1 hf ge () b _ s S _ _ i (bZ.catch an)) (fun f S h=>by cases f<;>first|exact wpAny_execs_nil h|exact h) fun v S h=>h.elim fun k h=>h.elim fun w h=>h.elim fun s1 h=>yY hex hf ge (i.dp.2.symm.trans ((ao _).mp (aa.mp hg2.2).1)) (fun h hm=>aB.mp (aa.mp hg4.2).2 h hm) h.1 h.2))
end
end
section
variable {c:aU} {W:Wd} {b:Str→Option Value} {V:Internal.V} {v:Value} {n k:Nat} {r:dN} {p:Pos} {e:Expr} {args:List Expr} {name:Str} {q:Str×List Expr} {b0:List Stmt}
structure PQ (e:Expr) (q:Str×List Expr) (p0 p1 ap p:Pos):Prop where
  is:e=.Call (.Attribute (.Call (.Name (ae "super") p0) [] [] p1) q.1 ap) q.2 [] p
  line:Nat.beq ap.endLine p.line=true
  all:cu q.2 []=true
theorem vz (h:kI e=true):∃p0 p1,e=.Call (.Name (ae "super") p0) [] [] p1:=by
  unfold kI at h
  induction e1:Gx e with
  |none=>rw[e1] at h;exact bG h
  |some q=>
   rw[e1] at h
   have h:(match jt _ with|some x=>bx _ _&&(q.2.1.isEmpty&&q.2.2.1.isEmpty)|.none=>false)=true:=h
   induction e2:jt _ with
   |none=>have h:=e2▸h;exact bG h
   |some x=>
    rw[e2] at h
    have h1:=aa.mp h
    have e6:=cR e2
    rw[(bp.mp h1.1)] at e6
    have e7:=lI e1
    rw[e6,(aE.mp (aa.mp h1.2).1),(aE.mp (aa.mp h1.2).2)] at e7
    exact⟨_,_,e7⟩
theorem m_ (h:dH e=some q):∃p0 p1 ap p,PQ e q p0 p1 ap p:=aG h fun z e1 h=>aG h fun a e2 h=>by
  refine bE h fun g h=>?_
  have h:=sm h
  subst h
  have g2:=aa.mp (aa.mp g).2
  obtain⟨p0,p1,e3⟩:=vz (aa.mp g).1
  have e5:=lI e1
  rw[(fK e2),e3,(aE.mp g2.1)] at e5
  exact⟨_,_,_,_,e5,(aa.mp g2.2).1,(aa.mp g2.2).2⟩
theorem y_ (x:aZ c s b T W) (hk:c.env.kindOf name=some .free) (h:b name=some v):∃cc,c.env.cells.lookup name=some cc∧W.G.S.heap.IsCell cc (some v):=
  x.fr.ns.elim fun m h1=>(h1.2 _ v h).casesOn (fun q1 ζ=>nomatch hk.symm.trans q1) (fun ζ q1 ζ ζ ζ=>nomatch hk.symm.trans q1) fun cl o ζ q2 q3 ζ=>⟨cl,q2,q3⟩
inductive Ke (W:Wd) (cl ad:Addr):Value→Shared→Prop
  |mk (h':Heap):h'.get? W.G.S.heap.objs.size=some (ks_superObj cl ad cl)→(∀y o,W.hp y=some o→h'.get? y=some o)→Ke W cl ad (.ref W.G.S.heap.objs.size) {W.G.S with heap:=h'}
set_option tactic.hygienic true in
theorem uU {ox} {od} {ad} {p0 p1} {whole} (x:aZ c s b T W) (es:jk c.C c.env) (hs:Du c.C cl name g) (l1:lk (ae "__class__") s.rho=some (.glob cl)) (l2:lk (ae "self") s.rho=some (.inst i)) (r1:W.pi i=some ad) (r3:InstAt W.G.S.heap ad ox cl od):
    _root_.PySem.wpAt c.C.M A (.func b0 c.env) (attributeBase (.Call (.Name (ae "super") p0) [] [] p1) name c.env whole) (Ke W cl ad) (fun ζ ζ=>False) W.G.S:=by
  refine hR fun O u=>?_
  obtain⟨fa,hfu,⟨o,fd,ar,cda,oc,vs,file,tf,w1,w2,w3,w4,w5,w6,w7,w8,w9,w10,w11⟩,hks,hkc⟩:=es
  obtain⟨cd,k1⟩:=hs.cls
  have ok:=x.fits.ok
  have hD:∃oD,W.G.S.heap.get? cl=some oD∧oD.data=.cls cd:=by
    unfold clsIn at k1
    split at k1
    ·rename_i c1 d1 cd1 sl ho
     exact⟨_,(c.H.frag ok) _ _ ho,congrArg _ (sm k1).symm⟩
    trivial
  obtain⟨oD,hD1,hD2⟩:=hD
  refine u (ks_wpAt_super_base hks hkc hs.no hfu (ok.in0 _ _ w2 w1) w3 w4 w6 (ok.in0 _ _ w8 w7) w9 w10 w11 c.H.stp (ks_loadName_global x.env.kind hks ?_))
  induction c.H.gl with|mk mg mb m1 m2 m3=>
  induction m3 _ _ c.H.sgl with|mk v hv hr=>
  have hr:=(hr _ ok.base).inv
  subst hr
  have n1:=All.ns ok m1 c.H.glt.1
  rw[←x.env.globals] at n1
  have rest:wpAny c.C.M A (loadName c.env "__class__") (fun cls s₂=>wpAny c.C.M A (loadName c.env ar.arg) (fun self s₃=>
   wpAny c.C.M A (isType cls) (fun b s₄=>b=true∧wpAny c.C.M A (PySem.call (.type "super") [cls,self]) (Ke W cl ad) (fun ζ ζ=>False) s₄) (fun ζ ζ=>False) s₃) (fun ζ ζ=>False) s₂) (fun ζ ζ=>False) W.G.S:=by
    refine(x.nm _ _ l1 Internal.V.noConfusion).casesOn fun cv g1 o1=>?_
    have ec:=(o1.to_rep rfl).inv
    subst ec
    obtain⟨cc,e1,e2⟩:=y_ x hkc g1
    refine wpAny_loadName_free x.env.kind hkc e1 e2 (w5▸?_) rfl
    refine(x.nm _ _ l2 Internal.V.noConfusion).casesOn fun sv g2 o2=>wl x rfl g2 ?_
    induction ((o2.to_rep rfl).inv) with|mk ad' ea=>
    have e:=sm (ea.symm.trans r1)
    subst e
    refine ks_wpAny_isType_cls hD1 hD2 ⟨rfl,(ks_wpAny_call_super hD1 hD2 r3.at_ r3.cls (fun c1 e=>?_) (looks_mroIn (c.H.frag ok) hs.mro) fun h' e k=>.mk h' e k)⟩
    have:=r3.no
    unfold notCls at this
    rw[e] at this
    trivial
  exact hv.elim (fun hv=>Calls.loadGlobal_global n1 hv ⟨rfl,rest⟩) fun z=>Calls.loadGlobal_builtin n1 z.1 (x.env.builtins▸(All.ns ok m2 c.H.glt.2.1)) z.2 ⟨rfl,rest⟩
theorem sq (hev:cr PP n r.ev) (hcall:fU PP n r.call) (he:dH e=some q) (es:jk c.C c.env) (ge:GE PP n c A):J (pm c) (a_ c b T s) s (gf PP r q.1 q.2) (fun Q E=>_root_.PySem.wpAt c.C.M A (.func b0 c.env) (eval e c.env) Q E) (PV c b T):=
  .look (.opt fun cl h1=>.opt fun i h2=>.opt fun g h3=>.look (.opt fun z hz=>.grd fun hcl S Q E k an=>k.casesOn fun W x=>by
    refine hR fun O u=>?_
    obtain⟨p0,p1,ap,p,sc⟩:=m_ he
    obtain⟨he,hl,hall⟩:=sc
    subst he
    obtain⟨V1,h1,e1⟩:=aw.mp h1
    obtain⟨V2,h2,e2⟩:=aw.mp h2
    have e1:=ip e1
    have e2:=fM e2
    subst e1 e2
    have e3:=aj hcl
    subst e3
    refine u ?_
    have hs:=c.H.sup _ _ _ (ge.pt▸h3)
    have R:=x.rg i
    rw[ku hz] at R
    induction R.is with|mk ad ox od f r1 r2 r3 _ _ _ _=>
    refine _root_.PySem.wpAt_bind (_root_.PySem.wpAt_mono (uU x es hs h1 h2 r1 r3) (fun ov S1 h=>_root_.PySem.wpAt_of_wpAny ?_) fun ζ ζ h=>h.elim)
    induction h with|mk h' hso hkp=>
    have x1:=x.mem (S':={W.G.S with heap:=h'}) hkp rfl rfl
    have X1:=c.H.frag x1.fits.ok
    obtain⟨cd,k1⟩:=hs.cls
    refine wpAny_bind (wpAny_standAt ?_)
    have hpos:methodCallPos true (.Call (.Name (ae "super") p0) [] [] p1) c.env ap p=pure p:=by
      unfold methodCallPos
      rw[show(ap.endLine==p.line)=true from beq_iff_eq.mpr (aj hl)]
      rfl
    unfold methodCall
    refine ((sW (ur hall)))▸wpAny_bind (wpAny_holding ?_)
    obtain⟨of,hof,hofc⟩:∃of,h'.get? g=some of∧of.cls=.type _:=by
      obtain⟨of,z1,z2⟩:=ay.mp hs.fn
      exact⟨of,X1 _ _ z1,z2⟩
    have hal:=by
      have:=hs.sup
      unfold ks_superIn at this
      rw[k1] at this
      exact this
    refine ks_wpAny_getMethod_super hso (looks_opaque X1 c.H.opq) (fun A Q E s k q=>wpAny_bind ((looks_clsIn X1 k1) A _ E s k (wpAny_pure q))) rfl X1 hal hof hofc (ks_ne (c.H.frag x.fits.ok) r3 k1) hs.no (wpAny_bind (wpAny_of_eq hpos ?_))
    have fr:=bK h'
    have hq2:(h'.push {cls:=.type "method",data:=.fields #[.ref g,.ref ad]}).get? _=some _:=Heap.get?_push_size _ rfl
    refine tZ hev hcall ge hall _ Q E (.of ((x1.grow (S':={W.G.S with heap:=h'.push _,toks:=W.G.S.toks+1}) (fun a o e=>Heap.get?_push_of_some _ e) rfl rfl (· =h'.objs.size) fun a e=>e▸⟨x1.fits.free fr,x1.fits.fmfree fr⟩).push (.rep _ _ (.meth g i ad _ r1 (eh rfl hq2 (bP fun o q=>x1.fits.free fr (.fz o q)))))) rfl) an))
end
section
variable {M:iw} {n N:Nat} {r:dN} {st:Stmt} {rest:List Stmt} {e:Expr} {x:Tr Fl} {α:Type}
noncomputable def MW PP M:=∀{n} {r:dN},n≤90→cr PP n r.ev→∀ye yp pos,uK M (.Expr (.Yield (some ye) yp) pos) ((r.ev ye).bind fun v=>aT fun s=>gT (noI 20 v&&!s.hd) "yield" (uT (fun s=>ve s (s.outs++[v])) (fun ζ=>⟨id,kZ _ _⟩) (rT .next)))
noncomputable def NG (M:iw):=∀{b T s S b' T' s' S'},M.At b T s S→M.At b' T' s' S'→s'.dp=s.dp∧s'.hd=s.hd
noncomputable def kX PP M N body:=lr N body=true∨MW PP M
noncomputable def rD PP (ex:List _→Tr Fl):=∀M,cK PP M→NG M→∀N body,kX PP M N body→zU M body (ex body)
theorem pD {c} {A}:NG (u_ c A):=fun i j=>⟨(a_.dp j).1.trans (a_.dp i).1.symm,(a_.dp j).2.trans (a_.dp i).2.symm⟩
theorem rD.p {ex} (h:rD PP ex):ut PP ex:=fun N body c A hy hf ge=>h _ (sQ hf ge) pD N _ (.inl hy)
theorem kX.suite {l} (h:kX PP M (N+1) [st]) (hl:l∈uV st):kX PP M N l:=h.imp (fun h=>aB.mp (aa.mp (aa.mp h).1).2 l hl) id
theorem kX.head (h:kX PP M N (st::rest)):∃N',kX PP M (N'+1) [st]:=h.elim (fun h=>by
  induction N with
  |zero=>exact bG h
  |succ N=>exact⟨N,.inl (by
     show(_&&true)=true
     rw[ml];exact ((aa.mp h).1))⟩) fun h=>⟨0,.inr h⟩
theorem kX.tail (h:kX PP M N (st::rest)):kX PP M N rest:=h.imp (fun h=>by
  induction N with
  |zero=>exact bG h
  |succ N=>exact(aa.mp h).2) id
theorem uK.grd {k} {w} (h:k=true→uK M st x):uK M st (gT k w x):=fun π b T s=>.grd fun hk=>h hk π b T s
theorem uK.opt {o:Option α} {w} {k} (h:∀a,o=some a→uK M st (k a)):uK M st (oT o w k):=fun π b T s=>.opt fun a ha=>h a ha π b T s
theorem Ia {o} (h:Nj e=some o):∃p,e=.Yield o p:=by rcases e with⟨⟩<;>first|exact aX h|(have e:=sm h;subst e;exact⟨_,rfl⟩)
section
variable (hn:n≤90) (hev:cr PP n r.ev) (htr:iq PP n r.tr) (hp:ut PP r.ex)
include hn hev
theorem EN (ok:cK PP M) (h:kX PP M (N+1) [.Expr e pos]):uK M (.Expr e pos) (vK r e):=by
  unfold vK
  induction hy:Nj e with
  |none=>exact ok.plain (Ev hn hev)
  |some o=>
   refine .opt fun e' ho=>?_
   subst ho
   obtain⟨p,e1⟩:=Ia hy
   subst e1
   exact h.elim (fun h=>bG h) fun h=>h hn hev e' p _
include htr hp
theorem wz (ok:cK PP M) (stb:NG M) (hl:∀l,l∈uV st→zU M l (r.ex l)) (h:kX PP M (N+1) [st]):uK M st (oR PP r st):=by
  cases st with
  |Expr e p=>exact EN hn hev ok h
  |Pass p=>exact ok.plain Eu
  |Break p=>exact ok.plain Ao
  |Continue p=>exact ok.plain Ew
  |Return v p=>induction v with
   |none=>exact ok.plain Et
   |some e=>exact ok.plain (Iz hn hev)
  |Assign ts v p=>exact .opt fun t ht=>dD ht fun e=>e▸ok.plain (IA hn hev (fun q hq=>uR hq) fun q hq ht=>Ex hn hev htr q hq ht)
  |AugAssign t op v p=>
   cases op<;>first|exact fun π b T s=>.stk|skip
   show uK M _ (match jt t with
     |some x=>J7 PP r t _ v
     |.none=>oT _ _ _)
   induction hx:jt t with
   |some x=>
    have e:=cR hx
    subst e
    exact ok.plain (Ey hn hev)
   |none=>exact ok.plain Ez
  |If t a b p=>exact ok.if_ hn htr (hl a (.head _)) (hl b (.tail _ (.head _)))
  |While t a b p=>exact .grd fun hb=>aE.mp hb▸ok.while_ hn htr (hl a (.head _)) _
  |For t it a b p=>exact .grd fun hb=>aE.mp hb▸ok.for_stmt hn hev mc.of Bt (hl a (.head _)) stb
  |Raise e c p=>exact .grd fun hc=>aO.mp hc▸.opt fun e' he=>he▸ok.plain (An hn hev hp)
  |Assert e m p=>exact ok.plain yi
  |_=>exact fun π b T s=>.stk
end
theorem F1 (hn:n≤90) (hev:cr PP n r.ev) (htr:iq PP n r.tr) (hl:rD PP r.ex):rD PP (bB PP r):=fun M ok stb N body h=>by
  induction body with
  |nil=>exact ok.nil
  |cons st rest ih=>exact h.head.elim fun N' h'=>ok.cons (wz hn hev htr hl.p ok stb (fun l m=>hl M ok stb N' l (h'.suite m)) h') (ih h.tail)
end
section
variable {C:Cf} {M:iw} {π:M.Pc} {n N k:Nat} {r:dN} {st:Stmt} {b0 rest:List Stmt} {e t:Expr} {x:Tr Fl} {α:Type} {b:Str→Option Value} {c:aU} {L:List Internal.V} {q:Str×List Expr}
noncomputable def zH PP C env b0 b T s (x:Tr α) (m:Sem β) Z:=∀c A,c.C=C→c.env=env→eZ c→GE PP 90 c A→J (pm c) (a_ c b T s) s x (fun Q E=>_root_.PySem.wpAt c.C.M A (.func b0 c.env) m Q E) (Zs (a_ c) Z)
structure Dt (PP:PT) (C:Cf) (M:iw) (π:M.Pc) (b0:List Stmt):Prop where
  ok:cK PP M
  stb:NG M
  top:∀{α β:Type} {x:Tr α} {m:Sem β} {Z b T s},zH PP C M.env b0 b T s x m Z→J M.md (M.At b T s) s x (M.run π m) (Zs M.At Z)
theorem zH.of {x:Tr α} {m:Sem β} {Z} (h:∀c A,c.C=C→c.env=env→eZ c→GE PP 90 c A→J (pm c) (a_ c b T s) s x (fun Q E=>wpAny c.C.M A m Q E) (Zs (a_ c) Z)):zH PP C env b0 b T s x m Z:=fun c A h1 h2 h3 h4=>(h c A h1 h2 h3 h4).by fun Q E S h=>_root_.PySem.wpAt_of_wpAny h
theorem wv (h:dH e=some q):E9 e=true∧fF e=true:=(m_ h).elim fun ζ z=>z.elim fun ζ z=>z.elim fun ζ z=>z.elim fun ζ z=>z.is▸⟨rfl,rfl⟩
section
variable (hev:cr PP 90 r.ev) (hcall:fU PP 90 r.call) (hs:dH e=some q) (es:jk C env)
include hev hcall hs es
theorem EB:zH PP C env b0 b T s (gf PP r q.1 q.2) (eval e env) fun b' T' V v=>b'=b∧T'=.more V v T:=fun c A h1 h2 hf ge=>by
  subst h1 h2
  exact(sq hev hcall hs es ge).post fun V v s S i=>⟨b,_,⟨rfl,rfl⟩,i⟩
theorem Ap:zH PP C env b0 b T s ((gf PP r q.1 q.2).bind fun v=>gT (Fw v) "super value" (rT .next)) (exec (.Expr e pos) env) (Zx T):=fun c A h1 h2 hf ge S Q E i a=>by
  subst h1 h2
  rw[exec_Expr _ e _ (i.casesOn fun W x=>x.inter) (gN (wv hs).1)]
  refine _root_.PySem.wpAt_bind (_root_.PySem.wpAt_of_wpAny (wpAny_standAt ?_))
  have j:J _ _ s ((gf PP r _ _).bind fun v=>gT (Fw v) "super value" (rT Fl.next)) (jC.bind (fun Q E=>_root_.PySem.wpAt _ A (.func b0 _) _ Q E) _) (Zs _ (Zx T)):=.bind (sq hev hcall hs es ge) fun V v s1=>.grd fun hN=>.pure fun S i=>⟨b,T,⟨rfl,rfl⟩,a_.pop i⟩
  exact _root_.PySem.wpAt_bind (_root_.PySem.wpAt_mono (j S Q E i a) (fun v S h=>_root_.PySem.wpAt_of_wpAny (wpAny_dropValue h)) fun ζ ζ h=>h)
end
theorem Jt {R:Prop} {q} (h:gxE e=some q) (k:∀ps,e=.GeneratorExp q.1 q.2.1 q.2.2 ps→R):R:=by rcases e with⟨⟩<;>first|exact aX h|(have e:=sm h;subst e;exact k _ rfl)
theorem yR {z} (h:ja e=some z):∃xs k1 k2 ap pg p,e=.Call (.Attribute (.Constant (.str xs) k1 k2) (ae "join") ap) [.GeneratorExp z.2.1 z.2.2.1 z.2.2.2 pg] [] p∧Nat.beq ap.endLine p.line=true∧z.1=ys xs:=
  aG h fun q e1 h=>aG h fun a e2 h=>aG h fun x e3 h=>aG h fun g e4 h=>aG h fun g' e5 h=>by
    refine bE h fun c h=>Jt e5 fun pg e5=>?_
    have h:=sm h
    subst h
    have c1:=aa.mp c
    refine hR fun o O=>?_
    obtain⟨k,e6,e7⟩:=aw.mp e3
    obtain⟨xs,e8,e9⟩:=ay.mp e7
    obtain⟨k1,k2,e6⟩:=n8 e6
    refine O ?_
    have e10:k=.str xs:=by rcases k with⟨⟩<;>first|exact aX e8|exact congrArg _ (Option.some.inj e8)
    have e11:=lI e1
    rw[(fK e2),e6,e10,(dD e4 id),aE.mp c1.1,bp.mp (aa.mp c1.2).1,e5] at e11
    exact⟨xs,k1,k2,_,pg,_,e11,(aa.mp c1.2).2,e9.symm⟩
theorem B5 {P} {elt} {gens} {sc} {ss} (h:nQ P elt gens sc s=some ss):s.hd=false:=aG h fun ζ ζ h=>aG h fun ζ ζ h=>aG h fun ζ ζ h=>aG h fun ζ ζ h=>bE h fun g ζ=>by
  exact(ao _).mp ((aa.mp (aa.mp (aa.mp (aa.mp (aa.mp (aa.mp g).2).2).2).2).2).2)
theorem Ep:se (ae "join")=true:=by trivial
theorem Am:KA (ae "join")="str.join":=by trivial
set_option maxHeartbeats 2000000 in
theorem Bq {z:List Nat×Expr×List Comprehension×Scope} {l:List (List Nat)} {o:Bool} (hz:ja e=some z) (gx:o8 c.C c.env.code) (ge:GE PP 90 c A) (hl:nQ PP z.2.1 z.2.2.1 z.2.2.2 s=some l) (hsz:(Nat.ble z.1.length 100000&&(Nat.ble l.length 1000000&&Nat.ble (b_ z.1 l).length 1000000))=true):
    J (pm c) (a_ c b T s) (wK s o) (de (iK PP t (.str (b_ z.1 l)))) (fun Q E=>wpAny c.C.M A (exec (.Assign [t] e pos) c.env) Q E) (Zs (a_ c) (Zx T)):=fun S Q E i a=>i.casesOn (motive:=fun S ζ=>wpAny c.C.M A (exec (.Assign [t] e pos) c.env) Q E S) fun W x=>by
  refine hR fun O u=>?_
  obtain⟨xs,k1,k2,ap,pg,p,e1,hline,hx⟩:=yR hz
  refine u ?_
  rw[hx] at a hsz
  have g1:=aa.mp hsz
  rw[arm_exec_Assign]
  refine wpAny_bind (wpAny_standAt ?_)
  rw[show swapsWithSole [t] e pos.line c.env=pure false from gN (by rw[e1];rfl)]
  refine wpAny_bind (wpAny_pure ?_)
  rw[if_neg (by decide)]
  refine wpAny_bind (m:=eval e c.env) ?_
  suffices h:∀K:Value→Shared→Prop,(∀v S,mS c A t e v Q E S→K v S)→wpAny c.C.M A (eval e c.env) K E W.G.S from h _ fun ζ ζ h=>h
  intro K hK
  rw[e1]
  refine pd (C:=c.C) (A:=A) (Q:=K) (E:=E) (S:=W.G.S) (env:=c.env) (pos:=p) (apos:=ap) (name:=ae "join") (ks:=[]) (args:=[.GeneratorExp z.2.1 z.2.2.1 z.2.2.2 pg]) (o:=.Constant (.str xs) k1 k2) rfl rfl hline fun pl=>wpAny_Constant_str ?_
  generalize hnj:ae "join"=nj
  refine Hh (hnj▸Ep) ?_
  rw[←hnj]
  rw[Am]
  refine eg (cW rfl) rfl (ee (cW rfl) rfl ?_)
  rw[dI rfl]
  refine Calls.spliced_cons (wpAny_mono (yc (t:=W.G.S.toks) (x.mem (S':={W.G.S with toks:=W.G.S.toks+1}) (fun ζ ζ h=>h) rfl rfl) (ge.hd (x.hd.symm.trans (B5 hl))) (by have:=ge.dep;unfold recursionLimit;omega) gx (ge.pt▸hl) (ag g1.1) (ag (aa.mp g1.2).1) (ag (aa.mp g1.2).2) (Q:=K) fun W' t' x'=>hK _ _ ((fun W' t' (x':aZ c s b T W')=>uX (e:=e) (v:=.str ⟨(b_ (ys xs) l).toArray⟩ t') (A:=A) ge.pt W'.G.S Q E (a_.same ⟨W',x'.push (.rep _ _ (.str _ t'))⟩ (ll o)) a) W' t' x')) (fun v S' h=>Calls.spliced_nil (wpAny_evalAll_nil ⟨.bi,?_⟩)) fun ζ ζ h=>h)
  show wpAny c.C.M A (PySem.call (.builtin "str.join") [.str xs W.G.S.toks,v]) _ _ _
  rw[(show xs=(⟨(ys xs).toArray⟩:Str) from by trivial)]
  exact h
theorem Bo {z} (hz:ja e=some z) (gx:o8 C env.code):zH PP C env b0 b T s (aT fun s=>oT (nQ PP z.2.1 z.2.2.1 z.2.2.2 s) "genexp" (nJ PP t z.1)) (exec (.Assign [t] e pos) env) (Zx T):=.of fun c A h1 h2 hf ge=>by
  subst h1 h2
  exact .look (.opt fun l hl=>.need' fun hsz=>Bq hz gx ge hl hsz)
end
section
variable {C:Cf} {M:iw} {π:M.Pc} {n N k:Nat} {r:dN} {st:Stmt} {b0 rest:List Stmt} {x:Tr Fl} {α:Type} {b:Str→Option Value} {c:aU} {L:List Internal.V} {e:Nat} {P:End→Shared→Prop}
section
variable (top:Dt PP C M π b0) (hev:cr PP 90 r.ev) (htr:iq PP 90 r.tr) (hl:rD PP r.ex) (hcall:fU PP 90 r.call)
include top hev htr hl hcall
theorem EQ (es:jD [st]=true→jk C M.env) (gx:jG [st]=true→o8 C M.env.code) (h:kX PP M N [st]) b s:J M.md (M.At b (.nil k) s) s (jw PP r st) (M.run π (exec st M.env)) (uL M (.nil k)):=by
  obtain⟨N',h⟩:=h.head
  have gen:=wz (aC 90) hev htr hl.p top.ok top.stb (fun l m=>hl M top.ok top.stb N' l (h.suite m)) h π b (.nil k) s
  cases st with
  |Expr e p=>
   show J _ _ _ (match dH e with|some q=>(gf PP r _ _).bind _|.none=>oR PP r _) _ _
   induction hs:dH e with
   |none=>exact gen
   |some q=>exact top.top (Ap hev hcall hs (es (by show((dH e).isSome||false)=true;rw[hs];rfl)))
  |For t it body els p=>
   show J _ _ _ (match dH it with|some q=>gT _ _ _|.none=>oR PP r _) _ _
   induction hs:dH it with
   |none=>exact gen
   |some q=>
    refine .grd fun hb=>?_
    have hb:=aE.mp hb
    subst hb
    refine .by (.bind (top.top (EB hev hcall hs (es (by show((dH it).isSome||false)=true;rw[hs];rfl)))) fun V v s1=>fun S Q E i0=>i0.elim fun b' i1=>i1.elim fun T' i2=>?_) fun Q E S h=>top.ok.skip (top.ok.bind (top.ok.mono h fun v S h=>by rw[nV (wv hs).2];exact top.ok.skip h))
    obtain⟨⟨rfl,rfl⟩,i⟩:=i2
    exact top.ok.for_src mc.of Bt (hl M top.ok top.stb N' _ (h.suite (.head _))) top.stb S Q E i
  |Assign ts e p=>
   show J _ _ _ (match ja e with|some q=>oT _ _ _|.none=>oR PP r _) _ _
   induction hs:ja e with
   |none=>exact gen
   |some q=>
    refine .opt fun t ht=>?_
    have ht:=dD ht id
    subst ht
    exact top.top (Bo hs (gx (by show((ja e).isSome||false)=true;rw[hs];rfl)))
  |Try body hs els fin p=>exact top.top (.of fun c A h1 h2 hf ge=>h2▸It hl.p hf ge)
  |_=>exact gen
theorem qo:∀{body},(jD body=true→jk C M.env)→(jG body=true→o8 C M.env.code)→kX PP M N body→∀b s,J M.md (M.At b (.nil k) s) s (aF PP r body) (M.run π (execs body M.env)) (uL M (.nil k))
  |[],_,_,_,b,s=>top.ok.nil π b _ s
  |st::body,es,gx,h,b,s=>h.head.elim fun N' h'=>top.ok.cons_ (EQ top hev htr hl hcall (fun z=>es ((dB _ _).mpr (.inl ((dL _).symm.trans z)))) (fun z=>gx ((dB _ _).mpr (.inl ((dL _).symm.trans z)))) h')
   (qo (fun z=>es ((dB _ _).mpr (.inr z))) (fun z=>gx ((dB _ _).mpr (.inr z))) h.tail) b s
end
noncomputable def Dc (c:aU) (A:Around) (b0:List Stmt):iw:=⟨Shared,Bool,c.env,pm c,a_ c,fun π m Q E S=>cond π (_root_.PySem.wpAt c.C.M A (.func b0 c.env) m Q E S) (wpAny c.C.M A m Q E S)⟩
theorem kT {π:Bool} {m:Sem α} {Q} {E} (h:wpAny c.C.M A m Q E S):(Dc c A b0).run π m Q E S:=by
  induction π with
  |true=>exact _root_.PySem.wpAt_of_wpAny h
  |false=>exact h
theorem GD (hf:eZ c) (ge:GE PP 90 c A):cK PP (Dc c A b0):=
  have P:=sQ hf ge
  {bind:=fun{α β π m f Q E S} h=>by
     induction π with
     |true=>exact _root_.PySem.wpAt_bind h
     |false=>exact wpAny_bind h
   ret:=fun{α π a Q E S} h=>kT (wpAny_pure h)
   mono:=fun{α π m Q Q' E S} h g=>by
     induction π with
     |true=>exact _root_.PySem.wpAt_mono h g fun ζ ζ h=>h
     |false=>exact wpAny_mono h g fun ζ ζ h=>h
   lift:=fun π h=>(h c A rfl hf ge).by fun Q E S h=>kT h
   pop:=a_.pop
   skip:=fun{α π p f Q E S} h=>by
     induction π with
     |true=>exact _root_.PySem.wpAt_bind (_root_.PySem.wpAt_of_wpAny (wpAny_standAt h))
     |false=>exact wpAny_bind (wpAny_standAt h)
   whl:=fun π t body I Q E h n S i=>kT (P.whl () t _ I Q E (fun ζ=>h false) n S i)
   for_:=fun π t it body I Q E h n S i=>kT (P.for_ () t it _ I Q E (fun ζ=>h false) n S i)}
theorem Da (hf:eZ c) (ge:GE PP 90 c A):Dt PP c.C (Dc c A b0) true b0:=⟨GD hf ge,pD (A:=A),fun h=>h c A rfl rfl hf ge⟩
theorem ue (hev:cr PP 90 r.ev) (htr:iq PP 90 r.tr) (hl:rD PP r.ex) (hcall:fU PP 90 r.call):MY PP 90 (aF PP r):=fun body b0 c b k A s hy hf es gx ge=>qo (Da hf ge) hev htr hl hcall es gx (.inl hy) b s
theorem SegX.wrapAt {m:Sem α} {K} {H} {gd lv} (h:_root_.PySem.wpAt C.M (A.over code []) code m (fun a s'=>SegX C.M A code (K a) [] s' P) (fun x s'=>SegX C.M A code (H x) [] s' P) S):SegX C.M A code (m.wrap K H gd lv) [] S P:=by
  rintro Γ p rfl hΓ
  obtain⟨e,s',hr,hq⟩:=runs_wrap_of_wp K H gd lv m (h _ p rfl (hΓ.over [])) (fun a p' s' h'=>h' Γ p' rfl hΓ) fun x p' s' h'=>h' Γ p' rfl hΓ
  exact⟨e,s',hr,hq⟩
theorem FP (g:fu c0) (hp:c0.C.P=PP):Dt PP c0.C (FU c0 e L) (Ai _ body) body where
  ok:=BX g hp
  stb:=fun i j=>⟨(a_.dp j.1).1.trans (a_.dp i.1).1.symm,(a_.dp j.1).2.trans (a_.dp i.1).2.symm⟩
  top:=fun{α β x m Z b T s} h σ Q E i a K H lv hQ hH=>
    SegX.wrapAt (h (σ.act c0) _ rfl rfl (B8 g σ) (lP.over (Ai _ _).ok i.2.gb hp rfl) _ _ _ i.1 (by
      revert a
      induction x.run s with
      |ok a s'=>exact fun a=>⟨a.1.1,fun v S z=>z.elim fun b z=>z.elim fun T z=>hQ v (σ.mem S) (a.2 v _ ⟨b,T,z.1,z.2,i.2.L,i.2.gb⟩)⟩
      |err k v s'=>exact fun a=>⟨a.1.1,fun v S z=>hH v (σ.mem S) (a.2 v _ ⟨z,i.2.L,i.2.gb⟩)⟩
      |stuck=>exact id))
theorem FQ {fi} (hev:cr PP 90 r.ev) (htr:iq PP 90 r.tr) (hl:rD PP r.ex) (hcall:fU PP 90 r.call):MX PP fi (aF PP r fi.body):=fun c0 e L g hp kd es gx b k s=>
  qo (N:=0) (FP g hp) hev htr hl hcall es gx (.inr fun{n r} hn hev ye yp pos=>y6 g hp hn hev ye yp _ kd) b s
end
section
variable {C:Cf} {n k a:Nat} {r:dN} {b:Str→Option Value} {c:aU} {vals:List Value} {kw:List (Str×Internal.V)} {f:Internal.V} {W:Wd}
structure x7 (PP:PT) (r:dN):Prop where
  ev:cr PP 90 r.ev
  tr:iq PP 90 r.tr
  ex:rD PP r.ex
  call:∀n,fU PP n r.call
  q:G0 PP r.call
theorem bO.hd (i:bO c b T f fv args vals kw kvals s S):s.hd=c.hd:=i.casesOn fun W x ζ ζ ζ=>x.hd
theorem BP (i:bO c b T f fv args vals kw kvals s S) (h:(!s.hd)=true):c.hd=false:=i.hd.symm.trans ((ao _).mp h)
section
variable (L:x7 PP r)
include L
theorem qR (hfi:PP.fn a=some fi) (ge:GQ PP c A) (hh:c.hd=false):J (pm c) (bO c b T (.glob a) (.ref a) args vals kw kvals s) s (eH (aF PP r) fi args kw) (gS c A (.ref a) vals kw kvals) (PV c b T):=by
  induction hg:fi.gen with
  |false=>exact zr (ue L.ev L.tr L.ex (L.call 90)) hfi hg ge hh
  |true=>exact vW (FQ L.ev L.tr L.ex (L.call 90)) hfi hg ge hh
theorem ud (ge:GE PP n c A) (hh:c.hd=false):J (pm c) (bO c b T (.glob a) (.ref a) args vals kw kvals s) s (gg PP r a args kw) (gS c A (.ref a) vals kw kvals) (PV c b T):=by
  unfold gg
  induction hfi:PP.fn a with
  |some fi=>exact .cnd _ (fun ζ=>By fun W=>qR L hfi ⟨ge.pt,ge.q.hd,ge.q.dep,ge.q.un,ge.q.fr⟩ hh) fun ζ=>qR L hfi ge.q hh
  |none=>
   refine .opt fun k hk=>?_
   have md:=c.H.md a k (ge.pt▸hk)
   exact .cnd _ (fun h3=>AZ L.q ge (aj h3▸md)) fun ζ=>(wR L.q ge md).post fun V v s S i=>i.2
theorem IE:G0 PP (ci PP r):=fun f fi args kw c b T A s vals kvals hfi hg hfe ge=>.look (.grd fun hs S Q E i z=>(by
  unfold gg
  exact hfi▸.cnd _ (fun h=>bG (hfe.symm.trans h)) fun ζ=>qR L hfi ge (BP i hs):J _ _ s (gg PP r f _ kw) _ _) S Q E i z)
end
inductive gE (C:Cf) (S:Shared) (a:Nat):Prop
  |fn (o:Obj) (fd:FuncData):S.heap.get? a=some o→o.data=.func fd→gE C S a
  |cls:makesIn C.K a=true→C.K.In S.heap→gE C S a
theorem gE.keeps (h:gE C S a):iG C (.ref a) S:=h.casesOn (fun o fd h1 h2=>.fn h1 h2) fun h1 X A E Q hQ=>by
  have Y:=makes_of (M:=C.M) X h1
  obtain⟨oc,od,cd,sl,hC,_⟩:=Y.obj
  exact wpAny_bind (wpAny_load hC (wpAny_bind (Y.call.here (wpAny_pure (hQ _)))))
theorem gE.of (x:aZ c s b T W) (h:(∃fi,c.C.P.fn a=some fi)∨∃k,c.C.P.regOf a=some k):gE c.C W.G.S a:=h.elim (fun h=>h.elim fun fi h=>(c.H.fn a fi h).is.casesOn fun o fd I=>.fn o fd (x.fits.ok.in0 _ _ I.tb I.at_) I.data) fun h=>h.elim fun k h=>.cls (c.H.md a k h).makes (c.H.frag x.fits.ok)
theorem l5 {R:Internal.V→Value→St→Shared→Prop} {Q E} (h:bZ (pm c) R Q E ((gg PP r a args kw).run s)):(∃fi,PP.fn a=some fi)∨∃k,PP.regOf a=some k:=by
  unfold gg at h
  induction hfi:PP.fn a with
  |some fi=>exact .inl ⟨fi,rfl⟩
  |none=>
   exact bZ.opt (hfi▸h) fun k hk ζ=>.inr ⟨k,hk⟩
theorem C9 (L:x7 PP r) (ge:GE PP n c A) (hh:c.hd=false):J (pm c) (bO c b T (.glob a) (.ref a) args vals kw kvals s) s (gg PP r a args kw) (Ig c A (.ref a) vals kw kvals) (PV c b T):=fun S Q E i z=>
  ⟨i.casesOn fun W x ζ ζ ζ=>(gE.of x (ge.pt▸l5 z)).keeps,rU (ud L ge hh S Q E i z)⟩
theorem vj {g:Nat} {p} {ad} (ho:S.heap.get? p=some (methodObj (.ref g) ad)) (h:∃o,S.heap.get? g=some o):iG C (.ref p) S:=fun A E Q hQ=>by
  obtain⟨o,h⟩:=h
  exact wpAny_bind (wpAny_load ho (wpAny_bind (wpAny_load h (wpAny_pure (hQ _)))))
theorem gE.there (h:gE C S a):∃o,S.heap.get? a=some o:=h.casesOn (fun o ζ h ζ=>⟨o,h⟩) fun h X=>(makes_of (M:=C.M) X h).obj.elim fun oc z=>z.elim fun od z=>z.elim fun cd z=>z.elim fun sl z=>⟨_,z.1⟩
theorem wy (L:x7 PP r) n:fU PP n (ci PP r):=fun f args kw c b T A s fv vals kvals ge=>by
  unfold ci
  induction hm:NE f with
  |some q=>
   have e:=Dl hm
   subst e
   refine .look (.grd fun hs S Q E i z=>i.casesOn (fun W x rf hk hl hh=>?_) (BP i hs))
   induction rf.inv with|mk ad p h1 h2=>
   have ho:=x.fits.ok.sub _ _ h2
   exact⟨vj ho (gE.of x (ge.pt▸l5 z)).there,rU (method_call ho (ud L ge hh _ Q E (.of (x.under (.inst _ _ h1)) (.glob _) hk (congrArg _ hl) rfl) z))⟩
  |none=>
   refine .look (.grd fun hs S Q E i z=>?_)
   induction hg:ry f with
   |some a=>
    have e:=ip hg
    subst e
    have ev:fv=.ref a:=i.casesOn fun W x r ζ ζ=>r.inv
    subst ev
    exact C9 L ge (BP i hs) S Q E i z
   |none=>
    replace z:=hg▸z
    refine z.grd fun hk z=>?_
    have hk:=aE.mp hk
    subst hk
    refine⟨?_,v4 (ge.hd (BP i hs)) S Q E i z⟩
    unfold builtin at z
    induction hb:rB f with
    |some id=>
     have e:=mK hb
     subst e
     exact i.casesOn fun W x r ζ ζ=>r.inv▸.bi
    |none=>
     refine bZ.opt (hb▸z) fun n hn ζ=>?_
     have e:=xN hn
     subst e
     exact i.casesOn fun W x r ζ ζ=>r.inv▸.ty
structure H3 (PP:PT) (m:Nat) (r:dN):Prop where
  ev:cr PP m r.ev
  tr:iq PP m r.tr
  ex:rD PP r.ex
theorem kq m:H3 PP m nb:=⟨fun e c b T A s ge=>.stk,fun e c b T A s ge=>.stk,fun M ok stb N body h π b T s=>.stk⟩
theorem ma.less {e} {x} (h:ma PP n e x):ma PP (n+1) e x:=fun c b T A s ge=>h c b T A s ge.less
theorem Dr.less {e} {x} (h:Dr PP n e x):Dr PP (n+1) e x:=fun c b T A s ge=>h c b T A s ge.less
theorem ma.no {e} {w}:ma PP n e (sT w):=fun c b T A s ge=>.stk
theorem Dr.no {e} {w}:Dr PP n e (sT w):=fun c b T A s ge=>.stk
theorem ma.grd {e} {k} {w} {x} (h:k=true→ma PP n e x):ma PP n e (gT k w x):=fun c b T A s ge=>.grd fun hk=>h hk c b T A s ge
theorem F2 (hev:cr PP n r.ev) (htr:iq PP n r.tr) (hcall:fU PP n r.call):cr PP (n+1) (dh PP r):=fun e=>by
  cases e with
  |Constant k a p=>exact Cn
  |Name x p=>exact F3
  |BinOp l op q p=>exact(Cp hev l q op p).less
  |UnaryOp op x p=>exact(JE hev op x p).less
  |BoolOp op es p=>exact(zf hev op es p).less
  |IfExp t a b p=>exact(Cm hev htr t a b p).less
  |Compare l ops qs p=>exact(JF hev l _ qs p).less
  |Tuple es k p=>exact(Cl hev es k p).less
  |List es p=>exact(F4 hev es p).less
  |Dict ks vs p=>exact F5 ks vs p
  |ListComp elt gens sc p=>exact(Mw hev htr).less
  |Attribute o a p=>exact(F7 hev o a p).less
  |Subscript o i p=>exact JD hev hcall o i p
  |Call f args ks p=>
   refine .grd fun hall=>?_
   induction ha:oS f with
   |none=>exact(F6 hev hcall ha hall).less
   |some q=>
    have e:=fK ha
    subst e
    exact .grd fun hl=>(Co hev hcall hall hl).less
  |_=>exact .no
theorem Em (hev:cr PP n r.ev) (htr:iq PP n r.tr):iq PP (n+1) (Ah PP r):=fun e=>by
  cases e with
  |UnaryOp op x p=>exact(Iu htr op x p).less
  |BoolOp op es p=>exact(yh htr op es p).less
  |Compare l ops qs p=>exact(Ix hev l _ qs p).less
  |Constant k a p=>exact(mX hev _ fun env whole=>rfl).less
  |Name x p=>exact(mX hev _ fun env whole=>rfl).less
  |Attribute o a p=>exact(mX hev _ fun env whole=>rfl).less
  |Call f args ks p=>exact(mX hev _ fun env whole=>rfl).less
  |Subscript o i p=>exact(mX hev _ fun env whole=>rfl).less
  |_=>exact .no
theorem tv {call} (hc:∀n,fU PP n call):∀m,m≤90→H3 PP m (dl PP call m)∧∀n,fU PP n (dl PP call m).call
  |0,_=>⟨kq 0,fun n f args kw c b T A s fv vals kvals ge=>.stk⟩
  |m+1,hm=>have hm':=bv hm
   have h:=tv hc m hm'
   ⟨⟨F2 h.1.ev h.1.tr (h.2 m),Em h.1.ev h.1.tr,F1 hm' h.1.ev h.1.tr h.1.ex⟩,hc⟩
theorem qB:∀d,x7 PP (Hz PP d)
  |0=>⟨(kq 90).ev,(kq 90).tr,(kq 90).ex,fun n f args kw c b T A s fv vals kvals ge=>.stk,fun f fi args kw c b T A s vals kvals ζ ζ ζ ζ=>.stk⟩
  |d+1=>have h:=(tv (wy (qB d)) 90 (aC 90)).1
   ⟨h.ev,h.tr,h.ex,wy (qB d),IE (qB d)⟩
end
section
noncomputable def C1 (w:World) (K:Frag) (h:Heap) (os:OsState):Cf:=
  {prog:=PySem.Challenge.pw_te0067_01,w:=w,K:=bJ K,P:=P1,h₀:=h,tb:=225,slotIx:=iB,os:=os,tbI:=fun o ζ=>∃ps,o=some {cls:=.none,data:=.fields ps}∧TriplesOk ps.toList,good:=fun c=>c∈iE}
theorem fy {α:Type} {n:Nat} {a:α} {l:List (Nat×α)}:lkN n l=some a→(n,a)∈l:=
  l.rec (fun h=>aX h) fun p r ih h=>(Bool.eq_false_or_eq_true (Nat.beq p.1 n)).elim
    (fun q=>aj q▸sm ((show lkN n (p::r)=some p.2 by show(match Nat.beq p.1 n with|true=>some p.2|false=>lkN n r)=_;rw[q]).symm.trans h)▸.head _)
    fun q=>.tail _ (ih ((show lkN n (p::r)=lkN n r by show(match Nat.beq p.1 n with|true=>some p.2|false=>lkN n r)=_;rw[q]).symm.trans h))
theorem bd {d:Data} {v:Array Value} (h:ew d=some v):∃n,d=.seq v n:=by rcases d with⟨⟩<;>first|exact aX h|exact⟨_,congrArg (Data.seq · _) (sm h).symm⟩
theorem bh {d:Data} {v:Array Value} (h:ey d=some v):d=.fields v:=by rcases d with⟨⟩<;>first|exact aX h|exact congrArg _ (sm h).symm
theorem bk {d:Data} {v:FuncData} (h:eA d=some v):d=.func v:=by rcases d with⟨⟩<;>first|exact aX h|exact congrArg _ (sm h).symm
theorem bl {d:Data} {v:Option Value} (h:eM d=some v):d=.cell v:=by rcases d with⟨⟩<;>first|exact aX h|exact congrArg _ (sm h).symm
theorem bn {d:Data} {v:ClassData} (h:eN d=some v):d=.cls v:=by rcases d with⟨⟩<;>first|exact aX h|exact congrArg _ (sm h).symm
theorem bo {V:V} {l:List Internal.V} (h:asL V=some l):V=.lst l:=by rcases V with⟨⟩<;>first|exact aX h|exact sm h▸rfl
section
variable {w:World} {K:Frag} {h:Heap} (X:K.In h)
theorem bc {a:Addr} {o:Obj} {K:Frag}:(bJ K).lookup a=some o→a≠225∧K.lookup a=some o:=
  K.rec (fun h=>aX h) fun p r ih e=>by
    rcases Bool.eq_false_or_eq_true (Nat.beq p.1 225) with hb|hb
    ·have e2:bJ (p::r)=bJ r:=List.filter_cons_of_neg (by rw[hb];exact bG)
     have h:=ih (e2▸e)
     refine⟨h.1,?_⟩
     rw[bq,show(a==p.1)=false from beq_eq_false_iff_ne.mpr fun q=>h.1 (q.trans (aj hb))]
     exact h.2
    ·have e2:bJ (p::r)=p::bJ r:=List.filter_cons_of_pos (by rw[hb];rfl)
     rw[e2,bq] at e
     rw[bq]
     revert e
     rcases Bool.eq_false_or_eq_true (a==p.1) with q|q<;>rw[q]
     ·exact fun e=>⟨fun z=>bG ((dG 225).symm.trans (show Nat.beq 225 225=false from(z▸eq_of_beq q:225=p.1)▸hb)▸rfl:false=true),e⟩
     ·exact ih
include X
theorem CJ:(bJ K).In h:=fun a o e=>X a o (bc e).2
theorem JU {fz:Fz} (hb:jl (C1 w K h os) fz) {a:Addr} {o:Obj} (e:(bJ K).lookup a=some o):fz a=some o:=by
  obtain⟨h1,h2⟩:=bc e
  exact hb a o h1 (X a o h2)
omit X in
theorem bz {fz:Fz} {pi:Pi} {V:V} {v:Value} (e:eS V v=true):cP (C1 w K h os) fz pi V v:=
  dF e (fun s q e=>dM e fun x q2 e=>(d_ q2).elim fun t z=>j8 q▸z▸eq_of_beq e▸.str s t) fun e=>
  dF e (fun a q e=>ip q▸eq_of_beq e▸.glob a) fun e=>dF e (fun a q e=>mK q▸eq_of_beq e▸.bi a) fun e=>
  dF e (fun a q e=>xN q▸eq_of_beq e▸.ty a) fun e=>dF e (fun a q e=>Ka q▸eq_of_beq e▸.bool a) fun e=>
  have e:=aa.mp e
  qL e.1▸eq_of_beq e.2▸.none
omit X in
theorem bR {fz:Fz} {pi:Pi} {f:V→Value→Bool} (hf:∀{V v},f V v=true→cP (C1 w K h os) fz pi V v) {l:List V}:∀m,eV f l m=true→aS (C1 w K h os) fz pi l m:=by
  induction l with
  |nil=>exact fun m e=>aE.mp e▸.nil
  |cons a l ih=>exact fun m=>m.casesOn (fun e=>bG e) fun b m e=>have e:=aa.mp e;.cons _ _ _ _ (hf e.1) (ih m e.2)
theorem mu {fz:Fz} (hb:jl (C1 w K h os) fz) {pi:Pi} {n:Nat}:∀{V v},jQ (bJ K) n V v=true→cP (C1 w K h os) fz pi V v:=by
  induction n with
  |zero=>exact bz
  |succ n ih=>exact fun{V v} e=>dF e (fun l q e=>dM e fun a q1 e=>dM e fun o q2 e=>dM e fun vs q3 e=>(bd q3).elim fun k q4=>
   have e:=aa.mp e
   have e1:=aa.mp e.1
   bo q▸d9 q1▸.lst l a vs.toList ⟨o,JU X hb q2,fun h' hh=>⟨o,k,hh,eq_of_beq e1.1,aO.mp e1.2,q4⟩⟩ (bR ih _ e.2)) bz
theorem nh {fz:Fz} (hb:jl (C1 w K h os) fz) {pi:Pi} {n:Nat} {V:List V} {v:List Value} (e:pA (bJ K) n V v=true):aS (C1 w K h os) fz pi V v:=bR (mu X hb) _ e
end
end
section
theorem AW {n n':Str} {i:Nat} {l:List (Str×Nat)} (nd:(l.map (·.2)).Nodup):(n,i)∈l→(n',i)∈l→n=n':=by
  induction l with
  |nil=>exact fun h=>absurd h ft
  |cons p r ih=>
   have nd:=dA.mp nd
   exact fun h h'=>(aL.mp h).elim (fun e=>(aL.mp h').elim (fun e'=>congrArg (·.1) (e.trans e'.symm)) fun h'=>absurd (e▸List.mem_map_of_mem (f:=(·.2)) h':p.2∈r.map (·.2)) nd.1)
     fun h=>(aL.mp h').elim (fun e'=>absurd (e'▸List.mem_map_of_mem (f:=(·.2)) h:p.2∈r.map (·.2)) nd.1) fun h'=>ih nd.2 h h'
section
variable {K:Frag} {c:Nat} {n:Str}
theorem kr (h:(clsIn K c).isSome=true):∃cd,clsIn K c=some cd:=bL.mp h
theorem qV {p:Addr} {g:Value} (hc:(clsIn K c).isSome=true) (hf:findIn K (.ref c) n=some (some (.ref p))) (hs:specialIn K (.ref p) "__get__"=some (some g)) (ht:takesIn K (.ref p)=some true) (od:Option Obj):findObj K c od n=some (.bind g (.ref p)):=by
  obtain⟨cd,hc⟩:=kr hc
  unfold findObj
  rw[hc,aN,hf,aN]
  dsimp only
  rw[hs,aN]
  dsimp only
  rw[ht,aN]
theorem tK {d:Obj} {v:Value} (hf:findIn K (.ref c) n=some none) (hd:(clsIn K c).any (·.hasDict)=true) (hl:lookIn n d=some (some v)):findObj K c (some d) n=some (.value v):=by
  cases hc:clsIn K c with
  |none=>rw[hc] at hd;cases hd
  |some cd=>
   rw[hc] at hd
   have hd:cd.hasDict=true:=hd
   unfold findObj
   rw[hc,aN,hf,aN]
   dsimp only
   rw[aN]
   rw[aN]
   dsimp only
   unfold PySem.W.ownOf
   rw[if_pos hd]
   dsimp only
   rw[hl,aN]
theorem sU {cd:ClassData} {od:Option Obj} (ho:rF n od):PySem.W.ownOf cd od n=some none:=by
  unfold PySem.W.ownOf
  split
  ·exact ho.casesOn rfl fun d h=>h
  ·rfl
theorem vJ {f:Addr} {g:Value} (hc:(clsIn K c).isSome=true) (hf:findIn K (.ref c) n=some (some (.ref f))) (hs:specialIn K (.ref f) "__get__"=some (some g)) (ht:takesIn K (.ref f)=some false) (hn:copiedNames.contains n=false) {od:Option Obj} (ho:rF n od):
    findObj K c od n=some (.bind g (.ref f)):=by
  obtain⟨cd,hc⟩:=kr hc
  unfold findObj
  rw[hc,aN,hf,aN]
  dsimp only
  rw[hs,aN]
  dsimp only
  rw[ht,aN]
  dsimp only
  rw[sU ho,aN]
  dsimp only
  rw[hn,Bool.false_and,if_neg (by simp)]
theorem tJ {v:Value} (hc:(clsIn K c).isSome=true) (hf:findIn K (.ref c) n=some (some v)) (hs:specialIn K v "__get__"=some none) (hh:handedIn v=true) (hn:copiedNames.contains n=false) {od:Option Obj} (ho:rF n od):
    findObj K c od n=some (.value v):=by
  obtain⟨cd,hc⟩:=kr hc
  unfold findObj
  rw[hc,aN,hf,aN]
  dsimp only
  rw[hs,aN]
  dsimp only
  rw[aN]
  dsimp only
  rw[sU ho,aN]
  dsimp only
  rw[hn,Bool.false_and,if_neg (by simp),if_pos hh]
end
theorem bY {v:Option Value} {p:Addr} (h:v.bind dR=some p):v=some (.ref p):=aG h fun x e h=>e.trans (congrArg some (d9 h))
theorem cf {K:Frag} {c:Nat} {n:Str} {p:Addr} (h:findIn K (.ref c) n=some (some (.ref p))) (ht:takesIn K (.ref p)=some true):takerIn K c n=some (some (.ref p)):=by
  unfold takerIn
  rw[h,aN]
  dsimp only
  rw[ht]
  rfl
theorem ct {K:Frag} {c:Nat} {n:Str} (h:findIn K (.ref c) n=some none):takerIn K c n=some none:=by
  unfold takerIn
  rw[h]
  rfl
structure G7 (K:Frag):Prop where
  cls:iE.all (lG (bJ K))=true
  meth:(kF.all fun e=>!tA e.1 iE||e.2.all fun q=>wP (bJ K) e.1 q.1 q.2)=true
  glob:(mG.all fun q=>BR (bJ K) q.1 q.2)=true
  sys:((bJ K).lookup sysModules).isSome=true
section
variable {w:World} {K:Frag} {h:Heap} {p:Program} {loose:List Str} {mean:ExcName→Option Value} {mg mb:Str→Option Value}
theorem rn (F:G7 K) {c:Nat} (hc:c∈iE):lG (bJ K) c=true:=aB.mp F.cls c hc
theorem Hm {c:Nat} {n:Str} {i:Nat} (e:iB c n=some i):∃l,(c,l)∈ql∧(n,i)∈l.map (fun q=>(ae q.1,q.2)):=by
  unfold iB at e
  obtain⟨l,h1,h2⟩:=aw.mp e
  exact⟨l,fy h1,bM h2⟩
theorem A2 {c:Nat} {a:Str} {V:V} (e:P1.meth c a=some V):∃l,(c,l)∈kF∧(a,V)∈l:=by
  have e:(lkN c kF).bind (lk a)=some V:=e
  obtain⟨l,h1,h2⟩:=aw.mp e
  exact⟨l,fy h1,bM h2⟩
theorem BL {c:Nat} {l:List Nat} (h:c∈l):tA c l=true:=by
  unfold tA
  rw[bX]
  exact⟨c,h,dG c⟩
theorem A3 (F:G7 K) {c:Nat} (hc:c∈iE) {a:Str} {V:V} (e:P1.meth c a=some V):wP (bJ K) c a V=true:=by
  obtain⟨l,h1,h2⟩:=A2 e
  have:=aB.mp F.meth _ h1
  rw[BL hc,iO,iP] at this
  exact aB.mp this _ h2
theorem Mo (F:G7 K) (c:Nat) (hc:c∈iE):H9 (C1 w K h os) c:=
  have B:=aa.mp (rn F hc)
  have B1:=aa.mp B.1
  have B2:=aa.mp B1.1
  have B3:=aa.mp B1.2
  ⟨eq_of_beq B2.1,eq_of_beq B2.2,eq_of_beq B3.1,eq_of_beq B3.2,fun n hn=>by
  have q:=aB.mp (aa.mp B.2).2 n hn
  show match iB c n with|some i=>_|none=>_
  revert q
  unfold Jy
  cases iB c n with
  |some i=>exact fun q=>dM q fun v h1 q=>dM q fun p h2 q=>
   have q:=aa.mp q
   have q2:=aa.mp q.2
   have q3:=aa.mp q2.2
   ⟨p,qV (aa.mp (aa.mp q3.2).2).2 (h1.trans (congrArg some (bY h2))) (eq_of_beq q2.1) (eq_of_beq q3.1),eq_of_beq q.1⟩
  |none=>exact fun q d v hl=>have q:=aa.mp q;tK (eq_of_beq q.1) q.2 hl⟩
theorem Mq (X:K.In h) (T:Top p loose mean mg mb h) (F:G7 K):wg (C1 w K h os):=⟨mg,mb,T.g,T.b,fun x V e=>
  dM (aB.mp F.glob _ (bM (show lk x mG=some V from e))) fun o h1 q=>dJ q (fun v h2 q=>⟨v,.inl (mg_of (CJ X) T.g (h1.trans (congrArg some h2))),fun fz hb=>mu X hb q⟩) fun h2 q=>dM q fun v hb q=>
    have q:=aa.mp q
    ⟨v,.inr ⟨mg_none_of (CJ X) T.g (h1.trans (congrArg some h2)),(T.builtins x fun z=>bG ((congrArg not (decide_eq_true z)).symm.trans q.2)).trans hb⟩,fun fz hb=>mu X hb q.1⟩⟩
theorem LZ (X:K.In h) (F:G7 K) (c:Nat) (a:Str) (V:V) (hc:c∈iE) (e:P1.meth c a=some V):iB c a=none∧rG (C1 w K h os) c a V:=
  have B:=aa.mp (A3 F hc e)
  have B1:=aa.mp B.2
  have B2:=aa.mp B1.2
  have hn:=(ao _).mp B1.1
  ⟨aO.mp B.1,dJ B2.2 (fun f hV B=>
    have c1:=aa.mp B
    have c2:=aa.mp c1.2
    have c3:=aa.mp c2.2
    have c4:=aa.mp c3.2
    have c5:=aa.mp c4.2
    ip hV▸.fn f (eq_of_beq c1.1) (eq_of_beq c2.1) c3.1 c4.1 fun od ho=>vJ B2.1 (eq_of_beq c2.1) (eq_of_beq c5.1) (eq_of_beq c5.2) hn ho) fun hV B=>dM B fun o h1 B=>dM B fun v h2 B=>
    have c1:=aa.mp B
    have c2:=aa.mp c1.2
    .val V v hV c1.1 (fun od ho=>tJ B2.1 (h1.trans (congrArg some h2)) (eq_of_beq c2.1) c1.1 hn ho) fun fz hb=>mu X hb c2.2⟩
theorem wf1 (F:G7 K) (c:Nat) (hc:c∈iE) (n:Str) (hn:n∈P1.flds c++P1.regf c):GX (C1 w K h os) c n (iB c n):=by
  have q:=aB.mp (aa.mp (aa.mp (rn F hc)).2).2 n hn
  revert q
  unfold Jy
  cases iB c n with
  |some i=>exact fun q=>dM q fun v h1 q=>dM q fun p h2 q=>
             have q:=aa.mp q
             have q2:=aa.mp q.2
             have q3:=aa.mp q2.2
             have q4:=aa.mp q3.2
             GX.slot i p (cf (h1.trans (congrArg some (bY h2))) (eq_of_beq q3.1)) (eq_of_beq q4.1) (eq_of_beq q.1) (cz.mp (aa.mp q4.2).1)
  |none=>exact fun q=>have q:=aa.mp q;.dict (ct (eq_of_beq q.1)) q.2
theorem OW (c:Nat) (n n':Str) (i:Nat) (e:iB c n=some i) (e':iB c n'=some i):n=n':=by
  obtain⟨l,h1,h2⟩:=aw.mp e
  obtain⟨l',h1',h2'⟩:=aw.mp e'
  have el:=sm (h1.symm.trans h1')
  subst el
  refine AW (l:=l'.map fun q=>(ae q.1,q.2)) ?_ (bM h2) (bM h2')
  have hd:(ql.all fun e=>decide ((e.2.map (·.2)).Nodup))=true:=by decide
  have:=decide_eq_true_iff.mp (aB.mp hd _ (fy h1))
  rw[o6]
  exact this
end
end
section
theorem lD {K:Frag} {a:Nat} {fd:FuncData} (e:je K a=some fd):∃o,K.lookup a=some o∧o.data=.func fd:=aG e fun o h e=>⟨o,h,bk e⟩
theorem cL {R:Prop} {K:Frag} {v:Value} {f:Addr×Obj×Array Value→Bool} (h:dK (e_ K v) f=true) (k:∀c o vs,v=.ref c→K.lookup c=some o→o.data=.fields vs→f (c,o,vs)=true→R):R:=
  dM h fun x e h=>aG e fun c e1 e=>aG e fun o e2 e=>(ay.mp e).elim fun vs q=>k c o vs (d9 e1) e2 (bh q.1) (q.2▸h)
structure K2 (K:Frag):Prop where
  fn:(xr.all fun q=>O1 (bJ K) q.1 q.2)=true
  fi:(xr.all fun q=>O4 q.2)=true
  body:xr.map (fun q=>(je (bJ K) q.1).map (·.body))=xr.map fun q=>some (.stmts q.2.body)
  sup:(xr.all fun q=>!jD q.2.body||IB (bJ K) q.1 q.2.names)=true
  gx:(xr.all fun q=>!jG q.2.body||OZ (bJ K) q.1)=true
  bm:∃bm,nsIn (bJ K) mainGlobals (Str.ofString "__builtins__")=some (some (.ref bm))∧((bJ K).lookup bm).isSome=true
theorem qU {a:Nat} {fi:FI} (e:P1.fn a=some fi):(a,fi)∈xr:=by
  have e:(lkN a kM).bind (fun e=>qW (ae e.1) (ae e.2))=some fi:=e
  obtain⟨q,h1,h2⟩:=aw.mp e
  unfold xr
  rw[k4]
  exact⟨_,fy h1,by dsimp only;rw[h2];rfl⟩
section
variable {w:World} {K:Frag} {h:Heap}
theorem HL (X:K.In h) {h':Heap} (i:D7 (C1 w K h os) h') {a:Addr} {o:Obj} (e:(bJ K).lookup a=some o):h'.get? a=some o:=i a o (bc e).1 (X _ _ (bc e).2)
theorem Ou {p:Arguments} {ps:List Str} (h:AM p ps=true):j_ p ps:=by
  unfold AM at h
  simp only[aI,decide_eq_true_iff,aE,aO] at h
  obtain⟨c1,c2,c3,c4,c5,c6⟩:=h
  exact⟨c1,c2,c3,c4,c5,ij c6⟩
theorem ML (X:K.In h) {cd:Value} {q:Str} (b:CS (bJ K) cd q=true) (h':Heap) (i:D7 (C1 w K h os) h'):h'.CodeRec cd q:=
  cL b fun c o vs e0 e1 e2 b=>dM b fun v e3 b=>dM b fun x e4 b=>(d_ e4).elim fun t z=>⟨c,o,vs,t,e0,HL X i e1,e2,e3.trans (congrArg some (z.trans (congrArg (Value.str · t) (eq_of_beq b))))⟩
theorem Pe (X:K.In h) {d:Value} {l:List V} (b:CH (bJ K) d l=true):DO (C1 w K h os) d l:=
  dF b (fun T e b=>dM b fun o e1 b=>dM b fun vs e2 b=>(bd e2).elim fun n e2=>⟨vs.toList,d9 e▸.some T o n _ (bc e1).1 (X _ _ (bc e1).2) e2,fun fz hb=>nh X hb b⟩)
    fun b=>have b:=aa.mp b;⟨[],eq_of_beq b.1▸.none,fun fz ζ=>aE.mp b.2▸.nil⟩
theorem Pg (X:K.In h) {fi:FI} {cl:List (Str×Addr)} {o:Option Nat} (b:CY (bJ K) cl o fi.names=true):qb (C1 w K h os) fi o cl:=
  dJ b (fun c e b=>dM b fun q e1 b=>
    have b:=aa.mp b
    have b1:=aa.mp b.1
    have b2:=aa.mp b.2
    dM b1.2 fun oc e2 b3=>e▸dD e1 (fun e1=>(e1.trans (congrArg (fun z=>[(z,q.2)]) (eq_of_beq b1.1)):cl=[(ae "__class__",q.2)])▸.some c q.2 oc (bc e2).1 (X _ _ (bc e2).2) (bl (eq_of_beq b3)) (eq_of_beq b2.1) fun x hx z=>bG ((congrArg not (beq_iff_eq.mpr z)).symm.trans (aB.mp b2.2 x hx)))) fun e b=>e▸aE.mp b▸.none
theorem fn1 (X:K.In h) (F:K2 K) (a:Nat) (fi:FI) (e:P1.fn a=some fi):M9 (C1 w K h os) a fi:=
  have hm:=qU e
  have D:=aa.mp (aB.mp F.fi _ hm)
  have D2:=aa.mp D.2
  have D3:=aa.mp D2.2
  have D4:=aa.mp D3.2
  have hb:(je (bJ K) a).map (·.body)=some (.stmts fi.body):=List.map_inj_left.mp F.body _ hm
  dM (aB.mp F.fn _ hm) fun fd hfd B=>(lD hfd).elim fun o ho=>
  have B:=aa.mp B
  have B1:=aa.mp B.1
  have B2:=aa.mp B.2
  have B3:=aa.mp B1.1
  have B4:=aa.mp B3.2
  have B5:=aa.mp B1.2
  have B6:=aa.mp B5.2
  have B7:=aa.mp B2.1
  have B8:=aa.mp B2.2
  ⟨⟨o,fd,⟨X _ _ (bc ho.1).2,(bc ho.1).1,ho.2,(ao _).mp B3.1,eq_of_beq B4.1,Option.some.inj ((congrArg (Option.map fun f:FuncData=>f.body) hfd).symm.trans hb),eq_of_beq B4.2,eq_of_beq B5.1,aj B6.1,aj B6.2,Ou B7.1,ML X B7.2,Pe X B8.1,Pg X B8.2⟩⟩,ij D.1,
    fun x hx=>((dB _ _).mp (aB.mp D2.1 x hx)).imp eq_of_beq eq_of_beq,fun hx=>bG ((congrArg not (bX.mpr ⟨_,hx,bp.mpr rfl⟩)).symm.trans D3.1),
    fun hg=>by rw[hg] at D4;exact D4.1,fun hg=>by rw[hg] at D4;exact cz.mp D4.2⟩
theorem Ms (X:K.In h) (F:K2 K) (a:Nat) (fi:FI) (e:P1.fn a=some fi) (hs:jD fi.body=true):oO (C1 w K h os) a (Dv (C1 w K h os) a)∧fi.names.lookup (ae "super")=some .globalImplicit∧fi.names.lookup (ae "__class__")=some .free:=
  ((dB _ _).mp (aB.mp F.sup _ (qU e))).elim (fun z=>bG ((congrArg not hs).symm.trans z)) fun B=>dM B fun fd hfd B=>dM B fun ar har B=>(lD hfd).elim fun o ho=>
  have b1:=aa.mp B
  have b2:=aa.mp b1.2
  have b3:=aa.mp b2.2
  have hX:=X _ _ (bc ho.1).2
  ⟨cL b2.1 fun c oc vs hc q e2 B=>dM B fun v hx B=>dM B fun x ex B=>(d_ ex).elim fun t z=>⟨o,fd,hX,ho.2,o,fd,ar,c,oc,vs,x,t,hX,(bc ho.1).1,ho.2,har,eq_of_beq b1.1,hc,X _ _ (bc q).2,(bc q).1,e2,hx.trans (congrArg some z),B⟩,eq_of_beq b3.1,eq_of_beq b3.2⟩
end
end
section
structure D6 (K:Frag):Prop where
  reg:(kC.all fun q=>EV (bJ K) q.1 q.2)=true
  exc:F0 (bJ K)=true
  esa:findIn (bJ K) (.ref 156) "__setattr__"=some (some (.builtin "object.__setattr__"))
  stop:mroIn (bJ K) 156 (.type "StopIteration")=some false
  opq:nsIn (bJ K) cStatics "thirdparty.any"=some none
  sup:(iT.all fun q=>ww (bJ K) q.1 q.2.1 q.2.2)=true
  err:dK (((P1.meth 156 (ae "__init__")).bind ry).bind P1.fn) (fun fi=>fi.body.all (tM P1)&&Nat.ble fi.params.length 1000)=true
  gsup:P1.glob (ae "super")=some (.ty "super")
  top:(PySem.Challenge.pw_te0067_01.main.scope.names.lookup ("super":Str)).isSome=false
theorem nC {K:Frag} {h:Heap} {N:Addr} {mg:Str→Option Value} {n:Str} {v:Value} (X:K.In h) (G:h.Ns N mg) (e:nsIn K N n=some (some v)):mg n=some v:=by
  obtain⟨o,es,ep,ho,hd,_,hf⟩:=G
  rw[←hf]
  unfold nsIn at e
  revert e
  cases q:K.lookup N with
  |none=>exact fun e=>aX e
  |some o'=>
   have:=sm ((X _ _ q).symm.trans ho)
   subst this
   rcases o with⟨c,d,dt,sl⟩
   cases hd
   show(match es.toList.find? (·.key.isStr n) with|some e=>some (some e.val)|none=>if es.toList.any (·.refKey) then none else some none)=_→_
   unfold nsFind findBy
   rw[←Array.find?_toList]
   cases he:es.toList.find? (·.key.isStr n) with
   |some en=>exact fun e=>Option.some.inj e
   |none=>
    show(if es.toList.any (·.refKey) then none else some none)=some (some v)→_
    cases es.toList.any (·.refKey) with
    |true=>exact fun e=>aX e
    |false=>exact fun e=>aX (Option.some.inj e)
section
variable {w:World} {K:Frag} {h:Heap} {p:Program} {loose:List Str} {mean:ExcName→Option Value} {mg mb:Str→Option Value}
theorem xb (X:K.In h) {h':Heap} (i:D7 (C1 w K h os) h'):(bJ K).In h':=fun a o e=>HL X i e
theorem stop1 (X:K.In h) (F:D6 K) (k:Nat) (hk:k=1∨k=2) (A:Around) (E:Value→Shared→Prop) (s:Shared) (Q:Bool→Shared→Prop) (i:D7 (C1 w K h os) s.heap) (hq:Q false s):wpAny (C1 w K h os).M A (isSubtype (ig P1 k) (.type "StopIteration")) Q E s:=by
  rcases hk with rfl|rfl
  ·exact(looks_mroIn (xb X i) F.stop).here hq
  ·show wpAny _ A (isSubtype (.type "NotImplementedError") (.type "StopIteration")) Q E s
   rw[show isSubtype (.type "NotImplementedError") (.type "StopIteration")=pure false from by rw[isSubtype_type];kernel_rfl]
   exact wpAny_pure hq
theorem sG {a k:Nat} (e:P1.regOf a=some k):(a,k)∈kC:=fy (show lkN a kC=some k from e)
theorem md1 (F:D6 K) (a k:Nat) (e:P1.regOf a=some k):G2 (C1 w K h os) a k:=
  have B:=aa.mp (aB.mp F.reg _ (sG e))
  have B1:=aa.mp B.2
  have B2:=aa.mp B1.2
  ⟨(bX.mp B.1).elim fun x h=>(aj h.2:a=x)▸h.1,B1.1,cz.mp B2.1,dM B2.2 fun q e B=>aG e fun v e1 e=>aG e fun f e2 e=>(ay.mp e).elim fun fi z=>
    have B:(!fi.gen&&!fi.fence)=true:=by rw[←z.2] at B;exact B
    have B:=aa.mp B
    ⟨f,fi,e1.trans (congrArg some (ip e2)),z.1,(ao _).mp B.1,(ao _).mp B.2⟩⟩
theorem cX {cd:ClassData} {oc:Value} {dd:Option Addr} {sl:Array (Option Value)} {k0 k1 k2 k3 k5:Option Value} (h1:oc=.type "type") (h2:cd.mro=.ref 156::D3) (h3:cd.hasDict=true) (h4:cd.hasDel=false) (h5:sl=#[k0,k1,k2,k3,some (.builtin "Exception.__new__"),k5]):
    (⟨oc,dd,.cls cd,sl⟩:Obj)=excClassObj cd.name cd.qualname 156 cd.ns cd.bases D3 true cd.slotNames cd.subclasses cd.abstract cd.collection dd k0 k1 k2 k3 k5 "Exception.__new__":=by
  rcases cd
  cases h1;cases h2;cases h3;cases h4;cases h5
  rfl
theorem O6 (X:K.In h) (F:D6 K):(∃cd,clsIn (bJ K) 156=some cd∧cd.mro=.ref 156::D3∧cd.hasDict=true)∧(∀n∈P1.regf 156,findIn (bJ K) (.ref 156) n=some none)∧∀h',D7 (C1 w K h os) h'→Kv (C1 w K h os) h':=
  dM F.exc fun o q B=>dM B fun cd e B=>by
  rcases o with⟨oc,dd,dt,sl⟩
  cases (bn e:dt=.cls cd)
  have B:=aa.mp B
  have B1:=aa.mp B.1
  have B2:=aa.mp B1.1
  have B3:=aa.mp B2.2
  have B4:=aa.mp B1.2
  have u1:=aa.mp B.2
  have u2:=aa.mp u1.1
  have u3:=aa.mp u1.2
  have al:=fun n hn=>aa.mp (aB.mp u3.1 n hn)
  have e3:cd.mro=.ref 156::D3:=eq_of_beq B3.1
  exact⟨⟨cd,by unfold clsIn;rw[q],e3,B3.2⟩,fun n hn=>eq_of_beq (aa.mp (al n hn).1).2,fun h' i=>
    have Xc:=xb X i
    have N:h'.Ns cd.ns (h'.nsMap cd.ns):=.of_isNs (isNs_of_in Xc u2.1)
    dM u3.2 fun g eg B=>aG eg fun v e1 e2=>have B:=aa.mp B;(ay.mp (eq_of_beq B.2)).elim fun o ho=>
    ⟨_,_,cd.ns,_,_,_,_,_,dd,_,_,_,_,_,h'.nsMap cd.ns,g,(Xc _ _ q).trans (congrArg some (cX (eq_of_beq B2.1) e3 B3.2 ((ao _).mp B4.1) (eq_of_beq B4.2))),N,nC Xc N (eq_of_beq B.1),ns_none_of Xc N (eq_of_beq u2.2),e1.trans (congrArg some (ip e2)),⟨o,Xc _ _ ho.1,ho.2⟩,
      fun n hn=>⟨ns_none_of Xc N (eq_of_beq (aa.mp (al n hn).1).1),am_miss_of_fast (al n hn).2⟩⟩⟩
theorem Ml (F:D6 K) (f:Nat) (fi:FI) (e1:P1.meth 156 (ae "__init__")=some (.glob f)) (e2:P1.fn f=some fi):fi.body.all (tM P1)=true∧fi.params.length≤1000:=
  dM F.err fun fi' e B=>aG e fun g e3 e4=>aG e3 fun v e5 e6=>by
    cases sm (e1.symm.trans e5)
    cases sm e6
    cases sm (e2.symm.trans e4)
    have B:=aa.mp B
    exact⟨B.1,cz.mp B.2⟩
theorem EC {c:Nat} {n:Str} {g:Nat} (e:P1.sup c n=some g):(c,n,g)∈iT:=by
  have e:(match(generalizing:=false) c with
   |439=>lk n [(ae "__init__",201),(ae "tokenize",208)]
   |127=>lk n [(ae "__init__",36)]
   |_=>none)=some g:=e
  unfold iT
  split at e
  ·have:=bM e
   simp only[aL,Prod.mk.injEq,ft,or_false] at this⊢
   rcases this with⟨rfl,rfl⟩|⟨rfl,rfl⟩<;>simp
  ·have:=bM e
   simp only[aL,Prod.mk.injEq,ft,or_false] at this⊢
   obtain⟨rfl,rfl⟩:=this
   simp
  ·cases e
theorem N0 (F:D6 K) (c:Nat) (n:Str) (g:Nat) (e:P1.sup c n=some g):Du (C1 w K h os) c n g:=by
  have B:=aB.mp F.sup _ (EC e)
  unfold ww at B
  simp only[aI,beq_iff_eq,ao] at B
  obtain⟨b1,b2,b3,b4,b5⟩:=B
  exact⟨kr b1,b2,b3,b4,b5⟩
theorem cY {v:Value} (h:fe v=true):∃i t,v=.int i t:=by rcases v with⟨⟩<;>first|exact bG h|exact⟨_,_,rfl⟩
theorem c7 {v:Value} (h:fw v=true):∃b,v=.bool b:=by rcases v with⟨⟩<;>first|exact bG h|exact⟨_,rfl⟩
theorem c9 {h:Heap} {c P:Addr} {ps:Array Value} (x:h.IsCode c P ps):TriplesOk ps.toList:=
  x.elim fun ζ x=>x.elim fun ζ x=>x.elim fun ζ x=>x.elim fun ζ x=>x.elim fun ζ x=>x.elim fun ζ x=>x.elim fun ζ x=>x.elim fun ζ x=>x.elim fun ζ x=>x.elim fun ζ x=>x.2.2.2.2.2.2.2.2.2.1
theorem dg {h:Heap} {c:Addr} {o:Obj} {vs:Array Value} (ne:c≠225) (e:h.get? c=some o) (hd:o.data=.fields vs) (B:((o.cls==.type "code"&&(Nat.blt 18 vs.size&&vs.getD 11 .none==.ref 225))&&((d6 (vs.getD 18 .none)).isSome&&(fe (vs.getD 7 .none)&&(fw (vs.getD 9 .none)&&fe (vs.getD 10 .none)))))=true):CodeHd h c 225:=
  have B:=aa.mp B
  have B1:=aa.mp B.1
  have B2:=aa.mp B1.2
  have B3:=aa.mp B.2
  have B4:=aa.mp B3.2
  have B5:=aa.mp B4.2
  have h11:vs.getD 11 .none=.ref 225:=eq_of_beq B2.2
  (bL.mp B3.1).elim fun file hf=>(d_ hf).elim fun tf h18=>(cY B4.1).elim fun flags h7=>h7.elim fun tg h7=>(c7 B5.1).elim fun inF h9=>(cY B5.2).elim fun text h10=>h10.elim fun tt h10=>
  ⟨o,vs,file,tf,flags,tg,inF,text,tt,e,eq_of_beq B1.1,hd,by
     rw[Array.getD_eq_getD_getElem?,Array.getElem?_eq_getElem (Nat.lt_trans (by decide) (cz.mp B2.1))] at h11
     exact(Array.getElem?_eq_getElem _).trans (congrArg some h11),h11,h18,h7,h9,h10,ne⟩
theorem O0 (X:K.In h) (T:Top p loose mean mg mb h) (F:K2 K) (a:Nat) (fi:FI) (e:P1.fn a=some fi) (hs:jG fi.body=true):oO (C1 w K h os) a (o8 (C1 w K h os)):=
  ((dB _ _).mp (aB.mp F.gx _ (qU e))).elim (fun z=>bG ((congrArg not hs).symm.trans z)) fun B=>dM B fun fd hfd B=>(lD hfd).elim fun o ho=>cL B fun c oc vs hc q hd B=>
  F.bm.elim fun bm hbm=>(bL.mp hbm.2).elim fun ob0 hob0=>T.bmain.elim fun bm' t=>t.elim fun ob t=>
  have e:bm'=bm:=Value.ref.inj (sm ((mg_of (CJ X) T.g hbm.1).symm.trans t.1))
  ⟨o,fd,X _ _ (bc ho.1).2,ho.2,c,hc,fun h' fz hfz hb ht=>ht.elim fun ps e=>have H:=dg (bc q).1 (hfz _ _ (hb _ _ (bc q).1 (X _ _ (bc q).2))) hd B;⟨ps,H.code e.1 e.2,H.tab e.1⟩,
    fun h1 h2 fz fz' ps more ht0 ht1 ht hc2=>⟨ps++more,ht.2,c9 hc2⟩,mg,bm',ob,T.g,t.1,t.2.1,e▸(bc hob0).1,t.2.2⟩
theorem PL (X:K.In h) (T:Top p loose mean mg mb h) (F:G7 K) (B:K2 K) (D:D6 K):All (C1 w K h os):=
  have E:=O6 (w:=w) (os:=os) X D
  {tbm:=fun o f f' ζ h=>h
   kin:=fun a o e=>⟨(bc e).1,X _ _ (bc e).2⟩
   sys:=(bL.mp F.sys).imp fun o e=>X _ _ (bc e).2
   syst:=by show sysModules≠225;decide
   good:=Mo F
   gl:=Mq X T F
   meth:=LZ X F
   glt:=⟨by show mainGlobals≠225;decide,by show builtinsNs≠225;decide,by show cStatics≠225;decide⟩
   lim:=T.nolimit
   fn:=fn1 X B
   stop:=stop1 X D
   sa:=fun c hc=>by
    have B:=rn F hc
    unfold lG at B
    simp only[aI,beq_iff_eq] at B
    exact B.2.1
   wf:=wf1 F
   inj:=OW
   md:=md1 D
   eset:=D.esa
   ecd:=E.1
   enm:=E.2.1
   ecls:=E.2.2
   ebody:=Ml D
   efew:=by show((P1.regf 156).length≤1000);decide+kernel
   sgl:=D.gsup
   stp:=D.top
   opq:=D.opq
   sup:=N0 D
   fsup:=Ms X B
   fgx:=O0 X T B}
end
end
section
noncomputable def du:=(P1.fn 565).getD {params:=[],dflts:=[],body:=[],names:=[]}
theorem Bj:P1.fn 565=some du:=by
  rfl
theorem pM:du.gen=false:=by kernel_rfl
theorem yO:du.cls=none:=by kernel_rfl
theorem qF:du.params=[ae "script"]:=by kernel_rfl
theorem s9:du.dflts=[]:=by kernel_rfl
theorem qG:(du.names.all fun x=>!(x.2==.cell||x.2==.free))=true:=by kernel_rfl
theorem h_:du.names.lookup (ae "script")=some .local:=by kernel_rfl
theorem yM:jD du.body=false:=by kernel_rfl
theorem yN:jG du.body=false:=by kernel_rfl
noncomputable def eO (xs:List Int) (orc:List V):St:=
  {rho:=[(ae "script",.lst (xs.map .int))],sc:=du.names,r0:=.empty,r1:=.empty,r2:=.empty,r3:=.empty,outs:=[],orc:=orc,md:=du.law,ob:=true,dp:=22,hd:=false}
section
variable {w:World} {K:Frag} {s₁:Shared}
noncomputable def fz0 (h:Heap):Fz:=fun a=>match Nat.beq a 225 with|true=>none|false=>h.get? a
theorem B_ {h} {a} {o} (e:fz0 h a=some o):h.get? a=some o∧a≠225:=by
  unfold fz0 at e
  split at e
  ·trivial
  ·exact⟨e,fun z=>by subst z;trivial⟩
theorem vH {h} {a} {o} (e:h.get? a=some o) (n:a≠225):fz0 h a=some o:=by
  unfold fz0
  split
  ·rename_i q;exact absurd (aj q) n
  ·exact e
theorem tD {h} {a} (e:h.get? a=none):fz0 h a=none:=by
  unfold fz0
  split
  ·rfl
  ·exact e
open Classical in
noncomputable def Wd.law (S':Shared) (h:Heap) (env:Env):Wd:=⟨⟨S',fz0 h⟩,fun ζ=>none,fun a=>if jf env a then some .frame else none,fun ζ=>none⟩
noncomputable def L_ (H:All (C1 w K s₁.heap s₁.os)) (env:Env):aU:=⟨C1 w K _ _,H,env,[env],⟨fun ζ=>none,fun ζ=>none⟩,fz0 s₁.heap,fun ζ=>none,du.names,22,false,[]⟩
open Classical in
theorem Fm {S'} {h} {env} {a} {p} (e:(Wd.law S' h env).own a=some p):jf env a∧p=.frame:=have z:=fJ.mp e;⟨z.1,(Option.some.inj z.2).symm⟩
open Classical in
theorem wW {S'} {h} {env} {a} (e:jf env a):(Wd.law S' h env).own a=some .frame:=if_pos e
theorem Fk (H:All (C1 w K s₁.heap s₁.os)) (htb:s₁.heap.get? 225=some {cls:=.none,data:=.fields #[]}) (hgens:s₁.gens=#[]) {fd:FuncData} (f1:fd.scope.names=du.names) (f2:fd.scope.kind=.function) (f3:fd.globals=mainGlobals) (f4:fd.builtins=builtinsNs)
    {env} {S'} {l} (en:rJ s₁ fd [(ae "script",l)] env S') {xs} orc (hl:cP (C1 w K s₁.heap s₁.os) (fz0 s₁.heap) (fun ζ=>none) (.lst (xs.map .int)) l):
    aZ (L_ H env) (eO xs orc) (fun x=>lk x [(ae "script",l)]) (.nil 0) (Wd.law S' s₁.heap env):=by
  have tb':=en.keep _ _ htb
  have newc:∀cl,env.locals≤cl→s₁.heap.get? cl=none:=fun cl h=>bP fun o q=>by
    have:=Heap.lt_size q
    rw[en.loc] at h
    exact absurd this (Nat.not_lt.mpr h)
  obtain⟨m,hm,hb⟩:=en.ns
  have frm:∀a,jf env a→s₁.heap.get? a=none∧∃o,S'.heap.get? a=some o:=fun a h=>h.elim (fun e=>e▸⟨newc _ (aC _),hm.elim fun o z=>z.elim fun ζ z=>z.elim fun ζ z=>⟨o,z.1⟩⟩) fun h=>h.elim fun x h=>⟨newc a (aY (en.cells x a h.1 h.2).1),(en.cells x a h.1 h.2).2⟩
  have ntb:∀a,s₁.heap.get? a=none→a≠225:=fun a h e=>by rw[e,htb] at h;exact aX h.symm
  have kc:∀x k,lk x du.names=some k→env.kindOf x=some k:=fun x k h=>by
    unfold Env.kindOf
    rw[en.scope,f1,←eR];exact h
  have noc:∀x k,lk x du.names=some k→k≠.cell∧k≠.free:=fun x k h=>by
    have:=aB.mp qG _ (bM h)
    simp only[ao,cq,beq_eq_false_iff_ne] at this
    exact this
  have rl:∀x V,lk x (eO xs orc).rho=some V→x=ae "script"∧V=.lst (xs.map .int):=fun x V h=>by
    injection (cM.mp (bM h)) with e1 e2
    exact⟨e1,e2⟩
  have fm:∀a∈bF [env],a=env.locals:=fun a h=>by
    unfold bF at h
    rw[cF,en.frame] at h
    exact cM.mp h
  exact{
    fits:=⟨⟨fun a o e=>en.keep _ _ (B_ e).1,fun b o n e=>vH e n,rfl,by show AllBare S'.gens;rw[en.gens];exact .of_eq hgens,en.os,⟨#[],tb',trivial⟩,⟨_,tb'⟩⟩,cO.refl _,fun ζ ζ h=>h,fun a p h=>by
     obtain⟨q1,o,q2⟩:=frm a (Fm h).1
     exact⟨o,q2,tD q1,ntb a q1,rfl,fun ζ=>(Fm h).2⟩,fun a o h=>aX h,fun k p h=>aX h,fun k g h=>aX h,⟨by rw[en.scope,f2];decide,hm.elim fun o z=>z.elim fun es z=>z.elim fun ep z=>⟨env.locals,o,en.frame,rfl,z.1,fun vs q=>nomatch z.2.1.symm.trans q⟩,trivial⟩,
      fun a h=>fm a h▸⟨ntb _ (frm _ (.inl rfl)).1,tD (frm _ (.inl rfl)).1⟩,fun a h=>fm a h▸.inl (wW (.inl rfl))⟩
    env:=⟨fun x k h=>by
       have:=kc x k h
       cases k<;>first|exact this|exact .inl this|trivial,by show env.scope.kind=_;rw[en.scope];exact f2,en.globals.trans f3,en.builtins.trans f4,by show s₁.heap.objs.size≤env.locals;rw[en.loc];exact aC _,en.apart⟩
    sc:=rfl
    dp:=rfl
    hd:=rfl
    ou:=rfl
    fr:=⟨wW (.inl rfl),fun x cl h1 h2=>absurd rfl (noc x _ h1).1,fun x h=>absurd rfl (noc x _ h).1,m,hm,fun x v h=>by
       injection (cM.mp (bM h)) with e1 e2
       subst e1 e2
       have k:=kc _ _ ((eR _ _).trans h_)
       have z:=hb (ae "script") v (cM.mpr rfl)
       unfold DS at z
       rw[k] at z
       exact .loc k z⟩
    nm:=fun x V h ζ=>by
     obtain⟨rfl,rfl⟩:=rl x V h
     exact⟨l,by rw[cU,bp.mpr rfl],.rep _ _ hl⟩
    kn:=fun x V h=>by
     obtain⟨rfl,rfl⟩:=rl x V h
     rfl
    rg:=fun r=>by
     match r with
     |0=>rfl
     |1=>rfl
     |2=>rfl
     |3=>rfl
     |_+4=>trivial
    tm:=trivial}
theorem pz {fz} {C}:∀{vs} {xs},IntsAre vs xs→aS C fz (fun ζ=>none) (xs.map .int) vs
  |_,_,.nil=>.nil
  |_,_,.cons n t r=>.cons _ _ _ _ (.int n t) (pz r)
theorem Fn (htb:s₁.heap.get? 225=some {cls:=.none,data:=.fields #[]}) (hct:isCodeTable s₁.heap 225) {W':Wd} (ok:fA (C1 w K s₁.heap s₁.os) W'.G):OldK s₁.heap W'.G.S.heap:=by
  have tb:∃ps,W'.G.S.heap.get? 225=some _:=let⟨ps,e,_⟩:=ok.tbi;⟨ps,e⟩
  have oth:=fun b o e n=>ok.sub b o (ok.base b o n e)
  refine⟨fun b o e=>?_,fun b o e=>?_⟩
  ·by_cases hb:b=225
   ·subst hb
    have e:=sm (htb.symm.trans e)
    subst e
    obtain⟨ps,e⟩:=tb
    exact .inr (.inl ⟨hct,rfl,#[],ps,rfl,by rw[e];simp⟩)
   ·exact .inl (oth b o e hb)
  ·by_cases hb:b=225
   ·subst hb
    obtain⟨ps,e⟩:=tb
    exact⟨_,e⟩
   ·exact⟨o,oth b o e hb⟩
theorem yL (H:All (C1 w K s₁.heap s₁.os)) (htb:s₁.heap.get? 225=some {cls:=.none,data:=.fields #[]}) (hct:isCodeTable s₁.heap 225) (hgens:s₁.gens=#[]) {a:Addr} {vals:List Value} {xs:List Int}
    (hl:PlainL s₁.heap a vals.toArray) (hi:IntsAre vals xs) {orc:List V} {d:Nat} {s':St} (hrun:aF P1 (Hz P1 (d+1)) du.body (eO xs orc)=.ok (.ret (.bool true)) s') (hob:s'.ob=true) {Q:Value→Shared→Prop} {E:Value→Shared→Prop}
    (hQ:∀S',OldK s₁.heap S'.heap→S'.os=s₁.os→AllBare S'.gens→Q (.bool true) S'):
    wpAny (model PySem.Challenge.pw_te0067_01 w) callerA (PySem.call (.ref 565) [.ref a]) Q E s₁:=by
  have F:=H.fn 565 du Bj
  have L:=qB (PP:=P1) (d+1)
  induction F.is with|mk o fd I=>
  have hcl:fd.closure=[]:=by
    have:=I.clo
    rw[yO] at this
    exact this.casesOn (motive:=fun o cl ζ=>o=none→cl=[]) (fun ζ=>rfl) (fun ζ ζ ζ ζ ζ ζ ζ ζ h=>aX h.symm) rfl
  have hne:a≠225:=fun e=>by
    obtain⟨o,n,h1,h2,_⟩:=hl
    rw[e,htb] at h1
    have:=sm h1
    rw[this] at h2
    exact nomatch h2
  refine wpAny_call (codeAny_call_function (by decide) I.at_ I.data I.co (I.gen.trans pM) I.body (I.code _ (fun b o ζ e=>e)) ?_)
  induction I.dfl with|mk dv h1 h2=>
  refine l6 (vals:=[.ref a]) (zS:=[]) I.par (dv:=dv) (b:=[(ae "script",.ref a)]) (h1.casesOn (motive:=fun d dv ζ=>(d=.none∧dv=[])∨∃T o n,d=.ref T∧s₁.heap.get? T=some o∧o.data=.seq dv.toArray n) (.inl ⟨rfl,rfl⟩) fun T o n dv g1 g2 g3=>.inr ⟨T,o,n,rfl,g2,g3⟩) (by rw[qF,(er ((h2 (fz0 s₁.heap) fun b o n e=>vH e n).len.symm.trans (by rw[s9];rfl)))];kernel_rfl) ?_
  refine pa I.kind (by simp) (by rw[I.names];exact F.nn) (fun x hx=>?_) (.inl hcl) fun env S' en hfn=>?_
  ·rw[I.names]
   rw[cw,List.map_nil,cM] at hx
   rw[hx];exact .inl h_
  refine⟨H.lim.keeps en.keep,ks_codeAny_funcAt ?_⟩
  refine ue L.ev L.tr L.ex (L.call 90) du.body du.body (L_ H env) _ 0 (callerA.deeper env) (eO xs orc) (F.noY pM) ⟨⟨[],rfl⟩,en.frame⟩ (fun h=>bG (yM.symm.trans h)) (fun h=>bG (yN.symm.trans h)) ⟨rfl,fun ζ=>rfl,ag rfl,ag rfl,rfl⟩ _ _ _ (a_.of (W':=Wd.law S' s₁.heap env) (Fk H htb hgens I.names I.kind I.gl I.bu en (xs:=xs) orc (hl.elim fun o z=>z.elim fun n z=>.lst _ a vals ⟨o,vH z.1 hne,fun h' e=>⟨o,n,e,z.2⟩⟩ (pz hi))) rfl) ?_
  rw[hrun]
  refine⟨hob,fun f S z=>?_⟩
  refine hR fun O u=>?_
  obtain⟨b,T,⟨v,k,rfl,rfl⟩,i⟩:=z
  obtain⟨rfl,h1,h2,h3⟩:=(show v=.bool true∧OldK s₁.heap S.heap∧S.os=s₁.os∧AllBare S.gens from i.casesOn fun W3 x3=>⟨(x3.tm.1.to_rep rfl).inv,Fn htb hct x3.fits.ok,x3.fits.ok.os,x3.fits.ok.bare⟩)
  refine u ?_
  exact hQ S h1 h2 h3
end
end
section
theorem Es {K:Frag} {h:Heap} (X:K.In h) (e:Al K=true):h.get? 225=some {cls:=.none,data:=.fields #[]}∧isCodeTable h 225:=
  have e:=aa.mp e
  ⟨dM e.1 fun o q e=>(X _ _ q).trans (congrArg some (by
    have e:=aa.mp e
    have e1:=aa.mp e.1
    have e2:=aa.mp e.2
    refine dM e2.2 fun vs hd hv=>?_
    rcases o with⟨c,d,dt,sl⟩
    cases (eq_of_beq e1.1:c=.none);cases (eq_of_beq e1.2:d=none);cases (Array.isEmpty_iff.mp e2.1:sl=#[]);cases (bh hd:dt=.fields vs);cases Array.isEmpty_iff.mp hv
    rfl)),dM e.2 fun o q e=>have e:=aa.mp e;dM e.2 fun vs hd hv=>⟨229,o,vs,X _ _ q,eq_of_beq e.1,bh hd,eq_of_beq hv⟩⟩
set_option tactic.hygienic true in
theorem Fo {w:World} {K:Frag} {s₀ s₁:Shared} {p:Program} {loose:List Str} {mean:ExcName→Option Value} {mg mb:Str→Option Value} (X:K.In s₁.heap) (T:Top p loose mean mg mb s₁.heap) (hg:s₁.gens=#[]) {a:Addr} {vals:List Value} {xs:List Int}
    (hW:Well w.params s₁.heap (.ref a) (ofPy (PyData.list (List.map PyData.int xs)))) (hL:s₁.heap.IsList a vals.toArray) (hI:IntsAre vals xs) (A:G7 K) (B:K2 K) (D:D6 K) (ht:Al K=true) (hp:PySem.Challenge.rw_te0067_01.row.claim.post [ofPy (PyData.list (List.map PyData.int xs))] (.bool true) [ofPy (PyData.list (List.map PyData.int xs))]=true)
    (pure:∃orc d s',aF P1 (Hz P1 (d+1)) du.body (eO xs orc)=.ok (.ret (.bool true)) s'∧s'.ob=true):
    wpAny (model PySem.Challenge.rw_te0067_01.row.prog w) callerA (PySem.call (.ref 565) [.ref a])
      (fun v s'=>GoodWG PySem.Challenge.rw_te0067_01.row.claim (classAt s₀.heap) (ExcName.means s₀.heap) [ofPy (PyData.list (List.map PyData.int xs))] s₁ (Except.ok (Flow.ret v)) s')
      (fun e s'=>GoodWG PySem.Challenge.rw_te0067_01.row.claim (classAt s₀.heap) (ExcName.means s₀.heap) [ofPy (PyData.list (List.map PyData.int xs))] s₁ (Except.error e) s') s₁:=by
  obtain⟨orc,d,s',hr,hob⟩:=pure
  obtain⟨t1,t2⟩:=Es X ht
  have hl:PlainL s₁.heap a vals.toArray:=by
    obtain⟨o,h1,h2,n,h3⟩:=hL
    have:o.dict=none:=by
      have e:∃vs,s₁.heap.get? a=some {cls:=.type "list",data:=.seq vs}:=by
        generalize hq:ofPy (PyData.list (List.map PyData.int xs))=D at hW
        cases hW<;>first
          |(rename_i _ q;exact⟨_,q⟩)
          |(exfalso;revert hq;simp[ofPy];done)
      obtain⟨vs,e⟩:=e
      rw[h1] at e;cases e;rfl
    exact⟨o,n,h1,h2,this,h3⟩
  refine yL (PL X T A B D) t1 t2 hg hl hI hr hob fun S' h1 h2 h3=>?_
  exact⟨.inl ⟨.bool true,.bool true,[],rfl,fun ζ=>rfl,.bool true,hp,fun ζ=>⟨.nil,fun ζ h=>nomatch h⟩⟩,h1,h2,h3⟩
end
end
namespace N
section
noncomputable def Ow:FI:={params:=[],dflts:=[],body:=[],names:=[]}
noncomputable def cf a:=(P1.fn a).getD Ow
noncomputable def stD:Stmt:=.Pass ⟨0,0,0,0⟩
noncomputable def DZ:Expr:=.Name (ae "") ⟨0,0,0,0⟩
noncomputable def bh a i:=(cf a).body.getD i stD
noncomputable def o4:Stmt→Expr
  |.Expr e _=>e
  |.Assign _ e _=>e
  |.Return (some e) _=>e
  |.For _ it _ _ _=>it
  |_=>DZ
noncomputable def gj:Stmt→Expr
  |.Assign [t] _ _=>t
  |.For t _ _ _ _=>t
  |.While t _ _ _=>t
  |.If t _ _ _=>t
  |_=>DZ
noncomputable def e_:Stmt→List Stmt
  |.For _ _ b _ _=>b
  |.While _ b _ _=>b
  |.If _ b _ _=>b
  |.Try b _ _ _ _=>b
  |_=>[]
noncomputable def I0:Stmt→List Stmt
  |.If _ _ b _=>b
  |_=>[]
noncomputable def sub (l:List _) i:=l.getD i stD
noncomputable abbrev Lv n:=Hz P1 n
noncomputable abbrev C n:=ci P1 (Hz P1 n)
noncomputable abbrev Ri n k:=dl P1 (C n) k
noncomputable abbrev T':V:=.bool true
noncomputable abbrev F':V:=.bool false
variable {α β γ:Type} {r r':dN} {st:Stmt} {rest body:List Stmt} {s s1:St} {fl:Fl} {v fv:V} {vs w:List V} {n dp:Nat} {e t:Expr}
noncomputable abbrev Sb:=List V→Bool→St
variable {S S1 S2 S3 S4:Sb} {x y:Tr α} {a:α} {c:β} {f:α→Tr β}
noncomputable def Go (x:Tr α) (S:Sb) a (S1:Sb):=∃t,∀o,x.run (S (t++o) true)=.ok a (S1 o true)
noncomputable def Er (x:Tr α) (S:Sb) w:=∃t,∀o,∃s,x.run (S (t++o) true)=.err 1 .none s∧s.orc=o∧s.ob=true∧s.outs=w
noncomputable def JK:lM α→Option (List V×Bool×List V)
  |.err 1 .none s=>some (s.orc,s.ob,s.outs)
  |_=>none
theorem Go.k t {b} (h:∀o,x.run (S (t++o) true)=.ok a (S1 o b)) (hb:b=true):Go x S a S1:=⟨t,fun o=>hb▸h o⟩
theorem JJ {o:lM α} {q} (h:JK o=some q):∃s,o=.err 1 .none s∧s.orc=q.1∧s.ob=q.2.1∧s.outs=q.2.2:=by
  induction o with
  |err c x s=>
   cases x<;>rcases c with _|_|c<;>first|exact aX h|exact Option.some.inj h▸⟨s,rfl,rfl,rfl,rfl⟩
  |ok=>exact aX h
  |stuck=>exact aX h
theorem Er.k t {b} (h:∀o,JK (x.run (S (t++o) true))=some (o,b,w)) (hb:b=true):Er x S w:=⟨t,fun o=>hb▸JJ (h o)⟩
theorem Go.to t {y} {b} (h:∀o,x.run (S (t++o) true)=y.run (S1 o b)) (hb:b=true) (g:Go y S1 a S2):Go x S a S2:=
  g.elim fun t2 g=>⟨t++t2,fun o=>by rw[am,h,hb];exact g o⟩
theorem Er.to t {y} {b} (h:∀o,x.run (S (t++o) true)=y.run (S1 o b)) (hb:b=true) (g:Er y S1 w):Er x S w:=
  g.elim fun t2 g=>⟨t++t2,fun o=>by rw[am,h,hb];exact g o⟩
theorem Go.eq (h:x=y) (g:Go y S a S1):Go x S a S1:=h▸g
theorem Er.eq (h:x=y) (g:Er y S w):Er x S w:=h▸g
theorem Go.bind (h:Go x S a S1) (g:Go (f a) S1 c S2):Go (x.bind f) S c S2:=
  h.elim fun t1 h=>g.elim fun t2 g=>⟨t1++t2,fun o=>by
    show(x.run _).bind _=_
    rw[am,h];exact g o⟩
theorem Go.bindE (h:Go x S a S1) (g:Er (f a) S1 w):Er (x.bind f) S w:=
  h.elim fun t1 h=>g.elim fun t2 g=>⟨t1++t2,fun o=>by
    show∃s,(x.run _).bind _=_∧_
    rw[am,h];exact g o⟩
theorem Er.bind (h:Er x S w):Er (x.bind f) S w:=h.elim fun t h=>⟨t,fun o=>(h o).elim fun s h=>⟨s,by
  show(x.run _).bind _=_
  rw[h.1];rfl,h.2⟩⟩
theorem Go.ret:Go (rT a) S a S:=⟨[],fun o=>rfl⟩
noncomputable def fQ (x:Tr α) (S:Sb) (a:α) (w:List V) (T:β→V→Sb):Option β→Prop
  |some c=>∃z,Go x S a (T c z)
  |none=>Er x S w
section
variable {T:β→V→Sb} {q:Option β}
theorem fQ.to t {y} {b} (h:∀o,x.run (S (t++o) true)=y.run (S1 o b)) (hb:b=true) (g:fQ y S1 a w T q):fQ x S a w T q:=by
  induction q with
  |none=>exact Er.to t h hb g
  |some c=>exact Exists.imp (fun z g=>Go.to t h hb g) g
theorem fQ.map {f:γ→β} {T'} {q} (hT:∀c z,T (f c) z=T' c z) (g:fQ x S a w T' q):fQ x S a w T (q.map f):=by
  induction q with
  |none=>exact g
  |some c=>exact Exists.imp (fun z g=>hT c z▸g) g
theorem fQ.eq (h:x=y) (g:fQ y S a w T q):fQ x S a w T q:=h▸g
end
noncomputable def mj (x:Tr α) (S:Sb) a w:=∃t,∀o,∃s,x.run (S (t++o) true)=.ok a s∧s.orc=o∧s.ob=true∧s.outs=w
noncomputable abbrev ya (x:Tr Fl) S w:=mj x S .next w
noncomputable def Rq (x y:Tr α) (S S1:Sb):=∃t,∀o,x.run (S (t++o) true)=y.run (S1 o true)
theorem Rq.k t {b} (h:∀o,x.run (S (t++o) true)=y.run (S1 o b)) (hb:b=true):Rq x y S S1:=⟨t,fun o=>hb▸h o⟩
theorem Rq.trans {z} (h:Rq x y S S1) (g:Rq y z S1 S2):Rq x z S S2:=h.elim fun t1 h=>g.elim fun t2 g=>⟨t1++t2,fun o=>by rw[am,h];exact g o⟩
theorem Rq.go (h:Rq x y S S1) (g:Go y S1 a S2):Go x S a S2:=h.elim fun t1 h=>g.elim fun t2 g=>⟨t1++t2,fun o=>by rw[am,h];exact g o⟩
theorem Go.cT {k} (h:Go x S a S1):Go (cT x k) S a S1:=h.imp fun t h o=>by
  unfold Internal.cT;dsimp only;rw[h]
theorem Rq.cT {k} (h:Rq x (eT n v) S S1) (g:Go (k n v) S1 a S2):Go (cT x k) S a S2:=h.elim fun t1 h=>g.elim fun t2 g=>⟨t1++t2,fun o=>by
  unfold Internal.cT;dsimp only;rw[am,h];exact g o⟩
theorem Go.o (h:Go x S a S1) (g:∀o,(S1 o true).orc=o∧(S1 o true).ob=true∧(S1 o true).outs=w):mj x S a w:=h.imp fun t h o=>⟨_,h o,g o⟩
theorem mj.to t {b} (h:∀o,x.run (S (t++o) true)=y.run (S1 o b)) (hb:b=true) (g:mj y S1 a w):mj x S a w:=
  g.elim fun t2 g=>⟨t++t2,fun o=>by rw[am,h,hb];exact g o⟩
theorem mj.eq (h:x=y) (g:mj y S a w):mj x S a w:=h▸g
theorem Go.bindO (h:Go x S a S1) (g:mj (f a) S1 c w):mj (x.bind f) S c w:=
  h.elim fun t1 h=>g.elim fun t2 g=>⟨t1++t2,fun o=>by
    show∃s,(x.run _).bind _=_∧_
    rw[am,h];exact g o⟩
theorem mj.end {x} {k} (h:ya x S w) (hk:k .next=rT .next):ya (x.bind k) S w:=h.imp fun t h o=>(h o).imp fun s h=>⟨by
  show(x.run _).bind _=_
  rw[h.1]
  show(k _).run s=_
  rw[hk];rfl,h.2⟩
theorem Go.cons (h:Go (jw P1 r st) S .next S1) (g:Go (aF P1 r rest) S1 fl S2):Go (aF P1 r (st::rest)) S fl S2:=h.bind g
theorem Go.consE (h:Go (jw P1 r st) S .next S1) (g:Er (aF P1 r rest) S1 w):Er (aF P1 r (st::rest)) S w:=h.bindE g
theorem Go.stop (h:Go (jw P1 r st) S (.ret v) S1):Go (aF P1 r (st::rest)) S (.ret v) S1:=h.bind .ret
theorem Go.step (h:Go (oR P1 r st) S .next S1) (g:Go (bB P1 r rest) S1 fl S2):Go (bB P1 r (st::rest)) S fl S2:=h.bind g
theorem Go.stepE (h:Go (oR P1 r st) S .next S1) (g:Er (bB P1 r rest) S1 w):Er (bB P1 r (st::rest)) S w:=h.bindE g
theorem fQ.cons {T:β→V→Sb} {q} (h:Go (jw P1 r st) S .next S1) (g:fQ (aF P1 r rest) S1 fl w T q):fQ (aF P1 r (st::rest)) S fl w T q:=by
  induction q with
  |none=>exact h.consE g
  |some c=>exact Exists.imp (fun z g=>h.cons g) g
theorem Go.stop1 (h:Go (oR P1 r st) S (.ret v) S1):Go (bB P1 r (st::rest)) S (.ret v) S1:=h.bind .ret
noncomputable def IZ:lM α→Option (α×St)
  |.ok a s=>some (a,s)
  |_=>none
theorem qw {o:lM α} {z} (h:IZ o=some z):o=.ok z.1 z.2:=by
  induction o with
  |ok a s=>exact Option.some.inj h▸rfl
  |err=>exact aX h
  |stuck=>exact aX h
noncomputable def AL (r:dN) (i:Nat) (name:Str) (args:List Expr) (s:St):Option (V×List V×St):=(lS (s.reg i)).bind fun q=>aM (lk name q.2).isNone (((P1.meth q.1 name).bind ry).bind fun f=>(IZ ((q9 r frz args).run s)).bind fun z=>some (.glob f,.inst i::z.1,z.2))
noncomputable def kE r e s:=(Gx e).bind fun q=>aM (cu q.2.1 q.2.2.1&&q.2.2.1.isEmpty) (oC (oS q.1)
  (fun a=>aM (Nat.beq a.2.2.endLine q.2.2.2.line&&(il a.1&&!yV q.2.1)) (oC (eP a.1 s) (fun v=>(uJ v).bind fun i=>AL r i a.2.1 q.2.1 s) ((IZ ((r.ev a.1).run s)).bind fun z=>(uJ z.1).bind fun i=>AL r i a.2.1 q.2.1 z.2)))
  ((IZ ((r.ev q.1).run s)).bind fun z=>aM ((rB z.1).isNone&&plain z.1) ((IZ ((q9 r frz q.2.1).run z.2)).bind fun w=>some (z.1,w.1,w.2))))
theorem bd {x:Tr α} {k:α→Tr β} {a} {o} (h:x.run s=.ok a s1) (h2:(k a).run s1=o):(x.bind k).run s=o:=by
  show(x.run s).bind _=o
  exact h▸h2
theorem wM {o} {w} {k:α→Tr β} {a} (h:o=some a):oT o w k=k a:=by rw[h];rfl
theorem jq {c} {w} {x:Tr α} (h:c=true):gT c w x=x:=by rw[h];rfl
theorem eM {f:α→Option β} {o} {z} {R:Prop} (h:o.bind f=some z) (g:∀a,o=some a→f a=some z→R):R:=(aw.mp h).elim fun a q=>g a q.1 q.2
theorem hU {c} {o:Option α} {z} {R:Prop} (h:aM c o=some z) (g:c=true→o=some z→R):R:=by
  induction c with
  |true=>exact g rfl h
  |false=>exact aX h
theorem sO {i} {name} {args} {z} (h:AL r i name args s=some z):(p7 P1 r i name args []).run s=(r.call z.1 z.2.1 []).run z.2.2:=
  eM h fun q h1 h=>hU h fun h2 h=>eM h fun f h3 h=>eM h fun w h4 h=>by
    have h:=Option.some.inj h
    subst h
    show(oT (lS (s.reg i)) "inst" fun q=>gT (lk name q.2).isNone "method" (oT ((P1.meth q.1 name).bind ry) "method" fun f=>(q9 r frz args).bind fun vs=>(zS r []).bind fun ks=>r.call (.glob f) ([.inst i]++vs) ks)).run s=_
    rw[wM h1,jq h2,wM h3]
    exact bd (qw h4) (bd rfl rfl)
theorem lI {e} {q} (h:Gx e=some q):e=.Call q.1 q.2.1 q.2.2.1 q.2.2.2:=by
  cases e<;>first|exact aX h|exact(Option.some.inj h)▸rfl
theorem fM {v} {i} (h:uJ v=some i):v=.inst i:=by
  cases v<;>first|exact aX h|exact congrArg _ (Option.some.inj h)
theorem vU {o} {name} {args} {i} (hb:(il o&&!yV args)=true) (h:eP o s=some (.inst i)):(p6 P1 r o name args []).run s=(p7 P1 r i name args []).run s:=by
  show(gT _ _ _).run s=_
  rw[jq hb]
  show(match(eP o s).bind xO with|some _=>_|none=>_:Tr V).run s=_
  rw[h]
  rfl
theorem C4 {o} {name} {args} {i} (hb:(il o&&!yV args)=true) (h:eP o s=none) (h2:(r.ev o).run s=.ok (.inst i) s1):(p6 P1 r o name args []).run s=(p7 P1 r i name args []).run s1:=by
  show(gT _ _ _).run s=_
  rw[jq hb]
  show(match(eP o s).bind xO with|some _=>_|none=>_:Tr V).run s=_
  exact h▸bd h2 rfl
theorem sN {e} {z} (h:kE r e s=some z):(dh P1 r e).run s=(r.call z.1 z.2.1 []).run z.2.2:=
  eM h fun q h1 h=>hU h fun h2 h=>by
    obtain⟨f,args,kw,p⟩:=q
    rw[lI h1]
    have hk:kw=[]:=by
      cases kw with
      |nil=>rfl
      |cons=>exact bG (aa.mp h2).2
    subst hk
    show(gT _ _ _).run s=_
    rw[jq (aa.mp h2).1]
    generalize oS f=A at h
    induction A with
    |some a=>
     refine hU (show aM _ _=some z from h) fun h3 h=>?_
     have h3:=aa.mp h3
     show(gT _ _ _).run s=_
     rw[jq h3.1]
     generalize hp:eP _ s=K at h
     induction K with
     |some v=>
      exact eM (show(uJ v).bind _=some z from h) fun i h4 h=>(vU h3.2 (hp.trans (congrArg _ (fM h4))))▸sO h
     |none=>
      refine eM (show(IZ _).bind _=some z from h) fun w h4 h=>eM h fun i h5 h=>?_
      rw[C4 h3.2 hp ((qw h4).trans (congrArg (fun v=>lM.ok v _) (fM h5)))]
      exact sO h
    |none=>
     refine eM (show(IZ _).bind _=some z from h) fun w h4 h=>hU h fun h5 h=>eM h fun u h6 h=>?_
     have h:=Option.some.inj h
     subst h
     refine bd (qw h4) ?_
     show(match rB _ with|some id=>_|none=>mI r args [] _).run _=_
     rw[aO.mp (aa.mp h5).1]
     show(gT _ _ _).run _=_
     rw[jq (aa.mp h5).2]
     exact bd (qw h6) rfl
noncomputable def kP (r:dN) (st:Stmt) (v:V):Tr Fl:=match st with
  |.Expr _ _=>gT (qX v) "expr" (rT .next)
  |.Assign ts _ _=>oT (fc ts) "targets" fun t=>de (im P1 t v)
  |.Return _ _=>rT (.ret (frz v))
  |.For t _ b _ _=>tG P1 r t b v
  |_=>sT "cont"
theorem Go.as (h:∀o,x.run (S o true)=y.run (S o true)) (g:Go y S a S1):Go x S a S1:=.to [] h rfl g
theorem Go.bindR {y} (h:Go x S a S1) (g:Rq (f a) y S1 S2):Rq (x.bind f) y S S2:=
  h.elim fun t1 h=>g.elim fun t2 g=>⟨t1++t2,fun o=>by
    show(x.run _).bind _=_
    rw[am,h];exact g o⟩
theorem Rq.err (h:Rq x (eT n v) S S1):Rq (x.bind f) (eT n v) S S1:=h.imp fun t h o=>by
  show(x.run _).bind _=_
  rw[h];rfl
theorem Rq.eq {z} (h:x=z) (g:Rq z y S S1):Rq x y S S1:=h▸g
theorem Go.evc {c} e (h:∀o,kE (dl P1 c (n+1)) e (S o true)=some (fv,vs,S1 o true)) (hc:Go (c fv vs []) S1 v S2):Go (dh P1 (dl P1 c (n+1)) e) S v S2:=hc.elim fun t hc=>⟨t,fun o=>(sN (h _)).trans (hc o)⟩
theorem Go.viaC {c} {x} st (hs:x=((dl P1 c (n+2)).ev (o4 st)).bind (kP (dl P1 c (n+2)) st)) (h:∀o,kE (dl P1 c (n+1)) (o4 st) (S o true)=some (fv,vs,S1 o true)) (hc:Go (c fv vs []) S1 v S2) (hk:Go (kP (dl P1 c (n+2)) st v) S2 fl S3):Go x S fl S3:=
  .eq hs (.bind (.evc _ h hc) hk)
theorem Er.viaC {c} {x} st (hs:x=((dl P1 c (n+2)).ev (o4 st)).bind (kP (dl P1 c (n+2)) st)) (h:∀o,kE (dl P1 c (n+1)) (o4 st) (S o true)=some (fv,vs,S1 o true)) (hc:Er (c fv vs []) S1 w):Er x S w:=
  .eq hs (.bind (hc.elim fun t hc=>⟨t,fun o=>(hc o).imp fun s q=>⟨(sN (h _)).trans q.1,q.2⟩⟩))
theorem Go.via {c} {x} st (hs:x=((dl P1 c (n+2)).ev (o4 st)).bind (kP (dl P1 c (n+2)) st)) (h:∀o,kE (dl P1 c (n+1)) (o4 st) (S o true)=some (fv,vs,S o true)) (hc:Go (c fv vs []) S v S2) (hk:Go (kP (dl P1 c (n+2)) st v) S2 fl S3):Go x S fl S3:=.viaC st hs h hc hk
theorem Er.via {c} {x} st (hs:x=((dl P1 c (n+2)).ev (o4 st)).bind (kP (dl P1 c (n+2)) st)) (h:∀o,kE (dl P1 c (n+1)) (o4 st) (S o true)=some (fv,vs,S o true)) (hc:Er (c fv vs []) S w):Er x S w:=.viaC st hs h hc
noncomputable def xa a:=(P1.fn a).isSome&&(!(cf a).gen&&!(cf a).fence)
noncomputable def BI a:=(P1.fn a).isSome&&((cf a).gen&&!(cf a).fence)
section
variable {a dp:Nat} {args:List V} {b:List (Str×V)}
theorem HN (h:(P1.fn a).isSome=true):P1.fn a=some (cf a):=by
  obtain⟨fi,e⟩:=bL.mp h
  unfold cf
  rw[e];rfl
theorem p4 (h:(P1.fn a).isSome=true) (hfe:(!(cf a).fence)=true) (hh:s.hd=false):(ci P1 r (.glob a) args []).run s=(eH (aF P1 r) (cf a) args []).run s:=by
  have e:gg P1 r a args []=eH (aF P1 r) (cf a) args []:=by
    show(match P1.fn a with|some fi=>cond _ _ _|none=>_)=_
    rw[HN h]
    show(cond _ _ _)=_
    rw[(ao _).mp hfe];rfl
  show(gT _ _ (gg P1 r a _ [])).run s=_
  rw[hh,e];rfl
theorem tY (hf:xa a=true) (hb:dm (cf a).params args (cf a).dflts []=some b) (hh:s.hd=false) (hd:s.dp=dp+1):(ci P1 r (.glob a) args []).run s=
    (pX (fh (cf a) b dp) eJ (fun ζ ζ h=>⟨h.ob,aD _⟩) ((aF P1 r (cf a).body).bind fun fl=>rT (iI fl))).run s:=by
  have h:=aa.mp hf
  rw[p4 h.1 (aa.mp h.2).2 hh]
  show(oT _ _ _).run s=_
  rw[hb, (ao _).mp (aa.mp h.2).1]
  show(MJ _ _).run s=_
  rw[hd];rfl
noncomputable def yX a b (s:St):=match s.dp with
  |dp+1=>aM (!s.hd) (some (fh (cf a) b dp s))
  |0=>none
theorem qO {z} {R:Prop} (h:yX a b s=some z) (g:∀dp,s.dp=dp+1→s.hd=false→fh (cf a) b dp s=z→R):R:=by
  unfold yX at h
  revert h
  generalize hq:s.dp=q
  induction q with
  |zero=>exact fun h=>aX h
  |succ dp=>exact fun h=>hU h fun h1 h=>g dp hq ((ao _).mp h1) (Option.some.inj h)
theorem Go.call (hf:xa a=true) (hb:dm (cf a).params args (cf a).dflts []=some b) (h1:∀o,yX a b (S o true)=some (S1 o true)) (he:Go (aF P1 r (cf a).body) S1 fl S2) (h3:∀o o',eJ (S o' true) (S2 o true)=S3 o true):Go (ci P1 r (.glob a) args []) S (iI fl) S3:=
  he.elim fun t he=>⟨t,fun o=>qO (h1 _) fun dp h4 h5 h6=>by
    rw[tY hf hb h5 h4]
    unfold pX
    dsimp only
    rw[h6,show((aF P1 r _).bind _).run _=.ok _ _ from bd (he o) rfl]
    exact congrArg _ (h3 o _)⟩
theorem Er.call (hf:xa a=true) (hb:dm (cf a).params args (cf a).dflts []=some b) (h1:∀o,yX a b (S o true)=some (S1 o true)) (he:Er (aF P1 r (cf a).body) S1 vs) (h3:∀o,(S o true).outs=w):Er (ci P1 r (.glob a) args []) S w:=
  he.elim fun t he=>⟨t,fun o=>qO (h1 _) fun dp h4 h5 h6=>(he o).elim fun s2 q=>⟨eJ (S (t++o) _) s2,by
    rw[tY hf hb h5 h4]
    unfold pX
    dsimp only
    refine h6▸?_
    have e:((aF P1 r (cf a).body).bind fun fl=>rT (iI fl)).run (S1 (t++o) true)=.err 1 .none s2:=by
      show((aF P1 r _).run _).bind _=_
      rw[q.1];rfl
    rw[e],q.2.1,q.2.2.1,h3 _⟩⟩
noncomputable def tw a args b s:=aM (!s.hd&&(!xf (s.reach args) 3&&Jj s.r3)) (some (jH (cf a) b (s.reach args) s))
theorem tW {z} (hf:BI a=true) (hb:dm (cf a).params args (cf a).dflts []=some b) (h:tw a args b s=some z):jH (cf a) b (s.reach args) s=z∧(ci P1 r (.glob a) args []).run s=
    (B4 (jH (cf a) b (s.reach args)) (jI (s.reach args)) (fun ζ ζ h=>⟨h.ob,aD _⟩) (cf a).dp (aF P1 r (cf a).body)).run s:=
  hU h fun h1 h=>by
    have q:=aa.mp hf
    refine⟨Option.some.inj h,?_⟩
    rw[p4 q.1 (aa.mp q.2).2 ((ao _).mp (aa.mp h1).1)]
    show(oT _ _ _).run s=_
    rw[hb, (aa.mp q.2).1]
    show(gT _ _ _).run s=_
    rw[(aa.mp h1).2];rfl
theorem Go.gen (hf:BI a=true) (hb:dm (cf a).params args (cf a).dflts []=some b) (h1:∀o,tw a args b (S o true)=some (S1 o true)) (he:ya (aF P1 r (cf a).body) S1 w) (h3:∀o o' s,s.orc=o→s.ob=true→jI ((S o' true).reach args) (S o' true) s=S3 o true):
    Go (ci P1 r (.glob a) args []) S (.itr (cf a).dp w 0 .none) S3:=he.elim fun t he=>⟨t,fun o=>by
    have O:=tW (r:=r) hf hb (h1 (t++o))
    obtain⟨s,g1,g2,g3,g4⟩:=he o
    rw[O.2]
    unfold B4
    dsimp only
    rw[O.1,g1]
    dsimp only
    rw[g4,h3 o _ s g2 g3]⟩
theorem Go.genE (hf:BI a=true) (hb:dm (cf a).params args (cf a).dflts []=some b) (h1:∀o,tw a args b (S o true)=some (S1 o true)) (he:Er (aF P1 r (cf a).body) S1 w) (h3:∀o o' s,s.orc=o→s.ob=true→jI ((S o' true).reach args) (S o' true) s=S3 o true):
    Go (ci P1 r (.glob a) args []) S (.itr (cf a).dp w 1 .none) S3:=he.elim fun t he=>⟨t,fun o=>by
    obtain⟨q,e⟩:=tW hf hb (h1 _)
    obtain⟨s,g1,g2,g3,g4⟩:=he o
    rw[e]
    unfold B4
    dsimp only
    rw[q,g1]
    dsimp only
    rw[g4,h3 o _ s g2 g3]⟩
end
theorem af {a b} (h:a=true) (h':b=true):av a b=true:=kW.mpr ⟨h,h'⟩
theorem gU {g:β→Tr γ}:((x.bind f).bind g).run s=(x.bind fun a=>(f a).bind g).run s:=by
  show((x.run s).bind _).bind _=(x.run s).bind _
  cases x.run s<;>rfl
theorem Go.for_ {z} (h:Go ((im P1 t v).bind fun ζ=>r.ex body) S .next S1) (g:Go (forL P1 r t body n z vs) S1 fl S2):Go (forL P1 r t body n z (v::vs)) S fl S2:=
  (Go.bind h g).elim fun t h=>⟨t,fun o=>gU.symm.trans (h o)⟩
theorem mj.for_ {z} (h:Go ((im P1 t v).bind fun ζ=>r.ex body) S .next S1) (g:ya (forL P1 r t body n z vs) S1 w):ya (forL P1 r t body n z (v::vs)) S w:=
  (Go.bindO h g).elim fun t h=>⟨t,fun o=>(h o).imp fun s q=>⟨gU.symm.trans q.1,q.2⟩⟩
theorem Er.for_ {z} (h:Go ((im P1 t v).bind fun ζ=>r.ex body) S .next S1) (g:Er (forL P1 r t body n z vs) S1 w):Er (forL P1 r t body n z (v::vs)) S w:=
  (Go.bindE h g).elim fun t h=>⟨t,fun o=>(h o).imp fun s q=>⟨gU.symm.trans q.1,q.2⟩⟩
theorem mj.forB {z} {k} (h:Go ((im P1 t v).bind fun ζ=>r.ex body) S .next S1) (g:ya ((forL P1 r t body n z vs).bind k) S1 w):ya ((forL P1 r t body n z (v::vs)).bind k) S w:=
  h.elim fun t1 h=>g.elim fun t2 g=>⟨t1++t2,fun o=>by
    show∃s,((forL P1 r t _ n z _).run _).bind _=_∧_
    rw[am,(show (forL P1 r t _ n z (v::vs)).run _=_ from gU.symm.trans (bd (h _) rfl))];exact g o⟩
theorem Rq.for_ {z} {y} (h:Go ((im P1 t v).bind fun ζ=>r.ex body) S .next S1) (g:Rq (forL P1 r t body n z vs) y S1 S2):Rq (forL P1 r t body n z (v::vs)) y S S2:=
  h.elim fun t1 h=>g.elim fun t2 g=>⟨t1++t2,fun o=>by
    rw[am,(show (forL P1 r t _ n z (v::vs)).run _=_ from gU.symm.trans (bd (h _) _))];exact g o⟩
theorem fQ.for_ {z} {T:β→V→Sb} {q} (h:Go ((im P1 t v).bind fun ζ=>r.ex body) S .next S1) (g:fQ (forL P1 r t body n z vs) S1 fl w T q):fQ (forL P1 r t body n z (v::vs)) S fl w T q:=by
  induction q with
  |none=>exact Er.for_ h g
  |some c=>exact Exists.imp (fun z g=>Go.for_ h g) g
noncomputable def eV c:=((I_ c).bind fun q=>(fc q.2.1).map fun g=>(q.1,g,q.2.2)).getD (DZ,⟨DZ,DZ,[],0⟩,default)
noncomputable def n_ r t ifs elt v:=(iK P1 t v).bind fun ζ=>(kQ r ifs).bind fun b=>cond b ((r.ev elt).bind fun x=>rT (some (frz x))) (rT none)
section
variable {ifs:List Expr} {elt:Expr} {bW out:List V} {z:V}
theorem ik (h:Go (n_ r t ifs elt v) S (some z) S1) (hz:plain z=true) (hl:Nat.blt bW.length 1000000=true) (g:mj (dT P1 r t ifs elt vs (bW++[z])) S1 out w):mj (dT P1 r t ifs elt (v::vs) bW) S out w:=
  h.elim fun t1 h=>g.elim fun t2 g=>⟨t1++t2,fun o=>by
    have h:=h (t2++o)
    rw[am]
    revert h
    show((iK P1 t v).run _).bind _=_→∃s,((iK P1 t v).run _).bind _=_∧_
    induction (iK P1 t v).run _ with
    |err=>exact fun h=>nomatch h
    |stuck=>exact fun h=>nomatch h
    |ok _ s=>
     show((kQ r _).run s).bind _=_→∃s',((kQ r _).run s).bind _=_∧_
     induction (kQ r _).run s with
     |err=>exact fun h=>nomatch h
     |stuck=>exact fun h=>nomatch h
     |ok b s=>induction b with
      |false=>exact fun h=>nomatch h
      |true=>
       show((r.ev _).run s).bind _=_→∃s',((r.ev _).run s).bind _=_∧_
       induction (r.ev _).run s with
       |err=>exact fun h=>nomatch h
       |stuck=>exact fun h=>nomatch h
       |ok x s=>
        intro h
        injection h with h1 h2
        have h1:=Option.some.inj h1
        subst h1 h2
        show∃s',(gT _ _ _).run _=_∧_
        rw[hz,hl];exact g o⟩
theorem n9 (h:Go (n_ r t ifs elt v) S none S1) (g:mj (dT P1 r t ifs elt vs bW) S1 out w):mj (dT P1 r t ifs elt (v::vs) bW) S out w:=
  h.elim fun t1 h=>g.elim fun t2 g=>⟨t1++t2,fun o=>by
    have h:=h (t2++o)
    rw[am]
    revert h
    show((iK P1 t v).run _).bind _=_→∃s,((iK P1 t v).run _).bind _=_∧_
    induction (iK P1 t v).run _ with
    |err=>exact fun h=>nomatch h
    |stuck=>exact fun h=>nomatch h
    |ok _ s=>
     show((kQ r _).run s).bind _=_→∃s',((kQ r _).run s).bind _=_∧_
     induction (kQ r _).run s with
     |err=>exact fun h=>nomatch h
     |stuck=>exact fun h=>nomatch h
     |ok b s=>induction b with
      |false=>
       intro h
       injection h with h1 h2
       subst h2
       exact g o
      |true=>
       show((r.ev _).run s).bind _=_→_
       cases (r.ev _).run s<;>exact fun h=>nomatch h⟩
theorem Go.cmp {src} {d} {sc} {g} (hx:∀o,((jt g.target).any fun x=>decide (g.is_async=0)&&(lE sc x.1 (S o true).sc&&fF g.iter))=true) (h1:Go (r.ev g.iter) S src S1) (hi:f_ src=some (d,vs,0,z)) (hd:∀o,(!(S1 o true).hd&&Nat.blt d (S1 o true).dp)=true)
    (h2:∀o,j4 sc (S1 o true)=S2 o true) (h3:mj (dT P1 r g.target g.ifs elt vs []) S2 out w) (h4:∀o o' s,s.orc=o→s.ob=true→lF sc (S1 o' true) s=S3 o true) (ho:out.all (noI 20)=true):Go (rj P1 r elt [g] sc) S out S3:=by
  have k:Go ((r.ev g.iter).bind (tR P1 r g.target g.ifs elt sc)) S out S3:=.bind h1 (h3.elim fun t h3=>⟨t,fun o=>by
    obtain⟨s,g1,g2,g3,-⟩:=h3 o
    have hd:=aa.mp (hd (t++o))
    show(oT (f_ src) "comp source" fun q=>_).run _=_
    rw[hi]
    show(gT (Nat.beq 0 0&&(!(S1 (t++o) true).hd&&Nat.blt d (S1 (t++o) true).dp)) "comp source" (pX (j4 sc) (lF sc) (fun ζ ζ h=>⟨h.ob,aD _⟩) (noErr ((dT P1 r g.target g.ifs elt vs []).bind fun out=>gT (out.all (noI 20)) "comp value" (rT out))))).run _=_
    rw[hd.1,hd.2]
    show(pX (j4 sc) (lF sc) (fun ζ ζ h=>⟨h.ob,aD _⟩) (noErr ((dT P1 r g.target g.ifs elt vs []).bind fun out=>gT (out.all (noI 20)) "comp value" (rT out)))).run _=_
    unfold pX
    dsimp only
    have e2:(noErr ((dT P1 r g.target g.ifs elt vs []).bind fun out=>gT (out.all (noI 20)) "comp value" (rT out))).run (S2 (t++o) true)=.ok out s:=by
      unfold noErr Internal.cT
      dsimp only
      rw[(show ((dT P1 r g.target g.ifs elt vs []).bind fun out=>gT (out.all (noI 20)) "comp value" (rT out)).run (S2 (t++o) true)=.ok out s from bd g1 (ho▸rfl))]
    rw[h2,e2]
    exact congrArg _ (h4 o (t++o) s g2 g3)⟩)
  refine k.imp fun t k o=>Eq.trans ?_ (k o)
  have hx:=hx (t++o)
  show(oT (jt g.target) "comp" fun x=>aT fun s=>gT _ "comp" _).run _=_
  revert hx
  induction jt g.target with
  |none=>exact fun h=>bG h
  |some x=>
   intro hx
   show(gT (decide (g.is_async=0)&&(lE sc x.1 (S (t++o) true).sc&&fF _)) _ _).run _=_
   rw[show(decide _&&(lE sc _ _&&fF _))=true from hx];rfl
theorem Go.lc {c} {sc} {g} (hc:(I_ c)=some (elt,[g],sc)) (h:Go (rj P1 r elt [g] sc) S out S3):Go (dh P1 r c) S (V.own out) S3:=by
  obtain⟨p,e⟩:∃p,c=.ListComp elt [g] sc p:=by
    cases c<;>first|exact aX hc|(injection hc with hc;injection hc with e1 hc;injection hc with e2 e3;subst e1 e2 e3;exact⟨_,rfl⟩)
  subst e
  exact(.bind h .ret)
end
end
section
structure Mk where
  c:Nat
  row:Int
  col:Int
noncomputable def fT:=[116,46,99]
noncomputable def qC (row col:Int):V:=.rcd 79 [.str fT,.int row,.int col,.int 1,.none]
noncomputable def aP (m:Mk):V:=.rcd 183 [.str [m.c],qC m.row m.col]
noncomputable def uQ (typ val:List Nat) (m:Mk):V:=.rcd 47 [.str typ,.str val,qC m.row m.col]
noncomputable def dR (tri:Bool):di:=.live 507 [(ae "settings",.dct [[116,114,105,103,114,97,112,104,115],[115,116,100],[118,101,114,98,111,115,101],[102,114,101,101,115,116,97,110,100,105,110,103]] [.bool tri,.str [99,57,57],.bool false,.bool false]),
  (ae "include_directories",.own []),(ae "macros",.own []),(ae "undefine_macros",.own [])]
noncomputable def OI (tb pb ct cs:List V):di:=.live 439 [(ae "token_buffer",.own tb),(ae "pushed_back",.own pb),(ae "current_text",.own ct),(ae "coptions",.inst 0),(ae "characters",.itr 8 cs 0 .none)]
noncomputable def Ot:Bool→List Mk→List V
  |true,m::_=>[aP m]
  |_,_=>[]
noncomputable def Pf:Bool→List Mk→List V
  |true,_::l=>l.map aP
  |_,l=>l.map aP
structure Lx where
  rho:List (Str×V)
  sc:List (Str×NameKind)
  r2:di
  outs:List V
  tri:Bool
  md:Bool
  dp:Nat
noncomputable def KX (x:Lx) (tb ct:List V) (b:Bool) (l:List Mk) (orc:List V) (ob:Bool):St:=
  {rho:=x.rho,sc:=x.sc,r0:=dR x.tri,r1:=OI tb (Ot b l) ct (Pf b l),r2:=x.r2,r3:=.empty,outs:=x.outs,orc:=orc,md:=x.md,ob:=ob,dp:=x.dp+13,hd:=false}
noncomputable def Lx.up (x:Lx):={x with dp:=x.dp+1}
noncomputable def Lx.fr (x:Lx) rho a:={x with rho:=rho,sc:=(cf a).names,outs:=[],md:=(cf a).law}
variable {x:Lx} {tb tb' ct ct':List V} {b b' bb bb':Bool} {l l':List Mk} {m:Mk} {a n:Nat} {args:List V} {bs bs':List (Str×V)} {fl:Fl} {o:List V} {r:dN} {w:List V} {v:List Nat} {p:Mk→Bool}
noncomputable def sX a:=xa a&&(cf a).cls.isNone
theorem Hx (h:sX a=true):yX a bs (KX x.up tb ct b l o true)=some (KX (x.fr bs a) tb ct b l o true):=by
  have e:kU (cf a) bs=bs:=by
    show bs++CW _=bs
    rw[aO.mp (aa.mp h).2];exact ax bs
  show some _=_
  unfold fh
  rw[e];rfl
noncomputable def yo:List (Str×V):=[(ae "self",.inst 1)]
theorem Go.lx bs (h:sX a=true) (hb:dm (cf a).params args (cf a).dflts []=some bs) (he:Go (aF P1 r (cf a).body) (KX (x.fr bs a) tb ct b l) fl (KX (x.fr bs' a) tb' ct' b' l')):Go (ci P1 r (.glob a) args []) (KX x.up tb ct b l) (iI fl) (KX x.up tb' ct' b' l'):=
  .call (aa.mp h).1 hb (fun o=>Hx h) he fun ζ ζ=>rfl
theorem Er.lx bs (h:sX a=true) (hb:dm (cf a).params args (cf a).dflts []=some bs) (he:Er (aF P1 r (cf a).body) (KX (x.fr bs a) tb ct b l) w):Er (ci P1 r (.glob a) args []) (KX x.up tb ct b l) x.outs:=
  .call (aa.mp h).1 hb (fun o=>Hx h) he fun ζ=>rfl
theorem fQ.lx {β} {q} {T:β→Bool×List Mk×List V×List V} {ρ:V→List _} bs (h:sX a=true) (hb:dm (cf a).params args (cf a).dflts []=some bs) (he:fQ (aF P1 r (cf a).body) (KX (x.fr bs a) tb ct b l) fl w (fun c z=>KX (x.fr (ρ z) a) (T c).2.2.1 (T c).2.2.2 (T c).1 (T c).2.1) q):
    fQ (ci P1 r (.glob a) args []) (KX x.up tb ct b l) (iI fl) x.outs (fun c ζ=>KX x.up (T c).2.2.1 (T c).2.2.2 (T c).1 (T c).2.1) q:=by
  induction q with
  |none=>exact Er.lx bs h hb he
  |some c=>exact Exists.imp (fun z g=>Go.lx bs h hb g) he
noncomputable def yt (y:List Nat) (c:Nat):=y.any (Nat.beq c)
noncomputable def B6 (l:List V):=Nat.ble l.length 1000000
noncomputable def Sz (ct:List V) (l:List Mk):=ct.length+l.length≤1000
theorem Sz.le6 (h:Sz ct l):B6 ct=true:=cz.mpr (ac (ac (aA _ _) h) (by decide))
theorem jW (ct:List V) v k:(ct++[v]).length+k=ct.length+(k+1):=by rw[aq,bS,cA _ k];rfl
theorem Sz.mv (h:Sz ct (m::l)) {v}:Sz (ct++[v]) l:=by
  show _≤_
  rw[jW];exact h
theorem Sz.tl (h:Sz ct (m::l)):Sz ct l:=ac (cj _) h
theorem d1 (c k:Nat):decide ([c]=[k])=Nat.beq c k:=by
  induction q:Nat.beq c k with
  |true=>exact decide_eq_true (congrArg (fun c=>[c]) (aj q))
  |false=>exact decide_eq_false fun h=>bG (q.symm.trans ((List.cons.inj h).1▸dG c))
theorem KQ (ct:List V) v:(ct++[v]).dropLast=ct:=List.dropLast_concat
theorem Mq (ct:List V) v:(ct++[v]).getLastD .gone=v:=by rw[NI,List.getLast?_concat];rfl
theorem JN (ct:List V) v:(!(ct++[v]).isEmpty)=true:=by cases ct<;>rfl
noncomputable def bW X ct v (m:Mk):=av (av X (B6 ct)) (yt v m.c)
noncomputable def wC X ct v m:=av (av (av (av X (B6 ct)) (!yt v m.c)) (!(ct++[aP m]).isEmpty&&B6 (ct++[aP m]))) (jN ((ct++[aP m]).getLastD .gone) (aP m))
variable {X:Bool}
theorem xT (hX:X=true) (h:Sz ct (m::l)) (hv:yt v m.c=true):bW X ct v m=true:=af (af hX h.le6) hv
theorem lU (hX:X=true) (h:Sz ct (m::l)) (hv:yt v m.c=false):wC X ct v m=true:=
  af (af (af (af hX h.le6) (hv▸rfl)) (aa.mpr ⟨JN ct _,h.mv.le6⟩)) (by rw[Mq];exact aH _)
noncomputable def HV (x:Lx) v:=x.fr [(ae "self",.inst 1),(ae "valid",.str v)] 251
noncomputable abbrev KW n:=ki (Lv 5) (gj (bh 251 0)) (e_ (bh 251 0)) n
theorem PH n o:(KW (n+1)).run (KX (HV x v) tb ct b (m::l) (T'::T'::o) true)=(KW n).run (KX (HV x v) tb (ct++[aP m]) false l o (bW true ct v m)):=by cases b<;>kernel_rfl
theorem PI n o (h:(ct++[aP m]).dropLast=ct'):(KW (n+1)).run (KX (HV x v) tb ct b (m::l) (T'::F'::T'::aP m::o) true)=.ok .next (KX (HV x v) tb ct' true (m::l) o (wC true ct v m)):=by subst h;cases b<;>kernel_rfl
theorem PJ n o:(KW (n+1)).run (KX (HV x v) tb ct b [] (F'::F'::o) true)=.ok .next (KX (HV x v) tb ct false [] o true):=by cases b<;>kernel_rfl
theorem GO (j:Nat):∀(l:List Mk) (ct:List V) (b:Bool),Sz ct l→(∀m∈l,yt v m.c=p m)→Go (KW (j+(l.length+1))) (KX (HV x v) tb ct b l) .next (KX (HV x v) tb (ct++(l.takeWhile p).map aP) (!(l.dropWhile p).isEmpty) (l.dropWhile p)):=by
  intro l
  induction l with
  |nil=>exact fun ct b h ζ=>.k [F',F'] (fun o=>by rw[show ct++(([]:List Mk).takeWhile p).map aP=ct from ax ct];exact PJ _ o) rfl
  |cons m l ih=>
   intro ct b h hp
   have hm:=hp m (.head _)
   induction q:p m with
   |true=>
    have e:ct++((m::l).takeWhile p).map aP=ct++[aP m]++(l.takeWhile p).map aP:=by rw[M4 q,am];rfl
    rw[e,dq q]
    exact .to [T',T'] (fun o=>PH _ o) (xT rfl h (hm.trans q)) (ih _ _ h.mv fun m' h'=>hp m' (.tail _ h'))
   |false=>
    have q':¬p m=true:=fun z=>bG (q.symm.trans z)
    rw[M5 q',eY q',show ct++[].map aP=ct from ax ct]
    exact .k [T',F',T',aP m] (fun o=>PI _ o (KQ _ _)) (lU rfl h (hm.trans q))
theorem fuel (h:n≤1000):∃j,100000=j+(n+1):=⟨100000 -(n+1),(zF (ac (aQ h) (by decide))).symm⟩
theorem Sz.fuel (h:Sz ct l):∃j,100000=j+(l.length+1):=N.fuel (ac (be _ _) h)
theorem xQ (h:Sz ct l) (hp:∀m∈l,yt v m.c=p m):Go (C 5 (.glob 251) [.inst 1,.str v] []) (KX x.up tb ct b l) .none (KX x.up tb (ct++(l.takeWhile p).map aP) (!(l.dropWhile p).isEmpty) (l.dropWhile p)):=
  .lx [(ae "self",.inst 1),(ae "valid",.str v)] rfl rfl (.eq (show _=aF P1 (Lv 5) [bh 251 0] by kernel_rfl) (.cons (.eq rfl (h.fuel.elim fun j e=>e▸GO j l ct b h hp)) .ret))
end
section
variable {x:Lx} {tb tb' ct ct':List V} {b b' bb bb':Bool} {l l' ms:List Mk} {m:Mk} {n:Nat} {typ val:List Nat} {fl:Fl} {o:List V} {w:List V} {v:List Nat} {p:Mk→Bool} {X:Bool}
noncomputable abbrev cs (l:List Mk):=l.map (·.c)
noncomputable def KO (typ:List Nat):List (Str×V):=[(ae "self",.inst 1),(ae "typ",.str typ)]
noncomputable def emF (x:Lx) rho:=x.fr rho 230
noncomputable def JO typ val:=KO typ++[(ae "val",.str val)]
noncomputable def MB typ val m:=KO typ++[(ae "val",.str val),(ae "loc",qC m.row m.col),(ae "token",uQ typ val m)]
theorem em0 o:(jw P1 (Lv 5) (bh 230 0)).run (KX (x.fr (KO typ) 230) tb ct b l o true)=(oT (ej P1 (ae "char") ct) "genexp" (nJ P1 (gj (bh 230 0)) [])).run (KX (x.fr (KO typ) 230) tb ct b l o true):=by kernel_rfl
theorem em2 L o:(nJ P1 (gj (bh 230 0)) [] L).run (KX (x.fr (KO typ) 230) tb ct b l o true)=.ok .next (KX (x.fr (JO typ (b_ [] L)) 230) tb ct b l o (av true (Nat.ble 0 100000&&(Nat.ble L.length 1000000&&Nat.ble (b_ [] L).length 1000000)))):=by kernel_rfl
theorem em1 o:(aF P1 (Lv 5) [bh 230 1,bh 230 2,bh 230 3,bh 230 4]).run (KX (x.fr (JO typ val) 230) tb (aP m::ct) b l o true)=
      .ok .next (KX (x.fr (MB typ val m) 230) (tb++[uQ typ val m]) [] b l o (av (av (av true (pS 0 (aP m::ct).length&&B6 (aP m::ct))) (B6 tb)) (B6 (aP m::ct)))):=by kernel_rfl
theorem FV (l:List Mk):ej P1 (ae "char") (l.map aP)=some (l.map fun m=>[m.c]):=by
  induction l with
  |nil=>rfl
  |cons m l ih=>
   show(idxOf (ae "char") (P1.flds 183) [V.str [m.c],qC m.row m.col]).bind (fun w=>(l7 w).bind fun x=>(ej P1 _ _).map _)=_
   refine ih▸?_;rfl
theorem HG l:b_ [] (l.map fun m=>[m.c])=cs l:=by
  induction l with
  |nil=>rfl
  |cons m l ih=>induction l with
   |nil=>rfl
   |cons m' l=>exact congrArg _ ih
theorem le6 {n:Nat} (h:n≤1000):Nat.ble n 1000000=true:=cz.mpr (ac h (by decide))
theorem OX:pS 0 (n+1)=true:=aa.mpr ⟨rfl,decide_eq_true (Km.mpr (Nat.succ_pos n))⟩
theorem Gf (ht:tb.length≤1000) (h:(m::ms).length≤1000):Go (C 5 (.glob 230) [.inst 1,.str typ] []) (KX x.up tb ((m::ms).map aP) b l) .none (KX x.up (tb++[uQ typ (cs (m::ms)) m]) [] b l):=by
  have h1:B6 ((m::ms).map aP)=true:=le6 (by rw[au];exact h)
  refine .lx (KO typ) (by kernel_rfl) (by kernel_rfl) (.eq (show _=aF P1 (Lv 5) [bh 230 0,bh 230 1,bh 230 2,bh 230 3,bh 230 4] by kernel_rfl) (.cons (S1:=KX (x.fr (JO typ (cs (m::ms))) 230) tb ((m::ms).map aP) b l) (.to [] (fun o=>(em0 o).trans (by rw[FV];rfl)) rfl (.k [] (fun o=>(em2 _ o).trans (by rw[HG])) ?_)) (.k [] (fun o=>em1 o) (af (af (af rfl (aa.mpr ⟨OX,h1⟩)) (le6 ht)) h1))))
  exact af rfl (aa.mpr ⟨rfl,aa.mpr ⟨le6 (by rw[au];exact h),le6 (by rw[au];exact h)⟩⟩)
theorem Sz.one (h:l.length<1000) {v}:Sz [v] l:=ac (aJ (cA 1 _)) h
theorem Sz.lt {v} (h:Sz [v] l):l.length<1000:=ac (aJ (cA _ 1)) h
theorem Ae (l:List Mk):(l.takeWhile p).length≤l.length:=(List.takeWhile_sublist p).length_le
theorem O8 (ht:ms.length<1000) st {e} (hs:e=((Lv 6).ev (o4 st)).bind (kP (Lv 6) st)) (h:∀o,kE (Ri 5 89) (o4 st) (KX x.up [] ([aP m]++ms.map aP) b l o true)=some (.glob 230,[.inst 1,.str typ],KX x.up [] ([aP m]++ms.map aP) b l o true)) (hk:kP (Lv 6) st .none=rT .next):
    Go e (KX x.up [] ([aP m]++ms.map aP) b l) .next (KX x.up [uQ typ (cs (m::ms)) m] [] b l):=.via st hs h (Gf (bt _) ht) (.eq hk .ret)
noncomputable def zO (x:Lx) a:=x.fr yo a
noncomputable def KK:=(List.range 26).map (· +97)++(List.range 26).map (· +65)++(List.range 10).map (· +48)++[95]
noncomputable def idF (x:Lx):=x.fr [(ae "self",.inst 1),(ae "id_chars",.str KK)] 380
noncomputable abbrev LB:=[73,68]
noncomputable abbrev oX:=[87,83]
theorem mp1:[aP m]++(l.takeWhile p).map aP=(m::l.takeWhile p).map aP:=rfl
theorem FJ (h:l.length<1000) (hp:∀m∈l,yt KK m.c=p m):Go (C 6 (.glob 380) [.inst 1] []) (KX x.up.up [] [aP m] b l) (.meth 373 1) (KX x.up.up [uQ LB (cs (m::l.takeWhile p)) m] [] (!(l.dropWhile p).isEmpty) (l.dropWhile p)):=
  .lx yo (bs':=[(ae "self",.inst 1),(ae "id_chars",.str KK)]) (by kernel_rfl) (by kernel_rfl) (.eq (show _=aF P1 (Lv 6) [bh 380 0,bh 380 1,bh 380 2,bh 380 3] by kernel_rfl)
    (.cons (S1:=KX (idF x).up [] [aP m] b l) (.k [] fun o=>by kernel_rfl rfl) (.cons (.via (bh 380 1) (n:=88) rfl fun o=>by kernel_rfl (xQ (.one h) hp) (.eq rfl .ret))
      (.cons (O8 (typ:=LB) (aR (Ae l) h) (bh 380 2) rfl fun o=>by kernel_rfl rfl) (.stop (.k [] fun o=>by kernel_rfl rfl))))))
theorem Ea (h:l.length<1000) (hp:∀m∈l,yt [32,9] m.c=p m):Go (C 6 (.glob 401) [.inst 1] []) (KX x.up.up [] [aP m] b l) (.meth 373 1) (KX x.up.up [uQ oX (cs (m::l.takeWhile p)) m] [] (!(l.dropWhile p).isEmpty) (l.dropWhile p)):=
  .lx yo (x:=x.up) (bs':=yo) (by kernel_rfl) (by kernel_rfl) (.eq (show _=aF P1 (Lv 6) [bh 401 0,bh 401 1,bh 401 2] by kernel_rfl)
    (.cons (.via (bh 401 0) (n:=88) rfl fun o=>by kernel_rfl (xQ (x:=zO x 401) (.one h) hp) (.eq rfl .ret))
      (.cons (O8 (typ:=oX) (aR (Ae l) h) (bh 401 1) rfl fun o=>by kernel_rfl rfl) (.stop (.k [] fun o=>by kernel_rfl rfl)))))
end
section
variable {x:Lx} {tb tb' ct ct':List V} {b b' bb bb':Bool} {l l' ms:List Mk} {m m2 e q:Mk} {n:Nat} {typ val:List Nat} {fl:Fl} {o:List V} {w:List V} {v:List Nat} {p:Mk→Bool} {X:Bool}
noncomputable def fY (m:Mk):=!Nat.beq m.c 10
noncomputable def cOf:List Mk→V
  |[]=>.none
  |m::_=>aP m
noncomputable def lT (x:Lx) a v:=x.fr (yo++[(ae "c",v)]) a
noncomputable abbrev KH n:=(ki (Lv 6) (gj (bh 408 1)) (e_ (bh 408 1)) n).bind (dC (aF P1 (Lv 6) [bh 408 2,bh 408 3,bh 408 4]))
theorem OM n o:(KH (n+1)).run (KX (lT x 408 (aP m)) [] ct false (m2::l) (T'::T'::o) true)=(KH n).run (KX (lT x 408 (aP m2)) [] (ct++[aP m2]) false l o (av (av true (!decide ([m.c]=[10]))) (B6 ct))):=by kernel_rfl
theorem ON n o:(KH (n+2)).run (KX (lT x 408 (aP m)) [] ct false [] (T'::T'::F'::F'::o) true)=.ok (.ret (.meth 373 1)) (KX (lT x 408 .none) [] [] false [] o (av (av true (!decide ([m.c]=[10]))) (B6 ct))):=by kernel_rfl
theorem L9 n o (h:(ct++[aP m]).dropLast=ct'):(KH (n+1)).run (KX (lT x 408 (aP m)) [] (ct++[aP m]) false l (T'::F'::T'::aP m::o) true)=.ok (.ret (.meth 373 1)) (KX (lT x 408 (aP m)) [] [] true (m::l) o
  (av (av (av (av true (!(!decide ([m.c]=[10])))) (!(ct++[aP m]).isEmpty&&B6 (ct++[aP m]))) (jN ((ct++[aP m]).getLastD .gone) (aP m))) (B6 ct'))):=by subst h;kernel_rfl
theorem Fh (j:Nat):∀(l:List Mk) (m:Mk) (ct:List V),Sz ct (m::l)→Go (KH (j+(l.length+2))) (KX (lT x 408 (aP m)) [] (ct++[aP m]) false l) (.ret (.meth 373 1)) (KX (lT x 408 (cOf ((m::l).dropWhile fY))) [] [] (!((m::l).dropWhile fY).isEmpty) ((m::l).dropWhile fY)):=by
  intro l
  induction l with
  |nil=>
   intro m ct h
   cases hm:fY m with
   |true=>rw[dq hm];exact .k [T',T',F',F'] (fun o=>ON _ o) (af (af rfl (by rw[d1];exact hm)) h.mv.le6)
   |false=>
    rw[eY fun z=>bG (hm.symm.trans z)]
    exact .k [T',F',T',aP m] (fun o=>L9 _ o (KQ _ _)) (af (af (af (af rfl (by rw[d1];exact congrArg not hm)) (aa.mpr ⟨JN ct _,h.mv.le6⟩)) (by rw[Mq];exact aH _)) h.le6)
  |cons m2 l ih=>
   intro m ct h
   cases hm:fY m with
   |true=>rw[dq hm];exact .to [T',T'] (fun o=>OM _ o) (af (af rfl (by rw[d1];exact hm)) h.mv.le6) (ih m2 (ct++[aP m]) h.mv)
   |false=>
    rw[eY fun z=>bG (hm.symm.trans z)]
    exact .k [T',F',T',aP m] (fun o=>L9 _ o (KQ _ _)) (af (af (af (af rfl (by rw[d1];exact congrArg not hm)) (aa.mpr ⟨JN ct _,h.mv.le6⟩)) (by rw[Mq];exact aH _)) h.le6)
theorem Fi (h:Sz ct l):Go (C 6 (.glob 408) [.inst 1] []) (KX x.up [] ct b l) (.meth 373 1) (KX x.up [] [] (!(l.dropWhile fY).isEmpty) (l.dropWhile fY)):=by
  have e:aF P1 (Lv 6) (cf 408).body=(jw P1 (Lv 6) (bh 408 0)).bind (dC (KH 100000)):=by kernel_rfl
  cases l with
  |nil=>exact .lx yo (fl:=.ret (.meth 373 1)) (bs':=yo++[(ae "c",.none)]) (by kernel_rfl) (by kernel_rfl) (.eq e (.k [F',F'] (b:=av true (B6 ct)) (fun o=>by cases b<;>kernel_rfl) (af rfl h.le6)))
  |cons m l=>
   obtain⟨j,hj⟩:=h.fuel
   refine .lx yo (fl:=.ret (.meth 373 1)) (bs':=yo++[(ae "c",cOf ((m::l).dropWhile fY))]) (by kernel_rfl) (by kernel_rfl) (.eq e (.bind (a:=Fl.next) (S1:=KX (lT x 408 (aP m)) [] (ct++[aP m]) false l) (.k [] fun o=>by cases b<;>kernel_rfl (af rfl h.le6)) ?_))
   exact hj▸Fh j l m ct h
noncomputable def eN:List Mk→Option (List Mk)
  |[]=>none
  |m::l=>match l with
   |[]=>none
   |m2::l2=>match Nat.beq m.c 42&&Nat.beq m2.c 47 with
    |true=>some l2
    |false=>eN l
noncomputable abbrev D4 n:=(ki (Lv 6) (gj (bh 415 0)) (e_ (bh 415 0)) n).bind (dC (aF P1 (Lv 6) [bh 415 1]))
theorem PF n o:(D4 (n+1)).run (KX (zO x 415) [] ct b (m::m2::l) (T'::T'::T'::T'::o) true)=.ok (.ret (.meth 373 1)) (KX (zO x 415) [] [] false l o (av (bW (bW true ct [42] m) (ct++[aP m]) [47] m2) (B6 (ct++[aP m]++[aP m2])))):=by cases b<;>kernel_rfl
theorem PE n o (h:(ct++[aP m]++[aP m2]).dropLast=ct'):(D4 (n+1)).run (KX (zO x 415) [] ct b (m::m2::l) (T'::T'::T'::F'::T'::aP m2::o) true)=(D4 n).run (KX (zO x 415) [] ct' true (m2::l) o (wC (bW true ct [42] m) (ct++[aP m]) [47] m2)):=by subst h;cases b<;>kernel_rfl
theorem PD n o:(D4 (n+1)).run (KX (zO x 415) [] ct b [m] (T'::T'::F'::F'::o) true)=(D4 n).run (KX (zO x 415) [] (ct++[aP m]) false [] o (bW true ct [42] m)):=by cases b<;>kernel_rfl
theorem PC n o (h:(ct++[aP m]).dropLast=ct'):(D4 (n+1)).run (KX (zO x 415) [] ct b (m::l) (T'::F'::T'::aP m::o) true)=(D4 n).run (KX (zO x 415) [] (ct'++[aP m]) false l o (av (wC true ct [42] m) (B6 ct'))):=by subst h;cases b<;>kernel_rfl
theorem Pz n o:JK ((D4 (n+1)).run (KX (zO x 415) [] ct b [] (F'::F'::o) true))=some (o,true,[]):=by cases b<;>kernel_rfl
theorem zM k c:yt [k] c=Nat.beq c k:=dL _
theorem GG (j:Nat):∀(l:List Mk) (ct:List V) (b:Bool),Sz ct l→fQ (D4 (j+(l.length+1))) (KX (zO x 415) [] ct b l) (.ret (.meth 373 1)) [] (fun r ζ=>KX (zO x 415) [] [] false r) (eN l):=by
  intro l
  induction l with
  |nil=>exact fun ct b h=>Er.k [F',F'] (fun o=>Pz _ o) rfl
  |cons m l ih=>
   intro ct b h
   have hi:=ih (ct++[aP m])
   induction hm:Nat.beq m.c 42 with
   |true=>
    have ha:=xT rfl h (by rw[zM];exact hm)
    induction l with
    |nil=>exact .to [T',T',F',F'] (fun o=>PD _ o) ha (hi false h.mv)
    |cons m2 l=>
     show fQ _ _ _ _ _ (match Nat.beq m.c 42&&Nat.beq m2.c 47 with|true=>some l|false=>eN (m2::l))
     refine hm▸?_
     induction h2:Nat.beq m2.c 47 with
     |true=>exact⟨.none,.k [T',T',T',T'] (fun o=>PF _ o) (af (xT ha h.mv (by rw[zM];exact h2)) h.mv.mv.le6)⟩
     |false=>exact .to [T',T',T',F',T',aP m2] (fun o=>PE _ o (KQ _ _)) (lU ha h.mv (by rw[zM];exact h2)) (hi true h.mv)
   |false=>
    have e:eN (m::l)=eN l:=by
      induction l with
      |nil=>rfl
      |cons m2 l=>
       show(match Nat.beq m.c 42&&Nat.beq m2.c 47 with|true=>some l|false=>eN (m2::l))=_
       rw[hm];rfl
    refine e▸?_
    exact .to [T',F',T',aP m] (fun o=>PC _ o (KQ _ _)) (af (lU rfl h (by rw[zM];exact hm)) h.le6) (hi false h.mv)
theorem GH (h:Sz ct l):fQ (C 6 (.glob 415) [.inst 1] []) (KX x.up [] ct b l) (.meth 373 1) x.outs (fun r ζ=>KX x.up [] [] false r) (eN l):=
  fQ.lx (T:=fun r=>(false,r,[],[])) yo rfl rfl (.eq (show _=D4 _ by kernel_rfl) (h.fuel.elim fun j e=>e▸GG j l ct b h))
noncomputable def d_:=[39,34,63,92,97,98,102,110,114,116,118,101]
noncomputable def E4:=[48,49,50,51,52,53,54,55]
noncomputable def yH c:=!yt E4 c&&(!yt [120] c&&(!yt [117] c&&!yt [85] c))
noncomputable def pre m (p:List Mk×List Mk):=(m::p.1,p.2)
noncomputable def gp:List Mk→Bool→Option (List Mk×List Mk)
  |[],_=>none
  |m::l,e=>cond e (cond (yt d_ m.c) ((gp l false).map (pre m)) none) (cond (Nat.beq m.c 34) (some ([m],l)) ((gp l (Nat.beq m.c 92)).map (pre m)))
noncomputable abbrev Ax n:=ki (Lv 6) (gj (bh 422 1)) (e_ (bh 422 1)) n
section
variable (n:Nat) (o:List V)
theorem N1:(Ax (n+1)).run (KX (lT x 422 (aP m)) [] ct false l (F'::o) true)=.ok .next (KX (lT x 422 (aP m)) [] ct false l o (av true (!(!decide ([m.c]=[34]))))):=by kernel_rfl
theorem N4:(Ax (n+1)).run (KX (lT x 422 (aP m)) [] ct false (m2::l) (T'::F'::o) true)=(Ax n).run (KX (lT x 422 (aP m2)) [] (ct++[aP m2]) false l o (av (av (av true (!decide ([m.c]=[34]))) (!decide ([m.c]=[92]))) (B6 ct))):=by kernel_rfl
theorem Ly:JK ((Ax (n+1)).run (KX (lT x 422 (aP m)) [] ct false [] (T'::F'::o) true))=some (o,av (av true (!decide ([m.c]=[34]))) (!decide ([m.c]=[92])),[]):=by kernel_rfl
noncomputable def bk (m:Mk):=av (av true (!decide ([m.c]=[34]))) (decide ([m.c]=[92]))
theorem N3:(Ax (n+1)).run (KX (lT x 422 (aP m)) [] ct false (e::m2::l) (T'::T'::T'::T'::o) true)=(Ax n).run (KX (lT x 422 (aP m2)) [] (ct++[aP e]++[aP m2]) false l o (av (bW (bk m) ct d_ e) (B6 (ct++[aP e])))):=by kernel_rfl
theorem Lw:JK ((Ax (n+1)).run (KX (lT x 422 (aP m)) [] ct false [e] (T'::T'::T'::T'::o) true))=some (o,bW (bk m) ct d_ e,[]):=by kernel_rfl
noncomputable def esc5 X ct e:=av (wC (wC (wC (wC (wC X ct d_ e) ct E4 e) ct [120] e) ct [117] e) ct [85] e) (B6 ct)
noncomputable def IY e o:=F'::T'::aP e::T'::F'::T'::aP e::T'::F'::T'::aP e::T'::F'::T'::aP e::T'::F'::T'::aP e::o
noncomputable def uI ct e:=(ct++[aP e]).dropLast
noncomputable def Cu X ct e:=av (wC (wC (wC (wC (wC X ct d_ e) (uI ct e) E4 e) (uI (uI ct e) e) [120] e) (uI (uI (uI ct e) e) e) [117] e) (uI (uI (uI (uI ct e) e) e) e) [85] e) (B6 (uI (uI (uI (uI (uI ct e) e) e) e) e))
theorem N2:JK ((Ax (n+1)).run (KX (lT x 422 (aP m)) [] ct false (e::l) (T'::T'::T'::IY e o) true))=some (o,Cu (bk m) ct e,[]):=by kernel_rfl
theorem Lu:JK ((Ax (n+1)).run (KX (lT x 422 (aP m)) [] ct false [] (T'::T'::F'::F'::F'::F'::F'::F'::F'::F'::F'::F'::o) true))=some (o,bk m,[]):=by kernel_rfl
end
theorem JI (hX:X=true) (h:Sz ct (e::l)) (h1:yt d_ e.c=false) (h2:yH e.c=true):Cu X ct e=true:=by
  have d:uI ct e=ct:=KQ _ _
  unfold Cu
  rw[d,d,d,d,d]
  have h3:=aa.mp (aa.mp h2).2
  exact af (lU (lU (lU (lU (lU hX h h1) h ((ao _).mp (aa.mp h2).1)) h ((ao _).mp h3.1)) h ((ao _).mp (aa.mp h3.2).1)) h ((ao _).mp (aa.mp h3.2).2)) h.le6
theorem Kb ct m l:ct++(m::l).map aP=ct++[aP m]++l.map aP:=(am ct [aP m] _).symm
theorem EJ:∀(n:Nat) (l:List Mk) (m:Mk) (ct:List V),l.length<n→Sz ct (m::l)→(∀e∈l,yH e.c=true)→
    fQ (Ax n) (KX (lT x 422 (aP m)) [] (ct++[aP m]) false l) .next [] (fun p z=>KX (lT x 422 z) [] (ct++p.1.map aP) false p.2) (gp (m::l) false):=by
  intro n
  induction n with
  |zero=>exact fun l m ct h=>absurd h (cg _)
  |succ n ih=>
   intro l m ct hn h he
   show fQ _ _ _ _ _ (cond (Nat.beq m.c 34) (some ([m],l)) ((gp l (Nat.beq m.c 92)).map (pre m)))
   induction h1:Nat.beq m.c 34 with
   |true=>exact⟨aP m,.k [F'] (fun o=>N1 n o) (af rfl (by rw[d1,h1];rfl))⟩
   |false=>
    have q1:av true (!decide ([m.c]=[34]))=true:=af rfl (by rw[d1,h1];rfl)
    induction h2:Nat.beq m.c 92 with
    |true=>
     have q2:bk m=true:=af q1 (by rw[d1,h2])
     cases l with
     |nil=>exact Er.k [T',T',F',F',F',F',F',F',F',F',F',F'] (fun o=>Lu n o) q2
     |cons e l=>
      show fQ _ _ _ _ _ ((cond (yt d_ e.c) ((gp l false).map (pre e)) none).map (pre m))
      induction h3:yt d_ e.c with
      |true=>
       have q3:=xT q2 (h.mv (v:=aP m)) h3
       induction l with
       |nil=>exact Er.k [T',T',T',T'] (fun o=>Lw n o) q3
       |cons m2 l=>exact .map (fun c z=>congrArg (fun k=>KX (lT x 422 z) [] k false c.2) (Kb ct m c.1)) (.map (fun c z=>congrArg (fun k=>KX (lT x 422 z) [] k false c.2) (Kb (ct++[aP m]) e c.1)) (.to [T',T',T',T'] (fun o=>N3 n o) (af q3 h.mv.mv.le6) (ih l m2 (ct++[aP m]++[aP e]) (gY (aV hn)) h.mv.mv fun e' z=>he e' (.tail _ (.tail _ z)))))
      |false=>exact Er.k (T'::T'::T'::IY e []) (fun o=>N2 n o) (JI q2 h.mv h3 (he e (.head _)))
    |false=>
     have q2:=af q1 (show(!decide ([m.c]=[92]))=true by rw[d1,h2];rfl)
     cases l with
     |nil=>exact Er.k [T',F'] (fun o=>Ly n o) q2
     |cons m2 l=>exact .map (fun c z=>congrArg (fun k=>KX (lT x 422 z) [] k false c.2) (Kb ct m c.1)) (.to [T',F'] (fun o=>N4 n o) (af q2 h.mv.le6) (ih l m2 (ct++[aP m]) (aV hn) h.mv fun e' z=>he e' (.tail _ z)))
noncomputable abbrev sC:=[83,84,82,73,78,71]
theorem ng:∀l b p,gp l b=some p→l=p.1++p.2:=by
  intro l
  induction l with
  |nil=>exact fun b p h=>aX h
  |cons m l ih=>
   have k:∀b p,(gp l b).map (pre m)=some p→m::l=p.1++p.2:=fun b p h=>(ay.mp h).elim fun q h=>h.2▸congrArg _ (ih b q h.1)
   intro b p h
   revert h
   show cond b _ _=some p→_
   induction b with
   |true=>induction yt d_ _ with
    |true=>exact k _ _
    |false=>exact fun h=>aX h
   |false=>induction Nat.beq _ 34 with
    |true=>exact fun h=>Option.some.inj h▸rfl
    |false=>exact k _ _
theorem EF {b} {p} (h:gp l b=some p):p.1.length≤l.length:=by rw[ng _ _ _ h,aq];exact aA _ _
theorem Av (h:Sz [aP q] l) (he:∀e∈l,yH e.c=true):fQ (C 6 (.glob 422) [.inst 1] []) (KX x.up.up [] [aP q] b l) (.meth 373 1) x.outs (fun p ζ=>KX x.up.up [uQ sC (cs (q::p.1)) q] [] false p.2) (gp l false):=by
  refine fQ.lx (w:=[]) (x:=x.up) (fl:=.ret (.meth 373 1)) (T:=fun(p:List Mk×List Mk)=>(false,p.2,[uQ sC (cs (q::p.1)) q],[])) (ρ:=fun z=>yo++[(ae "c",z)]) yo (by kernel_rfl) (by kernel_rfl) (.eq (show _=aF P1 (Lv 6) [bh 422 0,bh 422 1,bh 422 2,bh 422 3] by kernel_rfl) ?_)
  cases l with
  |nil=>exact Er.k [] (b:=true) (fun o=>by cases b<;>kernel_rfl) rfl
  |cons m l=>
   refine .cons (S1:=KX (lT x.up 422 (aP m)) [] ([aP q]++[aP m]) false l) (.k [] fun o=>by cases b<;>kernel_rfl rfl) ?_
   have g:=EJ (x:=x.up) 100000 l m [aP q] (aR (ac (be _ _) h.tl) (by decide)) h fun e z=>he e (.tail _ z)
   have ew:jw P1 (Lv 6) (bh 422 1)=Ax 100000:=by kernel_rfl
   revert g
   induction hq:gp (m::l) false with
   |none=>exact fun g=>Er.bind (.eq ew g)
   |some p=>exact Exists.imp fun z g=>.cons (.eq ew g) (.cons (O8 (typ:=sC) (x:=lT x 422 z) (aR (EF hq) h.lt) (bh 422 2) (by kernel_rfl) fun o=>by kernel_rfl (by kernel_rfl)) (.stop (.k [] fun o=>by kernel_rfl rfl)))
end
section
variable {x:Lx} {tb tb' ct ct':List V} {b b' bb bb':Bool} {l l' ms:List Mk} {m m2 e q:Mk} {n c c2 i:Nat} {ks ks':List Nat} {typ val:List Nat} {fl:Fl} {o:List V} {w:List V} {v:List Nat} {p:Mk→Bool} {X:Bool}
noncomputable abbrev LC:=[67,72,65,82]
noncomputable def MN:List Mk→Option (List Mk×List Mk)
  |[]=>none
  |m::l=>match Nat.beq m.c 92 with
   |true=>(match l with
    |e::z::l'=>(match yt d_ e.c&&Nat.beq z.c 39 with
     |true=>some ([m,e,z],l')
     |false=>none)
    |_=>none)
   |false=>(match l with
    |z::l'=>(match Nat.beq z.c 39 with
     |true=>some ([m,z],l')
     |false=>none)
    |[]=>none)
noncomputable abbrev vv m:=jN (aP m) (aP m)
noncomputable def chE e X:=av (av (av (av (av (av (av (av (av (av X (!yt d_ e.c)) (vv e)) (!yt E4 e.c)) (vv e)) (!yt [120] e.c)) (vv e)) (!yt [117] e.c)) (vv e)) (!yt [85] e.c)) (vv e)
theorem dF {b} (h:b=false):(!b)=true:=h▸rfl
theorem Gy (he:∀e∈l,yH e.c=true):fQ (C 6 (.glob 429) [.inst 1] []) (KX x [] [aP q] b l) (.meth 373 1) x.outs (fun p ζ=>KX x [uQ LC (cs (q::p.1)) q] [] false p.2) (MN l):=by
  cases l with
  |nil=>exact Er.k [F',F'] (b:=true) (fun o=>by cases b<;>kernel_rfl) rfl
  |cons m l=>
   show fQ _ _ _ _ _ (match Nat.beq m.c 92 with|true=>_|false=>_)
   cases hm:Nat.beq m.c 92 with
   |true=>
    have q1:av true (yt [92] m.c)=true:=af rfl (by rw[zM];exact hm)
    cases l with
    |nil=>exact Er.k [T',T',F',F',F',F',F',F',F',F',F',F'] (b:=av true (yt [92] m.c)) (fun o=>by cases b<;>kernel_rfl) q1
    |cons e l=>
     cases h3:yt d_ e.c with
     |false=>
      have q2:chE e (av true (yt [92] m.c))=true:=by
        have h2:=aa.mp (he e (.tail _ (.head _)))
        have h3':=aa.mp h2.2
        exact af (af (af (af (af (af (af (af (af (af q1 (dF h3)) (aH _)) h2.1) (aH _)) h3'.1) (aH _)) (aa.mp h3'.2).1) (aH _)) (aa.mp h3'.2).2) (aH _)
      have g:Er (C 6 (.glob 429) [.inst 1] []) (KX x [] [aP q] b (m::e::l)) x.outs:=Er.k (T'::T'::T'::IY e []) (b:=chE e (av true (yt [92] m.c))) (fun o=>by cases b<;>kernel_rfl) q2
      cases l with
      |nil=>exact g
      |cons z l=>
       show fQ _ _ _ _ _ (match yt d_ e.c&&Nat.beq z.c 39 with|true=>_|false=>_)
       rw[h3];exact g
     |true=>cases l with
      |nil=>exact Er.k [T',T',T',T',F',F'] (b:=av (av true (yt [92] m.c)) (yt d_ e.c)) (fun o=>by cases b<;>kernel_rfl) (af q1 h3)
      |cons z l=>
       show fQ _ _ _ _ _ (match yt d_ e.c&&Nat.beq z.c 39 with|true=>_|false=>_)
       refine h3▸?_
       cases hz:Nat.beq z.c 39 with
       |true=>exact⟨.none,.k [T',T',T',T',T',T'] (b:=av (av (av true (yt [92] m.c)) (yt d_ e.c)) (yt [39] z.c)) (fun o=>by cases b<;>kernel_rfl) (af (af q1 h3) (by rw[zM];exact hz))⟩
       |false=>exact Er.k [T',T',T',T',T',F',T',aP z] (b:=av (av (av (av true (yt [92] m.c)) (yt d_ e.c)) (!yt [39] z.c)) (vv z)) (fun o=>by cases b<;>kernel_rfl) (af (af (af q1 h3) (by rw[zM,hz];rfl)) (aH _))
   |false=>
    have q1:av (av true (!yt [92] m.c)) (vv m)=true:=af (af rfl (by rw[zM,hm];rfl)) (aH _)
    cases l with
    |nil=>exact Er.k [T',F',T',aP m,F',F'] (b:=av (av true (!yt [92] m.c)) (vv m)) (fun o=>by cases b<;>kernel_rfl) q1
    |cons z l=>
     show fQ _ _ _ _ _ (match Nat.beq z.c 39 with|true=>_|false=>_)
     cases hz:Nat.beq z.c 39 with
     |true=>exact⟨.none,.k [T',F',T',aP m,T',T'] (b:=av (av (av true (!yt [92] m.c)) (vv m)) (yt [39] z.c)) (fun o=>by cases b<;>kernel_rfl) (af q1 (by rw[zM];exact hz))⟩
     |false=>exact Er.k [T',F',T',aP m,T',F',T',aP z] (b:=av (av (av (av true (!yt [92] m.c)) (vv m)) (!yt [39] z.c)) (vv z)) (fun o=>by cases b<;>kernel_rfl) (af (af q1 (by rw[zM,hz];rfl)) (aH _))
noncomputable def o_ {α:Type} (P:α→Prop):List α→Prop
  |[]=>True
  |a::l=>P a∧o_ P l
theorem o_.mem {α} {P:α→Prop} {l} (h:o_ P l) {a} (ha:a∈l):P a:=by
  induction ha with
  |head=>exact h.1
  |tail _ _ ih=>exact ih h.2
noncomputable def oZ v o
  |0=>o
  |i+1=>T'::F'::T'::v::oZ v o i
noncomputable def zi o
  |0=>o
  |i+1=>F'::F'::zi o i
noncomputable def wO (m:Mk) (X:Bool):List Nat→Bool
  |[]=>X
  |k::ks=>wO m (av (av X (!yt [k] m.c)) (vv m)) ks
noncomputable def BO m X
  |0=>X
  |i+1=>BO m (av X (vv m)) i
noncomputable abbrev nH:=C 6 (.glob 373) [.inst 1] []
noncomputable abbrev A5:V:=.meth 373 1
noncomputable def DI (c:Nat):Nat→List Nat→Prop
  |_,[]=>True
  |i,k::ks=>(∀x b r1 k1 r2 k2 l o,nH.run (KX x [] [] b (⟨c,r1,k1⟩::⟨k,r2,k2⟩::l) (oZ (aP ⟨k,r2,k2⟩) (T'::T'::o) i) true)=.ok A5 (KX x [uQ [c,k] [c,k] ⟨c,r1,k1⟩] [] false l o (BO ⟨k,r2,k2⟩ true i)))∧DI c (i+1) ks
noncomputable def MZ (r:Nat×List _×List _):=
  (∀x b r1 k1 o,nH.run (KX x [] [] b [⟨r.1,r1,k1⟩] (zi o (r.2.1++r.2.2).length) true)=.ok A5 (KX x [uQ [r.1] [r.1] ⟨r.1,r1,k1⟩] [] false [] o true))∧
  (∀x b r1 k1 m2 l o,nH.run (KX x [] [] b (⟨r.1,r1,k1⟩::m2::l) (oZ (aP m2) o (r.2.1++r.2.2).length) true)=.ok A5 (KX x [uQ [r.1] [r.1] ⟨r.1,r1,k1⟩] [] (!r.2.1.isEmpty) (m2::l) o (wO m2 true (r.2.1++r.2.2))))∧DI r.1 0 r.2.1
noncomputable def u5:=[(63,[],[]),(40,[],[]),(41,[],[]),(91,[],[]),(93,[],[]),(123,[],[]),(125,[],[]),(92,[],[]),(35,[35],[]),(124,[124,61],[]),(94,[61],[]),(126,[61],[]),(61,[61],[]),(33,[61],[]),(45,[45,61,62],[]),(42,[61],[]),(60,[61],[60]),(62,[61],[62])]
theorem N5:o_ MZ u5:=by
  repeat' apply And.intro
  all_goals first
    |trivial
    |(intros;cases b<;>kernel_rfl)
end
section
structure Tk where
  typ:List Nat
  val:List Nat
  m:Mk
noncomputable def Tk.v (t:Tk):=uQ t.typ t.val t.m
variable {x:Lx} {tb tb' ct ct':List V} {b b' bb bb':Bool} {l l' ms r:List Mk} {m m2 e:Mk} {n c c2 i f:Nat} {ks ks':List Nat} {typ val:List Nat} {fl:Fl} {o:List V} {w:List V} {v:V} {p:Mk→Bool} {X:Bool}
noncomputable def tkR v:=[(ae "self",.inst 1),(ae "characters",.gone),(ae "start_state",A5),(ae "state",v)]
noncomputable def DW (x:Lx) v outs:={x with rho:=tkR v,sc:=(cf 208).names,outs:=outs,md:=(cf 208).law}
noncomputable abbrev zN n:=ki (Lv 7) (gj (bh 208 2)) (e_ (bh 208 2)) n
noncomputable abbrev Iy i:=sub (e_ (bh 208 2)) i
variable {outs outs':List V}
theorem Lk n:(zN (n+1)).run (KX (DW x (.meth f 1) outs) tb ct b l o true)=((bB P1 (Ri 6 89) [Iy 0,Iy 1]).bind (jx (zN n))).run (KX (DW x (.meth f 1) outs) tb ct b l o true):=by kernel_rfl
noncomputable def vg tb:=tb=[]∨∃t:Tk,tb=[t.v]
theorem Lj (h:vg tb) (ho:outs++tb=outs'):Go (oR P1 (Ri 6 89) (Iy 0)) (KX (DW x (.meth f 1) outs) tb ct b l) .next (KX (DW x (.meth f 1) outs') [] ct b l):=by
  subst ho
  rcases h with rfl|⟨t,rfl⟩
  ·rw[ax]
   exact .k [] fun o=>by kernel_rfl rfl
  ·exact .k [] fun o=>by kernel_rfl rfl
noncomputable abbrev iA x f outs:=DW x (.meth f 1) outs
section
variable {w:List V} {T:Unit→V→Sb} {q:Option Unit}
theorem sd (h:vg tb) (ho:outs++tb=outs') (hc:Go (C 6 (.glob f) [.inst 1] []) (KX (iA x f outs') [] ct b l) v (KX (iA x f outs') tb' ct' b' l')) (g:fQ (zN n) (KX (DW x v outs') tb' ct' b' l') .next w T q):fQ (zN (n+1)) (KX (iA x f outs) tb ct b l) .next w T q:=by
  have k:Go (bB P1 (Ri 6 89) [Iy 0,Iy 1]) (KX (iA x f outs) tb ct b l) .next (KX (DW x v outs') tb' ct' b' l'):=
    .step (Lj h ho) (.step (.via (Iy 1) (n:=87) (c:=C 6) (fv:=.meth f 1) (by kernel_rfl) fun o=>by kernel_rfl hc (.k [] fun o=>by kernel_rfl rfl)) .ret)
  refine .to [] (fun o=>Lk n) rfl ?_
  induction q with
  |none=>exact k.bindE g
  |some u=>exact Exists.imp (fun z g=>k.bind g) g
theorem Ll (h:vg tb) (ho:outs++tb=outs') (hc:Er (C 6 (.glob f) [.inst 1] []) (KX (iA x f outs') [] ct b l) outs'):Er (zN (n+1)) (KX (iA x f outs) tb ct b l) outs':=
  .to [] (fun o=>Lk n) rfl (.bind (Go.stepE (Lj h ho) (.bind (.via (Iy 1) (n:=87) (c:=C 6) (fv:=.meth f 1) rfl fun o=>by kernel_rfl hc))))
end
noncomputable def gz:=[63,61,40,41,60,62,45,33,47,39,97,103,110,122,10,32,34,42,35,91,93,123,125,126,124,92,94]
noncomputable def wc:=[97,103,110,122]
noncomputable def qM (m:Mk):=yt wc m.c
noncomputable def tp (m:Mk):=Nat.beq m.c 32
noncomputable def yP (c:Nat):=cond (Nat.beq c 47) [61] ((lkN c u5).elim [] (·.1))
noncomputable def nx (m:Mk) (l:List Mk):Option (List Tk×List Mk):=
  cond (Nat.beq m.c 10) (some ([⟨[66,79,76],[10],m⟩],l)) (cond (tp m) (some ([⟨oX,cs (m::l.takeWhile tp),m⟩],l.dropWhile tp)) (cond (qM m) (some ([⟨LB,cs (m::l.takeWhile qM),m⟩],l.dropWhile qM))
    (cond (Nat.beq m.c 34) ((gp l false).map fun p=>([⟨sC,cs (m::p.1),m⟩],p.2)) (cond (Nat.beq m.c 39) ((MN l).map fun p=>([⟨LC,cs (m::p.1),m⟩],p.2))
      (match l with
        |[]=>some ([⟨[m.c],[m.c],m⟩],[])
        |m2::l2=>cond (Nat.beq m.c 47&&Nat.beq m2.c 47) (some ([],l2.dropWhile fY)) (cond (Nat.beq m.c 47&&Nat.beq m2.c 42) ((eN l2).map fun r=>([],r))
         (cond (yt (yP m.c) m2.c) (some ([⟨[m.c,m2.c],[m.c,m2.c],m⟩],l2)) (some ([⟨[m.c],[m.c],m⟩],m2::l2)))))))))
theorem sF v o {u} i:oZ v u i++o=oZ v (u++o) i:=by
  induction i with
  |zero=>rfl
  |succ i ih=>exact congrArg (fun z=>T'::F'::T'::v::z) ih
theorem CC o i:zi [] i++o=zi o i:=by
  induction i with
  |zero=>rfl
  |succ i ih=>exact congrArg (fun z=>F'::F'::z) ih
theorem H_ a b:yt (a++b) c=(yt a c||yt b c):=List.any_append
theorem wN ks:∀{X},X=true→yt ks m.c=false→wO m X ks=true:=by
  induction ks with
  |nil=>exact fun h ζ=>h
  |cons k ks ih=>
   intro X h hk
   have hk:=cq.mp (show(Nat.beq _ k||yt ks _)=false from hk)
   exact ih (af (af h (by rw[zM,hk.1];rfl)) (aH _)) hk.2
theorem BN i:∀{X},X=true→BO m X i=true:=by
  induction i with
  |zero=>exact id
  |succ i ih=>exact fun h=>ih (af h (aH _))
theorem Jq {i} (h:DI c i ks) (hk:yt ks c2=true):∃i,∀x b r1 k1 r2 k2 l o,nH.run (KX x [] [] b (⟨c,r1,k1⟩::⟨c2,r2,k2⟩::l) (oZ (aP ⟨c2,r2,k2⟩) (T'::T'::o) i) true)=.ok A5 (KX x [uQ [c,c2] [c,c2] ⟨c,r1,k1⟩] [] false l o (BO ⟨c2,r2,k2⟩ true i)):=by
  induction ks generalizing i with
  |nil=>exact bG hk
  |cons k ks ih=>
   rcases(Bool.or_eq_true_iff.mp (show(Nat.beq c2 k||yt ks c2)=true from hk)) with hk|hk
   ·exact⟨i,aj hk▸h.1⟩
   ·exact ih h.2 hk
variable {i1 i2:Int}
noncomputable def oE (x:Lx) (outs tb outs':List V) (b:Bool) (inp:List Mk):Option (List Tk×List Mk)→Prop
  |some p=>∃b' i,i≤2∧∀n w T (q:Option Unit),fQ (zN n) (KX (iA x 373 outs') (p.1.map Tk.v) [] b' p.2) .next w T q→fQ (zN (n+i)) (KX (iA x 373 outs) tb [] b inp) .next w T q
  |none=>∀n,Er (zN (n+2)) (KX (iA x 373 outs) tb [] b inp) outs'
section
variable {inp:List Mk} (h:vg tb) (ho:outs++tb=outs')
include h ho
theorem mW {t} (hc:Go nH (KX (iA x 373 outs') [] [] b inp) A5 (KX (iA x 373 outs') [t.v] [] b' r)):oE x outs tb outs' b inp (some ([t],r)):=
  ⟨b',1,by decide,fun n w T q g=>sd h ho hc g⟩
theorem wt {t1} (hc:Go nH (KX (iA x 373 outs') [] [] b inp) (.meth f 1) (KX (iA x 373 outs') [] ct bb l)) (hc2:Go (C 6 (.glob f) [.inst 1] []) (KX (iA x f outs') [] ct bb l) A5 (KX (iA x f outs') (t1.map Tk.v) [] b' r)):oE x outs tb outs' b inp (some (t1,r)):=
  ⟨b',2,by decide,fun n w T q g=>sd h ho hc (sd (.inl rfl) (ax _) hc2 g)⟩
theorem Af {β} {F:β→List Tk×List Mk} {r} (hc:Go nH (KX (iA x 373 outs') [] [] b inp) (.meth f 1) (KX (iA x 373 outs') [] ct bb l)) (hc2:fQ (C 6 (.glob f) [.inst 1] []) (KX (iA x f outs') [] ct bb l) A5 outs' (fun p ζ=>KX (iA x f outs') ((F p).1.map Tk.v) [] false (F p).2) r):oE x outs tb outs' b inp (r.map F):=by
  induction r with
  |some p=>exact hc2.elim fun ζ g=>wt h ho hc g
  |none=>exact fun n=>sd (q:=none) (T:=fun ζ ζ=>KX x [] [] b []) h ho hc (Ll (.inl rfl) (ax _) hc2)
theorem Lc {row:Nat×List Nat×List Nat} (hr:row∈u5) (hn:nx ⟨row.1,i1,i2⟩ l=(match l with
        |[]=>some ([⟨[row.1],[row.1],⟨row.1,i1,i2⟩⟩],[])
        |m2::l2=>cond (yt row.2.1 m2.c) (some ([⟨[row.1,m2.c],[row.1,m2.c],⟨row.1,i1,i2⟩⟩],l2)) (some ([⟨[row.1],[row.1],⟨row.1,i1,i2⟩⟩],m2::l2)))) (h2:∀m2 l2,l=m2::l2→yt row.2.2 m2.c=false):oE x outs tb outs' b (⟨row.1,i1,i2⟩::l) (nx ⟨row.1,i1,i2⟩ l):=by
  obtain⟨r1,r2,r3⟩:=N5.mem hr
  rw[hn]
  induction l with
  |nil=>exact mW h ho (t:=⟨[row.1],[row.1],⟨row.1,i1,i2⟩⟩) (.k (zi [] (row.2.1++row.2.2).length) (fun o=>(congrArg (fun z=>nH.run (KX (iA x 373 outs') [] [] b _ z true)) (CC o _)).trans (r1 (iA x 373 outs') b i1 i2 o)) rfl)
  |cons m2 l2=>
   show oE _ _ _ _ _ _ (cond (yt row.2.1 m2.c) _ _)
   induction hk:yt row.2.1 m2.c with
   |false=>exact mW h ho (.k (oZ (aP m2) [] (row.2.1++row.2.2).length) (fun o=>(congrArg (fun z=>nH.run (KX (iA x 373 outs') [] [] b _ z true)) (sF _ o _)).trans (r2 (iA x 373 outs') b i1 i2 m2 l2 o)) (wN _ rfl (by rw[H_,hk,h2 _ _ rfl];rfl)))
   |true=>
    obtain⟨c2,j1,j2⟩:=m2
    obtain⟨i,hh⟩:=Jq r3 hk
    exact mW h ho (.k (oZ (aP ⟨c2,j1,j2⟩) [T',T'] i) (fun o=>(congrArg (fun z=>nH.run (KX (iA x 373 outs') [] [] b _ z true)) (sF _ o i)).trans (hh (iA x 373 outs') b i1 i2 j1 j2 l2 o)) (BN i rfl))
end
end
variable {tx u I:List Nat} {l R:List Mk} {m a:Mk} {rho rho':List (Str×V)} {rf tri:Bool} {S1 S:Sb} {src:V} {fl:Fl} {i row jj:Int} {j:Nat} {B:List Tk} {ls:List (List Nat)} {BV due tb args base ms D:List V} {r0:di} {ot:Option (List Nat)}
section
variable {x y:Lx} {tb' ct ct' outs outs':List V} {b b' bb bb':Bool} {l' ms r:List Mk} {m2 e:Mk} {n c c2 i f k:Nat} {i1 i2:Int} {o w:List V} {v:V} {p:Mk→Bool} {X:Bool}
theorem mL (h:c∈gz):yH c=true∧yt KK c=yt wc c∧yt [32,9] c=Nat.beq c 32:=by
  have h2:=aa.mp (aB.mp (show(gz.all fun c=>yH c&&((yt KK c==yt wc c)&&(yt [32,9] c==Nat.beq c 32)))=true by rfl) c h)
  exact⟨h2.1,eq_of_beq (aa.mp h2.2).1,eq_of_beq (aa.mp h2.2).2⟩
theorem ER:o_ (fun row=>∀i1 i2 l,nx ⟨row.1,i1,i2⟩ l=(match l with
        |[]=>some ([⟨[row.1],[row.1],⟨row.1,i1,i2⟩⟩],[])
        |m2::l2=>cond (yt row.2.1 m2.c) (some ([⟨[row.1,m2.c],[row.1,m2.c],⟨row.1,i1,i2⟩⟩],l2)) (some ([⟨[row.1],[row.1],⟨row.1,i1,i2⟩⟩],m2::l2)))) u5:=by
  repeat' apply And.intro
  all_goals first
    |trivial
    |exact fun i1 i2 l=>by rfl
noncomputable def GU (a c:Nat):=(Nat.beq a 60&&Nat.beq c 60)||(Nat.beq a 62&&Nat.beq c 62)
theorem ES:o_ (fun row=>∀c,yt row.2.2 c=GU row.1 c) u5:=by
  repeat' apply And.intro
  all_goals first
    |trivial
    |exact fun c=>rfl
    |exact fun c=>dL _
theorem OJ:o_ (fun c=>∀x b r1 k1 l o,nH.run (KX x [] [] b (⟨c,r1,k1⟩::l) o true)=.ok (.meth 380 1) (KX x [] [aP ⟨c,r1,k1⟩] false l o true)) wc:=by
  repeat' apply And.intro
  all_goals first
    |trivial
    |(intro x b;intros;cases b<;>kernel_rfl)
theorem Jg (h:c∈wc):Nat.beq c 10=false∧Nat.beq c 32=false∧yt wc c=true:=by
  have h2:=aa.mp (aB.mp (show(wc.all fun c=>!Nat.beq c 10&&(!Nat.beq c 32&&yt wc c))=true by trivial) c h)
  exact⟨(ao _).mp h2.1,(ao _).mp (aa.mp h2.2).1,(aa.mp h2.2).2⟩
theorem v7 (h:c∈gz):(∃row∈u5,c=row.1)∨c∈wc∨c=10∨c=32∨c=34∨c=39∨c=47:=by
  have h:=aB.mp (show(gz.all fun c=>(u5.any fun r=>Nat.beq c r.1)||(wc.contains c||(Nat.beq c 10||(Nat.beq c 32||(Nat.beq c 34||(Nat.beq c 39||Nat.beq c 47))))))=true by trivial) c h
  simp only[dB,bX,Nat.beq_eq,List.contains_iff_mem] at h
  exact h
section
variable (h:vg tb) (ho:outs++tb=outs')
include h ho
theorem Io (hl:l.length<1000):oE y.up.up outs tb outs' b (⟨47,i1,i2⟩::l) (nx ⟨47,i1,i2⟩ l):=by
  cases l with
  |nil=>exact mW h ho (b':=false) (t:=⟨[47],[47],⟨47,i1,i2⟩⟩) (.k (zi [] 3) (fun o=>by cases b<;>kernel_rfl) rfl)
  |cons m2 l2=>
   obtain⟨c2,j1,j2⟩:=m2
   show oE _ _ _ _ _ _ (cond (Nat.beq c2 47) _ (cond (Nat.beq c2 42) _ (cond (yt [61] c2) _ _)))
   induction q1:Nat.beq c2 47 with
   |true=>
    have e:=aj q1
    subst e
    exact wt h ho (f:=408) (t1:=[]) (ct:=[aP ⟨47,i1,i2⟩,aP ⟨47,j1,j2⟩]) (bb:=false) (l:=l2) (.k [T',T'] (fun o=>by cases b<;>kernel_rfl) rfl) (Fi (x:=(iA y.up 408 outs')) (ac (aJ (cA 2 l2.length)) hl))
   |false=>induction q2:Nat.beq c2 42 with
    |true=>
     have e:=aj q2
     subst e
     exact Af h ho (f:=415) (ct:=[aP ⟨47,i1,i2⟩,aP ⟨42,j1,j2⟩]) (bb:=false) (l:=l2) (F:=fun r=>([],r)) (.k [T',F',T',aP ⟨42,j1,j2⟩,T',T'] (b:=av true (vv ⟨42,j1,j2⟩)) (fun o=>by cases b<;>kernel_rfl) (af rfl (aH _))) (GH (x:=(iA y.up 415 outs')) (ac (aJ (cA 2 l2.length)) hl))
    |false=>induction q3:yt [61] c2 with
     |true=>
      have e:=aj ((zM _ _).symm.trans q3)
      subst e
      exact mW h ho (b':=false) (.k (oZ (aP ⟨61,j1,j2⟩) [T',T'] 2) (b:=BO ⟨61,j1,j2⟩ true 2) fun o=>by cases b<;>kernel_rfl (BN 2 rfl))
     |false=>exact mW h ho (b':=true) (.k (oZ (aP ⟨c2,j1,j2⟩) [] 3) (b:=wO ⟨c2,j1,j2⟩ true [47,42,61]) fun o=>by cases b<;>kernel_rfl (wN _ rfl (cq.mpr ⟨q1,cq.mpr ⟨q2,q3⟩⟩)))
theorem Ip (hA:∀e∈l,e.c∈gz) (hl:l.length<1000):oE y.up.up outs tb outs' b (⟨34,i1,i2⟩::l) (nx ⟨34,i1,i2⟩ l):=by
  exact Af h ho (bb:=false) (.k [] fun o=>by cases b<;>kernel_rfl rfl) (Av (x:=iA y 422 outs') (.one hl) fun e z=>(mL (hA e z)).1)
theorem Iq (hm:m.c∈gz) (hA:∀e∈l,e.c∈gz) (hl:l.length<1000) (had:∀m2 l2,l=m2::l2→GU m.c m2.c=false):oE y.up.up outs tb outs' b (m::l) (nx m l):=by
  obtain⟨c,i1,i2⟩:=m
  rcases v7 hm with⟨row,hr,e⟩|hc|e|e|e|e|e
  ·subst e
   exact Lc h ho hr (ER.mem hr i1 i2 l) fun m2 l2 q=>(ES.mem hr m2.c).trans (had m2 l2 q)
  ·have O:=Jg hc
   have e:nx ⟨c,i1,i2⟩ l=some ([⟨LB,cs (⟨c,i1,i2⟩::l.takeWhile qM),⟨c,i1,i2⟩⟩],l.dropWhile qM):=by
     show cond (Nat.beq c 10) _ (cond (Nat.beq c 32) _ (cond (yt wc c) _ _))=_
     rw[O.1,O.2.1,O.2.2];rfl
   rw[e]
   exact wt h ho (f:=380) (ct:=[aP ⟨c,i1,i2⟩]) (bb:=false) (l:=l) (.k [] (fun o=>OJ.mem hc (iA y.up.up 373 outs') b i1 i2 l o) rfl) (FJ (x:=iA y 380 outs') hl fun e z=>(mL (hA e z)).2.1)
  all_goals (subst e)
  ·exact mW h ho (b':=false) (t:=⟨[66,79,76],[10],⟨10,i1,i2⟩⟩) (.k [] (fun o=>by cases b<;>kernel_rfl) rfl)
  ·exact wt h ho (f:=401) (t1:=[⟨oX,cs (⟨32,i1,i2⟩::l.takeWhile tp),⟨32,i1,i2⟩⟩]) (ct:=[aP ⟨32,i1,i2⟩]) (bb:=false) (l:=l) (.k [] (fun o=>by cases b<;>kernel_rfl) rfl) (Ea (x:=iA y 401 outs') hl fun e z=>(mL (hA e z)).2.2)
  ·exact Ip h ho hA hl
  ·exact Af h ho (bb:=false) (.k [] fun o=>by cases b<;>kernel_rfl rfl) (Gy fun e z=>(mL (hA e z)).1)
  ·exact Io h ho hl
end
end
section
variable {x y:Lx} {tb' ct ct' outs outs':List V} {b b' bb bb':Bool} {l' ms r:List Mk} {m2 e:Mk} {n c c2 i f k:Nat} {o w:List V} {v:V} {p:Mk→Bool} {X:Bool}
noncomputable def bo:Nat→List Mk→List Tk×Bool
  |0,_=>([],true)
  |k+1,l=>match l with
   |[]=>([],false)
   |m::l=>match nx m l with
    |some p=>(p.1++(bo k p.2).1,(bo k p.2).2)
    |none=>([],true)
noncomputable def fw:List Tk→Nat
  |[]=>0
  |t::ts=>t.val.length+fw ts
inductive oG (l:List Mk):Option (List Tk×List Mk)→Prop
  |no:oG l none
  |skip (u r:List Mk):l=u++r→oG l (some ([],r))
  |tok (t:Tk) (u r:List Mk):l=u++r→t.val.length≤u.length+1→oG l (some ([t],r))
theorem oG.cond {x y} (h1:oG l x) (h2:oG l y):oG l (cond b x y):=by cases b<;>assumption
theorem yq:∀l {r},eN l=some r→∃u,l=u++r:=by
  intro l
  induction l with
  |nil=>exact fun h=>aX h
  |cons m l ih=>
   intro r
   induction l with
   |nil=>exact fun h=>aX h
   |cons m2 l=>
    show(match Nat.beq _ 42&&Nat.beq _ 47 with|true=>some l|false=>eN _)=_→_
    induction Nat.beq _ 42&&Nat.beq _ 47 with
    |true=>exact fun h=>⟨[m,m2],Option.some.inj h▸rfl⟩
    |false=>exact fun h=>(ih h).elim fun u e=>⟨m::u,congrArg _ e⟩
theorem xI {p}:MN l=some p→l=p.1++p.2:=by
  rcases l with _|⟨m,l⟩
  ·exact fun h=>aX h
  show(match Nat.beq _ 92 with|true=>_|false=>_)=_→_
  induction Nat.beq _ 92 with
  |true=>rcases l with _|⟨e,_|⟨z,l⟩⟩<;>first|exact fun h=>aX h|skip
         show(match yt d_ _&&Nat.beq _ 39 with|true=>_|false=>_)=_→_
         induction yt d_ _&&Nat.beq _ 39 with
         |true=>exact fun h=>Option.some.inj h▸rfl
         |false=>exact fun h=>aX h
  |false=>rcases l with _|⟨z,l⟩
          ·exact fun h=>aX h
          show(match Nat.beq _ 39 with|true=>_|false=>_)=_→_
          induction Nat.beq _ 39 with
          |true=>exact fun h=>Option.some.inj h▸rfl
          |false=>exact fun h=>aX h
theorem xC m u:(cs (m::u)).length≤u.length+1:=aJ (au _)
theorem oG.map {β:Type} {q:Option β} {F} (h:∀p,q=some p→oG l (some (F p))):oG l (q.map F):=by
  induction q with
  |none=>exact .no
  |some p=>exact h p rfl
theorem nB m l:oG l (nx m l):=
  .cond (.tok _ [] l rfl (aC _)) (.cond (.tok _ _ _ dO.symm (xC m _)) (.cond (.tok _ _ _ dO.symm (xC m _))
    (.cond (.map fun p h=>.tok _ _ _ (ng _ _ _ h) (xC m _)) (.cond (.map fun p h=>.tok _ _ _ (xI h) (xC m _)) (by
      induction l with
      |nil=>exact .tok _ [] [] rfl (aC _)
      |cons m2 l2=>exact .cond (.skip (m2::l2.takeWhile fY) _ (congrArg _ dO.symm)) (.cond (.map fun r h=>(yq l2 h).elim fun u e=>.skip (m2::u) r (congrArg _ e)) (.cond (.tok _ [m2] l2 rfl (aC _)) (.tok _ [] _ rfl (aC _)))))))))
noncomputable def nE (l:List Mk):=∀u a b v,l=u++a::b::v→GU a.c b.c=false
theorem nE.app {u r} (h:nE (u++r)):nE r:=fun w a b v e=>h _ a b v (by rw[e,am])
noncomputable def Ov
  |true=>none
  |false=>some ()
theorem NV n:(zN (n+1)).run (KX (DW x .none outs) tb ct b l o true)=.ok .next (KX (DW x .none outs) tb ct b l o true):=by kernel_rfl
noncomputable def Fg (y:Lx) (outs:List V):Unit→V→Sb:=fun ζ ζ=>KX (DW y.up.up .none outs) [] [] false []
theorem Bb:∀(k) l outs tb b,l.length<k→(∀m∈l,m.c∈gz)→l.length≤1000→nE l→vg tb→
    ∃N,N≤2*k∧∀j,fQ (zN (j+N)) (KX (iA y.up.up 373 outs) tb [] b l) .next (outs++tb++(bo k l).1.map Tk.v) (Fg y (outs++tb++(bo k l).1.map Tk.v)) (Ov (bo k l).2):=by
  intro k
  induction k with
  |zero=>exact fun l outs tb b h=>absurd h (cg _)
  |succ k ih=>
   intro l outs tb b hl hA h9 hN hT
   have e2:=Nat.mul_le_mul_left 2 (aQ (bt k))
   induction l with
   |nil=>
    refine⟨2,e2,fun j=>?_⟩
    rw[show outs++tb++(bo (k+1) []).1.map Tk.v=outs++tb from ax _]
    exact sd hT rfl (.k [] fun o=>by cases b<;>kernel_rfl rfl) ⟨.none,.k [] (fun o=>NV j) rfl⟩
   |cons m l=>
    have ht:=Iq (y:=y) (b:=b) hT (rfl:outs++tb=outs++tb) (hA m (.head _)) (fun e h=>hA e (.tail _ h)) h9 fun m2 l2 e=>hN [] m m2 l2 (congrArg (m::·) e)
    have hk:=nB m l
    have key:∀p,nx m l=some p→vg (p.1.map Tk.v)→(∃u,l=u++p.2)→oE y.up.up outs tb (outs++tb) b (m::l) (some p)→∃N,N≤2*(k+1)∧∀j,fQ (zN (j+N)) (KX (iA y.up.up 373 outs) tb [] b (m::l)) .next (outs++tb++(bo (k+1) (m::l)).1.map Tk.v) (Fg y (outs++tb++(bo (k+1) (m::l)).1.map Tk.v)) (Ov (bo (k+1) (m::l)).2):=by
      intro p hp h1 ⟨u,hu⟩ ⟨b',i,hi,ht⟩
      have le:=hu▸aq▸be _ _
      obtain⟨N,h2,h3⟩:=ih p.2 (outs++tb) (p.1.map Tk.v) b' (aR le (aV hl)) (fun e h=>hA e (.tail _ (hu▸List.mem_append_right u h))) (ac le (bv h9)) (nE.app (by rw[List.cons_append,←hu];exact hN)) h1
      refine⟨N+i,gZ h2 hi,fun j=>bS j N i▸ht _ _ _ _ ?_⟩
      show fQ _ _ _ (outs++tb++(match nx m l with|some p=>(p.1++(bo k p.2).1,(bo k p.2).2)|none=>([],true)).1.map Tk.v) (Fg y (outs++tb++(match nx m l with|some p=>(p.1++(bo k p.2).1,(bo k p.2).2)|none=>([],true)).1.map Tk.v)) (Ov (match nx m l with|some p=>(p.1++(bo k p.2).1,(bo k p.2).2)|none=>([],true)).2)
      rw[hp]
      rw[ch,←am]
      exact h3 j
    generalize hq:nx m l=q at ht hk
    induction hk with
    |no=>
     refine⟨2,e2,fun j=>?_⟩
     have e:bo (k+1) (m::l)=([],true):=by
       show(match nx m l with|some p=>(p.1++(bo k p.2).1,(bo k p.2).2)|none=>([],true))=_
       rw[hq]
     rw[e,show outs++tb++([]).map Tk.v=outs++tb from ax _]
     exact ht j
    |skip u r e=>exact key _ hq (.inl rfl) ⟨u,e⟩ ht
    |tok t u r e=>exact key _ hq (.inr ⟨t,rfl⟩) ⟨u,e⟩ ht
end
section
structure Ck where
  typ:List Nat
  val:List Nat
  sp:List Nat
  fi:Bool
  m:Mk
noncomputable def NC (typ val sp:List Nat) (fi:Bool) (m:Mk):V:=.rcd 127 [.str typ,.str val,.str sp,.bool fi,qC m.row m.col]
noncomputable abbrev fR:=[66,79,76]
noncomputable def Ck.v (c:Ck):=NC c.typ c.val c.sp c.fi c.m
variable {outs:List V} {n:Nat} {o w:List V} {v tok:V} {fi:Bool} {sp typ val:List Nat} {ts:List Tk} {t:Tk}
noncomputable def fI:di:=.live 439 [(ae "token_buffer",.own []),(ae "pushed_back",.own []),(ae "current_text",.own []),(ae "coptions",.inst 0)]
noncomputable def GZ (rho:List (Str×V)) (r0 r1:di) (outs o:List V) (ob:Bool):St:=
  {rho:=rho,sc:=(cf 366).names,r0:=r0,r1:=r1,r2:=.taken,r3:=.empty,outs:=outs,orc:=o,md:=(cf 366).law,ob:=ob,dp:=20,hd:=false}
noncomputable def Hb (c:V):=[(ae "self",.inst 1),(ae "characters",c),(ae "__class__",.glob 439)]
noncomputable def D5 (tri:Bool) (c:V):Sb:=GZ (Hb c++[(ae "space",.str []),(ae "first",.bool true),(ae "token",.none)]) (dR tri) fI []
noncomputable def TZ (sp:List Nat) (fi:Bool) (tok:V) (outs:List V):Sb:=GZ (Hb .gone++[(ae "space",.str sp),(ae "first",.bool fi),(ae "token",tok)]) .taken .taken outs
noncomputable abbrev d9 (k:Nat) (l:List Mk):V:=.itr k (l.map aP) 0 .none
noncomputable def HQ
  |true=>1
  |false=>0
noncomputable def NW (tri:Bool):Lx:=⟨[],[],.taken,[],tri,true,3⟩
noncomputable abbrev zD l:=[.inst 1,d9 8 l,A5]
noncomputable def EY c:=[(ae "self",.inst 1),(ae "characters",c),(ae "start_state",A5)]
noncomputable def K8 tri c:={iA (NW tri).up.up 373 [] with rho:=EY c}
noncomputable def HK tri l o ob:=jH (cf 208) (EY (d9 8 l)) [1,0] (D5 tri .gone o ob)
theorem Aj (hA:∀m∈l,m.c∈gz) (h9:l.length<1000) (hN:nE l):Go (C 7 (.glob 208) (zD l) []) (D5 tri .gone) (.itr 18 ((bo 1000 l).1.map Tk.v) (HQ (bo 1000 l).2) .none) (TZ [] true .none []):=by
  obtain⟨N,h1,h2⟩:=Bb (y:=NW tri) 1000 l [] [] false h9 hA (aY h9) hN (.inl rfl)
  have h2:=h2 (100000 -N)
  rw[zF (ac h1 (by decide))] at h2
  have e:aF P1 (Lv 7) (cf 208).body=aF P1 (Lv 7) [bh 208 0,bh 208 1,bh 208 2]:=by kernel_rfl
  have e2:jw P1 (Lv 7) (bh 208 2)=zN 100000:=by kernel_rfl
  have p0:Go (jw P1 (Lv 7) (bh 208 0)) (HK tri l) .next (KX (K8 tri .gone) [] [] false l):=.k [] (fun o=>by kernel_rfl) rfl
  have p1:Go (jw P1 (Lv 7) (bh 208 1)) (KX (K8 tri .gone) [] [] false l) .next (KX (iA (NW tri).up.up 373 []) [] [] false l):=.k [] (fun o=>by kernel_rfl) rfl
  have hb:dm (cf 208).params (zD l) (cf 208).dflts []=some (EY (d9 8 l)):=by kernel_rfl
  have hi:∀o,tw 208 (zD l) (EY (d9 8 l)) (D5 tri .gone o true)=some (HK tri l o true):=fun o=>by kernel_rfl
  have bk:∀(o o':List V) (s:St),s.orc=o→s.ob=true→jI ((D5 tri .gone o' true).reach (zD l)) (D5 tri .gone o' true) s=TZ [] true .none [] o true:=fun o o' s q1 q2=>by
    show GZ _ .taken .taken _ s.orc s.ob=_
    rw[q1,q2];rfl
  induction hq:(bo 1000 l).2 with
  |false=>
   rw[hq] at h2
   exact h2.elim fun z h2=>.gen (by kernel_rfl) hb hi (.eq e (p0.bindO (p1.bindO (.end (.eq e2 (h2.o fun o=>⟨rfl,rfl,rfl⟩)) rfl)))) bk
  |true=>
   rw[hq] at h2
   exact .genE (by kernel_rfl) hb hi (.eq e (p0.consE (p1.consE (.bind (.eq e2 h2))))) bk
noncomputable abbrev tzT v:=(im P1 (gj (bh 366 3)) v).bind fun ζ=>(Lv 8).ex (e_ (bh 366 3))
noncomputable def zA c (p:List Ck×Bool):=(c::p.1,p.2)
noncomputable def kS:List Tk→List Nat→Bool→List Ck×Bool
  |[],_,fi=>([],fi)
  |t::ts,sp,fi=>cond (decide (t.typ=fR)) (cond fi (zA ⟨fR,[],[],fi,t.m⟩ (kS ts [] true)) (kS ts [] true)) (cond (decide (t.typ=oX)) (kS ts (sp++t.val) fi) (zA ⟨t.typ,t.val,sp,fi,t.m⟩ (kS ts [] false)))
noncomputable def Bl (v:V):List Tk→V
  |[]=>v
  |t::ts=>Bl t.v ts
noncomputable abbrev Kz e ts:=forL P1 (Lv 8) (gj (bh 366 3)) (e_ (bh 366 3)) e .none ts
theorem Eg (e:Nat):∀(ts:List Tk) (sp:List Nat) (fi:Bool) (tok:V) (outs:List V),sp.length+fw ts≤1000000→
    ∃sp',∀w T (q:Option Unit),fQ (Kz e []) (TZ sp' (kS ts sp fi).2 (Bl tok ts) (outs++(kS ts sp fi).1.map Ck.v)) .next w T q→fQ (Kz e (ts.map Tk.v)) (TZ sp fi tok outs) .next w T q:=by
  intro ts
  induction ts with
  |nil=>exact fun sp fi tok outs h=>⟨sp,fun w T q g=>by rwa [show outs++(kS [] sp fi).1.map Ck.v=outs from ax _] at g⟩
  |cons t ts ih=>
   intro sp fi tok outs h
   have hl:([]:List Nat).length+fw ts≤1000000:=ac (aJ (bD _)) (ac (ac (be _ t.val.length) (be _ sp.length)) h)
   show∃sp',∀w T (q:Option Unit),fQ _ (TZ sp' (cond _ _ _:List Ck×Bool).2 _ (outs++(cond _ _ _:List Ck×Bool).1.map Ck.v)) _ w T q→_
   have ad:∀(c:Ck) (p:List Ck×Bool) {sp' fi tok w T} {q:Option Unit},fQ (Kz e []) (TZ sp' fi tok (outs++(zA c p).1.map Ck.v)) .next w T q→fQ (Kz e []) (TZ sp' fi tok (outs++[c.v]++p.1.map Ck.v)) .next w T q:=fun c p {_ _ _ _ _ _} k=>am outs [c.v] (p.1.map Ck.v)▸k
   induction h1:decide (t.typ=fR) with
   |true=>induction fi with
    |true=>
     obtain⟨sp',g⟩:=ih [] true t.v (outs++[NC fR [] [] true t.m]) hl
     exact⟨sp',fun w T q k=>.for_ (.k [T',T'] (b:=av (av true (decide (t.typ=fR))) true) (fun o=>by kernel_rfl) (by rw[h1];rfl)) (g w T q (ad ⟨fR,[],[],true,t.m⟩ (kS ts [] true) k))⟩
    |false=>
     obtain⟨sp',g⟩:=ih [] true t.v outs hl
     exact⟨sp',fun w T q k=>.for_ (.k [T',F'] (b:=av (av true (decide (t.typ=fR))) true) fun o=>by kernel_rfl (by rw[h1];rfl)) (g w T q k)⟩
   |false=>induction h2:decide (t.typ=oX) with
    |true=>
     obtain⟨sp',g⟩:=ih (sp++t.val) fi t.v outs (aq▸bS ..▸h)
     exact⟨sp',fun w T q k=>.for_ (.k [F',T'] (b:=av (av (av true (!decide (t.typ=fR))) (decide (t.typ=oX))) (Nat.ble (sp++t.val).length 1000000)) (fun o=>by kernel_rfl) (af (by rw[h1,h2];rfl) (cz.mpr (ac (aA _ _) (aq▸bS ..▸h))))) (g w T q k)⟩
    |false=>
     obtain⟨sp',g⟩:=ih [] false t.v (outs++[NC t.typ t.val sp fi t.m]) hl
     exact⟨sp',fun w T q k=>.for_ (.k [F',F'] (b:=av (av true (!decide (t.typ=fR))) (!decide (t.typ=oX))) (fun o=>by kernel_rfl) (by rw[h1,h2];rfl)) (g w T q (ad ⟨t.typ,t.val,sp,fi,t.m⟩ (kS ts [] false) k))⟩
theorem lz a b:fw (a++b)=fw a+fw b:=by
  induction a with
  |nil=>exact(bD _).symm
  |cons t a ih=>exact(congrArg _ ih).trans (bS ..).symm
theorem s7:∀k l,fw (bo k l).1≤l.length:=by
  intro k
  induction k with
  |zero=>exact fun l=>bt _
  |succ k ih=>
   intro l
   induction l with
   |nil=>exact bt _
   |cons m l=>
    show fw (match nx m l with|some p=>(p.1++(bo k _).1,(bo k _).2)|none=>([],true)).1≤_
    have hk:=nB m l
    generalize nx m l=q at hk
    have le:∀{u r},l=u++r→u.length+r.length=l.length:=fun e=>e▸aq.symm
    induction hk with
    |no=>exact bt _
    |skip u r e=>exact ac (ih r) (aW (ac (be _ _) (aJ (le e))))
    |tok t u r e ht=>
     show t.val.length+fw _≤l.length+1
     rw[←le e,bQ]
     exact gZ ht (ih r)
noncomputable def o5 (l:List Mk):List Ck×Bool:=
  match(bo 1000 l).2 with
  |true=>((kS (bo 1000 l).1 [] true).1,true)
  |false=>match(kS (bo 1000 l).1 [] true).2,(bo 1000 l).1.getLast? with
   |true,some t=>((kS (bo 1000 l).1 [] true).1++[⟨fR,[],[],true,t.m⟩],false)
   |_,_=>((kS (bo 1000 l).1 [] true).1,false)
noncomputable def lO (rho:List (Str×V)) (r0 r1 r2:di) (o:List V) (ob:Bool):St:=
  {rho:=rho,sc:=(cf 351).names,r0:=r0,r1:=r1,r2:=r2,r3:=.empty,outs:=[],orc:=o,md:=(cf 351).law,ob:=ob,dp:=20,hd:=false}
noncomputable def i_ (src c:V):=[(ae "self",.inst 1),(ae "src",src),(ae "source_file",.inst 2),(ae "characters",c)]
theorem Bk:∀ts v t,ts.getLast?=some t→Bl v ts=t.v:=by
  intro ts
  induction ts with
  |nil=>exact fun v t h=>aX h
  |cons a ts ih=>induction ts with
   |nil=>exact fun v t h=>Option.some.inj h▸rfl
   |cons b ts=>trivial
noncomputable abbrev Dp l:=[.inst 1,d9 8 l]
noncomputable abbrev LK l:=[(ae "self",.inst 1),(ae "characters",d9 8 l)]
theorem Il (hA:∀m∈l,m.c∈gz) (h9:l.length<1000) (hN:nE l) (h0:(bo 1000 l).2=false→(bo 1000 l).1≠[]):
    Go (C 8 (.glob 366) (Dp l) []) (lO (i_ src .gone) (dR tri) fI .taken) (.itr 20 ((o5 l).1.map Ck.v) (HQ (o5 l).2) .none) (lO (i_ src .gone) .taken .taken .taken):=by
  have e:aF P1 (Lv 8) (cf 366).body=aF P1 (Lv 8) [bh 366 0,bh 366 1,bh 366 2,bh 366 3,bh 366 4]:=by kernel_rfl
  have p0:Go (jw P1 (Lv 8) (bh 366 0)) (GZ (Hb (d9 8 l)) (dR tri) fI []) .next (GZ (Hb (d9 8 l)++[(ae "space",.str [])]) (dR tri) fI []):=.k [] (fun o=>by kernel_rfl) rfl
  have p1:Go (jw P1 (Lv 8) (bh 366 1)) (GZ (Hb (d9 8 l)++[(ae "space",.str [])]) (dR tri) fI []) .next (GZ (Hb (d9 8 l)++[(ae "space",.str []),(ae "first",.bool true)]) (dR tri) fI []):=.k [] (fun o=>by kernel_rfl) rfl
  have p2:Go (jw P1 (Lv 8) (bh 366 2)) (GZ (Hb (d9 8 l)++[(ae "space",.str []),(ae "first",.bool true)]) (dR tri) fI []) .next (D5 tri (d9 8 l)):=.k [] (fun o=>by kernel_rfl) rfl
  have p3:∀(S:Sb) (fl:Fl),Go (Kz (HQ (bo 1000 l).2) ((bo 1000 l).1.map Tk.v)) (TZ [] true .none []) fl S→Go (jw P1 (Lv 8) (bh 366 3)) (D5 tri (d9 8 l)) fl S:=fun S fl g=>
    .to [] (S1:=D5 tri .gone) (y:=(C 7 (.glob 208) (zD l) []).bind (tG P1 (Lv 8) (gj (bh 366 3)) (e_ (bh 366 3)))) (fun o=>by kernel_rfl) rfl (.bind (Aj hA h9 hN) (.to [] (fun o=>by kernel_rfl) rfl g))
  have p3E:∀w,Er (Kz (HQ (bo 1000 l).2) ((bo 1000 l).1.map Tk.v)) (TZ [] true .none []) w→Er (jw P1 (Lv 8) (bh 366 3)) (D5 tri (d9 8 l)) w:=fun w g=>
    .to [] (S1:=D5 tri .gone) (y:=(C 7 (.glob 208) (zD l) []).bind (tG P1 (Lv 8) (gj (bh 366 3)) (e_ (bh 366 3)))) (fun o=>by kernel_rfl) rfl (Go.bindE (Aj hA h9 hN) (.to [] (fun o=>by kernel_rfl) rfl g))
  obtain⟨sp',g⟩:=Eg (HQ (bo 1000 l).2) (bo 1000 l).1 [] true .none [] (ac (aJ (bD _)) (ac (s7 1000 l) (ac (aY h9) (by decide))))
  have hb:dm (cf 366).params (Dp l) (cf 366).dflts []=some (LK l):=by kernel_rfl
  have hi:∀o,tw 366 (Dp l) (LK l) (lO (i_ src .gone) (dR tri) fI .taken o true)=some (GZ (Hb (d9 8 l)) (dR tri) fI [] o true):=fun o=>by kernel_rfl
  have bk:∀(o o':List V) (s:St),s.orc=o→s.ob=true→jI ((lO (i_ src .gone) (dR tri) fI .taken o' true).reach (Dp l)) (lO (i_ src .gone) (dR tri) fI .taken o' true) s=lO (i_ src .gone) .taken .taken .taken o true:=fun o o' s q1 q2=>by
    show lO _ .taken .taken .taken s.orc s.ob=_
    rw[q1,q2];rfl
  unfold o5
  revert h0 p3 p3E g
  induction hq:(bo 1000 l).2 with
  |true=>
   intro h0 p3 p3E g
   exact .genE (by kernel_rfl) hb hi (.eq e (p0.consE (p1.consE (p2.consE (.bind (p3E _ (g _ (fun ζ ζ=>TZ [] true .none []) none (Er.k [] (fun o=>by kernel_rfl) rfl)))))))) bk
  |false=>
   intro h0 p3 p3E g
   obtain⟨tk,hk⟩:∃t,(bo 1000 l).1.getLast?=some t:=⟨_,H2 (h0 rfl)⟩
   refine hk▸?_
   rw[(Bk _ .none tk hk)] at g
   have fin:∀(fi:Bool) (W:List V) (S:Sb),(kS (bo 1000 l).1 [] true).2=fi→Go (jw P1 (Lv 8) (bh 366 4)) (TZ sp' fi tk.v ([]++(kS (bo 1000 l).1 [] true).1.map Ck.v)) .next (TZ sp' fi tk.v W)→Go (C 8 (.glob 366) (Dp l) []) (lO (i_ src .gone) (dR tri) fI .taken) (.itr 20 W 0 .none) (lO (i_ src .gone) .taken .taken .taken):=fun fi W S hf k=>by
     rw[hf] at g
     exact(g [] (fun ζ ζ=>TZ sp' fi tk.v ([]++(kS (bo 1000 l).1 [] true).1.map Ck.v)) (some ()) ⟨.none,.k [] (fun o=>by kernel_rfl) rfl⟩).elim fun ζ g=>.gen (by kernel_rfl) hb hi (.eq e (p0.bindO (p1.bindO (p2.bindO ((p3 _ _ g).bindO (.end (k.o fun o=>⟨rfl,rfl,rfl⟩) rfl)))))) bk
   cases hfi:(kS (bo 1000 l).1 [] true).2 with
   |true=>exact(show([]++(kS (bo 1000 l).1 [] true).1.map Ck.v++[NC fR [] [] true tk.m]=((kS (bo 1000 l).1 [] true).1++[(⟨fR,[],[],true,tk.m⟩:Ck)]).map Ck.v) by rw[ch];rfl)▸fin true _ (TZ [] true .none []) hfi (.k [T',T'] fun o=>by kernel_rfl rfl)
   |false=>exact fin false _ (TZ [] true .none []) hfi (.k [F'] fun o=>by kernel_rfl rfl)
end
section
variable {b2:Mk} {n c:Nat} {o w outs:List V} {v f:V} {k:Int} {line:List Nat} {z:Bool} {r1 r2:di}
noncomputable def yk (row:Int):di:=.live 303 [(ae "filename",.str fT),(ae "row",.int row)]
noncomputable def n5 (k:Int) (l:List V):List V:=l.mapIdx fun i v=>.tup [.int (k+i),v]
theorem n4 k a l:n5 k (a::l)=.tup [.int k,a]::n5 (k+1) l:=by
  unfold n5
  rw[List.mapIdx_cons]
  exact congr (congrArg (fun z=>List.cons (V.tup [.int z,a])) (DF k)) (congrArg (fun f=>List.mapIdx f l) (funext fun i=>funext fun v=>congrArg _ ((Int.add_right_comm k i 1).symm▸x_ k i 1▸rfl)))
noncomputable abbrev yj (l:List Nat):List V:=l.map fun c=>.str [c]
noncomputable abbrev bn (l:List (List Nat)):List V:=l.map .str
noncomputable def exO:Option Mk→List (Str×V)
  |none=>[]
  |some m=>[(ae "col",.int m.col),(ae "char",.str [m.c]),(ae "loc",qC m.row m.col)]
noncomputable def JW (rho:List (Str×V)) (row:Int) (outs o:List V) (ob:Bool):St:=
  {rho:=rho,sc:=(cf 314).names,r0:=.taken,r1:=.taken,r2:=yk row,r3:=.empty,outs:=outs,orc:=o,md:=(cf 314).law,ob:=ob,dp:=4,hd:=false}
noncomputable def Gm (f:V):=[(ae "f",f),(ae "source_file",.inst 2)]
noncomputable def KR f i line e:=Gm f++(ae "row",.int i)::(ae "line",.str line)::exO e
noncomputable def coR (f:V):Option (Int×List Nat×Mk)→List (Str×V)
  |none=>Gm f
  |some p=>KR f p.1 p.2.1 (some p.2.2)
noncomputable abbrev KS:=e_ (bh 314 0)
noncomputable def f6 (row:Int):Int→List Nat→List Mk
  |_,[]=>[]
  |k,c::l=>⟨c,row,k⟩::f6 row (k+1) l
noncomputable def wX (row:Int):Int→List Nat→Option Mk→Option Mk
  |_,[],e=>e
  |k,c::l,e=>wX row (k+1) l (some ⟨c,row,k⟩)
noncomputable def cY:Int→List (List Nat)→List Mk
  |_,[]=>[]
  |row,l::ls=>f6 row 1 l++cY (row+1) ls
theorem Gl:∀cs k e outs,Go (forL P1 (Ri 7 89) (gj (sub KS 1)) (e_ (sub KS 1)) 0 .none (n5 k (yj cs))) (JW (KR f i line e) row outs) .next (JW (KR f i line (wX row k cs e)) row (outs++(f6 row k cs).map aP)):=by
  intro cs
  induction cs with
  |nil=>exact fun k e outs=>.k [] (fun o=>congrArg (fun z=>lM.ok Fl.next (JW (KR f i line e) row z o true)) (ax outs).symm) rfl
  |cons c cs ih=>
   intro k e outs
   rw[show n5 k (yj (c::cs))=_ from n4 k _ _,show outs++(f6 row k (c::cs)).map aP=outs++[aP ⟨c,row,k⟩]++(f6 row (k+1) cs).map aP from(am _ [_] _).symm]
   exact .for_ (.k [] fun o=>by cases e<;>kernel_rfl rfl) (ih (k+1) (some ⟨c,row,k⟩) _)
noncomputable def zu (line:List Nat):=!line.any (Nat.beq 9)&&Nat.ble line.length 1000000
theorem vr:∀cs k m,∃m',wX row k cs (some m)=some m':=by
  intro cs
  induction cs with
  |nil=>exact fun k m=>⟨m,rfl⟩
  |cons c cs ih=>exact fun k m=>ih _ _
theorem CK:∀ls i row p outs,(∀l∈ls,l≠[]∧zu l=true)→
    ya (forL P1 (Lv 8) (gj (bh 314 0)) KS 0 .none (n5 i (bn ls))) (JW (coR f p) row outs) (outs++(cY row ls).map aP):=by
  intro ls
  induction ls with
  |nil=>exact fun i row p outs h=>(ax outs).symm▸Go.o (.k [] (fun o=>rfl) rfl) fun o=>⟨rfl,rfl,rfl⟩
  |cons l ls ih=>
   intro i row p outs h
   have O:=h l (.head _)
   obtain⟨m',hm⟩:∃m',wX row 1 l (p.map (·.2.2))=some m':=by
     induction l with
     |nil=>trivial
     |cons c cs=>exact vr cs _ _
   have g:=Gl (f:=f) (i:=i) (row:=row) (line:=l) l 1 (p.map (·.2.2)) outs
   replace g:=hm▸g
   rw[show n5 i (bn (l::ls))=_ from n4 i _ _,show outs++(cY row (l::ls)).map aP=outs++(f6 row 1 l).map aP++(cY (row+1) ls).map aP by rw[am,←ch];rfl]
   refine .for_ (.bind (a:=()) (S1:=JW (KR f i l (p.map (·.2.2))) row outs) (.k [] fun o=>by cases p<;>kernel_rfl rfl) (.eq (show _=bB P1 (Ri 7 89) [sub KS 0,sub KS 1,sub KS 2] by kernel_rfl)
     (.step (S1:=JW (KR f i l (p.map (·.2.2))) row outs) (.k [] fun o=>by rfl (af rfl O.2)) (.step (.to [] fun o=>by cases p<;>kernel_rfl rfl g) (.step (.k [] fun o=>by kernel_rfl rfl) .ret))))) (ih (i+1) (row+1) (some (i,l,m')) _ fun l' h'=>h l' (.tail _ h'))
noncomputable abbrev PO (ls:List (List Nat)):List V:=[.lst (bn ls),.inst 2]
theorem A6 {o o':List V} {s:St} (q1:s.orc=o) (q2:s.ob=true):lO rho r0 r1 r2 s.orc s.ob=lO rho r0 r1 r2 o true:=by rw[q1,q2]
theorem CM (h:∀l∈ls,l≠[]∧zu l=true):Go (C 8 (.glob 314) (PO ls) []) (lO rho r0 r1 (yk 1)) (d9 4 (cY 1 ls)) (lO rho r0 r1 .taken):=
  .gen (b:=Gm (.lst (bn ls))) (S1:=JW (Gm (.lst (bn ls))) 1 []) rfl rfl fun o=>by kernel_rfl (.eq (show _=aF P1 (Lv 8) [bh 314 0] by kernel_rfl) (.end (.to [] fun o=>by kernel_rfl rfl (CK (f:=.lst (bn ls)) ls 1 1 none [] h)) rfl)) fun o o' s q1 q2=>A6 (o':=o') q1 q2
noncomputable def Lp:=[(61,35),(40,91),(41,93),(60,123),(62,125),(45,126),(33,124),(47,92),(39,94)]
noncomputable def sw c:=lkN c Lp
noncomputable def Ek:=[[61],[40],[41],[60],[62],[45],[33],[47],[39]]
noncomputable def El:V:=.dct Ek (Lp.map fun p=>.str [p.2])
noncomputable def exT:Option (V×Option V)→List (Str×V)
  |none=>[]
  |some (v,none)=>[(ae "char",v)]
  |some (v,some w)=>[(ae "char",v),(ae "loc",w)]
noncomputable def mY (bs:List V) (e:Option (V×Option V)) (outs o:List V) (ob:Bool):St:=
  {rho:=[(ae "characters",.gone),(ae "tri_map",El),(ae "buf",.own bs)]++exT e,sc:=(cf 321).names,r0:=.taken,r1:=.taken,r2:=.taken,r3:=.empty,outs:=outs,orc:=o,md:=(cf 321).law,ob:=ob,dp:=6,hd:=false}
noncomputable abbrev Hf v:=(im P1 (gj (bh 321 2)) v).bind fun ζ=>(Lv 8).ex (e_ (bh 321 2))
noncomputable abbrev yg (e:Option (V×Option V)) m:=some (aP m,e.bind (·.2))
section
variable (e:Option (V×Option V)) (outs o:List V)
theorem NS m:(Hf (aP m)).run (mY [] e outs (F'::o) true)=.ok .next (mY [aP m] (yg e m) outs o true):=by rcases e with _|⟨v,_|w⟩<;>kernel_rfl
theorem NR a m:(Hf (aP m)).run (mY [aP a] e outs (F'::o) true)=.ok .next (mY [aP a,aP m] (yg e m) outs o true):=by rcases e with _|⟨v,_|w⟩<;>kernel_rfl
noncomputable def q1B a:=av true (vv a)
theorem Lh a b m:(Hf (aP m)).run (mY [aP a,aP b] e outs (T'::aP a::F'::o) true)=.ok .next (mY [aP b,aP m] (yg e m) (outs++[aP a]) o (av (q1B a) (!decide ([a.c]=[63])))):=by rcases e with _|⟨v,_|w⟩<;>kernel_rfl
noncomputable def Oq a b:=av (av (q1B a) (decide ([a.c]=[63]))) (vv b)
theorem Lg a b m:(Hf (aP m)).run (mY [aP a,aP b] e outs (T'::aP a::T'::aP b::F'::o) true)=.ok .next (mY [aP b,aP m] (yg e m) (outs++[aP a]) o (av (Oq a b) (!decide ([b.c]=[63])))):=by rcases e with _|⟨v,_|w⟩<;>kernel_rfl
noncomputable def Op a b m:=av (av (Oq a b) (decide ([b.c]=[63]))) (vv m)
theorem Lf a b m:(Hf (aP m)).run (mY [aP a,aP b] e outs (T'::aP a::T'::aP b::T'::aP m::F'::o) true)=.ok .next (mY [aP b,aP m] (yg e m) (outs++[aP a]) o (av (Op a b m) (!Ek.any fun k=>decide (k=[m.c])))):=by rcases e with _|⟨v,_|w⟩<;>kernel_rfl
end
theorem NQ:o_ (fun q=>∀a b row col e outs o,(Hf (aP ⟨q.1,row,col⟩)).run (mY [aP a,aP b] e outs (T'::aP a::T'::aP b::T'::aP ⟨q.1,row,col⟩::T'::.str [q.2]::o) true)=.ok .next (mY [] (some (.str [q.2],some (qC a.row a.col))) (outs++[aP ⟨q.2,a.row,a.col⟩]) o (av (Op a b ⟨q.1,row,col⟩) (jN (.str [q.2]) (.str [q.2]))))) Lp:=by
  repeat' apply And.intro
  all_goals first
    |trivial
    |(intro a b row col e outs o;rcases e with _|⟨v,_|w⟩<;>kernel_rfl)
noncomputable def gG:List Mk→List Mk
  |a::b::c::r=>match Nat.beq a.c 63&&Nat.beq b.c 63,sw c.c with
   |true,some x=>⟨x,a.row,a.col⟩::gG r
   |_,_=>a::gG (b::c::r)
  |l=>l
theorem fy {l:List (Nat×Nat)} {x} (h:lkN c l=some x):(c,x)∈l:=by
  induction l with
  |nil=>exact aX h
  |cons p l ih=>
   revert h
   show(match Nat.beq _ c with|true=>some _|false=>lkN c l)=some x→_
   induction hq:Nat.beq _ c with
   |true=>exact fun h=>by rw[←Option.some.inj h,←aj hq];exact .head _
   |false=>exact fun h=>.tail _ (ih h)
theorem Hj c:(Ek.any fun k=>decide (k=[c]))=(sw c).isSome:=by
  have e:∀l:List (Nat×Nat),((l.map fun p=>[p.1]).any fun k=>decide (k=[c]))=(lkN c l).isSome:=fun l=>by
    induction l with
    |nil=>rfl
    |cons p l ih=>
     show(decide _||_)=(match Nat.beq _ c with|true=>some _|false=>lkN c l).isSome
     rw[ih,d1]
     cases Nat.beq _ c<;>rfl
  exact e Lp
theorem LO {a b} (ha:Nat.beq a.c 63=true) (hb:Nat.beq b.c 63=true) m:Op a b m=true:=af (af (af (af (af rfl (aH _)) (by rw[d1];exact ha)) (aH _)) (by rw[d1];exact hb)) (aH _)
theorem Iv {a b m} {x} {e} {outs} (ha:Nat.beq a.c 63=true) (hb:Nat.beq b.c 63=true) (hx:sw m.c=some x):Go (Hf (aP m)) (mY [aP a,aP b] e outs) .next (mY [] (some (.str [x],some (qC a.row a.col))) (outs++[aP ⟨x,a.row,a.col⟩])):=by
  obtain⟨c,row,col⟩:=m
  exact .k [T',aP a,T',aP b,T',aP ⟨c,row,col⟩,T',.str [x]] (fun o=>NQ.mem (fy hx) a b _ _ e _ o) (af (LO ha hb _) (aH _))
theorem Ld {a b m:Mk} {e'} {outs} (h:(Nat.beq a.c 63&&Nat.beq b.c 63)=false∨sw m.c=none):Go (Hf (aP m)) (mY [aP a,aP b] e' outs) .next (mY [aP b,aP m] (yg e' m) (outs++[aP a])):=by
  induction ha:Nat.beq a.c 63 with
  |false=>exact .k [T',aP a,F'] (fun o=>Lh e' outs o a b m) (af (af rfl (aH _)) (by rw[d1,ha];rfl))
  |true=>
   induction hb:Nat.beq b.c 63 with
   |false=>exact .k [T',aP a,T',aP b,F'] (fun o=>Lg e' outs o a b m) (af (af (af (af rfl (aH _)) (by rw[d1,ha])) (aH _)) (by rw[d1,hb];rfl))
   |true=>
    exact .k [T',aP a,T',aP b,T',aP m,F'] (fun o=>Lf e' outs o a b m) (af (LO ha hb m) (by rw[Hj,(h.elim (fun h=>bG (by rw[ha,hb] at h;trivial)) id)];rfl))
theorem m9 a b c r:gG (a::b::c::r)=(match Nat.beq a.c 63&&Nat.beq b.c 63,sw c.c with
    |true,some x=>⟨x,a.row,a.col⟩::gG r
    |_,_=>a::gG (b::c::r)):=rfl
theorem Iw (bs:List Mk) (h:bs.length≤2) e outs:ya (aF P1 (Lv 8) [bh 321 3]) (mY (bs.map aP) e outs) (outs++bs.map aP):=by
  have k:Go (aF P1 (Lv 8) [bh 321 3]) (mY (bs.map aP) e outs) .next fun o ob=>{mY (bs.map aP) e outs o ob with rho:=[(ae "characters",.gone),(ae "tri_map",El),(ae "buf",.lst (bs.map aP))]++exT e++(match bs with|[]=>[]|[a]=>[(ae "c",aP a)]|_::b::_=>[(ae "c",aP b)]),outs:=outs++bs.map aP}:=by
    rcases bs with _|⟨a,_|⟨b,_|⟨c,bs⟩⟩⟩
    ·rw[show outs++[].map aP=outs from ax _]
     exact .k [] fun o=>by rcases e with _|⟨v,_|w⟩<;>kernel_rfl rfl
    ·exact .k [] fun o=>by rcases e with _|⟨v,_|w⟩<;>kernel_rfl rfl
    ·rw[show outs++[a,b].map aP=outs++[aP a]++[aP b] from(am _ [_] [_]).symm]
     exact .k [] fun o=>by rcases e with _|⟨v,_|w⟩<;>kernel_rfl rfl
    ·exact absurd h fun h=>jg _ (bg (bg h))
  exact k.o fun o=>⟨rfl,rfl,rfl⟩
end
section
variable {n c k:Nat} {o w outs:List V} {v f:V} {z:Bool} {r1 r2:di}
noncomputable abbrev NU (l:List Mk):=(forL P1 (Lv 8) (gj (bh 321 2)) (e_ (bh 321 2)) 0 .none (l.map aP)).bind (dC (aF P1 (Lv 8) [bh 321 3]))
theorem En:∀l bs e outs,bs.length≤2→ya (NU l) (mY (bs.map aP) e outs) (outs++(gG (bs++l)).map aP):=by
  intro l
  induction l with
  |nil=>
   intro bs e outs h
   rw[show gG (bs++[])=bs by rcases bs with _|⟨a,_|⟨b,_|⟨c,bs⟩⟩⟩<;>first|rfl|exact absurd h fun h=>jg _ (bg (bg h))]
   exact .to [] (fun o=>rfl) rfl (Iw bs h e outs)
  |cons m l ih=>
   intro bs e outs h
   rcases bs with _|⟨a,_|⟨b,_|⟨c,bs⟩⟩⟩
   ·exact .forB (.k [F'] (fun o=>NS e outs o m) rfl) (ih [m] _ outs (cj 1))
   ·exact .forB (.k [F'] (fun o=>NR e outs o a m) rfl) (ih [a,m] _ outs (aC 2))
   ·have no:(Nat.beq a.c 63&&Nat.beq b.c 63)=false∨sw m.c=none→gG (a::b::m::l)=a::gG (b::m::l)→ya (NU (m::l)) (mY [aP a,aP b] e outs) (outs++(gG (a::b::m::l)).map aP):=fun h1 h2=>by
      rw[h2,show outs++(a::gG (b::m::l)).map aP=outs++[aP a]++(gG (b::m::l)).map aP from(am _ [_] _).symm]
      exact .forB (Ld h1) (ih [b,m] _ _ (aC 2))
    induction hab:Nat.beq a.c 63&&Nat.beq b.c 63 with
    |false=>exact no (.inl hab) (by rw[m9,hab])
    |true=>induction hx:sw m.c with
     |none=>exact no (.inr hx) (by rw[m9,hx];cases Nat.beq a.c 63&&Nat.beq b.c 63<;>rfl)
     |some x=>
      have hab:=aa.mp hab
      rw[show gG ([a,b]++m::l)=⟨x,a.row,a.col⟩::gG l by rw[show[a,b]++m::l=a::b::m::l from rfl,m9,hx,hab.1,hab.2];rfl,show outs++(⟨x,a.row,a.col⟩::gG l).map aP=outs++[aP ⟨x,a.row,a.col⟩]++(gG l).map aP from(am _ [_] _).symm]
      exact .forB (Iv hab.1 hab.2 hx) (ih [] _ _ (bt 2))
   ·exact absurd h fun h=>jg _ (bg (bg h))
noncomputable def BM (l:List Mk) rho o ob:={mY [] none [] o ob with rho:=rho}
theorem Eo l:Go (C 8 (.glob 321) [d9 4 l] []) (lO rho r0 r1 r2) (d9 6 (gG l)) (lO rho r0 r1 r2):=
  .gen (b:=[(ae "characters",d9 4 l)]) (S1:=BM l [(ae "characters",d9 4 l)]) (by kernel_rfl) (by kernel_rfl) fun o=>by kernel_rfl (.eq (show _=aF P1 (Lv 8) [bh 321 0,bh 321 1,bh 321 2,bh 321 3] by kernel_rfl)
    (Go.bindO (a:=Fl.next) (S1:=BM l [(ae "characters",d9 4 l),(ae "tri_map",El)]) (.k [] fun o=>by kernel_rfl rfl) (Go.bindO (a:=Fl.next) (S1:=BM l [(ae "characters",d9 4 l),(ae "tri_map",El),(ae "buf",.own [])]) (.k [] fun o=>by kernel_rfl rfl)
      (.to [] fun o=>by kernel_rfl rfl (En l [] none [] (by decide)))))) fun o o' s q1 q2=>A6 (o':=o') q1 q2
noncomputable def exC:Option V→List (Str×V)
  |none=>[]
  |some v=>[(ae "char",v)]
noncomputable def NB (bk:V) (e:Option V) (outs o:List V) (ob:Bool):St:=
  {rho:=[(ae "characters",.gone),(ae "backslash",bk)]++exC e,sc:=(cf 328).names,r0:=.taken,r1:=.taken,r2:=.taken,r3:=.empty,outs:=outs,orc:=o,md:=(cf 328).law,ob:=ob,dp:=8,hd:=false}
noncomputable def bk0:Bool→V
  |true=>.none
  |false=>.bool false
noncomputable def bkV (z:Bool):Option Mk→V
  |none=>bk0 z
  |some m=>aP m
noncomputable def gH:List Mk→List Mk
  |a::b::r=>cond (Nat.beq a.c 92&&Nat.beq b.c 10) (gH r) (a::gH (b::r))
  |l=>l
noncomputable def oj:List Mk→Bool→Bool
  |[],b=>!b
  |m::l,b=>cond b (!Nat.beq m.c 92&&oj l false) (oj l (Nat.beq m.c 92))
theorem Br (h:Nat.beq m.c 92=false) l:gH (m::l)=m::gH l:=by
  induction l with
  |nil=>rfl
  |cons b l=>
   show cond _ _ _=_
   rw[h];rfl
noncomputable abbrev clF (l:List Mk):=forL P1 (Lv 8) (gj (bh 328 1)) (e_ (bh 328 1)) 0 .none (l.map aP)
theorem yt2 (h:Nat.beq c 13=false):yt [13,10] c=Nat.beq c 10:=by
  show(Nat.beq c 13||(Nat.beq c 10||false))=_
  rw[h,dL];rfl
theorem Gv:∀l z b e outs,(∀m∈l,Nat.beq m.c 13=false)→(∀m,b=some m→Nat.beq m.c 92=true)→oj l b.isSome=true→ya (clF l) (NB (bkV z b) e outs) (outs++(gH (b.toList++l)).map aP):=by
  intro l
  induction l with
  |nil=>
   intro z b e outs h hb h2
   induction b with
   |some m=>exact bG h2
   |none=>exact(ax outs).symm▸Go.o (.k [] (fun o=>rfl) rfl) fun o=>⟨rfl,rfl,rfl⟩
  |cons m l ih=>
   intro z b e outs h hb h2
   have h':=fun m' q=>h m' (.tail _ q)
   induction b with
   |none=>
    have h2:oj l (Nat.beq m.c 92)=true:=h2
    cases hm:Nat.beq m.c 92 with
    |true=>exact .for_ (.k [F',T'] (b:=av true (decide ([m.c]=[92]))) fun o=>by cases z<;>cases e<;>kernel_rfl (af rfl (by rw[d1,hm]))) (ih z (some m) (some (aP m)) outs h' (fun m' q=>Option.some.inj q▸hm) (by rw[hm] at h2;exact h2))
    |false=>
     rw[show gH (none.toList++m::l)=m::gH l from Br hm l,show outs++(m::gH l).map aP=outs++[aP m]++(gH l).map aP from(am _ [_] _).symm]
     exact .for_ (.k [F',F'] (b:=av true (!decide ([m.c]=[92]))) fun o=>by cases z<;>cases e<;>kernel_rfl (af rfl (by rw[d1,hm];rfl))) (ih z none (some (aP m)) (outs++[aP m]) h' (fun m' q=>aX q) (by rw[hm] at h2;exact h2))
   |some b=>
    have h2:=aa.mp (show(!Nat.beq m.c 92&&oj l false)=true from h2)
    have y:=yt2 (h m (.head _))
    show ya _ _ (outs++(cond (Nat.beq b.c 92&&Nat.beq m.c 10) (gH l) (b::gH (m::l))).map aP)
    rw[hb b rfl,Br ((ao _).mp h2.1)]
    induction hm:Nat.beq m.c 10 with
    |true=>exact .for_ (.k [T',T'] fun o=>by cases e<;>kernel_rfl (af rfl (y.trans hm))) (ih false none (some (aP m)) outs h' (fun m' q=>aX q) h2.2)
    |false=>
     show ya _ _ (outs++(b::m::gH l).map aP)
     rw[show outs++(b::m::gH l).map aP=outs++[aP b]++[aP m]++(gH l).map aP by rw[am,am];rfl]
     exact .for_ (.k [T',F'] (b:=av true (!yt [13,10] m.c)) fun o=>by cases e<;>kernel_rfl (af rfl (by rw[y,hm];rfl))) (ih false none (some (aP m)) _ h' (fun m' q=>aX q) h2.2)
theorem Gw (hk:k=4∨k=6) (h:∀m∈l,Nat.beq m.c 13=false) (h2:oj l false=true):Go (C 8 (.glob 328) [d9 k l] []) (lO rho r0 r1 r2) (d9 8 (gH l)) (lO rho r0 r1 r2):=
  .gen (b:=[(ae "characters",d9 k l)]) (S1:=fun o ob=>{NB .none none [] o ob with rho:=[(ae "characters",d9 k l)]}) (by kernel_rfl) rfl fun o=>by kernel_rfl (.eq (show _=aF P1 (Lv 8) [bh 328 0,bh 328 1] by kernel_rfl)
    (Go.bindO (a:=Fl.next) (S1:=fun o ob=>{NB .none none [] o ob with rho:=[(ae "characters",d9 k l),(ae "backslash",.none)]}) (.k [] fun o=>by kernel_rfl rfl) (.end (.to [] fun o=>by rcases hk with rfl|rfl<;>kernel_rfl rfl (Gv l true none none [] h (fun m q=>aX q) h2)) rfl))) fun o o' s q1 q2=>A6 (o':=o') q1 q2
end
section
variable {n c k:Nat} {o w outs out:List V} {v f:V} {ps:List (List Nat)} {z:Bool} {r1 r2:di} {e:Option V}
noncomputable def wa (rho:List (Str×V)) (r0 r1 r2:di) (o:List V) (ob:Bool):St:=
  {rho:=rho,sc:=(cf 560).names,r0:=r0,r1:=r1,r2:=r2,r3:=.empty,outs:=[],orc:=o,md:=(cf 560).law,ob:=ob,dp:=21,hd:=false}
noncomputable def HB (src:V):=[(ae "self",.inst 1),(ae "src",src),(ae "source_file",.inst 2)]
noncomputable def iY tri l:=cond tri (gG l) l
theorem mC:∀n l,l.length≤n→(gH l).Sublist l:=by
  intro n
  induction n with
  |zero=>intro l h;induction l with
   |nil=>exact .refl _
   |cons _ _=>exact absurd h (jg _)
  |succ n ih=>
   intro l h
   rcases l with _|⟨a,_|⟨b,l⟩⟩
   ·exact .refl _
   ·exact .refl _
   show(cond _ (gH l) _).Sublist _
   induction Nat.beq _ 92&&Nat.beq _ 10 with
   |true=>exact((ih l (bv (bg h))).cons b).cons a
   |false=>exact(ih _ (bg h)).cons₂ a
theorem Kc (h:c∈gz):Nat.beq c 13=false:=by
  exact(ao _).mp (aB.mp (show(gz.all fun c=>!Nat.beq c 13)=true by rfl) c h)
structure KZ (L:List Mk):Prop where
  al:∀m∈L,m.c∈gz
  len:L.length<1000
  bb:oj L false=true
  ad:nE (gH L)
  ne:(bo 1000 (gH L)).2=false→(bo 1000 (gH L)).1≠[]
noncomputable def hJ L:=o5 (gH L)
noncomputable abbrev Bs (p:List Ck×Bool):V:=.itr 20 (p.1.map Ck.v) (HQ p.2) .none
theorem Bc (h1:∀l∈ls,l≠[]∧zu l=true) (h:KZ (iY tri (cY 1 ls))):
    Go (C 9 (.glob 351) [.inst 1,.lst (bn ls),.inst 2] []) (wa rho (dR tri) fI (yk 1)) (Bs (hJ (iY tri (cY 1 ls)))) (wa rho .taken .taken .taken):=by
  have hj:=mC _ (iY tri (cY 1 ls)) (aC _)
  have s2:∀k,k=4∨k=6→Go (aF P1 (Lv 9) [bh 351 2,bh 351 3]) (lO (i_ (.lst (bn ls)) (d9 k (iY tri (cY 1 ls)))) (dR tri) fI .taken) (.ret (Bs (hJ (iY tri (cY 1 ls))))) (lO (i_ (.lst (bn ls)) .gone) .taken .taken .taken):=fun k hk=>
    .cons (S1:=lO (i_ (.lst (bn ls)) (d9 8 (gH (iY tri (cY 1 ls))))) (dR tri) fI .taken) (.viaC (bh 351 2) (n:=88) (S1:=lO (i_ (.lst (bn ls)) .gone) (dR tri) fI .taken) (by kernel_rfl) fun o=>by kernel_rfl (Gw hk (fun m q=>Kc (h.al m q)) h.bb) (.k [] fun o=>by kernel_rfl rfl))
      (.stop (.viaC (bh 351 3) (n:=88) (S1:=lO (i_ (.lst (bn ls)) .gone) (dR tri) fI .taken) (by kernel_rfl) fun o=>by kernel_rfl (Il (fun m q=>h.al m (hj.subset q)) (aR hj.length_le h.len) h.ad h.ne) (.eq (show _=rT (Fl.ret (Bs (hJ (iY tri (cY 1 ls))))) from rfl) .ret)))
  refine .call (b:=HB (.lst (bn ls))) (fl:=.ret (Bs (hJ (iY tri (cY 1 ls))))) (S1:=lO (HB (.lst (bn ls))) (dR tri) fI (yk 1)) (S2:=lO (i_ (.lst (bn ls)) .gone) .taken .taken .taken) (by kernel_rfl) (by kernel_rfl) fun o=>by kernel_rfl (.eq (show _=aF P1 (Lv 9) [bh 351 0,bh 351 1,bh 351 2,bh 351 3] by kernel_rfl)
    (.cons (S1:=lO (i_ (.lst (bn ls)) (d9 4 (cY 1 ls))) (dR tri) fI .taken) (.via (bh 351 0) (n:=88) (by kernel_rfl) fun o=>by kernel_rfl (CM h1) (.k [] fun o=>by kernel_rfl rfl)) ?_)) fun o o'=>rfl
  induction tri with
  |false=>exact .cons (.k [] fun o=>by kernel_rfl rfl) (s2 4 (.inl rfl))
  |true=>exact .cons (.to [] (S1:=lO (i_ (.lst (bn ls)) (d9 4 (cY 1 ls))) (dR true) fI .taken) (y:=bB P1 (Ri 8 89) [sub (e_ (bh 351 1)) 0]) fun o=>by kernel_rfl rfl (.step (.viaC (sub (e_ (bh 351 1)) 0) (n:=87) (S1:=lO (i_ (.lst (bn ls)) .gone) (dR true) fI .taken) (by kernel_rfl) fun o=>by kernel_rfl (Eo (cY 1 ls)) (.k [] fun o=>by kernel_rfl rfl)) .ret)) (s2 6 (.inr rfl))
end
section
variable {n c k:Nat} {o w outs out:List V} {v f:V} {ps qs:List (List Nat)} {z:Bool} {r1 r2:di} {zz:List Nat} {e:Option V}
noncomputable def Oa (tx:List Nat) (tri:Bool):List (Str×V):=[(ae "text",.str tx),(ae "swap",.bool tri)]
noncomputable def N_ tx tri:=Oa tx tri++[(ae "options",.inst 0)]
noncomputable def N9 tx tri ps:=N_ tx tri++[(ae "parts",.own (bn ps))]
noncomputable def rn3 tx tri ps ls:=N9 tx tri ps++[(ae "lines",.own (bn ls))]
noncomputable def No tx tri ps ls:=rn3 tx tri ps ls++[(ae "out",.own [])]
noncomputable def rnT:Option V→List (Str×V)
  |none=>[]
  |some v=>[(ae "t",v)]
noncomputable def LD tx tri ps ls (out:V) e:=N9 tx tri ps++[(ae "lines",.lst (bn ls)),(ae "out",out)]++rnT e
noncomputable def MT:Expr→Expr
  |.BinOp l _ _ _=>l
  |_=>DZ
noncomputable def MR:Expr→Expr
  |.BinOp _ _ q _=>q
  |_=>DZ
noncomputable abbrev yK:=MT (o4 (bh 560 3))
noncomputable abbrev Fj:=MR (o4 (bh 560 3))
noncomputable def cL:List (List Nat)→List (List Nat)
  |[]=>[]
  |z::r=>match r with
   |[]=>(match z with|[]=>[]|c::r=>[c::r])
   |_::_=>(z++[10])::cL r
theorem qE (z:List Nat) qs:cL (qs++[z])=qs.map (· ++[10])++cL [z]:=by
  induction qs with
  |nil=>rfl
  |cons q qs ih=>induction qs with
   |nil=>rfl
   |cons q2 qs=>exact congrArg _ ih
theorem HR n:jy (-1) (n+1)=n:=by
  show(max 0 ((-1:Int)+(n+1:Nat))).toNat=n
  rw[show(-1:Int)+(n+1:Nat)=n from(o7 ..).trans (zJ n 1)];rfl
theorem AA (qs:List V) z:oQ (qs++[z]) none (some (-1))=qs:=by
  show((qs++[z]).drop 0).take (jy _ _ -0)=qs
  rw[aq,show([z]).length=1 from rfl,HR];exact M3
theorem Az (qs:List V) z:oQ (qs++[z]) (some (-1)) none=[z]:=by
  show((qs++[z]).drop (jy _ _)).take ((qs++[z]).length -jy _ _)=[z]
  rw[aq,show([z]).length=1 from rfl,HR,eX,cm];rfl
noncomputable def QS (c:Expr) (rho:List (Str×V)) (o:List V) (ob:Bool):St:=
  {rho:=rho,sc:=(eV c).2.2.names,r0:=.taken,r1:=.taken,r2:=.taken,r3:=.taken,outs:=[],orc:=o,md:=(cf 560).law,ob:=ob,dp:=21,hd:=false}
noncomputable def LN:Option (List Nat)→List (Str×V)
  |none=>[]
  |some v=>[(ae "part",.str v)]
noncomputable abbrev lcL c vs bW:=dT P1 (Ri 9 88) (eV c).2.1.target (eV c).2.1.ifs (eV c).1 vs bW
theorem Bi:∀qs bW e,(∀q∈qs,q.length<1000)→bW.length+qs.length≤1000→mj (lcL yK (bn qs) bW) (QS yK (LN e)) (bW++bn (qs.map (· ++[10]))) []:=by
  intro qs
  induction qs with
  |nil=>exact fun bW e h hl=>Go.o (.k [] (fun o=>congrArg (fun z=>lM.ok z (QS yK (LN e) o true)) (ax bW).symm) rfl) fun o=>⟨rfl,rfl,rfl⟩
  |cons q qs ih=>
   intro bW e h hl
   rw[show bW++bn ((q::qs).map (· ++[10]))=bW++[.str (q++[10])]++bn (qs.map (· ++[10])) from(am bW [V.str (q++[10])] _).symm]
   refine ik (.k [] (b:=av true (Nat.ble (q++[10]).length 1000000)) fun o=>by cases e<;>kernel_rfl (af rfl (le6 (aq▸(h q (.head _)))))) rfl (cz.mpr (ac (aQ (ac (aA _ _) hl)) (by decide))) (ih _ (some q) (fun q' h'=>h q' (.tail _ h')) (by rw[jW];exact hl))
theorem i7 l:(bn l).all (noI 20)=true:=aB.mpr fun v h=>(bw.mp h).elim fun q h=>h.2▸rfl
noncomputable abbrev RP (tx:List Nat) (tri:Bool) (ps:List (List Nat)):Sb:=wa (N9 tx tri ps) (dR tri) .empty .empty
theorem N7 (h:∀q∈qs,q.length<1000) (hl:qs.length<1000):Go (jw P1 (Lv 10) (bh 560 3)) (RP tx tri (qs++[zz])) .next (wa (rn3 tx tri (qs++[zz]) (cL (qs++[zz]))) (dR tri) .empty .empty):=by
  have e:jw P1 (Lv 10) (bh 560 3)=((dh P1 (Ri 9 88) yK).bind fun a=>(dh P1 (Ri 9 88) Fj).bind fun b=>nY .Add a b).bind fun v=>de (iK P1 (gj (bh 560 3)) v):=by kernel_rfl
  have b6:Nat.ble (bn (qs++[zz])).length 1000000=true:=le6 (by rw[au,aq];exact hl)
  have bk:∀(c:Expr) (o o':List V) (s:St),s.orc=o→s.ob=true→RP tx tri (qs++[zz]) s.orc s.ob=RP tx tri (qs++[zz]) o true:=fun c o o' s q1 q2=>by rw[q1,q2]
  have gA:Go (dh P1 (Ri 9 88) yK) (RP tx tri (qs++[zz])) (.own (bn (qs.map (· ++[10])))) (RP tx tri (qs++[zz])):=
    .lc (sc:=(eV yK).2.2) (by kernel_rfl) (.cmp fun o=>by kernel_rfl (.k [] (fun o=>Eq.trans (b:=.ok (.own (oQ (bn (qs++[zz])) none (some (-1)))) (RP tx tri (qs++[zz]) o (av true (Nat.ble (bn (qs++[zz])).length 1000000)))) (by kernel_rfl) (by rw[(show bn (qs++[zz])=bn qs++[.str zz] from ch),AA])) (af rfl b6)) rfl (fun o=>rfl) fun o=>by kernel_rfl (Bi qs [] none h (ac (aJ (bD _)) (aY hl))) (fun o o' s q1 q2=>Eq.trans (by kernel_rfl) (bk yK o o' s q1 q2)) (i7 _))
  have gB:Go (dh P1 (Ri 9 88) Fj) (RP tx tri (qs++[zz])) (.own (bn (cL [zz]))) (RP tx tri (qs++[zz])):=
    .lc (elt:=(eV Fj).1) (g:=(eV Fj).2.1) (sc:=(eV Fj).2.2) (by kernel_rfl) (.cmp (S2:=QS Fj []) fun o=>by kernel_rfl (.k [] (fun o=>Eq.trans (b:=.ok (.own (oQ (bn (qs++[zz])) (some (-1)) none)) (RP tx tri (qs++[zz]) o (av true (Nat.ble (bn (qs++[zz])).length 1000000)))) (by kernel_rfl) (by rw[(show bn (qs++[zz])=bn qs++[.str zz] from ch),Az])) (af rfl b6)) rfl (fun o=>rfl) fun o=>by kernel_rfl (Go.o (S1:=QS Fj (LN (some zz))) (.k [] fun o=>by cases zz<;>kernel_rfl rfl) fun o=>⟨rfl,rfl,rfl⟩) (fun o o' s q1 q2=>Eq.trans (by kernel_rfl) (bk Fj o o' s q1 q2)) (i7 _))
  refine .eq e (.bind (S1:=RP tx tri (qs++[zz])) (.bind gA (.bind gB (.k [] (a:=.own (bn (cL (qs++[zz])))) (b:=av true (Nat.ble (bn (qs.map (· ++[10]))++bn (cL [zz])).length 1000000)) fun o=>by rw[qE,show bn (qs.map (· ++[10])++cL [zz])=_ from ch];kernel_rfl (af rfl (le6 ?_))))) (.k [] fun o=>by kernel_rfl rfl))
  rw[aq,au,au]
  exact ac (dQ (show(bn (cL [zz])).length≤1 by cases zz<;>first|exact bt _|exact aC _) _) hl
noncomputable abbrev Ho:=sub (e_ (bh 560 5)) 0
noncomputable def OY:Stmt→List ExceptHandler
  |.Try _ hs _ _ _=>hs
  |_=>[]
noncomputable def eA (c:Ck):V:=.tup [.str c.typ,.str c.val,.str c.sp,.bool c.fi,.int c.m.row,.int c.m.col]
noncomputable def IO:V:=.str [114,101,102,117,115,101,100]
noncomputable def dg (r:List Ck×Bool):=r.1.map eA++cond r.2 [IO] []
noncomputable abbrev RO (tx:List Nat) (tri:Bool) (ps ls:List (List Nat)) (out:List V) (e:Option V):Sb:=wa (LD tx tri ps ls (.own out) e) .taken .taken .taken
noncomputable abbrev N8 k cs:=forL P1 (Ri 9 89) (gj Ho) (e_ Ho) k .none cs
theorem ET k:∀(cs:List Ck) out e,out.length+cs.length≤10000→∃e',Rq (N8 k (cs.map Ck.v)) (N8 k []) (RO tx tri ps ls out e) (RO tx tri ps ls (out++cs.map eA) e'):=by
  intro cs
  induction cs with
  |nil=>exact fun out e h=>⟨e,(ax out).symm▸.k [] (fun o=>rfl) rfl⟩
  |cons c cs ih=>
   intro out e h
   obtain⟨e',g⟩:=ih (out++[eA c]) (some c.v) (by rw[jW];exact h)
   refine⟨e',?_⟩
   rw[show out++(c::cs).map eA=out++[eA c]++cs.map eA from(am _ [eA c] _).symm]
   exact .for_ (.k [] (b:=av _ (B6 _)) fun o=>by cases e<;>kernel_rfl (af rfl (cz.mpr (ac (ac (aA _ _) h) (by decide))))) g
theorem N6 (hl:(hJ R).1.length≤10000) (h:Go (C 9 (.glob 351) [.inst 1,.lst (bn ls),.inst 2] []) (wa (LD tx tri ps ls (.own []) none) (dR tri) fI (yk 1)) (Bs (hJ R)) (RO tx tri ps ls [] none)):
    ∃e,Go (jw P1 (Lv 10) (bh 560 5)) (wa (No tx tri ps ls) (dR tri) .empty .empty) .next (RO tx tri ps ls (dg (hJ R)) e):=by
  obtain⟨e,h2⟩:=ET (tx:=tx) (tri:=tri) (HQ (hJ R).2) (hJ R).1 [] none (ac (aJ (bD _)) hl)
  have h3:Rq (oR P1 (Ri 9 89) Ho) (N8 (HQ (hJ R).2) []) (wa (No tx tri ps ls) (dR tri) .empty .empty) (RO tx tri ps ls ([]++(hJ R).1.map eA) e):=
    .eq (show oR P1 (Ri 9 89) Ho=((dl P1 (C 9) 89).ev (o4 Ho)).bind (kP (dl P1 (C 9) 89) Ho) from by kernel_rfl) (Go.bindR (Go.evc (o4 Ho) fun o=>by kernel_rfl h) (.trans (.k [] fun o=>by kernel_rfl rfl) h2))
  refine⟨e,.to [] (y:=cT (bB P1 (Ri 9 89) [Ho]) fun c ζ=>mF P1 (Lv 10) c (OY (bh 560 5))) (S1:=wa (No tx tri ps ls) (dR tri) .empty .empty) fun o=>by kernel_rfl rfl ?_⟩
  unfold dg
  revert h3
  induction (hJ R).2 with
  |false=>
   intro h3
   rw[show((hJ R).1.map eA)++cond false [IO] []=(hJ R).1.map eA from ax _]
   exact .cT (.step (h3.go (.k [] fun o=>by kernel_rfl rfl)) .ret)
  |true=>exact fun h3=>Rq.cT (n:=1) (v:=.none) (S1:=RO tx tri ps ls ([]++(hJ R).1.map eA) e) (Rq.err (h3.trans (.k [] fun o=>by kernel_rfl rfl))) (.k [] (b:=av true (B6 ((hJ R).1.map eA))) fun o=>by cases e<;>kernel_rfl (af rfl (cz.mpr (ac (aJ (au _)) (ac hl (by decide))))))
end
section
variable {n c k:Nat} {o w outs out:List V} {v f:V} {ps qs:List (List Nat)} {z:Bool} {zz q:List Nat} {e:Option V} {r:dN} {a:Nat} {b:List (Str×V)} {S2 S3:Sb}
noncomputable def Me a:=(P1.fn a).isSome&&(!(cf a).gen&&(cf a).fence)
theorem Go.fence (hf:Me a=true) (hb:dm (cf a).params args (cf a).dflts []=some b) (hh:∀o,(S o true).hd=false) (ha:args.all (noI 20)=true) (h1:∀o,yX a b (eW (S o true))=some (S1 o true)) (he:Go (aF P1 r (cf a).body) S1 fl S2) (hv:noI 20 (iI fl)=true)
    (h3:∀o o',pP (S o' true) (eJ (eW (S o' true)) (S2 o true))=S3 o true):Go (ci P1 r (.glob a) args []) S (iI fl) S3:=he.elim fun t he=>⟨t,fun o=>qO (h1 (t++o)) fun dp h4 h5 h6=>by
  have h:=aa.mp hf
  have h2:=aa.mp h.2
  have e1:gg P1 r a args []=Nu (eH (aF P1 r) (cf a) args []) args []:=by
    show(match P1.fn a with|some fi=>cond fi.fence _ _|none=>_)=_
    rw[HN h.1]
    show(cond (cf a).fence _ _)=_
    rw[h2.2];rfl
  have e2:(eH (aF P1 r) (cf a) args []).run (eW (S (t++o) true))=.ok (iI fl) (eJ (eW (S (t++o) true)) (S2 o true)):=by
    show(oT (dm (cf a).params args (cf a).dflts []) "bind" fun b=>cond (cf a).gen _ _).run _=_
    rw[hb, (ao _).mp h2.1]
    show(MJ (eW (S (t++o) true)).dp fun dp=>_).run _=_
    rw[h4]
    show(pX (fh (cf a) b dp) eJ (fun ζ ζ h=>⟨h.ob,aD _⟩) ((aF P1 r (cf a).body).bind fun fl=>rT (iI fl))).run _=_
    unfold pX
    dsimp only
    rw[h6,show((aF P1 r (cf a).body).bind fun fl=>rT (iI fl)).run (S1 (t++o) true)=.ok (iI fl) (S2 o true) from bd (he o) rfl]
  show(gT (!(S (t++o) true).hd) "call in a handler" (gg P1 r a args [])).run _=_
  rw[hh,e1]
  show(gT (args.all (noI 20)&&true) "iso args" (pX eW pP (fun ζ ζ h=>⟨h.ob,aD _⟩) (noErr ((eH (aF P1 r) (cf a) args []).bind fun v=>gT (noI 20 v) _ _)))).run _=_
  rw[ha]
  show(pX eW pP (fun ζ ζ h=>⟨h.ob,aD _⟩) _).run _=_
  unfold pX
  dsimp only
  rw[show(noErr _).run _=.ok _ _ by
   unfold noErr Internal.cT
   dsimp only
   rw[(show ((eH _ _ _ []).bind _).run _=.ok _ _ from bd e2 (by rw[hv];rfl))]]
  exact congrArg _ (h3 o _)⟩
noncomputable def dJ:List Nat→Int→Int→List Mk
  |[],_,_=>[]
  |c::t,row,col=>⟨c,row,col⟩::cond (Nat.beq c 10) (dJ t (row+1) 1) (dJ t row (col+1))
theorem pL row b:∀a k,f6 row k (a++b)=f6 row k a++f6 row (k+a.length) b:=by
  intro a
  induction a with
  |nil=>exact fun k=>congrArg (f6 _ · b) (DF k).symm
  |cons x a ih=>exact fun k=>congrArg _ ((ih _).trans (congrArg (f6 _ _ a++f6 _ · b) ((x_ k 1 _).trans (congrArg _ (o7 1 _)))))
theorem gL c x l cur:bN c cur (x::l)=cond (Nat.beq x c) (cur::bN c [] l) (bN c (cur++[x]) l):=by
  induction h:Nat.beq x c with
  |true=>exact if_pos (aj h)
  |false=>exact if_neg fun e=>bG (h.symm.trans (by rw[e];exact dG c))
theorem sA c:∀l cur,∃q qs,bN c cur l=q::qs:=by
  intro l
  induction l with
  |nil=>exact fun cur=>⟨cur,[],rfl⟩
  |cons x l ih=>exact fun cur=>by
                 rw[gL]
                 induction Nat.beq x c with
                 |true=>exact⟨_,_,rfl⟩
                 |false=>exact ih _
theorem sZ:∀t cur row,cY row (cL (bN 10 cur t))=f6 row 1 cur++dJ t row (1+cur.length):=by
  intro t
  induction t with
  |nil=>exact fun cur row=>by cases cur<;>rfl
  |cons x t ih=>
   intro cur row
   rw[gL]
   show _=_++_::cond _ _ _
   induction h:Nat.beq x 10 with
   |true=>
    obtain⟨q,qs,hq⟩:=sA 10 t []
    have ih:=ih [] (row+1)
    rw[hq] at ih
    rw[hq]
    show f6 _ 1 _++cY _ _=_
    rw[ih,pL,am,aj h];rfl
   |false=>exact(ih _ _).trans (by
            rw[pL,am,aq];rfl)
theorem yl c:∀l cur,∀q∈bN c cur l,q.Sublist (cur++l):=by
  intro l
  induction l with
  |nil=>exact fun cur q h=>by rw[cM.mp (show q∈[cur] from h),ax];exact .refl _
  |cons x l ih=>
   intro cur q h
   rw[gL] at h
   revert h
   induction Nat.beq x c with
   |true=>exact fun h=>by
            rcases aL.mp h with e|h
            ·exact e▸List.sublist_append_left _ _
            ·exact(ih [] q h).trans ((List.sublist_cons_self x l).trans (List.sublist_append_right _ _))
   |false=>exact fun h=>(ih _ q h).trans (by rw[am];exact .refl _)
theorem ym c:∀l cur,(bN c cur l).length≤l.length+1:=by
  intro l
  induction l with
  |nil=>exact fun cur=>aC _
  |cons x l ih=>
   intro cur
   rw[gL]
   induction Nat.beq x c with
   |true=>exact aQ (ih [])
   |false=>exact aW (ih _)
noncomputable def zG (q:List Nat):=q.any (Nat.beq 9)=false∧q.length<1000
theorem zG.tab (h:zG q):zu q=true:=aa.mpr ⟨dF h.1,le6 (aY h.2)⟩
theorem Ba ps (h:∀q∈ps,zG q):∀l∈cL ps,l≠[]∧zu l=true:=by
  induction ps with
  |nil=>trivial
  |cons z ps ih=>
   have hz:=h z (.head _)
   induction ps with
   |nil=>induction z with
    |nil=>trivial
    |cons c z=>exact fun l h=>cM.mp (show l∈[c::z] from h)▸⟨br _ _,hz.tab⟩
   |cons y ps=>
    intro l hl
    rcases aL.mp (show l∈(z++[10])::cL _ from hl) with e|hl
    ·exact e▸⟨fun h=>br _ _ (List.append_eq_nil_iff.mp h).2,aa.mpr ⟨dF (by rw[List.any_append,hz.1];rfl),le6 (aq▸hz.2)⟩⟩
    ·exact ih (fun q h'=>h q (.tail _ h')) l hl
theorem xG:∀ts sp fi,(kS ts sp fi).1.length≤ts.length:=by
  intro ts
  induction ts with
  |nil=>exact fun sp fi=>aC _
  |cons t ts ih=>
   intro sp fi
   show(cond _ _ _:List Ck×Bool).1.length≤_
   induction decide (t.typ=fR) with
   |true=>induction fi with
    |true=>exact aQ (ih _ _)
    |false=>exact aW (ih _ _)
   |false=>induction decide (t.typ=oX) with
    |true=>exact aW (ih _ _)
    |false=>exact aQ (ih _ _)
theorem s0:∀k l,(bo k l).1.length≤l.length:=by
  intro k
  induction k with
  |zero=>exact fun l=>bt _
  |succ k ih=>
   intro l
   induction l with
   |nil=>exact bt _
   |cons m l=>
    show(match nx m l with|some p=>(p.1++(bo k _).1,(bo k _).2)|none=>([],true)).1.length≤_
    have hk:=nB m l
    generalize nx m l=q at hk
    have le:∀{u r},l=u++r→r.length≤l.length:=fun e=>e▸aq▸be _ _
    induction hk with
    |no=>exact bt _
    |skip u r e=>exact aW (ac (ih r) (le e))
    |tok t u r e ht=>exact aQ (ac (ih r) (le e))
theorem C_ l:(o5 l).1.length≤l.length+1:=by
  have h:=ac (xG (bo 1000 l).1 [] true) (s0 _ l)
  unfold o5
  split
  ·exact aW h
  ·split
   ·rw[aq];exact aQ h
   ·exact aW h
noncomputable def LW (rho:List (Str×V)) (o:List V) (ob:Bool):St:=
  {rho:=rho,sc:=(cf 565).names,r0:=.empty,r1:=.empty,r2:=.empty,r3:=.empty,outs:=[],orc:=o,md:=(cf 565).law,ob:=ob,dp:=22,hd:=false}
theorem E8 r:noI 20 (.lst (dg r))=true:=by
  show(dg r).all _=true
  unfold dg
  rw[List.all_append,List.all_map,aI]
  exact⟨aB.mpr fun ζ ζ=>rfl,by cases r.2<;>rfl⟩
theorem AD (ht:zG tx) (h:KZ (iY tri (dJ tx 1 1))):Go (C 10 (.glob 560) [.str tx,.bool tri] []) (LW rho) (.lst (dg (hJ (iY tri (dJ tx 1 1))))) (LW rho):=by
  have hraw:cY 1 (cL (bN 10 [] tx))=dJ tx 1 1:=sZ tx [] 1
  have hp:∀q∈bN 10 [] tx,zG q:=fun q hq=>by
    have s:=yl 10 tx [] q hq
    exact⟨eG.mpr fun x hx=>eG.mp ht.1 x (s.subset hx),aR s.length_le ht.2⟩
  have hpl:=ac (ym 10 tx []) ht.2
  obtain⟨qs,z,hqs⟩:∃qs z,bN 10 [] tx=qs++[z]:=by
    obtain⟨q,qs,hq⟩:=sA 10 tx []
    rw[hq]
    exact⟨_,_,(List.dropLast_concat_getLast (br q qs)).symm⟩
  have hlo:=Ba _ hp
  rw[hqs] at hp hpl hlo hraw
  rw[aq] at hpl
  replace h:=hraw▸h
  obtain⟨e,h6⟩:=N6 (tx:=tx) (ps:=qs++[z]) (ac (C_ _) (ac (aQ (ac (mC _ _ (aC _)).length_le (aY h.len))) (by decide))) (Bc hlo h)
  replace h6:=hraw▸h6
  refine .fence (b:=Oa tx tri) (S1:=wa (Oa tx tri) .empty .empty .empty) (by kernel_rfl) (by kernel_rfl) (fun o=>rfl) rfl fun o=>by kernel_rfl (.eq (show _=aF P1 (Lv 10) [bh 560 0,bh 560 1,bh 560 2,bh 560 3,bh 560 4,bh 560 5,bh 560 6] by kernel_rfl)
    (.cons (S1:=wa (N_ tx tri) (dR false) .empty .empty) (.k [] fun o=>by kernel_rfl rfl) (.cons (S1:=wa (N_ tx tri) (dR tri) .empty .empty) (.k [] fun o=>by cases tri<;>kernel_rfl rfl)
      (.cons (S1:=RP tx tri (qs++[z])) (.k [] fun o=>by refine hqs▸?_;kernel_rfl (af rfl (le6 (aY ht.2)))) (.cons (N7 (fun q hq=>(hp q (jh _ hq)).2) hpl)
        (.cons (.k [] fun o=>by kernel_rfl rfl) (.cons h6 (.stop (S1:=wa (LD tx tri (qs++[z]) (cL (qs++[z])) (.lst (dg (hJ (iY tri (dJ tx 1 1))))) e) .taken .taken .taken) (.k [] fun o=>by rfl rfl)))))))))
    (E8 _) fun o o'=>rfl
end
section
noncomputable def mV (m:Mk):V:=.tup [.str [m.c],.int m.row,.int m.col]
variable {L:List Mk} {b:Mk} {n c k:Nat} {o w outs out:List V} {v f:V} {z swp:Bool} {e:Option V} {r:dN} {raw made:List V} {col lo hi:Int}
noncomputable def RS (a:Nat) (rho:List (Str×V)) (dp:Nat) (o:List V) (ob:Bool):St:=
  {rho:=rho,sc:=(cf a).names,r0:=.empty,r1:=.empty,r2:=.empty,r3:=.empty,outs:=[],orc:=o,md:=(cf a).law,ob:=ob,dp:=dp,hd:=false}
noncomputable def L6 (tx:List Nat):=Nat.ble tx.length 1000000
noncomputable def DV (tx:List Nat) (swp:Bool):List (Str×V):=[(ae "text",.str tx),(ae "swap",.bool swp)]
noncomputable def LY tx swp row col (raw:V) (c:Option V):=DV tx swp++[(ae "row",.int row),(ae "column",.int col),(ae "raw",raw)]++(match c with|none=>[]|some v=>[(ae "c",v)])
noncomputable def MS (tx:List Nat) (swp:Bool) (row col:Int) (raw:List V) (c:Option V):Sb:=RS 538 (LY tx swp row col (.own raw) c) 20
theorem Fb:∀t row col raw e,raw.length+t.length≤1000→∃row' col' e',Go (forL P1 (Lv 9) (gj (bh 538 1)) (e_ (bh 538 1)) 0 .none (yj t)) (MS tx swp row col raw e) .next (MS tx swp row' col' (raw++(dJ t row col).map mV) e'):=by
  intro t
  induction t with
  |nil=>exact fun row col raw e h=>⟨row,col,e,(ax raw).symm▸.k [] (fun o=>rfl) rfl⟩
  |cons c t ih=>
   intro row col raw e h
   show∃row' col' e',Go _ _ _ (MS _ _ _ _ (raw++mV ⟨c,row,col⟩::(cond (Nat.beq c 10) (dJ t (row+1) 1) (dJ t row (col+1))).map mV) e')
   have hb:=le6 (ac (aA _ _) h)
   have h':∀v,(raw++[v]).length+t.length≤1000:=fun v=>by rw[jW];exact h
   have ap:∀X,raw++mV ⟨c,row,col⟩::X=raw++[mV ⟨c,row,col⟩]++X:=fun X=>(am raw [_] X).symm
   rw[ap]
   induction hc:Nat.beq c 10 with
   |true=>exact(ih (row+1) 1 _ (some (.str [c])) (h' _)).imp fun row' g=>g.imp fun col' g=>g.imp fun e' g=>.for_ (.k [T'] (b:=av (av true (B6 raw)) (decide ([c]=[10]))) fun o=>by cases e<;>kernel_rfl (af (af rfl hb) (by rw[d1,hc]))) g
   |false=>exact(ih row (col+1) _ (some (.str [c])) (h' _)).imp fun row' g=>g.imp fun col' g=>g.imp fun e' g=>.for_ (.k [F'] (b:=av (av true (B6 raw)) (!decide ([c]=[10]))) fun o=>by cases e<;>kernel_rfl (af (af rfl hb) (by rw[d1,hc];rfl))) g
noncomputable def vS l lo hi w:=jN (.str (oQ l (some lo) (some hi))) (.str w)
noncomputable def vI (l:List V) i w:=jN (l.getD (rO i l.length) .gone) w
noncomputable def zQ n i:=pS i n&&Nat.ble n 1000000
noncomputable def vC (l:List _) i w:=jN (.str ((l.drop (rO i l.length)).take 1)) (.str w)
noncomputable def vO l lo hi w:=jN (.own (oQ l (some lo) (some hi))) (.own w)
theorem kR (k n:Nat):jy k n=min k n:=by
  show(min (k:Int) n).toNat=_
  omega
theorem mr {α} {l:List α} (hk:k≤l.length):oQ l (some k) (some (k+j:Nat))=(l.drop k).take j:=by
  show(l.drop (jy k _)).take (jy _ _ -jy k _)=_
  rw[kR,kR,Kk hk,List.take_eq_take_iff,dY]
  lia
theorem dK {α:Type} {l:List α} {k} {a} {r} (h:l.drop k=a::r):k<l.length:=by
  rcases Dz k _ with q|q
  ·exact q
  ·exact absurd h (List.drop_eq_nil_of_le q▸fun h=>nomatch h)
theorem bY {α:Type} {l:List α} {k} {a} {r} (h:l.drop k=a::r):l.drop (k+1)=r:=by rw[←cC,h];rfl
theorem y0 {α:Type} {l:List α} {k} {a d} {r} (h:l.drop k=a::r):l.getD k d=a:=by
  have:=List.getElem?_drop (xs:=l) (i:=k) (j:=0)
  rw[h] at this
  rw[cB,show l[k]?=some a from this.symm];rfl
theorem my (h:k<n) (hn:n≤1000):zQ n k=true:=
  aa.mpr ⟨aa.mpr ⟨decide_eq_true (Int.le_trans (P3 (eu n)) (eu k)),decide_eq_true (DD.mpr h)⟩,le6 hn⟩
theorem wq {l} {v} {r} (h:l.drop k=v::r):vI l k v=true:=by
  show jN (l.getD k _) v=true
  rw[y0 h];exact aH _
section
variable (hR:R.length≤1000) (h:R.drop k=L)
include h
theorem wS:(R.map mV).drop k=L.map mV:=by rw[←iL,h]
theorem rh:(cs R).drop k=cs L:=by rw[←iL,h]
theorem k_le {a} (e:L=a::l):k≤R.length:=aY (dK (h.trans e))
theorem Ac (hk:k≤R.length) j:vS (cs R) k ((k+j:Nat)) (cs (L.take j))=true:=by
  unfold vS
  rw[mr (by rw[au];exact hk),rh h,←x8];exact aH _
theorem NO (hk:k≤R.length) j:vO (R.map mV) k (k+j:Nat) ((L.take j).map mV)=true:=by
  unfold vO
  rw[mr (by rw[au];exact hk),wS h,←x8];exact aH _
theorem Lb (e:L=a::l):vC (cs R) k [a.c]=true:=by
  show jN (.str (((cs R).drop k).take 1)) _=true
  rw[rh h,e];exact aH _
theorem yf (e:L=a::l):vI (R.map mV) k (mV a)=true:=wq (by rw[wS h,e];rfl)
include hR
theorem Hs (e:L=a::l):zQ (cs R).length k=true:=by rw[au];exact my (dK (h.trans e)) hR
theorem pF (e:L=a::l):zQ (R.map mV).length k=true:=by rw[au];exact my (dK (h.trans e)) hR
end
theorem uC (hR:R.length≤1000):L6 (cs R)=true:=le6 (by rw[au];exact hR)
theorem P8 (hR:R.length≤1000):B6 (R.map mV)=true:=le6 (by rw[au];exact hR)
noncomputable def vn (n:Nat) (i:Int):=av (av true (Nat.ble n 1000000)) (decide (i<n))
noncomputable def KN (n:Nat) (i:Int):=av (av true (Nat.ble n 1000000)) (!decide (i<n))
theorem I4 (hn:n≤1000) (h:k<n):vn n k=true:=af (af rfl (le6 hn)) (decide_eq_true (DD.mpr h))
theorem vG (hn:n≤1000) (h:n≤k):KN n k=true:=af (af rfl (le6 hn)) (dF (decide_eq_false fun q=>a9 k (et (DD.mp q) h)))
noncomputable def ux (tx:List Nat) (row col:Int) (raw made:List V) (c:Option V) (i:Int):Sb:=RS 538 (LY tx true row col (.own raw) c++[(ae "made",.own made),(ae "i",.int i)]) 20
noncomputable abbrev wu n:=ki (Ri 8 89) (gj (sub (e_ (bh 538 2)) 1)) (e_ (sub (e_ (bh 538 2)) 1)) n
section
variable (e:Option V) (n:Nat) (o:List V)
theorem NY:(wu (n+1)).run (ux tx row col raw made e i (F'::o) true)=.ok .next (ux tx row col raw made e i o (KN raw.length i)):=by cases e<;>kernel_rfl
noncomputable def NZ tx (raw:List V) i u:=av (av (vn raw.length i) (L6 tx)) (vS tx i (i+2) u)
noncomputable def Hk X raw made i m:=av (av (av X (zQ raw.length i)) (vI raw i (mV m))) (B6 made)
theorem Hi:(wu (n+1)).run (ux tx row col raw made e i (T'::.str u::F'::mV m::o) true)=(wu n).run (ux tx row col raw (made++[mV m]) e (i+1) o (Hk (av (NZ tx raw i u) (!decide (u=[63,63]))) raw made i m)):=by cases e<;>kernel_rfl
noncomputable def Nk tx raw i u z:=av (av (av (NZ tx raw i u) (decide (u=[63,63]))) (L6 tx)) (vS tx (i+2) (i+3) z)
theorem Lo:(wu (n+1)).run (ux tx row col raw made e i (T'::.str u::T'::.str [c]::F'::mV m::o) true)=(wu n).run (ux tx row col raw (made++[mV m]) e (i+1) o (Hk (av (Nk tx raw i u [c]) (!Ek.any fun k=>decide (k=[c]))) raw made i m)):=by cases e<;>kernel_rfl
theorem Ln:(wu (n+1)).run (ux tx row col raw made e i (T'::.str u::T'::.str []::F'::mV m::o) true)=(wu n).run (ux tx row col raw (made++[mV m]) e (i+1) o (Hk (Nk tx raw i u []) raw made i m)):=by cases e<;>kernel_rfl
end
noncomputable def swH tx raw made i u c x m:=av (av (av (av (av (av (av (av (av (av (Nk tx raw i u [c]) (zQ tx.length (i+2))) (vC tx (i+2) [c])) (jN (.str [x]) (.str [x]))) (zQ raw.length i)) (vI raw i (mV m))) (jN (.int m.row) (.int m.row))) (zQ raw.length i)) (vI raw i (mV m))) (jN (.int m.col) (.int m.col))) (B6 made)
theorem NX:o_ (fun q=>∀tx row col raw made e i u m n o,
    (wu (n+1)).run (ux tx row col raw made e i (T'::.str u::T'::.str [q.1]::T'::.str [q.1]::.str [q.2]::mV m::.int m.row::mV m::.int m.col::o) true)=(wu n).run (ux tx row col raw (made++[mV ⟨q.2,m.row,m.col⟩]) e (i+3) o (swH tx raw made i u q.1 q.2 m))) Lp:=by
  repeat' apply And.intro
  all_goals first
    |trivial
    |(intro tx row col raw made e i u m n o;cases e<;>kernel_rfl)
end
section
variable {L:List Mk} {b:Mk} {n c k:Nat} {o w outs out:List V} {v f:V} {z swp:Bool} {e:Option V} {r:dN} {raw made jo:List V} {col lo hi:Int}
theorem d2 (a b x y:Nat):decide ([a,b]=[x,y])=(Nat.beq a x&&Nat.beq b y):=by
  induction h:Nat.beq a x&&Nat.beq b y with
  |true=>
   exact decide_eq_true (by rw[aj (aa.mp h).1,aj (aa.mp h).2])
  |false=>exact decide_eq_false fun q=>bG (h.symm.trans (by injection q with q1 q;injection q with q2 _;rw[q1,q2,dG,dG];rfl))
theorem GR w a l:w++(a::l).map mV=w++[mV a]++l.map mV:=(am w [mV a] _).symm
theorem wj (h:made.length+n≤1000):B6 made=true:=le6 (ac (aA _ _) h)
theorem EA (hR:R.length≤1000):∀n k L made,R.drop k=L→L.length<n→made.length+L.length≤1000→
    ∃i',Go (wu n) (ux (cs R) row col (R.map mV) made e k) .next (ux (cs R) row col (R.map mV) (made++(gG L).map mV) e i'):=by
  intro n
  induction n with
  |zero=>exact fun k L made h1 h=>absurd h (cg _)
  |succ n ih=>
   intro k L made h hn hm
   cases L with
   |nil=>exact⟨k,(ax made).symm▸.k [F'] (fun o=>NY e n o) (by rw[(au _)];exact vG hR (cn.mp h))⟩
   |cons a L=>
    have hm1:∀v,(made++[v]).length+L.length≤1000:=fun v=>by rw[jW];exact hm
    obtain⟨i',g⟩:=ih (k+1) L (made++[mV a]) (bY h) (aV hn) (hm1 _)
    have q0:NZ (cs R) (R.map mV) k (cs ((a::L).take 2))=true:=af (af (by rw[(au _)];exact I4 hR (dK h)) (uC hR)) (Ac h (aY (dK h)) 2)
    have no:gG (a::L)=a::gG L→(∃t X,X=true∧∀o,(wu (n+1)).run (ux (cs R) row col (R.map mV) made e k (t++o) true)=(wu n).run (ux (cs R) row col (R.map mV) (made++[mV a]) e (k+1:Nat) o (Hk X (R.map mV) made k a)))→∃i',Go (wu (n+1)) (ux (cs R) row col (R.map mV) made e k) .next (ux (cs R) row col (R.map mV) (made++(gG (a::L)).map mV) e i'):=fun e1 ⟨t,X,hX,ht⟩=>⟨i',by
      rw[e1,GR];exact .to t ht ((fun hX=>af (af (af hX (pF hR h rfl)) (yf h rfl)) (wj hm)) hX) g⟩
    rcases L with _|⟨b,L⟩
    ·exact no rfl ⟨[T',.str [a.c],F',mV a],_,af q0 (dF (decide_eq_false fun q=>by injection q with _ q;injection q)),fun o=>Hi e n o⟩
    ·have d:=d2 a.c b.c 63 63
     induction hab:Nat.beq a.c 63&&Nat.beq b.c 63 with
     |false=>exact no (by cases L with|nil=>rfl|cons c L=>rw[m9,hab]) ⟨[T',.str [a.c,b.c],F',mV a],_,af q0 (dF (d.trans hab)),fun o=>Hi e n o⟩
     |true=>
      have q2:∀w,cs (L.take 1)=w→Nk (cs R) (R.map mV) k [a.c,b.c] w=true:=fun w hw=>hw▸af (af (af q0 (d.trans hab)) (uC hR)) (Ac (bY (bY h)) (dK (bY h)) 1)
      induction L with
      |nil=>exact no rfl ⟨[T',.str [a.c,b.c],T',.str [],F',mV a],_,q2 [] rfl,fun o=>Ln e n o⟩
      |cons c L=>
       have h2:=bY (bY h)
       induction hx:sw c.c with
       |none=>exact no (by rw[m9,hx,hab]) ⟨[T',.str [a.c,b.c],T',.str [c.c],F',mV a],_,af (q2 [c.c] rfl) (by rw[Hj,hx];rfl),fun o=>Lo e n o⟩
       |some x=>
        obtain⟨i',g⟩:=ih (k+3) L (made++[mV ⟨x,a.row,a.col⟩]) (bY h2) (gY (gY (aV hn))) (ac (dQ (aW (cj _)) _) (hm1 _))
        refine⟨i',?_⟩
        rw[show gG (a::b::c::L)=⟨x,a.row,a.col⟩::gG L by rw[m9,hab,hx],GR made ⟨x,a.row,a.col⟩]
        exact .to [T',.str [a.c,b.c],T',.str [c.c],T',.str [c.c],.str [x],mV a,.int a.row,mV a,.int a.col] (fun o=>NX.mem (fy hx) (cs R) row col (R.map mV) made e k [a.c,b.c] a n o)
          (af (af (af (af (af (af (af (af (af (af (q2 [c.c] rfl) (Hs hR h2 rfl)) (Lb h2 rfl)) (aH _)) (pF hR h rfl)) (yf h rfl)) (aH _)) (pF hR h rfl)) (yf h rfl)) (aH _)) (wj hm)) g
noncomputable def joR (swp:Bool) (tx:List Nat) (row col:Int) (raw:List V) (c:Option V) (i:Int) (jo:V):List (Str×V):=match swp with
  |true=>LY tx true row col (.lst raw) c++[(ae "made",.lst raw),(ae "i",.int i),(ae "joined",jo)]
  |false=>LY tx false row col (.own raw) c++[(ae "joined",jo),(ae "i",.int i)]
noncomputable def JS (swp:Bool) (tx:List Nat) (row col:Int) (raw:List V) (c:Option V) (i:Int) (jo:List V):Sb:=RS 538 (joR swp tx row col raw c i (.own jo)) 20
noncomputable abbrev Ft n:=ki (Lv 9) (gj (bh 538 4)) (e_ (bh 538 4)) n
section
variable (swp:Bool) (e:Option V) (n:Nat) (o:List V)
theorem OR:(Ft (n+1)).run (JS swp tx row col raw e i jo (F'::o) true)=.ok .next (JS swp tx row col raw e i jo o (KN raw.length i)):=by cases swp<;>cases e<;>kernel_rfl
noncomputable def OU raw i w:=av (av (vn raw.length i) (B6 raw)) (vO raw i (i+2) w)
noncomputable abbrev NN (a:Mk):=jN (.str [a.c]) (.str [a.c])
noncomputable def OT raw i a b:=av (av (OU raw i [mV a,mV b]) (NN a)) (NN b)
theorem OP:(Ft (n+1)).run (JS swp tx row col raw e i jo (T'::.own [mV a,mV b]::.str [a.c]::.str [b.c]::T'::o) true)=(Ft n).run (JS swp tx row col raw e (i+2) jo o (av (OT raw i a b) (decide ([a.c]=[92])&&(decide ([b.c]=[10])&&true)))):=by cases swp<;>cases e<;>kernel_rfl
theorem OQ:(Ft (n+1)).run (JS swp tx row col raw e i jo (T'::.own [mV a,mV b]::.str [a.c]::.str [b.c]::F'::mV a::o) true)=(Ft n).run (JS swp tx row col raw e (i+1) (jo++[mV a]) o (Hk (av (OT raw i a b) (!(decide ([a.c]=[92])&&(decide ([b.c]=[10])&&true)))) raw jo i a)):=by cases swp<;>cases e<;>kernel_rfl
theorem OS:(Ft (n+1)).run (JS swp tx row col raw e i jo (T'::.own [mV a]::.str [a.c]::F'::mV a::o) true)=(Ft n).run (JS swp tx row col raw e (i+1) (jo++[mV a]) o (Hk (av (av (OU raw i [mV a]) (NN a)) (!(decide ([a.c]=[92])&&false))) raw jo i a)):=by cases swp<;>cases e<;>kernel_rfl
end
theorem Fs (hR:R.length≤1000):∀n k L jo,R.drop k=L→L.length<n→jo.length+L.length≤1000→
    ∃i',Go (Ft n) (JS swp tx row col (R.map mV) e k jo) .next (JS swp tx row col (R.map mV) e i' (jo++(gH L).map mV)):=by
  intro n
  induction n with
  |zero=>exact fun k L made h1 h=>absurd h (cg _)
  |succ n ih=>
   intro k L jo h hn hm
   cases L with
   |nil=>exact⟨k,(ax jo).symm▸.k [F'] (fun o=>OR swp e n o) (by rw[(au _)];exact vG hR (cn.mp h))⟩
   |cons a L=>
    obtain⟨i',g⟩:=ih (k+1) L (jo++[mV a]) (bY h) (aV hn) (by rw[jW];exact hm)
    have q0:OU (R.map mV) k (((a::L).take 2).map mV)=true:=af (af (by rw[(au _)];exact I4 hR (dK h)) (P8 hR)) (NO h (aY (dK h)) 2)
    have qI:∀{X},X=true→Hk X (R.map mV) jo k a=true:=fun hX=>af (af (af hX (pF hR h rfl)) (yf h rfl)) (wj hm)
    induction L with
    |nil=>exact⟨i',by rw[show gH [a]=a::gH [] from rfl,GR];exact .to [T',.own [mV a],.str [a.c],F',mV a] (fun o=>OS swp e n o) (qI (af (af q0 (aH _)) (by rw[k_];rfl))) g⟩
    |cons b L=>
     have q2:OT (R.map mV) k a b=true:=af (af q0 (aH _)) (aH _)
     have d:(decide ([a.c]=[92])&&(decide ([b.c]=[10])&&true))=(Nat.beq a.c 92&&Nat.beq b.c 10):=by rw[d1,d1,ml]
     show∃i',Go _ _ _ (JS _ _ _ _ _ _ i' (jo++(cond (Nat.beq a.c 92&&Nat.beq b.c 10) (gH L) (a::gH (b::L))).map mV))
     induction hab:Nat.beq a.c 92&&Nat.beq b.c 10 with
     |true=>exact(ih (k+2) L jo (bY (bY h)) (gY (aV hn)) (ac (dQ (aW (cj _)) _) hm)).imp fun i' g=>.to [T',.own [mV a,mV b],.str [a.c],.str [b.c],T'] (fun o=>OP swp e n o) (af q2 (d.trans hab)) g
     |false=>exact⟨i',by
        show Go _ _ _ (JS _ _ _ _ _ _ i' (jo++(a::gH (b::L)).map mV))
        rw[GR];exact .to [T',.own [mV a,mV b],.str [a.c],.str [b.c],F',mV a] (fun o=>OQ swp e n o) (qI (af q2 (dF (d.trans hab)))) g⟩
noncomputable def cX swp tx:=gH (iY swp (dJ tx 1 1))
theorem nr:∀t row col,cs (dJ t row col)=t:=by
  intro t
  induction t with
  |nil=>exact fun row col=>rfl
  |cons c t ih=>exact fun row col=>congrArg (c::·) (by cases Nat.beq c 10<;>exact ih _ _)
theorem qi:∀n l,l.length≤n→(gG l).length≤l.length:=by
  intro n
  induction n with
  |zero=>exact fun l h=>by rw[er (Nat.le_zero.mp h)];exact aC _
  |succ n ih=>
   intro l h
   rcases l with _|⟨a,_|⟨b,_|⟨c,l⟩⟩⟩
   ·exact aC _
   ·exact aC _
   ·exact aC _
   ·have no:=aQ (ih _ (bg h))
    rw[m9]
    induction Nat.beq _ 63&&Nat.beq _ 63 with
    |false=>exact no
    |true=>induction sw _ with
     |none=>exact no
     |some x=>exact aQ (aW (aW (ih l (bv (bv (bg h))))))
theorem Go.rs {a a0 dp} {b bs} {fl} (hf:sX a=true) (hb:dm (cf a).params args (cf a).dflts []=some b) (he:Go (aF P1 r (cf a).body) (RS a b dp) fl (RS a bs dp)):Go (ci P1 r (.glob a) args []) (RS a0 rho (dp+1)) (iI fl) (RS a0 rho (dp+1)):=
  .call (aa.mp hf).1 hb fun o=>by
    show some _=_
    unfold fh kU
    rw[aO.mp (aa.mp hf).2,show b++CW none=b from ax b];rfl he fun ζ ζ=>rfl
theorem vm (hl:tx.length≤1000) {a0:Nat}:Go (C 9 (.glob 538) [.str tx,.bool swp] []) (RS a0 rho 21) (.lst ((cX swp tx).map mV)) (RS a0 rho 21):=by
  obtain⟨row,col,e,h1⟩:=Fb (tx:=tx) (swp:=swp) tx 1 1 [] none (ac (aJ (bD _)) hl)
  have hr:(dJ tx 1 1).length=tx.length:=(au (·.c)).symm.trans (congrArg List.length (nr tx 1 1))
  have hrl:(dJ tx 1 1).length≤1000:=hr▸hl
  have fin:∀R:List Mk,R.length≤1000→∃rho',Go (aF P1 (Lv 9) [bh 538 4,bh 538 5]) (JS swp tx row col (R.map mV) e 0 []) (.ret (.lst ((gH R).map mV))) (RS 538 rho' 20):=fun R hR=>by
    obtain⟨i',g⟩:=Fs (swp:=swp) (tx:=tx) (row:=row) (col:=col) (e:=e) hR 100000 0 R [] rfl (aR hR (by decide)) (ac (aJ (bD _)) hR)
    exact⟨joR swp tx row col (R.map mV) e i' (.lst ((gH R).map mV)),.cons (.eq (show _=Ft 100000 by kernel_rfl) g) (.stop (.k [] (fun o=>by cases swp<;>cases e<;>kernel_rfl) rfl))⟩
  suffices g:∃rho',Go (aF P1 (Lv 9) [bh 538 2,bh 538 3,bh 538 4,bh 538 5]) (MS tx swp row col ((dJ tx 1 1).map mV) e) (.ret (.lst ((cX swp tx).map mV))) (RS 538 rho' 20) from
    g.elim fun rho' g=>.rs (b:=DV tx swp) (bs:=rho') (by kernel_rfl) (by kernel_rfl) (.eq (show _=aF P1 (Lv 9) [bh 538 0,bh 538 1,bh 538 2,bh 538 3,bh 538 4,bh 538 5] by kernel_rfl) (.cons (S1:=MS tx swp 1 1 [] none) (.k [] (fun o=>by kernel_rfl) rfl) (.cons (.as (fun o=>by kernel_rfl) h1) g)))
  cases swp with
  |false=>exact(fin _ hrl).imp fun rho' g=>.cons (S1:=MS tx false row col ((dJ tx 1 1).map mV) e) (.k [F'] (fun o=>by cases e<;>kernel_rfl) rfl) (.cons (.k [] (fun o=>by cases e<;>kernel_rfl) rfl) g)
  |true=>
   obtain⟨i',h3⟩:=EA (row:=row) (col:=col) (e:=e) hrl 100000 0 (dJ tx 1 1) [] rfl (aR hrl (by decide)) (ac (aJ (bD _)) hrl)
   rw[nr] at h3
   exact(fin _ (ac (qi _ _ (aC _)) hrl)).imp fun rho' g=>.cons (S1:=RS 538 (LY tx true row col (.lst ((gG (dJ tx 1 1)).map mV)) e++[(ae "made",.lst ((gG (dJ tx 1 1)).map mV)),(ae "i",.int i')]) 20)
     (.to [T'] (y:=bB P1 (Ri 8 89) [sub (e_ (bh 538 2)) 0,sub (e_ (bh 538 2)) 1,sub (e_ (bh 538 2)) 2]) (S1:=MS tx true row col ((dJ tx 1 1).map mV) e) (fun o=>by cases e<;>kernel_rfl) rfl (.step (S1:=ux tx row col ((dJ tx 1 1).map mV) [] e 0) (.k [] (fun o=>by cases e<;>kernel_rfl) rfl) (.step (.eq (show _=wu 100000 by kernel_rfl) h3) (.step (.k [] (fun o=>by cases e<;>kernel_rfl) rfl) .ret))))
     (.cons (.k [] (fun o=>by cases e<;>kernel_rfl) rfl) g)
end
section
variable {L L0:List Mk} {b q:Mk} {n c k p:Nat} {o w outs out:List V} {v f:V} {sg:Int} {X:Bool}
noncomputable def bR (tx:List Nat) (i j sg:Int):List (Str×V):=[(ae "text",.str tx),(ae "i",.int i),(ae "j",.int j),(ae "signs",.int sg)]
noncomputable def BS (tx:List Nat) (i j sg:Int):Sb:=RS 545 (bR tx i j sg) 19
noncomputable abbrev mJ n:=(ki (Lv 8) (gj (bh 545 1)) (e_ (bh 545 1)) n).bind (dC (aF P1 (Lv 8) [bh 545 2]))
noncomputable def l4 tx i c X:=av (av X (zQ tx.length i)) (vC tx i [c])
noncomputable def D0 tx (j:Int) c X:=av (av X (decide ([c]=[92]))) (L6 tx)
section
variable (n:Nat) (c e:Nat) (o:List V)
theorem J4:(mJ (n+1)).run (BS tx i jj sg (F'::o) true)=.ok (.ret (.int 0)) (BS tx i jj sg o (KN tx.length jj)):=by kernel_rfl
noncomputable def Pq tx i j c:=l4 tx j c (l4 tx i 34 (l4 tx i 34 (vn tx.length j)))
noncomputable def J2 tx i j c:=l4 tx j c (av (Pq tx i j c) (!decide ([c]=[34])))
theorem Pm:(mJ (n+1)).run (BS tx i jj sg (T'::.str [34]::F'::.str [34]::T'::.str [c]::T'::o) true)=.ok (.ret (.int (jj+1))) (BS tx i jj sg o (av (Pq tx i jj c) (decide ([c]=[34])))):=by kernel_rfl
theorem Pn:(mJ (n+1)).run (BS tx i jj sg (T'::.str [34]::F'::.str [34]::T'::.str [c]::F'::.str [c]::F'::o) true)=(mJ n).run (BS tx i (jj+1) (sg+1) o (av (J2 tx i jj c) (!decide ([c]=[92])))):=by kernel_rfl
theorem Pk:(mJ (n+1)).run (BS tx i jj sg (T'::.str [34]::F'::.str [34]::T'::.str [c]::F'::.str [c]::T'::T'::o) true)=.ok (.ret (.int 0)) (BS tx i (jj+1) sg o (av (D0 tx jj c (J2 tx i jj c)) (decide (jj+1=tx.length)))):=by kernel_rfl
theorem Pp:(mJ (n+1)).run (BS tx i jj sg (T'::.str [34]::F'::.str [34]::T'::.str [c]::F'::.str [c]::T'::F'::.str [e]::F'::o) true)=(mJ n).run (BS tx i (jj+1+1) (sg+1) o (av (l4 tx (jj+1) e (av (D0 tx jj c (J2 tx i jj c)) (!decide (jj+1=tx.length)))) (!(!yt d_ e)))):=by kernel_rfl
theorem Po:(mJ (n+1)).run (BS tx i jj sg (T'::.str [34]::F'::.str [34]::T'::.str [c]::F'::.str [c]::T'::F'::.str [e]::T'::o) true)=.ok (.ret (.int 0)) (BS tx i (jj+1) sg o (av (l4 tx (jj+1) e (av (D0 tx jj c (J2 tx i jj c)) (!decide (jj+1=tx.length)))) (!yt d_ e))):=by kernel_rfl
noncomputable def J6 tx i j c:=l4 tx j c (l4 tx i 39 (l4 tx i 39 (vn tx.length j)))
theorem Pw:(mJ (n+1)).run (BS tx i jj 0 (T'::.str [39]::T'::F'::.str [39]::F'::.str [c]::F'::o) true)=(mJ n).run (BS tx i (jj+1) 1 o (av (J6 tx i jj c) (!decide ([c]=[92])))):=by kernel_rfl
theorem Pr:(mJ (n+1)).run (BS tx i jj 0 (T'::.str [39]::T'::F'::.str [39]::F'::.str [c]::T'::T'::o) true)=.ok (.ret (.int 0)) (BS tx i (jj+1) 0 o (av (D0 tx jj c (J6 tx i jj c)) (decide (jj+1=tx.length)))):=by kernel_rfl
theorem Py:(mJ (n+1)).run (BS tx i jj 0 (T'::.str [39]::T'::F'::.str [39]::F'::.str [c]::T'::F'::.str [e]::F'::o) true)=(mJ n).run (BS tx i (jj+1+1) 1 o (av (l4 tx (jj+1) e (av (D0 tx jj c (J6 tx i jj c)) (!decide (jj+1=tx.length)))) (!(!yt d_ e)))):=by kernel_rfl
theorem Px:(mJ (n+1)).run (BS tx i jj 0 (T'::.str [39]::T'::F'::.str [39]::F'::.str [c]::T'::F'::.str [e]::T'::o) true)=.ok (.ret (.int 0)) (BS tx i (jj+1) 0 o (av (l4 tx (jj+1) e (av (D0 tx jj c (J6 tx i jj c)) (!decide (jj+1=tx.length)))) (!yt d_ e))):=by kernel_rfl
theorem Pv:(mJ (n+1)).run (BS tx i jj 1 (T'::.str [39]::T'::T'::.str [c]::T'::o) true)=.ok (.ret (.int (jj+1))) (BS tx i jj 1 o (av (l4 tx jj c (l4 tx i 39 (vn tx.length jj))) (decide ([c]=[39])))):=by kernel_rfl
theorem Pu:(mJ (n+1)).run (BS tx i jj 1 (T'::.str [39]::T'::T'::.str [c]::F'::o) true)=.ok (.ret (.int 0)) (BS tx i jj 1 o (av (l4 tx jj c (l4 tx i 39 (vn tx.length jj))) (!decide ([c]=[39])))):=by kernel_rfl
end
section
variable (hR:R.length≤1000)
include hR
theorem kO (hX:X=true) (h:R.drop k=a::L) (hc:c=a.c):l4 (cs R) k c X=true:=hc▸af (af hX (Hs hR h rfl)) (Lb h rfl)
theorem D2:(cs R).length=R.length:=au _
theorem KC (h:R.drop k=a::L):vn (cs R).length k=true:=by rw[D2 hR];exact I4 hR (dK h)
theorem K7 (h:R.drop k=[a]):decide ((k:Int)+1=(cs R).length)=true:=decide_eq_true (by
  have:=congrArg List.length h
  simp at*
  lia)
theorem K6 (h:R.drop k=a::b::L):(!decide ((k:Int)+1=(cs R).length))=true:=dF (decide_eq_false fun e=>by
  rw[D2 hR] at e
  have h2:=dK (bY h)
  rw[←x9.mp (show(k+1:Int)=R.length from e)] at h2
  exact a9 _ h2)
noncomputable def iJ (k:Nat):Option (List Mk×List Mk)→Int
  |some p=>((k+p.1.length:Nat))
  |none=>0
omit hR in
theorem tO m o:iJ k (o.map (pre m))=iJ (k+1) o:=by
  induction o with
  |none=>rfl
  |some p=>exact congrArg _ (bQ k _ 1)
noncomputable abbrev Bh R (p n k:Nat) sg v:=∃rho,Go (mJ n) (BS (cs R) p k sg) (.ret (.int v)) (RS 545 rho 19)
theorem GC (hp:R.drop p=q::L0) (hq:q.c=34):∀(n k:Nat) (L) sg,R.drop k=L→L.length<n→∃rho,Go (mJ n) (BS (cs R) p k sg) (.ret (.int (iJ k (gp L false)))) (RS 545 rho 19):=by
  intro n
  induction n with
  |zero=>exact fun k L sg ζ h=>absurd h (cg _)
  |succ n ih=>
   intro k L sg h hn
   cases L with
   |nil=>exact⟨_,.k [F'] (fun o=>J4 n o) (by rw[D2 hR];exact vG hR (cn.mp h))⟩
   |cons m L=>
    show Bh _ _ _ _ _ (iJ k (cond (Nat.beq m.c 34) (some ([m],L)) ((gp L (Nat.beq m.c 92)).map (pre m))))
    have q0:=kO hR (kO hR (kO hR (KC hR h) hp hq.symm) hp hq.symm) h rfl
    induction h1:Nat.beq m.c 34 with
    |true=>exact⟨_,.k [T',.str [34],F',.str [34],T',.str [m.c],T'] (fun o=>Pm n m.c o) (af q0 (by rw[d1,h1]))⟩
    |false=>
     have q1:J2 (cs R) p k m.c=true:=kO hR (af q0 (by rw[d1,h1];rfl)) h rfl
     show Bh _ _ _ _ _ (iJ k ((gp L (Nat.beq m.c 92)).map (pre m)))
     rw[tO]
     induction h2:Nat.beq m.c 92 with
     |false=>exact(ih (k+1) L (sg+1) (bY h) (aV hn)).imp fun rho g=>.to [T',.str [34],F',.str [34],T',.str [m.c],F',.str [m.c],F'] (fun o=>Pn n m.c o) (af q1 (by rw[d1,h2];rfl)) g
     |true=>
      have q2:D0 (cs R) k m.c (J2 (cs R) p k m.c)=true:=af (af q1 (by rw[d1,h2])) (uC hR)
      induction L with
      |nil=>exact⟨_,.k [T',.str [34],F',.str [34],T',.str [m.c],F',.str [m.c],T',T'] (fun o=>Pk n m.c o) (af q2 (K7 hR h))⟩
      |cons e L=>
       have q3:=kO hR (af q2 (K6 hR h)) (bY h) rfl
       show Bh _ _ _ _ _ (iJ (k+1) (cond (yt d_ e.c) ((gp L false).map (pre e)) none))
       induction h3:yt d_ e.c with
       |false=>exact⟨_,.k [T',.str [34],F',.str [34],T',.str [m.c],F',.str [m.c],T',F',.str [e.c],T'] (fun o=>Po n m.c e.c o) (af q3 (by rw[h3];rfl))⟩
       |true=>
        show Bh _ _ _ _ _ (iJ (k+1) ((gp L false).map (pre e)))
        rw[tO]
        exact(ih (k+2) L (sg+1) (bY (bY h)) (gY (aV hn))).imp fun rho g=>.to [T',.str [34],F',.str [34],T',.str [m.c],F',.str [m.c],T',F',.str [e.c],F'] (fun o=>Pp n m.c e.c o) (af q3 (by rw[h3];rfl)) g
theorem xK (hp:R.drop p=q::L0) (hq:q.c=39) n k (h:R.drop k=L):∃rho,Go (mJ (n+1)) (BS (cs R) p k 1) (.ret (.int (match L with|[]=>0|z::_=>cond (Nat.beq z.c 39) (k+1:Nat) 0))) (RS 545 rho 19):=by
  induction L with
  |nil=>exact⟨_,.k [F'] (fun o=>J4 n o) (by rw[D2 hR];exact vG hR (cn.mp h))⟩
  |cons z L=>
   have q0:=kO hR (kO hR (KC hR h) hp hq.symm) h rfl
   show Bh _ _ _ _ _ (cond (Nat.beq z.c 39) _ _)
   induction hz:Nat.beq z.c 39 with
   |true=>exact⟨_,.k [T',.str [39],T',T',.str [z.c],T'] (fun o=>Pv n z.c o) (af q0 (by rw[d1,hz]))⟩
   |false=>exact⟨_,.k [T',.str [39],T',T',.str [z.c],F'] (fun o=>Pu n z.c o) (af q0 (by rw[d1,hz];rfl))⟩
theorem J5 (hp:R.drop p=q::L) (hq:q.c=39) (n:Nat):∃rho,Go (mJ (n+2)) (BS (cs R) p ((p+1:Nat):Int) 0) (.ret (.int (iJ (p+1) (MN L)))) (RS 545 rho 19):=by
  have h:=bY hp
  cases L with
  |nil=>exact⟨_,.k [F'] (fun o=>J4 _ o) (by rw[D2 hR];exact vG hR (cn.mp h))⟩
  |cons m L=>
   have q0:=kO hR (kO hR (kO hR (KC hR h) hp hq.symm) hp hq.symm) h rfl
   show Bh _ _ _ _ _ (iJ (p+1) (match Nat.beq m.c 92 with|true=>_|false=>_))
   induction h2:Nat.beq m.c 92 with
   |false=>
    obtain⟨rho,g⟩:=xK hR hp hq n (p+2) (bY h)
    refine⟨rho,.to [T',.str [39],T',F',.str [39],F',.str [m.c],F'] (fun o=>Pw (n+1) m.c o) (af q0 (by rw[d1,h2];rfl)) ?_⟩
    induction L with
    |nil=>exact g
    |cons z L=>
     revert g
     show Go _ _ (Fl.ret (.int (cond (Nat.beq z.c 39) _ _))) _→Go _ _ (Fl.ret (.int (iJ (p+1) (match Nat.beq z.c 39 with|true=>some ([m,z],L)|false=>none)))) _
     cases Nat.beq z.c 39<;>exact id
   |true=>
    have q2:D0 (cs R) (p+1:Nat) m.c (J6 (cs R) p ((p+1:Nat)) m.c)=true:=af (af q0 (by rw[d1,h2])) (uC hR)
    cases L with
    |nil=>exact⟨_,.k [T',.str [39],T',F',.str [39],F',.str [m.c],T',T'] (fun o=>Pr _ m.c o) (af q2 (K7 hR h))⟩
    |cons e L=>
     have q3:=kO hR (af q2 (K6 hR h)) (bY h) rfl
     have no:yt d_ e.c=false→∃rho,Go (mJ (n+2)) (BS (cs R) p (p+1:Nat) 0) (.ret (.int 0)) (RS 545 rho 19):=fun h3=>⟨_,.k [T',.str [39],T',F',.str [39],F',.str [m.c],T',F',.str [e.c],T'] (fun o=>Px _ m.c e.c o) (af q3 (by rw[h3];rfl))⟩
     have yes:yt d_ e.c=true→∃rho,Go (mJ (n+2)) (BS (cs R) p (p+1:Nat) 0) (.ret (.int (match L with|[]=>0|z::_=>cond (Nat.beq z.c 39) ((p+4):Int) 0))) (RS 545 rho 19):=fun h3=>(xK hR hp hq n (p+3) (bY (bY h))).imp fun rho g=>.to [T',.str [39],T',F',.str [39],F',.str [m.c],T',F',.str [e.c],F'] (fun o=>Py (n+1) m.c e.c o) (af q3 (by rw[h3];rfl)) g
     induction L with
     |nil=>induction h3:yt d_ e.c with
      |false=>exact no h3
      |true=>exact yes h3
     |cons z L=>
      show Bh _ _ _ _ _ (iJ (p+1) (match yt d_ e.c&&Nat.beq z.c 39 with|true=>some ([m,e,z],L)|false=>none))
      induction h3:yt d_ e.c with
      |false=>exact no h3
      |true=>
       have y:=yes h3
       revert y
       show Bh _ _ _ _ _ (cond (Nat.beq z.c 39) _ _)→Bh _ _ _ _ _ (iJ (p+1) (match Nat.beq z.c 39 with|true=>some ([m,e,z],L)|false=>none))
       cases Nat.beq z.c 39<;>exact id
noncomputable def GF (m:Mk) l:=cond (Nat.beq m.c 34) (gp l false) (MN l)
theorem ul (hp:R.drop p=q::L) (hq:q.c=34∨q.c=39) {a0:Nat}:Go (C 8 (.glob 545) [.str (cs R),.int p] []) (RS a0 rho 20) (.int (iJ (p+1) (GF q L))) (RS a0 rho 20):=by
  have key:(∃rho,Go (mJ 100000) (BS (cs R) p ((p+1:Nat):Int) 0) (.ret (.int (iJ (p+1) (GF q L)))) (RS 545 rho 19)):=by
    unfold GF
    rcases hq with e|e
    ·rw[e]
     exact GC hR hp e 100000 (p+1) L 0 (bY hp) (aR (bY hp▸ac (DC _ _).length_le hR) (by decide))
    ·rw[e]
     exact J5 hR hp e 99998
  exact key.elim fun bs g=>.rs (b:=[(ae "text",.str (cs R)),(ae "i",.int p)]) (by kernel_rfl) (by kernel_rfl) (.eq (show _=(jw P1 (Lv 8) (bh 545 0)).bind (dC (mJ 100000)) by kernel_rfl) (.bind (a:=Fl.next) (.k [] fun o=>by kernel_rfl rfl) g))
end
end
section
structure Kh where
  c:Nat
  j:Int
  sort:List Nat
variable {L:List Mk} {b:Mk} {n c k:Nat} {o w:List V} {v:V} {so z:List Nat} {X:Bool} {e:Option Kh} {p:Mk→Bool} {x:Tr Fl}
noncomputable def rdE:Option Kh→List (Str×V)
  |none=>[]
  |some e=>[(ae "c",.str [e.c]),(ae "j",.int e.j),(ae "sort",.str e.sort)]
noncomputable def LG ms tx (base:V) i e:=[(ae "marks",.lst ms),(ae "text",.str tx),(ae "base",base),(ae "i",.int i)]++rdE e
noncomputable def RD (ms:List V) (tx:List Nat) (base:List V) (i:Int) (e:Option Kh):Sb:=RS 550 (LG ms tx (.own base) i e) 20
noncomputable abbrev jR ms tx base i c j so:=RD ms tx base i (some ⟨c,j,so⟩)
noncomputable abbrev Np:=e_ (bh 550 2)
noncomputable abbrev rdI:=sub Np 1
noncomputable abbrev IT:=sub (I0 rdI) 0
noncomputable abbrev IS:=sub (I0 IT) 0
noncomputable abbrev LH:=sub (I0 IS) 0
noncomputable abbrev Oe:=sub (I0 LH) 0
noncomputable abbrev qq:=sub (I0 Oe) 0
noncomputable def nest (x:Tr Fl)
  |0=>x
  |n+1=>(nest x n).bind (dC (rT .next))
theorem Go.nest (h:Go x S .next S1):∀n,Go (nest x n) S .next S1
  |0=>h
  |n+1=>.bind (Go.nest h n) .ret
theorem Go.nestR (h:Go x S (.ret v) S1):∀n,Go (Internal.N.nest x n) S (.ret v) S1
  |0=>h
  |n+1=>.bind (Go.nestR h n) .ret
noncomputable abbrev w2:=sub (e_ IT) 0
noncomputable abbrev w3:=sub (e_ IS) 0
noncomputable abbrev w4:=sub (e_ LH) 0
noncomputable abbrev wL d st n:=ki (Ri 8 d) (gj st) (e_ st) n
noncomputable def oK (W:Nat→Tr Fl) (f:Nat→Bool):=
  (∀ms tx base i c j so n x o,(W (n+1)).run (jR ms tx base i c j so (T'::.str [x]::T'::o) true)=(W n).run (jR ms tx base i c (j+1) so o (av (l4 tx j x (vn tx.length j)) (f x))))∧
  (∀ms tx base i c j so n x o,(W (n+1)).run (jR ms tx base i c j so (T'::.str [x]::F'::o) true)=.ok .next (jR ms tx base i c j so o (av (l4 tx j x (vn tx.length j)) (!f x))))∧
  ∀ms tx base i c j so n o,(W (n+1)).run (jR ms tx base i c j so (F'::o) true)=.ok .next (jR ms tx base i c j so o (KN tx.length j))
theorem L5:oK (wL 87 w2) fun x=>decide ([x]=[32]):=by refine⟨?_,?_,?_⟩<;>(intros;kernel_rfl)
theorem L4:oK (wL 86 w3) (yt wc):=by refine⟨?_,?_,?_⟩<;>(intros;kernel_rfl)
theorem L3:oK (wL 85 w4) fun x=>!decide ([x]=[10]):=by refine⟨?_,?_,?_⟩<;>(intros;kernel_rfl)
section
variable (hR:R.length≤1000)
include hR
noncomputable abbrev rK R base (k:Nat) c j so:=jR (R.map mV) (cs R) base k c j so
theorem FG {W} {f} (hW:oK W f) (hf:∀m,f m.c=p m):∀n j L,R.drop j=L→L.length<n→Go (W n) (rK R base k c j so) .next (rK R base k c (j+(L.takeWhile p).length:Nat) so):=by
  intro n
  induction n with
  |zero=>exact fun j L ζ h=>absurd h (cg _)
  |succ n ih=>
   intro j L h hn
   induction L with
   |nil=>exact .k [F'] (fun o=>hW.2.2 _ _ _ _ _ _ _ n o) (D2 hR▸vG hR (cn.mp h))
   |cons a L=>
    have q0:=kO hR (KC hR h) h rfl
    induction hp:p a with
    |true=>
     rw[M4 hp,cN,←bS,bQ]
     exact .to [T',.str _,T'] (fun o=>hW.1 _ _ _ _ _ _ _ n _ o) (af q0 ((hf a).trans hp)) (ih _ L (bY h) (aV hn))
    |false=>
     rw[M5 fun z=>bG (hp.symm.trans z)]
     exact .k [T',.str _,F'] (fun o=>hW.2.1 _ _ _ _ _ _ _ n _ o) (af q0 (dF ((hf a).trans hp)))
theorem nO {W} {f} (hW:oK W f) (hf:∀m,f m.c=p m) (h:R.drop j=L):Go (W 100000) (rK R base k c j so) .next (rK R base k c (j+(L.takeWhile p).length:Nat) so):=
  FG hR hW hf _ j L h (aR (h▸ac (DC _ _).length_le hR) (by decide))
end
noncomputable def t3 c:=av (av (av true (!decide ([c]=[10]))) (!decide ([c]=[32]))) (!yt wc c)
noncomputable def uB tx i u X:=av (av X (L6 tx)) (vS tx i (i+2) u)
noncomputable def t4 tx i c u:=uB tx i u (av (uB tx i u (t3 c)) (!decide (u=[47,47])))
noncomputable def t5 tx i c u:=av (t4 tx i c u) (!decide (u=[47,42]))
noncomputable def t6 tx i c u:=uB tx i u (av (av (t5 tx i c u) (!decide ([c]=[34]))) (!decide ([c]=[39])))
noncomputable def Jz (tx:List Nat) (i:Int):Int:=(match dy [42,47] (tx.drop (i+2).toNat) (i+2).toNat with|some k=>k|none=>-1)+2
noncomputable def O5 tx i c u:=av (av (t4 tx i c u) (decide (u=[47,42]))) (decide (0≤i+2)&&(decide (i+2≤tx.length)&&Nat.ble tx.length 1000000))
noncomputable def prL:=[[35,35],[124,124],[124,61],[94,61],[126,61],[61,61],[33,61],[60,61],[62,61],[45,45],[45,61],[45,62],[47,61],[42,61]]
noncomputable def LR u:=prL.foldr (fun y bW=>decide (y=u)||bW) false
noncomputable abbrev rL:=oR P1 (Ri 8 89) rdI
section
variable (o:List V)
theorem LI:rL.run (jR ms tx base i c jj so (T'::o) true)=.ok .next (jR ms tx base i c jj [66,79,76] o (av true (decide ([c]=[10])))):=by kernel_rfl
theorem Oh:rL.run (jR ms tx base i c jj so (F'::T'::o) true)=(nest ((wL 87 w2 100000).bind (dC (bB P1 (Ri 8 87) [sub (e_ IT) 1]))) 1).run (jR ms tx base i c jj so o (av (av true (!decide ([c]=[10]))) (decide ([c]=[32])))):=by kernel_rfl
theorem Ol:rL.run (jR ms tx base i c jj so (F'::F'::T'::o) true)=(nest ((wL 86 w3 100000).bind (dC (bB P1 (Ri 8 86) [sub (e_ IS) 1]))) 2).run (jR ms tx base i c jj so o (av (av (av true (!decide ([c]=[10]))) (!decide ([c]=[32]))) (yt wc c))):=by kernel_rfl
theorem Ok:rL.run (jR ms tx base i c jj so (F'::F'::F'::.str u::T'::o) true)=(nest (wL 85 w4 100000) 4).run (jR ms tx base i c jj so o (av (uB tx i u (t3 c)) (decide (u=[47,47])))):=by kernel_rfl
theorem Om:rL.run (jR ms tx base i c jj so (F'::F'::F'::.str u::F'::.str u::T'::F'::o) true)=.ok .next (jR ms tx base i c (Jz tx i) so o (av (O5 tx i c u) (!decide (Jz tx i=1)))):=by kernel_rfl
noncomputable def AE (base:List V):V:=.tup [.lst base,.bool true]
theorem LJ:rL.run (jR ms tx base i c jj so (F'::F'::F'::.str u::F'::.str u::T'::T'::o) true)=.ok (.ret (AE base)) (RS 550 (LG ms tx (.lst base) i (some ⟨c,Jz tx i,so⟩)) 20 o (av (O5 tx i c u) (decide (Jz tx i=1)))):=by kernel_rfl
noncomputable abbrev qY:=nest (bB P1 (Ri 8 83) [sub (e_ qq) 0,sub (e_ qq) 1,sub (e_ qq) 2]) 5
theorem Oo:rL.run (jR ms tx base i c jj so (F'::F'::F'::.str u::F'::.str u::F'::T'::o) true)=qY.run (jR ms tx base i c jj so o (av (t5 tx i c u) (decide ([c]=[34])))):=by kernel_rfl
theorem On:rL.run (jR ms tx base i c jj so (F'::F'::F'::.str u::F'::.str u::F'::F'::T'::o) true)=qY.run (jR ms tx base i c jj so o (av (av (t5 tx i c u) (!decide ([c]=[34]))) (decide ([c]=[39])))):=by kernel_rfl
theorem Oi:rL.run (jR ms tx base i c jj so (F'::F'::F'::.str u::F'::.str u::F'::F'::F'::.str u::T'::.str z::o) true)=.ok .next (jR ms tx base i c (i+2) z o (uB tx i z (av (t6 tx i c u) (LR u)))):=by kernel_rfl
theorem Oj:rL.run (jR ms tx base i c jj so (F'::F'::F'::.str u::F'::.str u::F'::F'::F'::.str u::F'::.str z::o) true)=.ok .next (jR ms tx base i c jj z o (av (av (av (t6 tx i c u) (!LR u)) (L6 tx)) (vS tx i jj z))):=by kernel_rfl
end
end
section
noncomputable def bV (typ val:List Nat) (m:Mk):V:=.tup [.str typ,.str val,.int m.row,.int m.col]
noncomputable def Tk.b (t:Tk):=bV t.typ t.val t.m
variable {L:List Mk} {b:Mk} {n c k:Nat} {o w:List V} {v:V} {so z:List Nat} {X:Bool} {e:Option Kh} {p:Mk→Bool} {x:Tr Fl}
noncomputable abbrev Oc n:=ki (Lv 9) (gj (bh 550 2)) Np n
noncomputable abbrev DX n:=(Oc n).bind (dC (aF P1 (Lv 9) [bh 550 3]))
noncomputable abbrev rZ:=[sub Np 2,sub Np 3]
noncomputable abbrev rY n:=((rL.bind (dC (bB P1 (Ri 8 89) rZ))).bind (jx (Oc n))).bind (dC (aF P1 (Lv 9) [bh 550 3]))
theorem LF n o:(DX (n+1)).run (RD ms tx base i e (T'::.str [c]::o) true)=(rY n).run (jR ms tx base i c (i+1) [] o (l4 tx i c (vn tx.length i))):=by cases e<;>kernel_rfl
theorem Ob n o:(DX (n+1)).run (RD ms tx base i e (F'::o) true)=.ok (.ret (.tup [.lst base,.bool false])) (RS 550 (LG ms tx (.lst base) i e) 20 o (KN tx.length i)):=by cases e<;>kernel_rfl
noncomputable def zB ms tx base i j (so z:List Nat) m:=av (av (av (av (av (av (av (av (av (av true (!decide (so=[]))) (L6 tx)) (vS tx i j z)) (zQ ms.length i)) (vI ms i (mV m))) (jN (.int m.row) (.int m.row))) (zQ ms.length i)) (vI ms i (mV m))) (jN (.int m.col) (.int m.col))) (B6 base)
theorem Of o:(bB P1 (Ri 8 89) rZ).run (jR ms tx base i c jj so (T'::.str z::mV m::.int m.row::mV m::.int m.col::o) true)=.ok .next (jR ms tx (base++[bV so z m]) jj c jj so o (zB ms tx base i jj so z m)):=by kernel_rfl
theorem Og o:(bB P1 (Ri 8 89) rZ).run (jR ms tx base i c jj [] (F'::o) true)=.ok .next (jR ms tx base jj c jj [] o true):=by kernel_rfl
theorem d2' (a b x y:Nat):decide ([x,y]=[a,b])=(Nat.beq a x&&Nat.beq b y):=(decide_eq_decide.mpr eq_comm).trans (d2 a b x y)
noncomputable def Os:=[(35,35),(124,124),(124,61),(94,61),(126,61),(61,61),(33,61),(60,61),(62,61),(45,45),(45,61),(45,62),(47,61),(42,61)]
theorem pr2 a b:LR [a,b]=Os.foldr (fun q bW=>(Nat.beq a q.1&&Nat.beq b q.2)||bW) false:=by
  have e:∀l:List (Nat×Nat),(l.map fun q=>[q.1,q.2]).foldr (fun y bW=>decide (y=[a,b])||bW) false=l.foldr (fun q bW=>(Nat.beq a q.1&&Nat.beq b q.2)||bW) _:=fun l=>by
    induction l with
    |nil=>rfl
    |cons q l ih=>exact congr (congrArg or (d2' a b _ _)) ih
  exact e Os
theorem LQ:o_ (fun a=>∀b,Os.foldr (fun q bW=>(Nat.beq a q.1&&Nat.beq b q.2)||bW) false=yt (yP a) b) gz:=by
  repeat' apply And.intro
  all_goals first
    |trivial
    |exact fun b=>rfl
theorem pr1 a:LR [a]=false:=by
  show(decide _||_)=false
  simp only[(show ∀x y,decide ([x,y]=[a])=false from fun x y=>decide_eq_false fun h=>by injection h with _ h;injection h),List.foldr,dL]
noncomputable def G1 (R:List Mk) (k:Nat) (base:List V) (L:List Mk):Option (List Tk×List Mk)→Prop
  |some p=>∃k' e',R.drop k'=p.2∧∀n e fl S,Go (DX n) (RD (R.map mV) (cs R) (base++p.1.map Tk.b) k' e') fl S→Go (DX (n+1)) (RD (R.map mV) (cs R) base k e) fl S
  |none=>∃rho,∀n e,Go (DX (n+1)) (RD (R.map mV) (cs R) base k e) (.ret (AE base)) (RS 550 rho 20)
section
variable (hR:R.length≤1000) (h:R.drop k=m::l) (hb:base.length≤1000)
include hR h
theorem Hp {S1 S2} (h1:Go rL (rK R base k m.c (k+1:Nat) []) .next S1) (h2:Go (bB P1 (Ri 8 89) rZ) S1 .next S2) n (g:Go (DX n) S2 fl S):Go (DX (n+1)) (RD (R.map mV) (cs R) base k e) fl S:=by
  refine .to [T',.str [m.c]] (fun o=>LF n o) (kO hR (KC hR h) h rfl) ?_
  exact(Go.bind (show Go (rL.bind (dC (bB P1 (Ri 8 89) rZ))) (rK R base k m.c (k+1) []) .next S2 from .bind h1 h2) g).imp fun t g o=>gU.trans (g o)
theorem wE {rho} (h1:Go rL (rK R base k m.c (k+1:Nat) []) (.ret (AE base)) (RS 550 rho 20)):G1 R k base (m::l) none:=⟨rho,fun n e=>by
  exact .to [T',.str _] (fun o=>LF n o) (kO hR (KC hR h) h rfl) (.bind (.bind (.bind h1 .ret) .ret) .ret)⟩
include hb
theorem ln {k'} {t} {r} (hk:k≤k') (hr:R.drop k'=r) (ht:t=⟨so,cs ((m::l).take (k' -k)),m⟩) (hso:so≠[]) (h1:Go rL (rK R base k m.c (k+1:Nat) []) .next (rK R base k m.c k' so)):G1 R k base (m::l) (some ([t],r)):=by
  subst ht
  have qv:=by
    have:=Ac h (aY (dK h)) (k' -k)
    rwa [Nat.add_sub_cancel' hk] at this
  exact⟨k',some ⟨m.c,(k'),so⟩,hr,fun n e fl S g=>Hp hR h h1 (.k [T',.str (cs ((m::l).take (k' -k))),mV m,.int m.row,mV m,.int m.col] (fun o=>Of o)
    (af (af (af (af (af (af (af (af (af (af rfl (dF (decide_eq_false hso))) (uC hR)) qv) (pF hR h rfl)) (yf h rfl)) (aH _)) (pF hR h rfl)) (yf h rfl)) (aH _)) (le6 hb))) n g⟩
omit hb in
theorem wD {k'} {r} (hr:R.drop k'=r) (h1:Go rL (rK R base k m.c (k+1:Nat) []) .next (rK R base k m.c k' [])):G1 R k base (m::l) (some ([],r)):=
  ⟨k',some _,hr,fun n e fl S g=>Hp hR h h1 (.k [F'] (fun o=>Og o) rfl) n (by rwa [show base++[].map _=base from ax _] at g)⟩
end
theorem HU (a b:Nat):(b==a)=Nat.beq a b:=Bool.eq_iff_iff.mpr (beq_iff_eq.trans (eq_comm.trans (iff_of_eq Nat.beq_eq.symm)))
theorem LP (a b:Nat) l:[42,47].isPrefixOf (a::b::l)=(Nat.beq a 42&&Nat.beq b 47):=by
  show((42==a)&&((47==b)&&true))=_
  rw[HU,HU,ml]
theorem zc:∀l k,match eN l with
    |some r=>∃u,l=u++r∧dy [42,47] (cs l) k=some (k+u.length -2)∧2≤u.length
    |none=>dy [42,47] (cs l) k=none:=by
  intro l
  induction l with
  |nil=>exact fun k=>rfl
  |cons m l ih=>
   intro k
   induction l with
   |nil=>
    show(if([42,47].isPrefixOf [m.c])=true then some k else none)=none
    rw[show[42,47].isPrefixOf [m.c]=false from k_ _];rfl
   |cons m2 l=>
    have e:dy [42,47] (cs (m::m2::l)) k=cond (Nat.beq m.c 42&&Nat.beq m2.c 47) (some k) (dy [42,47] (cs (m2::l)) (k+1)):=by
      show(if([42,47].isPrefixOf (m.c::m2.c::cs l))=true then _ else _)=_
      rw[LP]
      cases Nat.beq _ 42&&Nat.beq _ 47<;>rfl
    refine e▸?_
    show match(match Nat.beq _ 42&&Nat.beq _ 47 with|true=>some l|false=>eN _) with|some r=>_|none=>_
    induction Nat.beq _ 42&&Nat.beq _ 47 with
    |true=>exact⟨[m,m2],rfl,rfl,aC 2⟩
    |false=>
     have ih:=ih (k+1)
     revert ih
     induction eN _ with
     |none=>exact id
     |some r=>exact fun⟨u,h1,h2,h3⟩=>⟨m::u,congrArg _ h1,h2.trans (congrArg (fun n=>some (n -2)) (bQ k 1 _)),aW h3⟩
section
variable (hR:R.length≤1000) (h:R.drop k=m::l) (hb:base.length≤1000)
include hR h hb
theorem EW (hm:m.c∈gz):G1 R k base (m::l) (nx m l):=by
  have h':=bY h
  have tk:∀(p:Mk→Bool),R.drop (k+1+(l.takeWhile p).length)=l.dropWhile p∧(m::l).take (k+1+(l.takeWhile p).length -k)=m::l.takeWhile p:=fun p=>by
    refine⟨by rw[←cC,h'];exact(congrArg (List.drop _) dO.symm).trans eX,?_⟩
    rw[bS,cm,cA,List.take_succ_cons]
    exact congrArg (m::·) ((congrArg (List.take _) dO.symm).trans M3)
  unfold nx
  cases q1:Nat.beq m.c 10 with
  |true=>exact ln hR h hb (k':=k+1) (cj k) h' (by rw[cm,show cs ((m::l).take 1)=[m.c] from rfl,aj q1]) (by decide) (.k [T'] (fun o=>LI o) (af rfl (by rw[d1,q1])))
  |false=>cases q2:Nat.beq m.c 32 with
   |true=>
    have e:tp m=true:=q2
    rw[e]
    exact ln hR h hb (so:=oX) (ac (cj k) (aA _ _)) (tk tp).1 (by rw[(tk tp).2]) (by decide) (.to [F',T'] (fun o=>Oh o) (af (af rfl (by rw[d1,q1];rfl)) (by rw[d1,q2])) (.nest (.bind (nO hR L5 (fun m=>d1 m.c 32) h') (.k [] (fun o=>by kernel_rfl) rfl)) 1))
   |false=>
    have e:tp m=false:=q2
    rw[e]
    cases q3:yt wc m.c with
    |true=>
     have e:qM m=true:=q3
     rw[e]
     exact ln hR h hb (so:=LB) (ac (cj k) (aA _ _)) (tk qM).1 (by rw[(tk qM).2]) (by decide) (.to [F',F',T'] (fun o=>Ol o) (af (af (af rfl (by rw[d1,q1];rfl)) (by rw[d1,q2];rfl)) q3) (.nest (.bind (nO hR L4 (fun m=>rfl) h') (.k [] (fun o=>by kernel_rfl) rfl)) 2))
    |false=>
     have e:qM m=false:=q3
     rw[e]
     have s3:t3 m.c=true:=af (af (af rfl (by rw[d1,q1];rfl)) (by rw[d1,q2];rfl)) (dF q3)
     have su:∀{X:Bool},X=true→uB (cs R) k (cs ((m::l).take 2)) X=true:=fun hX=>af (af hX (uC hR)) (Ac h (aY (dK h)) 2)
     have u47:∀y,(∀m2 l2,l=m2::l2→(Nat.beq m.c 47&&Nat.beq m2.c y)=false)→decide (cs ((m::l).take 2)=[47,y])=false:=fun y hy=>by
       induction l with
       |nil=>exact decide_eq_false fun h=>by injection h with _ h;injection h
       |cons m2 l2=>exact(d2 m.c m2.c 47 y).trans (hy m2 l2 rfl)
     have s5:(∀m2 l2,l=m2::l2→(Nat.beq m.c 47&&Nat.beq m2.c 47)=false)→(∀m2 l2,l=m2::l2→(Nat.beq m.c 47&&Nat.beq m2.c 42)=false)→t5 (cs R) k m.c (cs ((m::l).take 2))=true:=fun y1 y2=>af (su (af (su s3) (dF (u47 47 y1)))) (dF (u47 42 y2))
     have quo:Nat.beq m.c 47=false→(m.c=34∨m.c=39)→∀so:List Nat,so=cond (Nat.beq m.c 34) sC LC→(∀S fl,Go qY (rK R base k m.c (k+1:Nat) []) fl S→Go rL (rK R base k m.c (k+1:Nat) []) fl S)→G1 R k base (m::l) ((GF m l).map fun p=>([⟨so,cs (m::p.1),m⟩],p.2)):=fun q47 hq so hso hy=>by
       have b1:Go (oR P1 (Ri 8 83) (sub (e_ qq) 0)) (rK R base k m.c (k+1:Nat) []) .next (rK R base k m.c (iJ (k+1) (GF m l)) []):=.via (sub (e_ qq) 0) (n:=81) (c:=C 8) (by kernel_rfl) (fun o=>by kernel_rfl) (ul hR h hq (a0:=550) (rho:=LG (R.map mV) (cs R) (.own base) k (some ⟨m.c,(k+1:Nat),[]⟩))) (.k [] (fun o=>by kernel_rfl) rfl)
       induction hs:GF m l with
       |none=>
        rw[hs] at b1
        exact wE hR h (rho:=LG (R.map mV) (cs R) (.lst base) k (some ⟨m.c,0,[]⟩)) (hy _ _ (.nestR (.step b1 (.stop1 (.k [T'] (fun o=>by kernel_rfl) rfl))) 5))
       |some p=>
        rw[hs] at b1
        have hap:l=p.1++p.2:=by
          revert hs
          unfold GF
          induction Nat.beq m.c 34 with
          |true=>exact ng _ _ _
          |false=>exact xI
        refine ln hR h hb (k':=k+1+p.1.length) (so:=so) (ac (cj k) (aA _ _)) (by rw[←cC,h',hap];exact eX) (by rw[bS,cm,cA,List.take_succ_cons,hap,M3]) (by rw[hso];cases Nat.beq m.c 34<;>decide) (hy _ _ (.nest (x:=bB P1 (Ri 8 83) [sub (e_ qq) 0,sub (e_ qq) 1,sub (e_ qq) 2]) (.step b1 (.step (show Go (oR P1 (Ri 8 83) (sub (e_ qq) 1)) (rK R base k m.c (iJ (k+1) (some p)) []) .next (rK R base k m.c (iJ (k+1) (some p)) []) from .k [F'] (b:=av true (!decide (iJ (k+1) (some p)=0))) (fun o=>by kernel_rfl) (af rfl (dF (decide_eq_false fun e=>oH (k+p.1.length) ((bQ k p.1.length 1).trans (x9.mp e)))))) (.step ?_ .ret))) 5))
        rw[hso]
        induction h34:Nat.beq m.c 34 with
        |true=>exact .k [T'] (b:=av true (decide ([m.c]=[34]))) (fun o=>by kernel_rfl) (af rfl (by rw[d1,h34]))
        |false=>exact .k [F'] (b:=av true (!decide ([m.c]=[34]))) (fun o=>by kernel_rfl) (af rfl (by rw[d1,h34];rfl))
     induction q4:Nat.beq m.c 34 with
     |true=>
      have q47:Nat.beq m.c 47=false:=by rw[(aj q4)];rfl
      have g:=quo q47 (.inl (aj q4)) sC (by rw[q4];rfl) fun S fl g=>.to [F',F',F',.str (cs ((m::l).take 2)),F',.str (cs ((m::l).take 2)),F',T'] (fun o=>Oo o) (af (s5 (fun ζ ζ ζ=>by rw[q47];rfl) fun ζ ζ ζ=>by rw[q47];rfl) (by rw[d1,q4])) g
      unfold GF at g
      rw[q4] at g;exact g
     |false=>induction q5:Nat.beq m.c 39 with
      |true=>
       have q47:Nat.beq m.c 47=false:=by rw[(aj q5)];rfl
       have g:=quo q47 (.inr (aj q5)) LC (by rw[q4];rfl) fun S fl g=>.to [F',F',F',.str (cs ((m::l).take 2)),F',.str (cs ((m::l).take 2)),F',F',T'] (fun o=>On o) (af (af (s5 (fun ζ ζ ζ=>by rw[q47];rfl) fun ζ ζ ζ=>by rw[q47];rfl) (by rw[d1,q4];rfl)) (by rw[d1,q5])) g
       unfold GF at g
       rw[q4] at g;exact g
      |false=>
       have s6:(∀m2 l2,l=m2::l2→(Nat.beq m.c 47&&Nat.beq m2.c 47)=false)→(∀m2 l2,l=m2::l2→(Nat.beq m.c 47&&Nat.beq m2.c 42)=false)→t6 (cs R) k m.c (cs ((m::l).take 2))=true:=fun y1 y2=>su (af (af (s5 y1 y2) (by rw[d1,q4];rfl)) (by rw[d1,q5];rfl))
       have one:(∀m2 l2,l=m2::l2→(Nat.beq m.c 47&&Nat.beq m2.c 47)=false)→(∀m2 l2,l=m2::l2→(Nat.beq m.c 47&&Nat.beq m2.c 42)=false)→LR (cs ((m::l).take 2))=false→G1 R k base (m::l) (some ([⟨[m.c],[m.c],m⟩],l)):=fun y1 y2 hp=>
         ln hR h hb (k':=k+1) (so:=[m.c]) (cj k) h' (by rw[cm];rfl) (br _ _) (.k [F',F',F',.str (cs ((m::l).take 2)),F',.str (cs ((m::l).take 2)),F',F',F',.str (cs ((m::l).take 2)),F',.str [m.c]] (fun o=>Oj o) (af (af (af (s6 y1 y2) (dF hp)) (uC hR)) (Ac h (aY (dK h)) 1)))
       induction l with
       |nil=>exact one (fun ζ ζ h=>nomatch h) (fun ζ ζ h=>nomatch h) (pr1 m.c)
       |cons m2 l2=>
        show G1 _ _ _ _ (cond (Nat.beq m.c 47&&Nat.beq m2.c 47) _ (cond (Nat.beq m.c 47&&Nat.beq m2.c 42) _ (cond (yt (yP m.c) m2.c) _ _)))
        have y:∀{y:Nat} {b:Bool},(Nat.beq m.c 47&&Nat.beq m2.c y)=b→∀m3 l3,m2::l2=m3::l3→(Nat.beq m.c 47&&Nat.beq m3.c y)=b:=fun e m3 l3 q=>by injection q with q1 q2;exact q1▸e
        induction q6:Nat.beq m.c 47&&Nat.beq m2.c 47 with
        |true=>
         have g:=(tk fY).1
         rw[dq (show fY m2=true from dF (by rw[aj (aa.mp q6).2];rfl))] at g
         exact wD hR h g (.to [F',F',F',.str [m.c,m2.c],T'] (fun o=>Ok o) (af (su s3) ((d2 ..).trans q6)) (.nest (nO hR L3 (fun m=>congrArg not (d1 m.c 10)) h') 4))
        |false=>induction q7:Nat.beq m.c 47&&Nat.beq m2.c 42 with
         |true=>
          have sf:O5 (cs R) k m.c (cs ((m::m2::l2).take 2))=true:=af (af (su (af (su s3) (dF (u47 47 (y q6))))) ((d2 ..).trans q7)) (aa.mpr ⟨decide_eq_true (eu (k+2)),aa.mpr ⟨decide_eq_true (by rw[D2 hR];exact DE.mpr (dK h')),uC hR⟩⟩)
          have fs:=zc l2 (k+2)
          have fe:Jz (cs R) k=(match dy [42,47] (cs l2) (k+2) with|some k=>(k:Int)|none=>-1)+2:=by
            refine (rh (bY h'))▸?_;rfl
          show G1 _ _ _ _ ((eN l2).map fun r=>([],r))
          revert fs
          induction eN l2 with
          |none=>exact fun fs=>wE hR h (.k [F',F',F',.str [m.c,m2.c],F',.str [m.c,m2.c],T',T'] (fun o=>LJ o) (af sf (decide_eq_true (by rw[fe,fs];rfl))))
          |some r=>
           intro fs
           obtain⟨u,h1,h2,h3⟩:=fs
           have ev:Jz (cs R) k=((k+2+u.length:Nat):Int):=by
             rw[fe,h2]
             show(((k+2+u.length -2:Nat):Int))+((2:Nat):Int)=_
             rw[←Int.natCast_add,zF (ac h3 (be _ _))]
           have g:Go rL (rK R base k m.c (k+1:Nat) []) .next (rK R base k m.c (Jz (cs R) k) []):=.k [F',F',F',.str [m.c,m2.c],F',.str [m.c,m2.c],T',F'] (fun o=>Om o) (af sf (dF (decide_eq_false fun e=>by
             rw[ev] at e
             exact oH (k+u.length) (Nat.succ.inj ((bQ k 2 u.length).symm.trans (x9.mp e))))))
           rw[ev] at g
           exact wD hR h (by rw[←cC,bY h',h1];exact eX) g
         |false=>
          have e:=(pr2 m.c m2.c).trans (LQ.mem hm m2.c)
          induction q8:yt (yP m.c) m2.c with
          |false=>exact one (y q6) (y q7) (e.trans q8)
          |true=>exact ln hR h hb (k':=k+2) (so:=[m.c,m2.c]) (aA k 2) (bY h') (by rw[cm];rfl) (br _ _) (.k [F',F',F',.str [m.c,m2.c],F',.str [m.c,m2.c],F',F',F',.str [m.c,m2.c],T',.str [m.c,m2.c]] (fun o=>Oi o) (su (af (s6 (y q6) (y q7)) (e.trans q8))))
end
end
section
variable {L:List Mk} {b:Mk} {n c k dp:Nat} {o w bW:List V} {v:V} {e:Option Kh} {S2:Sb} {r:dN} {qs:List (List Nat)} {g:Expr}
theorem EX (hR:R.length≤1000) (hA:∀m∈R,m.c∈gz):∀n k L base e,R.drop k=L→L.length<n→base.length+L.length≤1000→
    ∃rho,∀j,Go (DX (j+n)) (RD (R.map mV) (cs R) base k e) (.ret (.tup [.lst (base++(bo n L).1.map Tk.b),.bool (bo n L).2])) (RS 550 rho 20):=by
  intro n
  induction n with
  |zero=>exact fun k L base e ζ h=>absurd h (cg _)
  |succ n ih=>
   intro k L base e h hn hb
   induction L with
   |nil=>
    rw[show base++(bo (n+1) []).1.map Tk.b=base from ax _]
    exact⟨_,fun j=>.k [F'] (fun o=>Ob (j+n) o) (by rw[D2 hR];exact vG hR (cn.mp h))⟩
   |cons m l=>
    have hk:=nB m l
    have ht:=EW hR h (ac (aA _ _) hb) (hA m (List.mem_of_mem_drop (by rw[h];exact .head _)))
    have key:∀p,nx m l=some p→p.1.length≤1→(∃u,l=u++p.2)→G1 R k base (m::l) (some p)→∃rho,∀j,Go (DX (j+(n+1))) (RD (R.map mV) (cs R) base k e) (.ret (.tup [.lst (base++(bo (n+1) (m::l)).1.map Tk.b),.bool (bo (n+1) (m::l)).2])) (RS 550 rho 20):=by
      intro p hp h1 ⟨u,hu⟩ ⟨k',e',q1,q2⟩
      have le:=hu▸aq▸be _ _
      obtain⟨rho,g⟩:=ih k' p.2 (base++p.1.map Tk.b) e' q1 (aR le (aV hn)) (by
        rw[aq,au,bS]
        exact ac (dQ (ac (gZ h1 le) (aJ (cA 1 _))) _) hb)
      refine⟨rho,fun j=>q2 (j+n) e _ _ ?_⟩
      show Go _ _ (Fl.ret (.tup [.lst (base++(match nx m l with|some p=>(p.1++(bo n p.2).1,(bo n p.2).2)|none=>([],true)).1.map Tk.b),.bool (match nx m l with|some p=>(p.1++(bo n p.2).1,(bo n p.2).2)|none=>([],true)).2])) _
      rw[hp, ch,←am]
      exact g j
    generalize hq:nx m l=q at ht hk
    induction hk with
    |no=>
     rw[show bo (n+1) (m::l)=([],true) by
      show(match nx m l with|some p=>(p.1++(bo n p.2).1,(bo n p.2).2)|none=>([],true))=_
      rw[hq],show base++([]).map Tk.b=base from ax _]
     exact ht.imp fun rho g j=>g (j+n) e
    |skip u r e=>exact key _ hq (bt 1) ⟨u,e⟩ ht
    |tok t u r e=>exact key _ hq (aC 1) ⟨u,e⟩ ht
theorem Ar qs:iU (bn qs)=some qs:=by
  induction qs with
  |nil=>rfl
  |cons q qs ih=>exact congrArg _ ih
theorem LT {s} (h:s.ob=true):wK s true=s:=by rcases s with⟨⟩;subst h;rfl
theorem Go.jn (hc:hZ g=true) (h:Go (r.ev g) S (.own (bn qs)) S1) (ho:∀o,(S1 o true).ob=true) (hl:(b_ [] qs).length≤1000):Go ((uH r [g]).bind (ez [] (ae "join"))) S (.str (b_ [] qs)) S1:=h.imp fun t h o=>by
  refine bd (a:=[.lst (bn qs)]) (s1:=S1 o true) ?_ ?_
  ·show((gT _ _ _).bind _).run _=_
   rw[hc]
   exact bd (bd (h o) rfl) rfl
  ·rw[show ez [] _ _=oT (iU _) "join" fun ss=>nT (Nat.ble 0 100000&&Nat.ble (b_ [] ss).length _) (rT (V.str _)) by kernel_rfl,Ar]
   show lM.ok _ (wK _ _)=_
   rw[le6 hl,ho]
   exact congrArg _ (LT (ho o))
noncomputable def CQ (a dp:Nat) (c:Expr) (rho:List (Str×V)) (o:List V) (ob:Bool):St:=
  {rho:=rho,sc:=(eV c).2.2.names,r0:=.taken,r1:=.taken,r2:=.taken,r3:=.taken,outs:=[],orc:=o,md:=(cf a).law,ob:=ob,dp:=dp,hd:=false}
noncomputable def GN:Expr→Expr
  |.Call _ [a] _ _=>a
  |_=>DZ
noncomputable abbrev AF:=GN (o4 (bh 550 0))
noncomputable def mR:Option Mk→List (Str×V)
  |none=>[]
  |some m=>[(ae "m",mV m)]
theorem lf {α:Type} {f} {val} {St:Option α→Sb} {g:Expr×Comprehension×Scope} {ok:α→Bool} (hk:∀x,ok x=true) (h1:∀e x o,(n_ r g.2.1.target g.2.1.ifs g.1 (f x)).run (St e (.str (val x)::o) true)=.ok (some (.str (val x))) (St (some x) o (ok x))) (h2:∀e o,(St e o true).orc=o∧(St e o true).ob=true∧(St e o true).outs=[]):
    ∀(l:List α) bW e,bW.length+l.length≤1000→mj (dT P1 r g.2.1.target g.2.1.ifs g.1 (l.map f) bW) (St e) (bW++bn (l.map val)) []:=by
  intro l
  induction l with
  |nil=>exact fun bW e h=>Go.o (.k [] (fun o=>congrArg (fun z=>lM.ok z _) (ax bW).symm) rfl) (h2 e)
  |cons x l ih=>
   intro bW e h
   rw[show bW++bn _=bW++[.str _]++bn _ from(am bW [V.str _] _).symm]
   exact ik (.k [.str _] (fun o=>h1 e x o) (hk x)) rfl (cz.mpr (ac (aQ (ac (aA _ _) h)) (by decide))) (ih _ _ (by rw[jW];exact h))
theorem yz (hR:R.length<1000) (hA:∀m∈R,m.c∈gz) {a0:Nat}:Go (C 9 (.glob 550) [.lst (R.map mV)] []) (RS a0 rho 21) (.tup [.lst ((bo 1000 R).1.map Tk.b),.bool (bo 1000 R).2]) (RS a0 rho 21):=by
  have hR':=aY hR
  obtain⟨bs,h⟩:=EX hR' hA 1000 0 R [] none rfl hR (ac (aJ (bD _)) hR')
  have e:∀o,(jw P1 (Lv 9) (bh 550 0)).run (RS 550 [(ae "marks",.lst (R.map mV))] 20 o true)=(((uH (Ri 8 89) [AF]).bind (ez [] (ae "join"))).bind fun v=>de (iK P1 (gj (bh 550 0)) v)).run (RS 550 [(ae "marks",.lst (R.map mV))] 20 o true):=fun o=>by kernel_rfl
  have g:Go (dh P1 (Ri 8 88) AF) (RS 550 [(ae "marks",.lst (R.map mV))] 20) (.own (bn (R.map fun m=>[m.c]))) (RS 550 [(ae "marks",.lst (R.map mV))] 20):=
    .lc (c:=AF) (elt:=(eV AF).1) (g:=(eV AF).2.1) (sc:=(eV AF).2.2) (by kernel_rfl) (.cmp (src:=.lst (R.map mV)) (d:=0) (z:=.none) (vs:=R.map mV) (S1:=RS 550 [(ae "marks",.lst (R.map mV))] 20) (S2:=CQ 550 20 AF []) (fun o=>by kernel_rfl) (.k [] (fun o=>by kernel_rfl) rfl) rfl (fun o=>rfl) (fun o=>by kernel_rfl) (lf (g:=eV AF) (f:=mV) (val:=fun m=>[m.c]) (St:=fun e=>CQ 550 20 AF (mR e)) (fun m=>af rfl (aH (.str [m.c]))) (fun e m o=>by cases e<;>kernel_rfl) (fun e o=>⟨rfl,rfl,rfl⟩) R [] none (ac (aJ (bD _)) hR')) (fun o o' s q1 q2=>Eq.trans (b:=RS 550 [(ae "marks",.lst (R.map mV))] 20 s.orc s.ob) (by kernel_rfl) (by rw[q1,q2])) (i7 _))
  refine .rs (b:=[(ae "marks",.lst (R.map mV))]) (bs:=bs) (fl:=.ret _) (by kernel_rfl) (by kernel_rfl) (.eq (show _=(jw P1 (Lv 9) (bh 550 0)).bind (dC ((jw P1 (Lv 9) (bh 550 1)).bind (dC (DX 100000)))) by kernel_rfl) (.bind (a:=Fl.next) (S1:=RS 550 [(ae "marks",.lst (R.map mV)),(ae "text",.str (cs R))] 20) (.as e (.bind (.jn (qs:=R.map fun m=>[m.c]) (by kernel_rfl) (.eq (show(Ri 8 89).ev AF=dh P1 (Ri 8 88) AF by kernel_rfl) g) (fun o=>rfl) (by rw[(HG R),D2 hR'];exact hR')) (by rw[(HG R)];exact .k [] fun o=>by kernel_rfl rfl))) (.bind (a:=Fl.next) (.k [] fun o=>by kernel_rfl rfl) (h 99000))))
end
section
structure DN where
  k:Int
  t:Tk
  ins:Option (List V)
  ah:Option (List Nat)
variable {W w o bW ins:List V} {n a k:Nat} {swp X:Bool} {op kk j:Int} {e:Option DN} {t:Tk} {ah:Option (List Nat)}
noncomputable def duE:Option DN→List (Str×V)
  |none=>[]
  |some e=>[(ae "place",.int e.k),(ae "sort",.str e.t.typ),(ae "piece",.str e.t.val),(ae "row",.int e.t.m.row),(ae "column",.int e.t.m.col)]++(match e.ins with|none=>[]|some l=>(ae "inside",.own l)::(match e.ah with|none=>[]|some a=>[(ae "ahead",.str a)]))
noncomputable def JQ tx swp B rf:=DV tx swp++[(ae "base",.lst B),(ae "refused",.bool rf)]
noncomputable def duR tx swp B rf (due:V) op e:=JQ tx swp B rf++[(ae "due",due),(ae "opened",.int op)]++duE e
noncomputable def DU (tx:List Nat) (swp:Bool) (B:List V) (rf:Bool) (due:List V) (op:Int) (e:Option DN):Sb:=RS 555 (duR tx swp B rf (.own due) op e) 21
noncomputable abbrev oN tx swp B rf due op k t ins ah:=DU tx swp B rf due op (some ⟨k,t,some ins,ah⟩)
noncomputable abbrev Gk:=e_ (bh 555 3)
noncomputable abbrev zk:=o4 (sub Gk 1)
noncomputable abbrev D1:=sub Gk 2
noncomputable abbrev JR:=sub (I0 D1) 0
noncomputable abbrev duJ:=sub (e_ JR) 0
noncomputable abbrev xz:=GN (o4 duJ)
noncomputable def pR (B:List V) (e:Option Int):List (Str×V):=(ae "base",.lst B)::(match e with|none=>[]|some p=>[(ae "p",.int p)])
noncomputable abbrev CP (B:List V) (e:Option Int):Sb:=CQ 555 21 zk (pR B e)
noncomputable def NF (e:Option DN):=e.bind fun e=>e.ins.bind fun ζ=>e.ah
noncomputable def A_ B k v X:=av (av X (zQ B.length k)) (vI B k v)
section
variable (k:Int) (t:Tk) (ins:List V) (ah:Option (List Nat)) (o:List V)
theorem O9:((im P1 (gj (bh 555 3)) (.int k)).bind fun ζ=>(Lv 10).ex Gk).run (DU tx swp BV rf due op e (t.b::o) true)=(bB P1 (Ri 9 89) [sub Gk 1,D1]).run (DU tx swp BV rf due op (some ⟨k,t,e.bind (·.ins),e.bind (·.ah)⟩) o (A_ BV k t.b true)):=by rcases e with _|⟨_,_,_|_,_|_⟩<;>kernel_rfl
theorem Pa l:(bB P1 (Ri 9 89) [sub Gk 1,D1]).run (DU tx swp BV rf due op (some ⟨k,t,l,ah⟩) o true)=(((rj P1 (Ri 9 89) (eV zk).1 [(eV zk).2.1] (eV zk).2.2).bind fun l=>de (iK P1 (gj (sub Gk 1)) (.own l))).bind (dC (bB P1 (Ri 9 89) [D1]))).run (DU tx swp BV rf due op (some ⟨k,t,l,ah⟩) o true):=by trivial
theorem MG:(bB P1 (Ri 9 89) [D1]).run (oN tx swp BV rf due op k t ins ah (T'::T'::o) true)=.ok .next (oN tx swp BV rf (due++[eA ⟨fR,[],[],true,t.m⟩]) (k+1) k t ins ah o (av (av (av (av true (decide (t.typ=fR))) (B6 ins)) (decide ((ins.length:Int)=0))) (B6 due))):=by cases ah<;>kernel_rfl
theorem MH:(bB P1 (Ri 9 89) [D1]).run (oN tx swp BV rf due op k t ins ah (T'::F'::o) true)=.ok .next (oN tx swp BV rf due (k+1) k t ins ah o (av (av (av true (decide (t.typ=fR))) (B6 ins)) (!decide ((ins.length:Int)=0)))):=by cases ah<;>kernel_rfl
theorem MC:(bB P1 (Ri 9 89) [D1]).run (oN tx swp BV rf due op k t ins ah (F'::F'::o) true)=.ok .next (oN tx swp BV rf due op k t ins ah o (av (av true (!decide (t.typ=fR))) (!(!decide (t.typ=oX))))):=by rfl
theorem MD:(bB P1 (Ri 9 89) [D1]).run (oN tx swp BV rf due op k t ins ah (F'::T'::o) true)=(nest ((((uH (Ri 9 86) [xz]).bind (ez [] (ae "join"))).bind fun v=>de (iK P1 (gj duJ) v)).bind (dC (bB P1 (Ri 9 87) [sub (e_ JR) 1]))) 2).run (oN tx swp BV rf due op k t ins ah o (av (av true (!decide (t.typ=fR))) (!decide (t.typ=oX)))):=by cases ah<;>kernel_rfl
theorem MI a:(bB P1 (Ri 9 87) [sub (e_ JR) 1]).run (oN tx swp BV rf due op k t ins (some a) o true)=.ok .next (oN tx swp BV rf (due++[eA ⟨t.typ,t.val,a,decide ((ins.length:Int)=0),t.m⟩]) op k t ins (some a) o (av (av true (B6 ins)) (B6 due))):=by kernel_rfl
theorem PM W j:((Ri 9 85).ev (eV xz).2.1.iter).run (oN tx swp BV rf due op k t ins ah (T'::.int j::.own W::o) true)=.ok (.own W) (oN tx swp BV rf due op k t ins ah o (av (av (A_ ins (-1) (.int j) (av (av true (!ins.isEmpty)) (B6 ins))) (B6 BV)) (vO BV (j+1) k W))):=by trivial
theorem PN W:((Ri 9 85).ev (eV xz).2.1.iter).run (oN tx swp BV rf due op k t ins ah (F'::.own W::o) true)=.ok (.own W) (oN tx swp BV rf due op k t ins ah o (av (av (av (av true (!(!ins.isEmpty))) (B6 ins)) (B6 BV)) (vO BV op k W))):=by rfl
end
end
section
variable {S W R:List Tk} {bW ins:List V} {n a k op:Nat} {swp X:Bool} {e:Option DN} {t:Tk} {ah:Option (List Nat)}
noncomputable abbrev rN (t:Tk):=decide (t.typ=oX)
noncomputable def jc:Nat→List Tk→List Nat
  |_,[]=>[]
  |a,t::S=>cond (rN t) (jc (a+1) S) (a::jc (a+1) S)
theorem tu S R:∀a,jc a (S++R)=jc a S++jc (a+S.length) R:=by
  induction S with
  |nil=>exact fun a=>rfl
  |cons t S ih=>
   intro a
   show cond _ _ _=cond _ _ _++_
   refine ((show jc _ _=jc _ S++jc _ R from bQ a 1 _▸ih _))▸?_
   cases rN t<;>rfl
noncomputable abbrev dM (l:List _):=l.map fun(p:Nat)=>V.int p
noncomputable abbrev ey (B:List Tk):=B.map Tk.b
noncomputable def lo op (I:List _):=match I.getLast? with|some p=>p+1|none=>op
inductive DG (op:Nat):List Tk→List Nat→List Tk→Prop
  |nil:DG op [] [] []
  |ws {S W:List Tk} {I:List Nat} {t:Tk}:DG op S I W→rN t=true→DG op (S++[t]) I (W++[t])
  |tk {S W:List Tk} {I:List Nat} {t:Tk}:DG op S I W→rN t=false→DG op (S++[t]) (I++[op+S.length]) []
noncomputable abbrev nw (S:List Tk):=S.filter fun t=>!rN t
theorem DG.is (h:DG op S I W):jc op S=I∧(∃S1,S=S1++W∧lo op I=op+S1.length)∧(nw S).isEmpty=I.isEmpty∧I.length≤S.length:=by
  induction h with
  |nil=>exact⟨rfl,⟨[],rfl,rfl⟩,rfl,aC _⟩
  |@ws S W I t h hw ih=>
   refine hR fun o O=>?_
   obtain⟨h1,⟨S1,h2,h3⟩,h4,h5⟩:=ih
   refine O ?_
   refine⟨?_,⟨S1,by rw[h2,am],h3⟩,?_,ac h5 (aq▸aA _ _)⟩
   ·rw[tu,h1]
    show I++cond _ [] _=I
    exact hw▸(ax I)
   ·rw[←h4]
    show(List.filter _ _).isEmpty=_
    rw[List.filter_append,show[t].filter _=[] by rw[List.filter_cons_of_neg (by rw[hw];trivial)];rfl,ax]
  |@tk S W I t h hw ih=>
   refine⟨?_,⟨S++[t],(ax _).symm,?_⟩,?_,?_⟩
   ·rw[tu,ih.1]
    show I++cond _ [] _=_
    refine hw▸?_;rfl
   ·unfold lo
    rw[List.getLast?_append,aq];rfl
   ·show(List.filter _ _).isEmpty=_
    rw[List.filter_append,show[t].filter _=[t] by rw[List.filter_cons_of_pos (hw▸rfl)];rfl]
    cases List.filter _ S<;>cases I<;>rfl
   ·rw[aq,aq];exact aQ ih.2.2.2
theorem sJ {a n:Nat} k (h:a<n):cQ a n 1 (k+1)=.int a::cQ ((a+1:Nat)) n 1 k:=by
  show(if(a:Int)<n then _ else _)=_
  rw[if_pos (DD.mpr h)];rfl
section
variable (hB:B.length≤1000)
theorem Mh e k (t:Tk) o:(n_ (Ri 9 89) (eV zk).2.1.target (eV zk).2.1.ifs (eV zk).1 (.int k)).run (CP BV e (t.b::.str t.typ::T'::o) true)=.ok (some (.int k)) (CP BV (some k) o (av (av (A_ BV k t.b true) (jN (.str t.typ) (.str t.typ))) (!decide (t.typ=oX)))):=by cases e<;>kernel_rfl
theorem Mi e k (t:Tk) o:(n_ (Ri 9 89) (eV zk).2.1.target (eV zk).2.1.ifs (eV zk).1 (.int k)).run (CP BV e (t.b::.str t.typ::F'::o) true)=.ok none (CP BV (some k) o (av (av (A_ BV k t.b true) (jN (.str t.typ) (.str t.typ))) (!(!decide (t.typ=oX))))):=by cases e<;>kernel_rfl
include hB
theorem L7 (h:B.drop k=t::R) (hX:X=true):A_ (ey B) k t.b X=true:=af (af hX (by rw[au];exact my (dK h) hB)) (wq (by rw[←iL,h];rfl))
theorem BK (n):∀S a bW (e),B.drop a=S++R→a+S.length≤n→bW.length+S.length≤1000→mj (dT P1 (Ri 9 89) (eV zk).2.1.target (eV zk).2.1.ifs (eV zk).1 (cQ a n 1 S.length) bW) (CP (ey B) e) (bW++dM (jc a S)) []:=by
  intro S
  induction S with
  |nil=>exact fun a bW e ζ ζ ζ=>Go.o (.k [] (fun o=>congrArg (fun z=>lM.ok z (CP (ey B) e o true)) (ax bW).symm) rfl) fun o=>⟨rfl,rfl,rfl⟩
  |cons t S ih=>
   intro a bW e h hn hl
   have hn':=ac (aJ (bQ a 1 S.length)) hn
   rw[show(t::S).length=S.length+1 from rfl,sJ S.length (et (dk a) (ac (aA _ _) hn'))]
   have q0:av (A_ (ey B) a t.b true) (jN (.str t.typ) (.str t.typ))=true:=af (L7 hB h rfl) (aH _)
   show mj _ _ (bW++dM (cond (rN t) _ _)) _
   induction hw:rN t with
   |true=>exact n9 (.k [t.b,.str t.typ,F'] (fun o=>Mi e a t o) (af q0 (by rw[show decide (t.typ=oX)=true from hw];rfl))) (ih (a+1) bW (some a) (bY h) hn' (bv hl))
   |false=>
    rw[show bW++dM (cond false (jc (a+1) S) (a::jc (a+1) S))=bW++[.int a]++dM (jc (a+1) S) from(am bW [V.int a] _).symm]
    exact ik (.k [t.b,.str t.typ,T'] (fun o=>Mh e a t o) (af q0 (by rw[show decide (t.typ=oX)=false from hw];rfl))) rfl (cz.mpr (ac (aQ (ac (aA _ _) hl)) (by decide))) (ih (a+1) _ (some a) (bY h) hn' (by rw[jW];exact hl))
theorem Gi (hi:DG op S I W) (h:B.drop op=S++t::R) (hk:k=op+S.length) (hl:k<B.length) (g:Go (bB P1 (Ri 9 89) [D1]) (oN tx swp (ey B) rf due op k t (dM I) (NF e)) fl S1):
    Go ((im P1 (gj (bh 555 3)) (.int k)).bind fun ζ=>(Lv 10).ex Gk) (DU tx swp (ey B) rf due op e) fl S1:=by
  have hr:((k:Int) -op).toNat=S.length:=by
    rw[hk,Int.natCast_add,o7,zJ];exact g8 _
  have hc:=BK hB k S op [] none h (aJ hk.symm) (ac (aJ (bD _)) (ac (be _ op) (hk▸ac (aY hl) hB)))
  rw[hi.is.1] at hc
  refine .to [t.b] (fun o=>O9 k t o) (L7 hB (by rw[hk,←cC,h];exact eX) rfl) (.as (fun o=>Pa k t _ o _) (.bind (a:=Fl.next) (.bind (S1:=DU tx swp (ey B) rf due op (some ⟨k,t,e.bind (·.ins),e.bind (·.ah)⟩)) (.cmp fun o=>by kernel_rfl (.k [] (b:=av true (jF op k 1)) (fun o=>Eq.trans (b:=.ok (.rng (cQ op k 1 ((k:Int) -op).toNat)) (DU tx swp (ey B) rf due op (some ⟨k,t,e.bind (·.ins),e.bind (·.ah)⟩) o (av true (jF op k 1)))) (by rcases e with _|⟨_,_,_|_,_|_⟩<;>kernel_rfl) (by rw[hr])) (af rfl (aa.mpr ⟨rfl,aa.mpr ⟨le6 (ac (hk▸aA _ _) (ac (aY hl) hB)),aa.mpr ⟨le6 (ac (aY hl) hB),rfl⟩⟩⟩))) rfl (fun o=>rfl) fun o=>by kernel_rfl hc (fun o o' s q1 q2=>?_) (aB.mpr fun v h=>(bw.mp h).elim fun q h=>h.2▸rfl)) (.k [] (fun o=>?_) rfl)) g))
  ·exact Eq.trans (b:=DU tx swp (ey B) rf due op (some ⟨k,t,e.bind (·.ins),e.bind (·.ah)⟩) s.orc s.ob) (by kernel_rfl) (by rw[q1,q2])
  ·rcases e with _|⟨_,_,_|_,_|_⟩<;>kernel_rfl
end
end
section
variable {S W R:List Tk} {bW ins:List V} {n a k op:Nat} {swp X:Bool} {e:Option DN} {t:Tk} {ah:Option (List Nat)}
noncomputable def mf (W:List Tk):=b_ [] (W.map (·.val))
theorem C0 W (t:Tk):mf (W++[t])=mf W++t.val:=by
  induction W with
  |nil=>rfl
  |cons a W ih=>induction W with
   |nil=>exact congrArg (· ++t.val) (ax _)
   |cons b W=>exact(congrArg _ ih).trans (am _ _ _).symm
theorem Gz W:(mf W).length=fw W:=by
  induction W with
  |nil=>rfl
  |cons a W ih=>induction W with
   |nil=>rfl
   |cons b W=>
    show(a.val++[]++mf (b::W)).length=a.val.length+fw (b::W)
    rw[ax,aq,ih]
noncomputable def PG:Option Tk→List (Str×V)
  |none=>[]
  |some t=>[(ae "b",t.b)]
theorem ro (k n:Nat) (h:k≤n):jy k n=k:=by rw[kR];exact Kk h
theorem HE X p (h:(X++[p]).length≤1000) {Y} (hY:Y=true):A_ (X++[p]) (-1) p Y=true:=by
  have e:(X++[p]).length=X.length+1:=aq
  rw[e] at h
  have i:rO (-1) (X.length+1)=X.length:=by
    show((-1:Int)+(X.length+1:Nat)).toNat=_
    rw[show(-1:Int)+(X.length+1:Nat)=X.length from(o7 ..).trans (zJ X.length 1)];rfl
  refine af (af hY ?_) ?_
  ·rw[e]
   exact aa.mpr ⟨aa.mpr ⟨decide_eq_true (Int.neg_le_neg (DE.mpr (aQ (bt _)))),rfl⟩,le6 h⟩
  ·unfold vI
   rw[e,i,cB,List.getElem?_append_right (aC _),Nat.sub_self]
   exact aH _
section
variable (hB:B.length≤1000) (hv:fw B≤1000) (hi:DG op S I W) (h:B.drop op=S++t::R) (hk:k=op+S.length) (hl:k<B.length)
include hB hv hi h hk hl
theorem Gh:Go ((uH (Ri 9 86) [xz]).bind (ez [] (ae "join"))) (oN tx swp (ey B) rf due op k t (dM I) ah) (.str (mf W)) (oN tx swp (ey B) rf due op k t (dM I) ah):=by
  obtain⟨-,⟨S1,h2,h3⟩,-,h5⟩:=hi.is
  have hS:S.length≤1000:=ac (be _ op) (hk▸ac (aY hl) hB)
  have b6:B6 (ey B)=true:=le6 (by rw[au];exact hB)
  have i6:B6 (dM I)=true:=le6 (by rw[au];exact ac h5 hS)
  have hW:fw W≤1000:=ac (by
    rw[←List.take_append_drop op B,h,h2,lz,lz,lz]
    exact ac (ac (be _ _) (aA _ _)) (be _ _)) hv
  have q:∀j:Int,j=(lo op I:Nat)→vO (ey B) j k (W.map Tk.b)=true:=fun j hj=>by
    have hle:lo op I+W.length=k:=by rw[h3,hk,h2,aq,bS]
    unfold vO
    rw[hj,←hle,mr (by rw[au];exact ac (aA _ _) (hle▸aY hl)),←iL,(show B.drop (lo op I)=W++t::R from by rw[h3,←cC,h,h2,am];exact eX),ch,List.take_left' (au _)]
    exact aH _
  have it:Go ((Ri 9 85).ev (eV xz).2.1.iter) (oN tx swp (ey B) rf due op k t (dM I) ah) (.own (W.map Tk.b)) (oN tx swp (ey B) rf due op k t (dM I) ah):=by
    rcases List.eq_nil_or_concat I with e|⟨X,p,e⟩
    ·subst e
     exact .k [F',.own (W.map Tk.b)] (fun o=>PN k t _ ah o _) (af (af (af rfl i6) b6) (q op rfl))
    ·rw[List.concat_eq_append] at e
     subst e
     have lk:∀{Y:Bool},Y=true→A_ (dM (X++[p])) (-1) (.int p) Y=true:=fun hY=>by
       rw[show dM (X++[p])=dM X++[V.int p] from ch]
       exact HE _ _ (by rw[aq,au];rw[aq] at h5;exact ac h5 hS) hY
     exact .k [T',.int p,.own (W.map Tk.b)] (fun o=>PM k t _ ah o _ p) (af (af (lk (af (af rfl (by cases X<;>rfl)) i6)) b6) (q _ (by rw[(show lo op (X++[p])=p+1 from by unfold lo;rw[List.getLast?_append];rfl)];rfl)))
  exact .jn (by kernel_rfl) (.eq (show(Ri 9 86).ev xz=dh P1 (Ri 9 85) xz by kernel_rfl) (.lc (sc:=(eV xz).2.2) (by kernel_rfl)
    (.cmp fun o=>by kernel_rfl it rfl (fun o=>rfl) fun o=>by kernel_rfl
      (lf (val:=(·.val)) (St:=fun e=>CQ 555 21 xz (PG e)) (fun m=>af rfl (aH (.str m.val))) fun e m o=>by cases e<;>kernel_rfl (fun e o=>⟨rfl,rfl,rfl⟩) W [] none (ac (aJ (bD _)) (ac (by rw[h2,aq];exact be _ _) hS))) (fun o o' s q1 q2=>Eq.trans (b:=oN tx swp (ey B) rf due op k t (dM I) ah s.orc s.ob) (by kernel_rfl) (by rw[q1,q2])) (i7 _)))) (fun o=>rfl) (by rw[show b_ [] (W.map (·.val))=mf W from rfl,Gz];exact hW)
end
end
section
variable {S W R:List Tk} {bW ins:List V} {n a k op:Nat} {swp X:Bool} {e:Option DN} {t:Tk} {ah:Option (List Nat)} {x:Tr Fl} {p:List Ck×Bool}
noncomputable def DM tx swp B rf due (x:Tr Fl) S (p:List Ck×Bool):=∃op T I W e,DG op T I W∧B.drop op=T∧op≤B.length∧p.2=I.isEmpty∧Go x S .next (DU tx swp (ey B) rf (due++p.1.map eA) op e)
theorem DM.c {c} (h:DM tx swp B rf (due++[eA c]) x S1 p):DM tx swp B rf due x S1 (zA c p):=by
  refine hR fun o O=>?_
  obtain⟨op,T,I,W,e,h1,h2,h3,h4,h5⟩:=h
  refine O ?_
  exact⟨op,T,I,W,e,h1,h2,h3,h4,show Go _ _ _ _ from am _ [eA c] _▸h5⟩
theorem DM.to {y} {S2} (h:DM tx swp B rf due y S2 p) (g:∀S3,Go y S2 .next S3→Go x S1 .next S3):DM tx swp B rf due x S1 p:=by
  obtain⟨op,T,I,W,e,h1,h2,h3,h4,h5⟩:=h
  exact⟨op,T,I,W,e,h1,h2,h3,h4,g _ h5⟩
noncomputable abbrev KP (a n k:Nat):=forL P1 (Lv 10) (gj (bh 555 3)) Gk 0 .none (cQ a n 1 k)
theorem qz I:decide (((dM I).length:Int)=0)=I.isEmpty:=by
  induction I with
  |nil=>rfl
  |cons a I=>rfl
theorem Gg (hB:B.length≤1000) (hv:fw B≤1000):∀(R S W:List Tk) (I:List Nat) (due:List V) (op:Nat) (e:Option DN),DG op S I W→B.drop op=S++R→op+S.length+R.length=B.length→due.length+R.length≤1000→
    DM tx swp B rf due (KP (op+S.length) B.length R.length) (DU tx swp (ey B) rf due op e) (kS R (mf W) I.isEmpty):=by
  intro R
  induction R with
  |nil=>exact fun S W I due op e hi h hk hd=>⟨op,S,I,W,e,hi,h.trans (ax S),ac (aA _ _) (aJ hk),rfl,by rw[show due++(kS [] (mf W) I.isEmpty).1.map eA=due from ax due];exact .k [] (fun o=>rfl) rfl⟩
  |cons t R ih=>
   intro S W I due op e hi h hk hd
   have hl:op+S.length<B.length:=hk▸Nat.lt_add_of_pos_right (Nat.succ_pos _)
   have hk':op+S.length+1+R.length=B.length:=(bQ _ 1 _).trans hk
   have i6:B6 (dM I)=true:=le6 (by rw[au];exact ac hi.is.2.2.2 (ac (be _ op) (ac (aY hl) hB)))
   have d6:B6 due=true:=le6 (ac (aA _ _) hd)
   have hs:∀T:List Tk,T=S++[t]→B.drop op=T++R∧op+T.length+R.length=B.length:=fun T e=>by
     rw[e,am,aq]
     exact⟨h,hk'⟩
   have hn:B.drop (op+S.length+1)=R:=by
     rw[bS,←cC,h,←cC,eX];rfl
   have nx:∀{S2} {due' q},Go (bB P1 (Ri 9 89) [D1]) (oN tx swp (ey B) rf due op (op+S.length:Nat) t (dM I) (NF e)) .next S2→DM tx swp B rf due' (KP (op+S.length+1) B.length R.length) S2 q→DM tx swp B rf due' (KP (op+S.length) B.length (R.length+1)) (DU tx swp (ey B) rf due op e) q:=fun k1 k2=>k2.to fun S3 k3=>by
     unfold KP
     rw[sJ R.length hl]
     exact .for_ (Gi hB hi h rfl hl k1) k3
   show DM _ _ _ _ _ _ _ (cond (decide (t.typ=fR)) (cond I.isEmpty (zA _ _) _) (cond (rN t) _ (zA _ _)))
   induction h1:decide (t.typ=fR) with
   |true=>
    have ih':=fun due' e' hd=>ih [] [] [] due' (op+S.length+1) e' .nil hn hk' hd
    induction h2:I.isEmpty with
    |true=>exact .c (nx (.k [T',T'] (fun o=>MG _ t _ _ o) (af (af (af (af rfl h1) i6) ((qz I).trans h2)) d6)) (ih' _ _ (by rw[jW];exact hd)))
    |false=>exact nx (.k [T',F'] (fun o=>MH _ t _ _ o) (af (af (af rfl h1) i6) (dF ((qz I).trans h2)))) (ih' _ _ (bv hd))
   |false=>induction h2:rN t with
    |true=>
     have ih':=ih (S++[t]) (W++[t]) I due op (some ⟨(op+S.length:Nat),t,some (dM I),NF e⟩) (.ws hi h2) (hs _ rfl).1 (hs _ rfl).2 (bv hd)
     rw[C0,aq] at ih'
     exact nx (.k [F',F'] (fun o=>MC _ t _ _ o) (af (af rfl (dF h1)) (by rw[show decide (t.typ=oX)=true from h2];rfl))) ih'
    |false=>
     have ih':=ih (S++[t]) [] (I++[op+S.length]) (due++[eA ⟨t.typ,t.val,mf W,I.isEmpty,t.m⟩]) op (some ⟨(op+S.length:Nat),t,some (dM I),some (mf W)⟩) (.tk hi h2) (hs _ rfl).1 (hs _ rfl).2 (by rw[jW];exact hd)
     rw[aq,show(I++[op+S.length]).isEmpty=false by cases I<;>rfl] at ih'
     refine .c (nx (.to [F',T'] (fun o=>MD _ t _ _ o) (af (af rfl (dF h1)) (dF h2)) (.nest (.bind (a:=Fl.next) (S1:=oN tx swp (ey B) rf due op (op+S.length:Nat) t (dM I) (some (mf W))) (.bind (Gh hB hv hi h rfl hl) (.k [] (fun o=>?_) rfl)) (.k [] (fun o=>?_) (af (af rfl i6) d6))) 2)) ih')
     ·cases NF e<;>kernel_rfl
     ·rw[←qz];exact MI _ t _ o (mf W)
end
section
variable {S W R:List Tk} {bW ins w:List V} {n a k op:Nat} {swp X:Bool} {e:Option DN} {t:Tk} {ah:Option (List Nat)} {x:Tr Fl} {p:List Ck×Bool}
noncomputable abbrev Gj:=sub (I0 (bh 555 4)) 0
noncomputable def J0:Expr→Expr
  |.Compare l _ _ _=>l
  |_=>DZ
noncomputable def JY:Expr→Expr
  |.Compare _ _ [q] _=>q
  |_=>DZ
noncomputable abbrev vL:=J0 (gj Gj)
section
variable (op:Int) (o:List V)
theorem ME:(jw P1 (Lv 10) (bh 555 4)).run (DU tx swp BV true due op e (T'::o) true)=.ok .next (DU tx swp BV true (due++[IO]) op e o (av (av true true) (B6 due))):=by trivial
theorem MF:(jw P1 (Lv 10) (bh 555 4)).run (DU tx swp BV false due op e (F'::o) true)=((((dh P1 (Ri 9 87) vL).bind fun a=>(JH (Ri 9 88) (JY (gj Gj))).bind fun b=>(jJ .Eq a b).bind fun c=>Ej (.bool c)).bind fun c=>cond c (bB P1 (Ri 9 88) (e_ Gj)) (rT .next)).bind (dC (rT .next))).run (DU tx swp BV false due op e o true):=by rcases e with _|⟨_,_,_|_,_|_⟩<;>kernel_rfl
theorem Mu:((Ri 9 87).ev (eV vL).2.1.iter).run (DU tx swp BV rf due op e (.own w::o) true)=.ok (.own w) (DU tx swp BV rf due op e o (av (av true (B6 BV)) (jN (.own (oQ BV (some op) none)) (.own w)))):=by trivial
noncomputable abbrev CF (e:Option Tk):Sb:=CQ 555 21 vL (PG e)
noncomputable abbrev fiE (t:Tk):=n_ (Ri 9 87) (eV vL).2.1.target (eV vL).2.1.ifs (eV vL).1 t.b
theorem O2 e t:(fiE t).run (CF e (.str t.typ::T'::o) true)=.ok (some t.b) (CF (some t) o (av (av true (jN (.str t.typ) (.str t.typ))) (!decide (t.typ=oX)))):=by cases e<;>kernel_rfl
theorem O3 e t:(fiE t).run (CF e (.str t.typ::F'::o) true)=.ok none (CF (some t) o (av (av true (jN (.str t.typ) (.str t.typ))) (!(!decide (t.typ=oX))))):=by cases e<;>kernel_rfl
theorem O_ (t:Tk):(bB P1 (Ri 9 88) (e_ Gj)).run (DU tx swp BV false due op e (t.b::.int t.m.row::t.b::.int t.m.col::o) true)=.ok .next (DU tx swp BV false (due++[eA ⟨fR,[],[],true,t.m⟩]) op e o (av (av (A_ BV (-1) t.b (av (A_ BV (-1) t.b true) (jN (.int t.m.row) (.int t.m.row)))) (jN (.int t.m.col) (.int t.m.col))) (B6 due))):=by trivial
end
theorem FX:∀W bW e,bW.length+W.length≤1000→mj (dT P1 (Ri 9 87) (eV vL).2.1.target (eV vL).2.1.ifs (eV vL).1 (W.map Tk.b) bW) (CF e) (bW++(nw W).map Tk.b) []:=by
  intro W
  induction W with
  |nil=>exact fun bW e h=>Go.o (.k [] (fun o=>congrArg (fun z=>lM.ok z (CF e o true)) (ax bW).symm) rfl) fun o=>⟨rfl,rfl,rfl⟩
  |cons t W ih=>
   intro bW e h
   have q0:av true (jN (.str t.typ) (.str t.typ))=true:=af rfl (aH _)
   show mj _ _ (bW++(match !rN t with|true=>t::nw W|false=>nw W).map Tk.b) _
   induction hw:rN t with
   |true=>exact n9 (.k [.str t.typ,F'] (fun o=>O3 o e t) (af q0 (by rw[show decide (t.typ=oX)=true from hw];rfl))) (ih bW (some t) (bv h))
   |false=>
    show mj _ _ (bW++([t.b]++(nw W).map Tk.b)) _
    rw[←am]
    exact ik (.k [.str t.typ,T'] (fun o=>O2 o e t) (af q0 (dF hw))) rfl (cz.mpr (ac (aQ (ac (aA _ _) h)) (by decide))) (ih _ (some t) (by rw[jW];exact h))
theorem JP {fi:Bool} (hB:B.length≤1000) (h:B.drop op=S) (ho:op≤B.length) (hn:(nw S).isEmpty=fi) (hd:due.length≤1000) (hl:B.getLast?=some t):Go (jw P1 (Lv 10) (bh 555 4)) (DU tx swp (ey B) false due op e) .next (DU tx swp (ey B) false (due++cond fi [eA ⟨fR,[],[],true,t.m⟩] []) op e):=by
  have it:Go ((Ri 9 87).ev (eV vL).2.1.iter) (DU tx swp (ey B) false due op e) (.own (S.map Tk.b)) (DU tx swp (ey B) false due op e):=.k [.own (S.map Tk.b)] (fun o=>Mu op o) (af (af rfl (le6 (by rw[au];exact hB))) (by
    rw[show oQ (ey B) (some (op:Int)) none=S.map Tk.b by
     show((ey B).drop (jy op (ey B).length)).take ((ey B).length -jy op (ey B).length)=_
     rw[ro op _ (by rw[au];exact ho),←dY,List.take_length,←iL,h]]
    exact aH _))
  have g:Go (dh P1 (Ri 9 87) vL) (DU tx swp (ey B) false due op e) (.own ((nw S).map Tk.b)) (DU tx swp (ey B) false due op e):=.lc (c:=vL) (elt:=(eV vL).1) (g:=(eV vL).2.1) (sc:=(eV vL).2.2) (by kernel_rfl)
    (.cmp (src:=.own (S.map Tk.b)) (d:=0) (z:=.none) (vs:=S.map Tk.b) (S1:=DU tx swp (ey B) false due op e) (S2:=CF none) (fun o=>by kernel_rfl) it rfl (fun o=>rfl) fun o=>by rcases e with _|⟨_,_,_|_,_|_⟩<;>kernel_rfl (FX S [] none (ac (aJ (bD _)) (h▸ac (DC _ _).length_le hB))) (fun o o' s q1 q2=>Eq.trans (b:=DU tx swp (ey B) false due op e s.orc s.ob) (by kernel_rfl) (by rw[q1,q2])) (aB.mpr fun v h=>(bw.mp h).elim fun q h=>h.2▸rfl))
  refine .to [F'] (fun o=>MF op o) rfl (.bind (a:=Fl.next) (.bind (a:=fi) (S1:=DU tx swp (ey B) false due op e) (.bind g ?_) ?_) .ret)
  ·revert hn
   cases nw S with
   |nil=>exact fun hn=>hn▸.k [T'] fun o=>by rcases e with _|⟨_,_,_|_,_|_⟩<;>kernel_rfl rfl
   |cons b S=>exact fun hn=>hn▸.k [F'] fun o=>by rcases e with _|⟨_,_,_|_,_|_⟩<;>kernel_rfl rfl
  ·induction fi with
   |false=>rw[show due++cond false [eA ⟨fR,[],[],true,t.m⟩] []=due from ax due];exact .ret
   |true=>
    obtain⟨B0,e0⟩:=List.getLast?_eq_some_iff.mp hl
    have lk:∀{Y},Y=true→A_ (ey B) (-1) t.b Y=true:=fun hY=>by
      rw[e0,show ey (B0++[t])=ey B0++[t.b] from ch]
      exact HE _ _ (by rw[←au Tk.b,e0,ch] at hB;exact hB) hY
    exact .k [t.b,.int t.m.row,t.b,.int t.m.col] (fun o=>O_ op o t) (af (af (lk (af (lk rfl) (aH _))) (aH _)) (le6 hd))
end
section
variable {swp:Bool}
noncomputable abbrev Ny:=GN (o4 (bh 555 0))
theorem pI:(cX swp tx).length≤tx.length:=by
  have hr:=(au _).symm.trans (congrArg _ (nr tx 1 1))
  refine ac (mC _ _ (aC _)).length_le ?_
  induction swp with
  |false=>exact aJ hr
  |true=>exact hr▸qi _ _ (aC _)
theorem Pb (hl:tx.length<1000) (hA:∀m∈cX swp tx,m.c∈gz):Go (jw P1 (Lv 10) (bh 555 0)) (RS 555 (DV tx swp) 21) .next (RS 555 (JQ tx swp (ey (bo 1000 (cX swp tx)).1) (bo 1000 (cX swp tx)).2) 21):=by
  have k1:Go (q9 (Ri 9 89) frz [Ny]) (RS 555 (DV tx swp) 21) [.lst ((cX swp tx).map mV)] (RS 555 (DV tx swp) 21):=.eq (show _=(dh P1 (Ri 9 88) Ny).bind fun v=>(rT []).bind fun vs=>rT (frz v::vs) by kernel_rfl) (.bind (a:=.lst ((cX swp tx).map mV)) (S1:=RS 555 (DV tx swp) 21) (.evc Ny fun o=>by kernel_rfl (vm (aY hl))) (.k [] (fun o=>rfl) rfl))
  exact .as (y:=((q9 (Ri 9 89) frz [Ny]).bind fun vs=>C 9 (.glob 550) vs []).bind fun v=>de (im P1 (gj (bh 555 0)) v)) (fun o=>by kernel_rfl) (.bind (Go.bind k1 (yz (aR pI hl) hA)) (.k [] fun o=>by kernel_rfl rfl))
theorem CG (hl:tx.length<1000) (h:KZ (iY swp (dJ tx 1 1))):Go (C 10 (.glob 555) [.str tx,.bool swp] []) (LW rho) (.lst (dg (o5 (cX swp tx)))) (LW rho):=by
  have hm:=ac (pI (swp:=swp) (tx:=tx)) (aY hl)
  have hB:(bo 1000 (cX swp tx)).1.length≤1000:=ac (s0 1000 _) hm
  have hv:fw (bo 1000 (cX swp tx)).1≤1000:=ac (s7 1000 _) hm
  have h0:=h.ne
  have h0:=(show gH (iY swp (dJ tx 1 1))=cX swp tx from rfl)▸h0
  unfold o5
  generalize (bo 1000 (cX swp tx)).2=rf at*
  generalize (bo 1000 (cX swp tx)).1=B at*
  have hb:(ey B).length=B.length:=au _
  refine hR fun O u=>?_
  obtain⟨op,T,I,W,e,h1,h2,h3,h4,h5⟩:=Gg (tx:=tx) (swp:=swp) (rf:=rf) hB hv B [] [] [] [] 0 none .nil rfl (bD _) (ac (aJ (bD _)) hB)
  refine u ?_
  have hm:((kS B [] true).1.map eA).length≤1000:=by rw[au];exact (ac (xG B [] true) hB)
  suffices g:∃out e',dg _=out∧Go (jw P1 (Lv 10) (bh 555 4)) (DU tx swp (ey B) rf ((kS B [] true).1.map eA) op e) .next (DU tx swp (ey B) rf out op e') by
    obtain⟨out,e',e1,g⟩:=g
    refine e1▸?_
    refine .rs (b:=DV tx swp) (fl:=.ret (.lst out)) (bs:=duR tx swp (ey B) rf (.lst out) op e') (by kernel_rfl) (by kernel_rfl) (.eq (show _=aF P1 (Lv 10) [bh 555 0,bh 555 1,bh 555 2,bh 555 3,bh 555 4,bh 555 5] by kernel_rfl) (.cons (Pb hl (fun m q=>h.al m ((mC _ (iY swp (dJ tx 1 1)) (aC _)).subset q))) (.cons (S1:=RS 555 (JQ tx swp (ey B) rf++[(ae "due",.own [])]) 21) (.k [] (fun o=>by kernel_rfl) rfl) (.cons (S1:=DU tx swp (ey B) rf [] 0 none) (.k [] (fun o=>by kernel_rfl) rfl)
      (.cons (.to [] (b:=av (av true (B6 (ey B))) (jF 0 (B.length:Nat) 1)) (fun o=>Eq.trans (b:=(forL P1 (Lv 10) (gj (bh 555 3)) Gk 0 .none (cQ 0 (ey B).length 1 (((ey B).length:Int) -0).toNat)).run (DU tx swp (ey B) rf [] 0 none o (av (av true (B6 (ey B))) (jF 0 (ey B).length 1)))) (by kernel_rfl) (by rw[hb,show((B.length:Int) -0).toNat=B.length from rfl];rfl)) ?_ h5) (.cons g (.stop (.k [] fun o=>by rcases e' with _|⟨_,_,_|_,_|_⟩<;>kernel_rfl rfl))))))))
    exact af (af rfl (le6 (hb▸hB))) (aa.mpr ⟨rfl,aa.mpr ⟨rfl,aa.mpr ⟨le6 hB,rfl⟩⟩⟩)
  induction rf with
  |true=>exact⟨_,e,rfl,.k [T'] (fun o=>ME op o) (af rfl (le6 hm))⟩
  |false=>
   obtain⟨tk,hk⟩:∃t,B.getLast?=some t:=⟨_,H2 (h0 rfl)⟩
   refine⟨_,e,?_,(JP (tx:=tx) hB h2 h3 (h1.is.2.2.1.trans h4.symm) hm hk)⟩
   rw[hk]
   show dg (match(kS B [] true).2,some tk with|true,some t=>_|_,_=>_)=_++cond (kS B [] true).2 _ _
   induction (kS B [] true).2 with
   |true=>show(_++[_]).map eA++[]=_;rw[ch,ax];rfl
   |false=>rfl
end
section
noncomputable abbrev Qs:=Option (Nat×Bool×Bool)
noncomputable def LL (x:Nat) (q:Qs):Qs:=q.bind fun q=>aM (!GU x q.1) (some (cond (Nat.beq x 60||(Nat.beq x 62||(Nat.beq x 42||Nat.beq x 47))) x 0,cond (Nat.beq x 47) (cond (Nat.beq q.1 42) false (cond (Nat.beq q.1 47) q.2.2 true)) true,Nat.beq x 10||q.2.2))
noncomputable def qs (J:List Mk):=J.foldr (fun m=>LL m.c) (some (0,false,false))
noncomputable abbrev Ps:=Bool×Bool×Qs×Option Qs
noncomputable def Nw (x:Nat):=gz.any (Nat.beq x)
noncomputable def okB w b:=oj w b&&w.all fun m=>Nw m.c
noncomputable def DY (x:Nat) (p:Ps):Ps:=(Nw x&&(!Nat.beq x 92&&p.2.1),Nw x&&cond (Nat.beq x 92) p.1 p.2.1,(match Nat.beq x 92,p.2.2.2 with|true,some q=>q|_,_=>LL x p.2.2.1),aM (Nat.beq x 10) (some p.2.2.1))
noncomputable def ps (w:List Mk):Ps:=(okB w true,okB w false,qs (gH w),match w with|m::l=>aM (Nat.beq m.c 10) (some (qs (gH l)))|[]=>none)
variable {b:Mk} {w J:List Mk} {x:Nat} {q:Nat×Bool×Bool} {α:Type}
theorem yB m w:ps (m::w)=DY m.c (ps w):=by
  have e1:∀x i a z,((!x&&a)&&(i&&z))=(i&&(!x&&(a&&z))):=by decide
  have e2:∀x i a b z,(cond x a b&&(i&&z))=(i&&cond x (a&&z) (b&&z)):=by decide
  refine congr (congrArg _ (e1 ..)) (congr (congrArg _ ((congrArg (· &&_) (show oj w _=cond _ _ _ by cases Nat.beq _ 92<;>rfl)).trans (e2 ..))) (congrArg (Prod.mk · _) ?_))
  induction w with
  |nil=>cases Nat.beq _ 92<;>rfl
  |cons b l=>
   show qs (cond _ _ _)=match Nat.beq _ 92,aM _ _ with|true,some q=>q|_,_=>LL _ _
   cases Nat.beq _ 92<;>cases Nat.beq _ 10<;>rfl
noncomputable abbrev Ts:=Option (Bool×Nat×Ps)×Ps
noncomputable def Ei (x:Nat) (t:Ts):Ts:=(cond (Nat.beq x 63) (match t.1 with|some (false,y)=>some (true,y)|_=>none) ((sw x).map fun y=>(false,y,t.2)),match Nat.beq x 63,t.1 with|true,some (true,y,p)=>DY y p|_,_=>DY x t.2)
noncomputable def tk:List Mk→Option (Bool×Nat×Ps)
  |[]=>none
  |m::l=>cond (Nat.beq m.c 63) (match l with|[]=>none|b::l=>cond (Nat.beq b.c 63) none ((sw b.c).map fun y=>(true,y,ps (gG l)))) ((sw m.c).map fun y=>(false,y,ps (gG l)))
noncomputable def ts (l:List Mk):Ts:=(tk l,ps (gG l))
theorem NP m l:ts (m::l)=Ei m.c (ts l):=by
  refine congr (congrArg Prod.mk ?_) ?_
  ·show cond (Nat.beq m.c 63) _ _=cond (Nat.beq m.c 63) _ _
   induction Nat.beq m.c 63 with
   |false=>rfl
   |true=>cases l with
    |nil=>rfl
    |cons b l=>
     show cond (Nat.beq b.c 63) none _=match(cond (Nat.beq b.c 63) _ _:Option (Bool×Nat×Ps)) with|some (false,y)=>some (true,y)|_=>none
     induction Nat.beq _ 63 with
     |false=>cases hs:sw _<;>rfl
     |true=>induction l with
      |nil=>rfl
      |cons c l=>show none=match(cond _ _ ((sw _).map fun y=>(true,y,ps (gG l)))) with|some (false,y)=>some _|_=>none;cases Nat.beq _ 63<;>cases sw _<;>rfl
  ·have no:gG (m::l)=m::gG l→(∀y p,Nat.beq m.c 63=true→tk l=some _→False)→ps (gG _)=match Nat.beq _ 63,tk l with|true,some (true,y,p)=>DY y p|_,_=>DY _ _:=fun e h=>by
     rw[e,yB]
     induction hb:Nat.beq _ 63 with
     |false=>rfl
     |true=>
      rcases ht:tk l with _|⟨_|_,y,p⟩
      ·rfl
      ·rfl
      ·exact(h y p hb ht).elim
   rcases l with _|⟨b,_|⟨c,l⟩⟩
   ·exact no rfl fun y p h h2=>aX h2
   ·refine no rfl fun y p h h2=>?_
    revert h2
    show cond _ _ _=_→_
    cases Nat.beq _ 63<;>cases sw _<;>exact fun h=>nomatch h
   ·show ps (match Nat.beq _ 63&&Nat.beq _ 63,sw _ with|true,some x=>⟨x,m.row,m.col⟩::gG l|_,_=>m::gG _)=match Nat.beq m.c 63,cond (Nat.beq b.c 63) (cond _ _ ((sw _).map fun y=>(true,y,ps _))) _ with|true,some (true,y,p)=>DY y p|_,_=>DY _ (ps _)
    induction Nat.beq _ 63 with
    |false=>exact yB _ _
    |true=>induction Nat.beq _ 63 with
     |false=>cases sw b.c<;>exact yB _ _
     |true=>induction hs:sw _ with
      |none=>cases Nat.beq _ 63<;>exact yB _ _
      |some y=>induction hc:Nat.beq _ 63 with
       |true=>exact aX (((show Nat.beq _ 63=true→sw _=none from fun h=>by rw[aj h];rfl) hc).symm.trans hs)
       |false=>exact yB _ _
end
section
variable {b:Mk} {w J r:List Mk} {x:Nat} {q:Nat×Bool×Bool} {p:Ps} {α:Type}
noncomputable def FO:List Mk→Nat
  |[]=>0
  |m::_=>cond (Nat.beq m.c 60||(Nat.beq m.c 62||(Nat.beq m.c 42||Nat.beq m.c 47))) m.c 0
noncomputable def Oy:List Mk→Bool
  |[]=>false
  |m::l=>cond (Nat.beq m.c 47) (cond (Nat.beq (FO l) 42) false (cond (Nat.beq (FO l) 47) (l.any fun m=>Nat.beq m.c 10) true)) true
theorem vD b l:(∀x,GU x (FO (b::l))=GU x b.c)∧Nat.beq (FO (b::l)) 42=Nat.beq b.c 42∧Nat.beq (FO (b::l)) 47=Nat.beq b.c 47:=by
  show(∀x,GU x (cond _ _ _)=_)∧Nat.beq (cond _ _ _) 42=_∧Nat.beq (cond _ _ _) 47=_
  induction h:Nat.beq _ 60||(Nat.beq _ 62||(Nat.beq _ 42||Nat.beq _ 47)) with
  |true=>exact⟨fun x=>rfl,rfl,rfl⟩
  |false=>
   have h2:=cq.mp (cq.mp h).2
   exact⟨fun x=>by unfold GU;rw[(cq.mp h).1,h2.1];rfl,(cq.mp h2.2).1.symm,(cq.mp h2.2).2.symm⟩
theorem I1 (h:nE l) (h2:GU m.c (FO l)=false):nE (m::l):=fun u a b v e=>by
  induction u with
  |cons c u=>exact h u a b v (by injection e)
  |nil=>injection e with e1 e2;subst e1 e2;exact((vD b v).1 _).symm.trans h2
theorem LM:∀J,∀q,qs J=some q→nE J∧q.1=FO J∧q.2.1=Oy J∧q.2.2=J.any fun m=>Nat.beq m.c 10:=by
  intro J
  induction J with
  |nil=>exact fun q h=>Option.some.inj h▸⟨fun u a b v e=>(by cases u<;>exact nomatch e),rfl,rfl,rfl⟩
  |cons m J ih=>
   exact fun q h=>eM (show(qs J).bind _=some q from h) fun q1 h1 h=>hU h fun h2 h=>by
     have o:=ih q1 h1
     have h:=Option.some.inj h
     subst h
     refine o.2.1▸o.2.2.2▸?_
     exact⟨I1 o.1 (o.2.1▸(ao _).mp h2),rfl,rfl,rfl⟩
noncomputable def NT:Option (List Tk×List Mk)→Prop
  |none=>True
  |some p=>p.1≠[]∨∃z r,p.2=z::r∧Nat.beq z.c 10=true
theorem NT.cond {c} {x y} (h1:NT x) (h2:NT y):NT (cond c x y):=by cases c<;>assumption
theorem NT.one t r:NT (some ([t],r)):=.inl (br _ _)
theorem NT.map {β:Type} (q:Option β) {t:β→Tk} {f:β→List Mk}:NT (q.map fun p=>([t p],f p)):=by cases q<;>first|trivial|exact .inl (br _ _)
theorem JT:∀l:List Mk,(l.any fun m=>Nat.beq m.c 10)=true→∃z r,l.dropWhile fY=z::r∧Nat.beq z.c 10=true:=by
  intro l
  induction l with
  |nil=>exact fun h=>bG h
  |cons m l ih=>
   intro h
   induction hm:Nat.beq _ 10 with
   |true=>exact⟨m,l,by rw[eY (by show¬(!Nat.beq _ 10)=true;rw[hm];exact fun h=>bG h)],hm⟩
   |false=>exact(ih (by rw[iM,hm] at h;exact h)).imp fun z h=>h.imp fun r h=>⟨(dq (p:=fY) (show(!Nat.beq _ 10)=true by rw[hm];rfl)).trans h.1,h.2⟩
theorem LU (h:Oy (m::l)=true):NT (nx m l):=by
  refine .cond (.inl (br _ _)) (.cond (.inl (br _ _)) (.cond (.inl (br _ _)) (.cond (.map _) (.cond (.map _) ?_))))
  induction l with
  |nil=>exact .inl (br _ _)
  |cons b l=>
   revert h
   show cond _ (cond _ _ (cond _ (Nat.beq _ 10||l.any _) _)) _=true→_
   rw[(vD b l).2.1,(vD b l).2.2]
   show _→NT (cond _ _ _)
   induction Nat.beq _ 47 with
   |false=>exact fun ζ=>(NT.cond (NT.one _ _) (NT.one _ _):NT _)
   |true=>induction Nat.beq _ 42 with
    |true=>exact fun h=>bG h
    |false=>induction h47:Nat.beq _ 47 with
     |false=>exact fun ζ=>(NT.cond (NT.one _ _) (NT.one _ _):NT _)
     |true=>exact fun h=>.inr (JT l (by rw[aj h47] at h;exact h))
theorem LX (h:Oy J=true):(bo 1000 J).2=false→(bo 1000 J).1≠[]:=by
  induction J with
  |nil=>exact bG h
  |cons m l=>
   have k:=LU h
   show(match nx m l with|some p=>(p.1++(bo 999 _).1,(bo 999 _).2)|none=>([],true)).2=false→(match nx m l with|some p=>(p.1++(bo 999 _).1,(bo 999 _).2)|none=>([],true)).1≠[]
   revert k
   induction nx m l with
   |none=>exact fun ζ h=>nomatch h
   |some p=>
    intro k h2 h3
    have h3:=List.append_eq_nil_iff.mp h3
    rcases k with k|⟨z,r,k1,k2⟩
    ·exact k h3.1
    ·have h3:=k1▸h3
     have h3:(match nx z r with|some p=>(p.1++(bo 998 _).1,(bo 998 _).2)|none=>([],true)).1=[]:=h3.2
     unfold nx at h3
     rw[k2] at h3
     trivial
noncomputable def Nq (p:Ps):=p.2.1&&p.2.2.1.any fun q=>q.2.1
theorem Jp {x} (h:Nw x=true):x∈gz:=by
  obtain⟨y,h1,h2⟩:=bX.mp h
  exact aj h2▸h1
theorem AR (h:Nq (ps w)=true) (hl:w.length<1000):KZ w:=by
  have h:=aa.mp h
  have h1:=aa.mp h.1
  obtain⟨q,e,h2⟩:∃q,qs (gH w)=some q∧q.2.1=true:=by
    have h:=h.2
    revert h
    show(qs _).any _=true→_
    induction qs _ with
    |none=>exact fun h=>bG h
    |some q=>exact fun h=>⟨q,rfl,h⟩
  exact⟨fun m hm=>Jp (aB.mp h1.2 m hm),hl,h1.1,(LM _ _ e).1,LX ((LM _ _ e).2.2.1▸h2)⟩
theorem sI {st} {f:List Mk→α} (h:∀m l,f (m::l)=st m.c (f l)):∀t row col,f (dJ t row col)=t.foldr st (f []):=by
  intro t
  induction t with
  |nil=>exact fun ζ ζ=>rfl
  |cons c t ih=>exact fun row col=>(h _ _).trans (congrArg _ (by cases Nat.beq c 10<;>exact ih _ _))
noncomputable def jT:=[[63,63,61],[63,63,40],[63,63,41],[63,63,60],[63,63,62],[63,63,45],[63,63,33],[63,63,47,97],[63,63,39],[63],[61],[45],[97],[32],[10],[63,63],[34,63,63,47,34,103,34,47,47,34,10],[63,63,47,10],[47,47,63,63,47,10,39,97,39,10],[32,47,63,63,47,10,42,103,42,47],[63,63,92,10,61],[34,63,63,61,63,63,33,34],[34,63,63,47,61,34],[39,63,63,47,39,39]]
noncomputable def jx:=[[63,63,40],[122,63,63],[10],[32,122,10],[32,47,63,63,47,10,42,122],[34,63,63,47,34]]
section
variable [DecidableEq α] (st:Nat→α→α) (z:α)
noncomputable def dd:List α→List α
  |[]=>[]
  |x::l=>cond ((dd l).any fun y=>decide (y=x)) (dd l) (x::dd l)
noncomputable def grow:Nat→List α
  |0=>jx.map fun e=>e.foldr st z
  |n+1=>dd (grow n++(grow n).flatMap fun t=>jT.map fun p=>p.foldr st t)
theorem A4 {x:α}:∀{l},x∈l→x∈dd l:=by
  intro l
  induction l with
  |nil=>exact id
  |cons y l ih=>
   intro h
   show x∈cond _ _ _
   induction hq:(dd l).any _ with
   |false=>cases h with
    |head=>exact .head _
    |tail _ h=>exact .tail _ (ih h)
   |true=>cases h with
    |head=>
     obtain⟨z,h1,h2⟩:=bX.mp hq
     exact of_decide_eq_true h2▸h1
    |tail _ h=>exact ih h
theorem tB {e} (he:e∈jx):∀n (P:List _),P.length≤n→(∀p∈P,p∈jT)→(P.flatten++e).foldr st z∈grow st z n:=by
  intro n
  induction n with
  |zero=>exact fun P h ζ=>by rw[er (Nat.le_zero.mp h)];exact bw.mpr ⟨e,he,rfl⟩
  |succ n ih=>
   intro P h hp
   induction P with
   |nil=>exact A4 (jh _ (ih [] (bt n) hp))
   |cons p P=>
    refine A4 (List.mem_append_right _ (List.mem_flatMap.mpr ⟨_,ih P (bg h) fun q hq=>hp q (.tail _ hq),bw.mpr ⟨p,hp p (.head _),?_⟩⟩))
    rw[List.flatten_cons,am];exact List.foldr_append.symm
end
end
section
noncomputable instance:DecidableEq Ps:=@instDecidableEqProd _ _ _ (@instDecidableEqProd _ _ _ inferInstance)
noncomputable instance:DecidableEq Ts:=inferInstance
theorem Pj:(grow DY (ps []) 4).all Nq=true:=by decide+kernel
theorem Ph:(grow Ei (ts []) 4).all (fun t=>Nq t.2)=true:=by decide+kernel
end
section
noncomputable def pc (n:Int):=jT.getD (n.fmod 24).toNat []
noncomputable def en (s:Int):=jx.getD (s.fmod 6).toNat []
noncomputable def kj (ns:List _):=b_ [] (ns.map pc)++en ns.sum
theorem vi (n:Int) {m:Nat} (hm:0<m):n.fmod m=(n.fmod m).toNat∧(n.fmod m).toNat<m:=by
  have h1:=Int.fmod_nonneg_of_pos n (Km.mpr hm)
  exact⟨(Int.toNat_of_nonneg h1).symm,(Int.toNat_lt h1).mpr (Int.fmod_lt_of_pos n (Km.mpr hm))⟩
theorem tC {α:Type} {l:List α} {k} {d} (h:k<l.length):l.getD k d∈l:=by
  rw[cB,fP];exact List.getElem_mem h
theorem yQ l:b_ [] l=l.flatten:=by
  induction l with
  |nil=>rfl
  |cons x l ih=>induction l with
   |nil=>exact(ax x).symm
   |cons y l=>exact(congrArg _ ih).trans (congrArg (· ++(y::l).flatten) (ax x))
theorem Cd {k}:∀(l:List (List Nat)),(∀p∈l,p.length≤k)→l.flatten.length≤k*l.length:=by
  intro l
  induction l with
  |nil=>exact fun h=>bt _
  |cons p l ih=>
   exact fun h=>by
     rw[List.flatten_cons,aq,cA]
     exact gZ (ih fun q hq=>h q (.tail _ hq)) (h p (.head _))
theorem HD {L:List (List Nat)} (h:(L.all fun p=>Nat.ble p.length 20)=true) {p} (hp:p∈L):p.length≤20:=cz.mp (aB.mp h p hp)
theorem Hc ns (h:ns.length≤4):(kj ns).length≤100∧zG (kj ns)∧∀swp,KZ (iY swp (dJ (kj ns) 1 1)):=by
  have e:kj ns=(ns.map pc).flatten++en ns.sum:=congrArg (· ++_) (yQ _)
  have hp:∀p∈ns.map pc,p∈jT:=fun p hp=>(bw.mp hp).elim fun n q=>q.2▸tC (vi n (by decide)).2
  have he:en ns.sum∈jx:=tC (vi ns.sum (by decide)).2
  have hl:(ns.map pc).length≤4:=ac (aJ (au _)) h
  have len:(kj ns).length≤100:=by
    rw[e,aq]
    exact ac (gZ (Cd _ fun p q=>HD rfl (hp p q)) (HD rfl he)) (Nat.add_le_add_right (Nat.mul_le_mul_left 20 hl) 20)
  have len':(kj ns).length<1000:=aR len (by decide)
  have rl:(dJ (kj ns) 1 1).length<1000:=by rw[←au,show(dJ (kj ns) 1 1).map (·.c)=kj ns from nr _ 1 1];exact len'
  have gF:=AR (by
    rw[sI yB,e]
    exact aB.mp Pj _ (tB DY (ps []) he 4 _ hl hp)) rl
  refine⟨len,⟨?_,len'⟩,fun swp=>?_⟩
  ·refine eG.mpr fun c hc h9=>?_
   rw[←nr (kj ns) 1 1] at hc
   obtain⟨m,h1,h2⟩:=bw.mp hc
   have h3:=gF.al m h1
   rw[h2,←aj h9] at h3
   contradiction
  induction swp with
  |false=>exact gF
  |true=>exact AR (by
     show Nq (ps (gG (dJ (kj ns) 1 1)))=true
     rw[←(show (ts (dJ (kj ns) 1 1)).2=ps (gG (dJ (kj ns) 1 1)) from rfl),sI NP,e]
     exact aB.mp Ph _ (tB Ei (ts []) he 4 _ hl hp)) (aR (qi _ _ (aC _)) rl)
end
section
structure M2 where
  p:Int
  c:List V
  tx:Option (List Nat)
noncomputable def lwE:Option M2→List (Str×V)
  |none=>[]
  |some e=>[(ae "place",.int e.p),(ae "chunk",.lst e.c)]++(match e.tx with|none=>[]|some t=>[(ae "text",.str t)])
noncomputable def zR X D e:=[(ae "script",.lst X),(ae "drawn",.own D)]++lwE e
noncomputable abbrev rM:=e_ (bh 565 1)
noncomputable def I3 (D:List V):Int:=if(1:Int)<D.length then D.length else 1
noncomputable abbrev wT:=GN (MT (o4 (sub rM 1)))
noncomputable abbrev OH:=MR (o4 (sub rM 1))
variable {X:List V} {o:List V} {e:Option M2} {p:Int} {ns:List Int} {swp:Bool}
noncomputable abbrev mB (X D:List V) (p:Int) (c:List V) (ot:Option (List Nat)):Sb:=LW (zR X D (some ⟨p,c,ot⟩))
theorem OG:(jw P1 (Lv 11) (bh 565 0)).run (LW [(ae "script",.lst X)] (.own D::o) true)=.ok .next (LW (zR X D none) o (av (av true (B6 X)) (jN (.own (oQ X none (some 8))) (.own D)))):=by kernel_rfl
theorem I2:(jw P1 (Lv 11) (bh 565 1)).run (LW (zR X D none) o true)=(forL P1 (Lv 11) (gj (bh 565 1)) rM 0 .none (cQ 0 (I3 D) 4 (I3 D -0).toNat)).run (LW (zR X D none) o (av (av true (B6 D)) (jF 0 (I3 D) 4))):=by kernel_rfl
theorem OF:(jw P1 (Lv 11) (bh 565 2)).run (LW (zR X D e) o true)=.ok (.ret (.bool true)) (LW (zR X D e) o true):=by rfl
theorem OE c:((im P1 (gj (bh 565 1)) (.int p)).bind fun ζ=>(Lv 11).ex rM).run (LW (zR X D e) (.own c::o) true)=(bB P1 (Ri 10 89) [sub rM 1,sub rM 2,sub rM 3]).run (mB X D p c (e.bind (·.tx)) o (av (av true (B6 D)) (vO D p (p+4) c))):=by rcases e with _|⟨_,_,_|_⟩<;>kernel_rfl
theorem OB c:(oR P1 (Ri 10 89) (sub rM 1)).run (mB X D p c ot o true)=((((uH (Ri 10 87) [wT]).bind (ez [] (ae "join"))).bind fun a=>((Ri 10 88).ev OH).bind fun b=>nY .Add a b).bind fun v=>de (iK P1 (gj (sub rM 1)) v)).run (mB X D p c ot o true):=by trivial
noncomputable def nR:Option Int→List (Str×V)
  |none=>[]
  |some n=>[(ae "n",.int n)]
noncomputable abbrev CL (e:Option Int):Sb:=CQ 565 22 wT (nR e)
noncomputable def BW l n i w:=av (av true (zQ n i)) (jN ((bn l).getD (rO i n) .gone) (.str w))
theorem OD e n w:(n_ (Ri 10 86) (eV wT).2.1.target (eV wT).2.1.ifs (eV wT).1 (.int n)).run (CL e (.str w::o) true)=.ok (some (.str w)) (CL (some n) o (BW jT 24 (n.fmod 24) w)):=by cases e<;>kernel_rfl
theorem OC (h:ns.length≤4) w:((Ri 10 88).ev OH).run (mB X D p (ns.map .int) ot (.str w::o) true)=.ok (.str w) (mB X D p (ns.map .int) ot o (BW jx 6 (ns.sum.fmod 6) w)):=by
  rcases ns with _|⟨a,_|⟨b,_|⟨c,_|⟨d,_|⟨x,l⟩⟩⟩⟩⟩
  iterate 5 cases ot<;>kernel_rfl
  exact absurd h (by simp)
end
section
variable {X:List V} {o:List V} {e:Option M2} {p:Int} {ns:List Int} {swp:Bool} {k:Nat}
theorem BU {l} {n} (i:Int) (hn:l.length=n) (h0:0<n) (h9:n≤1000):BW l n (i.fmod n) (l.getD (i.fmod n).toNat [])=true:=by
  have o:=vi i h0
  refine o.1▸(af (af rfl (my o.2 h9)) ?_)
  show jN ((bn l).getD (i.fmod n).toNat _) (.str (l.getD (i.fmod n).toNat []))=true
  rw[cB,cB,List.getElem?_map,fP (hn▸o.2)]
  exact aH _
theorem Fd (h:ns.length≤4):Go (oR P1 (Ri 10 89) (sub rM 1)) (mB X D p (ns.map .int) ot) .next (mB X D p (ns.map .int) (some (kj ns))):=by
  have g:Go (dh P1 (Ri 10 86) wT) (mB X D p (ns.map .int) ot) (.own (bn (ns.map pc))) (mB X D p (ns.map .int) ot):=.lc (sc:=(eV wT).2.2) (by kernel_rfl)
    (.cmp (src:=.lst (ns.map .int)) (S1:=mB X D p (ns.map .int) ot) fun o=>by rfl (.k [] fun o=>by kernel_rfl rfl) rfl (fun o=>rfl) fun o=>by trivial
      (lf (fun n=>BU n rfl (by decide) (by decide)) (fun e n o=>OD e n _) (fun e o=>⟨rfl,rfl,rfl⟩) ns [] none (ac (aJ (bD _)) (ac h (by decide)))) (fun o o' s q1 q2=>Eq.trans (b:=mB X D p (ns.map .int) ot s.orc s.ob) (by trivial) (by rw[q1,q2])) (i7 _))
  exact .as (fun o=>OB _) (.bind (a:=.str (kj ns)) (S1:=mB X D p (ns.map .int) ot) (.bind (.jn (by kernel_rfl) (.eq (show(Ri 10 87).ev wT=dh P1 (Ri 10 86) wT by kernel_rfl) g) (fun o=>rfl) (ac (ac (aA _ _) (aJ (aq).symm)) (ac ((Hc ns h).1) (by decide)))) (.bind (.k [.str (en ns.sum)] (fun o=>OC h _) (BU ns.sum rfl (by decide) (by decide))) (.k [] fun o=>by kernel_rfl (af rfl (le6 (ac ((Hc ns h).1) (by decide))))))) (.k [] fun o=>by cases ot<;>kernel_rfl rfl))
theorem lX {f} l:(∀x∈l,f x x=some true)→fH f l l=some true:=by
  induction l with
  |nil=>exact fun ζ=>rfl
  |cons x l ih=>
   intro h
   show(f x x).bind _=_
   rw[h x (.head _), ih fun y hy=>h y (.tail _ hy)];rfl
theorem JL r:jJ .NotEq (.lst (dg r)) (.lst (dg r))=rT false:=by
  have h:fH (zT 99) (dg r) _=some _:=lX _ fun x hx=>by
    rcases List.mem_append.mp hx with q|q
    ·obtain⟨c,-,q⟩:=bw.mp q
     subst q
     refine lX _ fun y hy=>?_
     have eS:∀l,zT 98 (.str l) (.str l)=some _:=fun l=>congrArg _ (decide_eq_true rfl)
     have eI:∀l,zT 98 (.int l) (.int l)=some _:=fun l=>congrArg _ (decide_eq_true rfl)
     rcases hy with _|⟨_,_|⟨_,_|⟨_,_|⟨_,_|⟨_,_|⟨_,h⟩⟩⟩⟩⟩⟩
     ·exact eS _
     ·exact eS _
     ·exact eS _
     ·cases c.fi<;>rfl
     ·exact eI _
     ·exact eI _
     trivial
    ·revert q
     induction r.2 with
     |false=>exact fun q=>nomatch q
     |true=>exact fun q=>by rw[cM.mp q];rfl
  show oT (E7 (fH _ _ _)) _ rT=_
  rw[h];rfl
theorem Hy {st} {L R} (h:ns.length≤4) (e1:oR P1 (Ri 10 89) st=((dh P1 (Ri 10 87) L).bind fun a=>(dh P1 (Ri 10 87) R).bind fun b=>(jJ .NotEq a b).bind fun c=>Ej (.bool c)).bind fun c=>cond c (bB P1 (Ri 10 88) (e_ st)) (rT .next))
    (h1:∀o,kE (Ri 10 87) L (mB X D p (ns.map .int) (some (kj ns)) o true)=some (.glob 560,[.str (kj ns),.bool swp],mB X D p (ns.map .int) (some (kj ns)) o true)) (h2:∀o,kE (Ri 10 87) R (mB X D p (ns.map .int) (some (kj ns)) o true)=some (.glob 555,[.str (kj ns),.bool swp],mB X D p (ns.map .int) (some (kj ns)) o true)):
    Go (oR P1 (Ri 10 89) st) (mB X D p (ns.map .int) (some (kj ns))) .next (mB X D p (ns.map .int) (some (kj ns))):=by
  have O:=Hc ns h
  refine .eq e1 (.bind (a:=false) (.bind (.evc L h1 (AD O.2.1 (O.2.2 swp))) (.bind (.evc R h2 (CG O.2.1.2 (O.2.2 swp))) ?_)) .ret)
  show Go ((jJ .NotEq (.lst (dg (o5 (cX swp (kj ns))))) (.lst (dg (o5 (cX swp (kj ns)))))).bind fun c=>Ej (.bool c)) _ _ _
  rw[JL]
  exact .k [F'] fun o=>by kernel_rfl rfl
end
section
variable {X:List V} {o:List V} {e:Option M2} {p:Int} {ns:List Int} {swp:Bool} {k:Nat}
theorem qA (hD:D.length≤8) (hk:k≤D.length) (hC:(D.drop k).take 4=ns.map .int) (h:ns.length≤4):Go ((im P1 (gj (bh 565 1)) (.int k)).bind fun ζ=>(Lv 11).ex rM) (LW (zR X D e)) .next (mB X D k (ns.map .int) (some (kj ns))):=by
  have v:vO D k ((k+4:Nat)) (ns.map .int)=true:=by
    unfold vO
    rw[mr hk,hC];exact aH _
  refine .to [.own (ns.map .int)] (fun o=>OE (ns.map .int)) (af (af rfl (le6 (ac hD (by decide)))) v) (.step (Fd h) (.step (Hy (swp:=true) (L:=J0 (gj (sub rM 2))) (R:=JY (gj (sub rM 2))) h (by kernel_rfl) fun o=>by kernel_rfl fun o=>by kernel_rfl) (.step (Hy (swp:=false) (L:=J0 (gj (sub rM 3))) (R:=JY (gj (sub rM 3))) h rfl fun o=>by kernel_rfl fun o=>by kernel_rfl) .ret)))
theorem IL (n:Nat) (h:n≤8):cQ 0 (if(1:Int)<n then n else 1) 4 ((if(1:Int)<n then(n:Int) else 1) -0).toNat=cond (Nat.ble n 4) [.int 0] [.int 0,.int (4:Nat)]:=by
  rcases n with _|_|_|_|_|_|_|_|_|n
  iterate 9 rfl
  exact absurd h (by simp)
theorem pureX (xs:List Int) (h:¬(63:Int)<xs.length):∃orc d s',aF P1 (Hz P1 (d+1)) du.body (eO xs orc)=.ok (.ret (.bool true)) s'∧s'.ob=true:=by
  generalize hX:xs.map V.int=X
  generalize hD:X.take 8=D
  have h8:D.length≤8:=hD▸List.length_take_le _ _
  have hs:oQ X none (some 8)=D:=by
    rw[←hD]
    show(X.drop 0).take (jy (8:Nat) X.length -0)=X.take 8
    rw[kR,Nat.sub_zero,List.drop_zero,List.take_eq_take_iff,Nat.min_assoc,Nat.min_self]
  have hi:∀k,∃ns:List Int,(D.drop k).take 4=ns.map .int∧ns.length≤4:=fun k=>⟨((xs.take 8).drop k).take 4,by rw[←hD,←hX,x8,iL,x8],List.length_take_le _ _⟩
  have ok:av (av true (B6 D)) (jF 0 (I3 D) 4)=true:=af (af rfl (le6 (ac h8 (by decide)))) (aa.mpr ⟨rfl,aa.mpr ⟨rfl,aa.mpr ⟨by
    unfold I3
    split
    ·exact le6 (ac h8 (by decide))
    ·rfl,rfl⟩⟩⟩)
  obtain⟨n0,c0,l0⟩:=hi 0
  obtain⟨n1,c1,l1⟩:=hi 4
  suffices g:∃e,Go (forL P1 (Lv 11) (gj (bh 565 1)) rM 0 .none (cond (Nat.ble D.length 4) [.int 0] [.int 0,.int (4:Nat)])) (LW (zR X D none)) .next (LW (zR X D e)) by
    obtain⟨e,g⟩:=g
    have g:Go (aF P1 (Lv 11) (cf 565).body) (LW [(ae "script",.lst X)]) (.ret (.bool true)) (LW (zR X D e)):=.eq (show _=aF P1 (Lv 11) [bh 565 0,bh 565 1,bh 565 2] by kernel_rfl) (.cons (.k [.own D] (fun o=>OG) (af (af rfl (le6 (by rw[←hX,au];exact ac (DE.mp (Int.not_lt.mp h)) (by decide)))) (by rw[hs];exact aH _))) (.cons (.to [] (fun o=>I2.trans (by rw[show cQ 0 (I3 D) 4 (I3 D -0).toNat=_ from IL _ h8];rfl)) ok g) (.stop (.k [] (fun o=>OF) rfl))))
    obtain⟨t,g⟩:=g
    refine⟨t++[],10,LW (zR X D e) [] true,?_,rfl⟩
    rw[show eO xs (t++[])=LW [(ae "script",.lst X)] (t++[]) true by rw[←hX];rfl]
    exact g []
  induction hb:Nat.ble D.length 4 with
  |true=>exact⟨_,.for_ (qA (k:=0) h8 (bt _) c0 l0) (.k [] (fun o=>rfl) rfl)⟩
  |false=>exact⟨_,.for_ (qA (k:=0) h8 (bt _) c0 l0) (.for_ (qA h8 (Nat.le_of_not_le fun h=>bG ((cz.mpr h).symm.trans hb).symm) c1 l1) (.k [] (fun o=>rfl) rfl))⟩
end
end N
section
theorem OO (K:Frag) (h1:(kC.all fun q=>EV (bJ K) q.1 q.2)=true) (h2:F0 (bJ K)=true) (h3:findIn (bJ K) (.ref 156) "__setattr__"=some (some (.builtin "object.__setattr__"))) (h4:mroIn (bJ K) 156 (.type "StopIteration")=some false) (h5:nsIn (bJ K) cStatics "thirdparty.any"=some none) (h6:(iT.all fun q=>ww (bJ K) q.1 q.2.1 q.2.2)=true):D6 K:=⟨h1,h2,h3,h4,h5,h6,by kernel_rfl,by kernel_rfl,by kernel_rfl⟩
theorem Mv:(xr.all fun q=>O4 q.2)=true:=by kernel_rfl
noncomputable def H8 (w:World) (h:Heap):Prop:=∃K:Frag,K.In h∧G7 K∧K2 K∧D6 K∧Al K=true∧nsIn K mainGlobals (Str.ofString "law")=some (some (.ref 565))
theorem Cg (w:World) (s:Shared) (e:xt (nU s.heap)=xu):H8 w s.heap:=
  have e:=Prod.mk.inj e
  have B:=aa.mp e.1
  have A1:=aa.mp B.1
  have A2:=aa.mp A1.1
  have A3:=aa.mp A1.2
  have B1:=aa.mp B.2
  have B2:=aa.mp B1.1
  have B3:=aa.mp B2.1
  have B4:=aa.mp B2.2
  have D1:=aa.mp B1.2
  have D2:=aa.mp D1.1
  have D3:=aa.mp D2.1
  have D4:=aa.mp D2.2
  have E1:=aa.mp D1.2
  have E2:=aa.mp E1.1
  have E3:=aa.mp E1.2
  ⟨_,za s.heap,⟨A2.1,A2.2,A3.1,A3.2⟩,⟨B3.1,Mv,e.2,B3.2,B4.1,dM B4.2 fun o h1 h=>dM h fun bm h2 h=>⟨bm,h1.trans (congrArg some (bY h2)),h⟩⟩,OO _ D3.1 D3.2 (eq_of_beq D4.1) (eq_of_beq D4.2) (eq_of_beq E2.1) E2.2,E3.1,eq_of_beq E3.2⟩
end
section
theorem K9:PySem.Challenge.rw_te0067_01.wellSaid=true:=by
  rw[Fast.te9446332074065402090]
  kernel_rfl
theorem xh:PySem.Challenge.rw_te0067_01.Holds:=by
  w_on
  refine holds_law K9 fun said=>?_
  refine holds_open (q:=qv) (loose:=KD) (Xt:=xtv) (XP:=XL qv []) (Yf:=fun s=>xt (nU s.heap)) (Ya:=fun ζ=>xu) (YP:=H8) (N:=8134) L8 Cg (fun w h h' ⟨K,hi,r⟩ k=>⟨K,fun a o e=>k _ _ (hi a o e),r⟩) (fun s e=>xl_of s (aa.mp e).1) XL.keeps (by rfl) (by rfl) (by rfl) (fun s e=>recFacts_of (aa.mp e).2) (by rfl) said (by decide+kernel) ⟨rfl,rfl,rfl,rfl,rfl,by decide+kernel⟩ ?hw ?hc
  case hw=>w_witness2
  intro w s₀ s₁ mg mb G Y fa o pm cd doc dV kV ho hd hcd hD hmg hg args vals as hpre hlay hrd hwl hlo
  obtain⟨K,KX,FA,FB,FC,FT,FL⟩:=Y
  refine Ground.open G ?_
  intro T B D TE TW
  wrow_args hpre hlay hrd hwl hlo
  have hfa:=(nC KX (Top.g T) FL).symm.trans hmg
  cases hfa
  refine Fo KX T hg (by assumption) (by assumption) (by assumption) FA FB FC FT (by first|rfl|wrow_post) (N.pureX _ (by assumption))
end
end Mine.Internal
theorem PySem.Challenge.cw_te0067_01_holds : PySem.Challenge.rw_te0067_01.Holds :=
 Mine.Internal.xh
