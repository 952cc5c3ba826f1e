import PyProof.Rows.All
import Wide.All
import OpenK.AllK
import Wide.FinOn
import PyProof.MinMaxWalk
import PyProof.GenQ
import PyProof.PureInt
import PyProof.Cells
import PyProof.ListOps
import PyProof.ListNew
import PyProof.ListRange
import PyProof.AutoIntG0
import PyProof.AutoIntG1
import PyProof.AutoSeq1
import PyProof.PureStr
import PyProof.ExcClass
import PyProof.ExcBaseAll.ValueError
import PyProof.SliceList
import KE.KRevSl
import PyProof.MeetsSeq
import PyProof.SliceStr
import PyProof.Rows.FactsTup
import Lean
import PySem.Challenge.RW_ba0002_01
open PySem PySem.W PyProof.Rows
set_option Elab.async false
set_option linter.all false
set_option maxRecDepth 100000
set_option maxHeartbeats 0
set_option genInjectivity false
set_option genSizeOf false
set_option tactic.hygienic false
set_option bootstrap.genMatcherCode false
namespace Mine
inductive Ko where
 |top
 |ret (co:Code) (hd:Option Value) (k:Result→Sem Fin) (κ:Ko)
noncomputable def Ko.hd(h0:Option Value):Ko→Option Value
 |.top=>h0
 |.ret _ hd _ κ=>hd.or (κ.hd h0)
noncomputable def b4(l:List UInt8)(a b c d:Nat):Bool:=match l with
 |w::x::y::z::_=>Nat.beq w.toNat a&&Nat.beq x.toNat b&&Nat.beq y.toNat c&&Nat.beq z.toNat d
 |_=>false
set_option backward.match.sparseCases false in
noncomputable def Eg:Code→Bool
 |.builtin id _=> !(b4 id.toByteArray.data.toList 108 105 102 101)
 |_=>true
theorem pA:∀c,Eg c=true→c.quiet=true:=by
 intro c h
 cases c with
 |builtin id args=>
  refine Code.quiet_builtin args ?_
  cases q:id.startsWith "lifetime." with
  |false=>rfl
  |true=>
   exfalso
   rw[String.startsWith_string_iff]at q
   obtain⟨t,ht⟩:=q
   have hid:id="lifetime."++String.ofList t:=by
    apply String.toList_inj.mp
    have e:(String.ofList t).toList=t:=String.toList_ofList
    rw[String.toList_append,e]
    exact ht.symm
   have:b4 id.toByteArray.data.toList 108 105 102 101=true:=by
    rw[hid,String.toByteArray_append,ByteArray.toList_data_append]
    rfl
   simp[Eg,this]at h
 |_=>rfl
theorem cS{p:Prop}[Decidable p]{f:p→Nat}{g:¬p→Nat}(h1:∀h,f h≤3)(h2:∀h,g h≤3):dite p f g≤3:=by
 by_cases h:p
 ·rw[dif_pos h];exact h1 h
 ·rw[dif_neg h];exact h2 h
theorem Bl{α:Type}{x y:α}{a:Nat}(h:a≤3)(e:x=y):(Eq.ndrec_symm (motive:=λj=>Nat) a e)≤3:=by
 subst e;exact h
theorem oF(b:Bool):(if b=true then 1 else 0)≤1:=by cases b<;>decide
theorem fP(c:Code):c.frames≤3:=by
 cases c with
 |builtin id args=>
  delta Code.frames Code.frames.match_1 Code.frames._sparseCasesOn_1
  have d:∀(a:Nat),Nat.ble a 3=true→∀s (e:id=s),(Eq.ndrec_symm (motive:=λj=>Nat) a e)≤3:=λj h j e=>Bl (Nat.le_of_ble_eq_true h) e
  exact cS (d 2 rfl _) λj=>cS (d 3 rfl _) λj=>cS (d 1 rfl _) λj=>cS (d 1 rfl _) λj=>cS (d 1 rfl _) λj=>cS (d 1 rfl _) λj=>cS (d 1 rfl _) λj=>cS (d 1 rfl _) λj=>cS (d 1 rfl _) λj=>Nat.zero_le 3
 |compStart e dp it acc env=>exact Nat.le_trans (oF _) (by decide)
 |compLoop e dp it acc env=>exact Nat.le_trans (oF _) (by decide)
 |_=>exact Nat.le_of_ble_eq_true rfl
noncomputable def wt:Code→Option Nat
 |.builtin id _=>match b4 id.toByteArray.data.toList 99 108 97 105 with|true=>none|false=>some 5
 |_=>some 1
set_option tactic.hygienic true in
theorem jj{c:Code}{n:Nat}(h:wt c=some n):c.weight≤n:=by
 cases c with
 |builtin id args=>
  have h':(match b4 id.toByteArray.data.toList 99 108 97 105 with|true=>none|false=>some 5)=some n:=h
  cases hb:b4 id.toByteArray.data.toList 99 108 97 105 with
  |true=>rw[hb]at h';cases h'
  |false=>
   rw[hb]at h'
   cases h'
   have hc:(Code.builtin id args).isCaller=false:=by
    cases q:(Code.builtin id args).isCaller with
    |false=>rfl
    |true=>
     exfalso
     unfold Code.isCaller at q
     split at q
     ·rename_i e
      cases e
      exact Bool.noConfusion (hb.symm.trans rfl)
     ·cases q
   exact Nat.add_le_add (Nat.add_le_add (Nat.add_le_add (fP _) (oF _)) (oF _)) (Nat.le_of_eq (by show(if(Code.builtin id args).isCaller=true then claimMargin else 0)=0;rw[hc];rfl))
 |compStart e dp it acc env=>exact Nat.le_trans (oF _) (Nat.le_of_eq (Option.some.inj h))
 |compLoop e dp it acc env=>exact Nat.le_trans (oF _) (Nat.le_of_eq (Option.some.inj h))
 |_=>exact Nat.le_trans (Nat.le_of_ble_eq_true rfl:_≤1) (Nat.le_of_eq (Option.some.inj h))
noncomputable def Ko.dep:Ko→Option Nat
 |.top=>some 0
 |.ret co _ _ κ=>match κ.dep with
  |some a=>match wt co with
   |some b=>some (a+b)
   |none=>none
  |none=>none
noncomputable def gM(lim:Nat)(κ:Ko)(c:Code):Bool:=match κ.dep with
 |some a=>match wt c with
  |some b=>Nat.ble (a+b) lim
  |none=>false
 |none=>false
noncomputable def E3(c:Nat)(l:List Nat):Nat→Nat:=@List.rec Nat (λj=>Nat→Nat) (λj=>0) (λa j ih k=>@Bool.rec (λj=>Nat) (ih (k+1)) k (Nat.beq c a)) l
noncomputable def GK:List Nat:=[116512245094328231196454762,116512097088030077292474218,128106770130096871752080967664072486762,455126313168696235093866,455125451010842570354538,455126531311803185852266,455125450447892616933226,455126529904428302298986,455125449040517733379946]
noncomputable def yr(c:Nat):Nat:=E3 c GK 1
noncomputable def Ei:List String:=["int.__mul__","int.__mod__","int.__floordiv__","int.__eq__","int.__ne__","int.__lt__","int.__le__","int.__gt__","int.__ge__"]
structure IA where
 op:Nat
 a:Int
 b:Int
noncomputable def Hg(a b:Int)(k:Nat):Option IA:=match k with
 |0=>none
 |n+1=>some ⟨n+1,a,b⟩
noncomputable def Hh(a:Int)(k:Bool):Option IA:=match k with
 |true=>some ⟨10,a,0⟩
 |false=>none
set_option backward.match.sparseCases false in
noncomputable def vO(c:Code):Option IA:=match c with
 |.call f args=>match f with
  |.builtin id=>match args with
   |⟨pos,kw⟩=>match kw with
    |[]=>match pos with
     |[]=>none
     |x::pos=>match x with
      |.int a _=>match pos with
       |[]=>Hh a (Nat.beq (code id) 29827134633612522566320484202)
       |y::pos=>match y with
        |.int b _=>match pos with
         |[]=>Hg a b (yr (code id))
         |_=>none
        |_=>none
      |_=>none
    |_=>none
  |_=>none
 |_=>none
inductive IR where
 |int (v:Int) (q:Prop)
 |bool (v:Bool) (q:Prop)
noncomputable def BZ(op x:Nat)(a b:Int):Option IR:=match x with
 |0=>none
 |1=>match op with
  |1=>some (.int (a*b) (IntMulOk a b))
  |2=>some (.int (a.fmod b) (b≠0))
  |3=>some (.int (a.fdiv b) (b≠0∧Builtin.divisionGoesByPylong a b=false))
  |4=>some (.bool true (a=b))
  |5=>some (.bool true (a≠b))
  |6=>some (.bool true (a<b))
  |7=>some (.bool true (a≤b))
  |8=>some (.bool true (b<a))
  |9=>some (.bool true (b≤a))
  |10=>some (.bool true (a≠0))
  |_=>none
 |_=>match op with
  |4=>some (.bool false (a≠b))
  |5=>some (.bool false (a=b))
  |6=>some (.bool false (b≤a))
  |7=>some (.bool false (b<a))
  |8=>some (.bool false (a≤b))
  |9=>some (.bool false (a<b))
  |10=>some (.bool false (a=0))
  |_=>none
noncomputable def BX(n:Nat)(o:Option IR):Option IR:=match o with
 |some r=>match r with
  |.int v q=>some (.int (.ofNat n) (v=.ofNat n∧q))
  |.bool _ _=>none
 |none=>none
noncomputable def BY(op x:Nat)(a b:Int):Option IR:=match x with
 |n+3=>BX n (BZ op 1 a b)
 |x=>BZ op x a b
inductive aU where
 |fin (r:Result) (n0 i tk u m:Nat) (T AT:BT) (cs:List (Nat×Nat)) (ts:List (Sem Fin×Sem Fin)) (ps:List Prop)
 |ent (κ:Ko) (c:Code) (n0 i tk u m:Nat) (T AT:BT) (cs:List (Nat×Nat)) (ts:List (Sem Fin×Sem Fin)) (ps:List Prop)
 |gen (c':Code) (k:Nat→Sem Fin) (c:Code) (κ:Ko) (n0 i tk u m:Nat) (T AT:BT) (cs:List (Nat×Nat)) (ts:List (Sem Fin×Sem Fin)) (ps:List Prop)
 |bad (n a:Nat)
structure Pm where
 den:Code→Sem Fin
 odd:Code→Bool
 entF:Nat→Sem Unit
 room:Nat→Sem Unit
 bd:Sem Unit→(Unit→Sem Fin)→Sem Fin
 B:X.KT
 st:Setting
 lim:Nat
noncomputable abbrev Go:=List Nat→Nat→Code→Ko→Sem Fin→Nat→Nat→Nat→Nat→Nat→BT→BT→List (Nat×Nat)→List (Sem Fin×Sem Fin)→List Prop→aU
noncomputable def sb(a:Nat):Obj:=⟨.none,some a,.plain,#[]⟩
set_option backward.match.sparseCases false in
noncomputable def pB(B:X.KT):Nat→Sem Fin→Option Code
 |0,_=>none
 |n+1,t=>match t with
  |.pure (.again c)=>some c
  |.rule _ k=>pB B n (k ())
  |.at _ k=>pB B n (k ())
  |.point _ k=>pB B n (k ())
  |.load a _ k=>match B.get a with
   |some o=>pB B n (k o)
   |none=>none
  |_=>none
noncomputable def pE(hd:Option Value):Bool:=match hd with
 |none=>true
 |some v=> !decide (v=byPass)
noncomputable abbrev og{α:Type}(x:Option α)(f:α→aU)(b:aU):aU:=@Option.rec α (λj=>aU) b f x
noncomputable abbrev bg(x:Bool)(a b:aU):aU:=@Bool.rec (λj=>aU) b a x
noncomputable def oo(P:Pm)(ih:Go)(orc:List Nat)(cnt:Nat)(κ:Ko)(c:Code)(n0 i tk u m:Nat)(T AT:BT)(cs:List (Nat×Nat))(ts:List (Sem Fin×Sem Fin))(ps:List Prop):aU:=match cnt with
 |0=>.ent κ c n0 i tk u m T AT cs ts ps
 |cnt+1=>bg (P.odd c) (bg (gM P.lim κ c) (ih orc cnt c κ (P.den c) n0 i tk u m T AT cs ts ps) (.bad 22 0)) (ih orc cnt c κ (P.den c) n0 i tk u m T AT cs ts ps)
noncomputable def nI(ih:Go)(orc:List Nat)(cnt:Nat)(r:Result)(κ:Ko)(n0 i tk u m:Nat)(T AT:BT)(cs:List (Nat×Nat))(ts:List (Sem Fin×Sem Fin))(ps:List Prop):aU:=match κ with
 |.top=>.fin r n0 i tk u m T AT cs ts ps
 |.ret co _ k κ=>ih orc cnt co κ (k r) n0 i tk u m T AT cs ts ps
noncomputable abbrev Gx:=List Nat→Nat→Code→Ko→Nat→Nat→Nat→Nat→Nat→BT→BT→List (Nat×Nat)→List (Sem Fin×Sem Fin)→List Prop→aU
noncomputable def dA:Gx:=λj j j j j j j j j j j j j j=>.bad 99 0
section
variable (P:Pm) (ih:Go)
noncomputable def AX(fin:Fin):Gx:=λorc cnt c κ n0 i tk u m T AT cs ts ps=>match fin with
 |.done f=>nI ih orc cnt (.ok f) κ n0 i tk u m T AT cs ts ps
 |.again c'=>bg (Eg c') (oo P ih orc cnt κ c' n0 i tk u m T AT cs ts ps) (.bad 5 0)
noncomputable def sB(e:Value):Gx:=λorc cnt c κ n0 i tk u m T AT cs ts ps=>nI ih orc cnt (.error e) κ n0 i tk u m T AT cs ts ps
noncomputable def EF{α:Type}(_:α)(k:Unit→Sem Fin)(_:Unit→Gx):Gx:=λorc cnt c κ n0 i tk u m T AT cs ts ps=>ih orc cnt c κ (k ()) n0 i tk u m T AT cs ts ps
noncomputable def AY(k:Setting→Sem Fin)(_:Setting→Gx):Gx:=λorc cnt c κ n0 i tk u m T AT cs ts ps=>ih orc cnt c κ (k P.st) n0 i tk u m T AT cs ts ps
noncomputable def xY(a:Addr)(_:Option Value)(k:Obj→Sem Fin)(_:Obj→Gx):Gx:=λorc cnt c κ n0 i tk u m T AT cs ts ps=>match orc with
 |[]=>.bad 1 a
 |x::orc=>match x with
  |0=>og (P.B.get a) (λo=>ih orc cnt c κ (k o) n0 i tk u m T AT cs ts ps) (.bad 2 a)
  |j+1=>og (AT.get j) (λw=>og w.dict (λb=>og (T.get j) (λo=>ih orc cnt c κ (k o) n0 i tk u m T AT ((a,b)::cs) ts ps) (.bad 3 j)) (.bad 4 j)) (.bad 6 j)
noncomputable def AV(a:Addr)(_:Option Value)(f:Obj→Obj)(k:Unit→Sem Fin)(_:Unit→Gx):Gx:=λorc cnt c κ n0 i tk u m T AT cs ts ps=>match orc with
 |[]=>.bad 7 a
 |x::orc=>match x with
  |0=>.bad 8 a
  |j+1=>og (AT.get j) (λw=>og w.dict (λb=>og (T.get j) (λo=>bg (f o).isFreed (.bad 9 j) (ih orc cnt c κ (k ()) n0 i tk u m (T.set j f) AT ((a,b)::cs) ts ps)) (.bad 10 j)) (.bad 11 j)) (.bad 12 j)
noncomputable def sD(o:Obj)(k:Addr→Sem Fin)(_:Addr→Gx):Gx:=λorc cnt c κ n0 i tk u m T AT cs ts ps=>
 bg o.isFreed (.bad 13 0) (og ((T.ins m o).get m) (λj=>og ((AT.ins m (sb (n0+i))).get m) (λj=>ih orc cnt c κ (k (n0+i)) n0 (i+1) tk u (m+1) (T.ins m o) (AT.ins m (sb (n0+i))) cs ts ps) (.bad 14 m)) (.bad 15 m))
noncomputable def sC(k:Tok→Sem Fin)(_:Tok→Gx):Gx:=λorc cnt c κ n0 i tk u m T AT cs ts ps=>ih orc cnt c κ (k (tk+u)) n0 i tk (u+1) m T AT cs ts ps
noncomputable def xZ(own:Bool)(k:Option Value→Sem Fin)(_:Option Value→Gx):Gx:=λorc cnt c κ n0 i tk u m T AT cs ts ps=>match own with
 |false=>ih orc cnt c κ (k (κ.hd none)) n0 i tk u m T AT cs ts ps
 |true=>.bad 16 0
noncomputable def sA(k:List (Code×Pos)→Sem Fin)(_:List (Code×Pos)→Gx):Gx:=λorc cnt c κ n0 i tk u m T AT cs ts ps=>match orc with
 |[]=>.bad 24 0
 |x::orc=>match x with
  |0=>og (pB P.B 60 (k [])) (λc'=>bg (Eg c') (bg (gM P.lim κ c) (oo P ih orc cnt κ c' n0 i tk u m T AT cs ((.stack k,P.bd (P.entF 0) (λj=>.pure (.again c')))::ts) ps) (.bad 21 0)) (.bad 5 0)) (.bad 17 0)
  |x+1=>bg (gM P.lim κ c) (ih orc cnt c κ (k []) n0 i tk u m T AT cs ((.stack k,P.bd (P.room x) (λj=>k []))::ts) ps) (.bad 23 0)
noncomputable def x8(c':Code)(hd:Option Value)(_:Bool)(_:List Value)(k:Result→Sem Fin)(_:Result→Gx):Gx:=λorc cnt c κ n0 i tk u m T AT cs ts ps=>bg (pE hd) (og (vO c') (λy=>match orc with
  |[]=>.bad 30 y.op
  |x::orc=>og (BY y.op x y.a y.b) (λz=>match z with
   |.int v q=>ih orc cnt c κ (k (.ok (.ret (.int v (tk+u))))) n0 i tk (u+1) m T AT cs ts (q::ps)
   |.bool v q=>ih orc cnt c κ (k (.ok (.ret (.bool v)))) n0 i tk u m T AT cs ts (q::ps)) (oo P ih orc cnt (.ret c hd k κ) c' n0 i tk u m T AT cs ts ps)) (oo P ih orc cnt (.ret c hd k κ) c' n0 i tk u m T AT cs ts ps)) (.bad 18 0)
noncomputable def AW(c':Code)(k:Nat→Sem Fin)(_:Nat→Gx):Gx:=λorc cnt c κ n0 i tk u m T AT cs ts ps=>.gen c' k c κ n0 i tk u m T AT cs ts ps
noncomputable def pg:Go:=λorc cnt c κ t=>@Sem.rec Fin (λj=>Gx) (AX P ih) (sB ih) (λj=>dA) (λj=>dA) (EF ih) (EF ih) (xY P ih) (AV ih) (sD ih) (λj j j=>dA) (EF ih) (λj j j=>dA) (sC ih) (AY P ih)
 (λj j j j=>dA) (λj j j j=>dA) (x8 P ih) (xZ ih) AW (λj j j=>dA) (λj j j j j=>dA) (λj j j j j=>dA) (sA P ih) (λj j j=>dA) (λj j=>dA) (λj j j j j j=>dA) t orc cnt c κ
end
noncomputable def yc(P:Pm)(n:Nat):Go:=@Nat.rec (λj=>Go) (λj j j j j j j j j j j j j j j=>.bad 40 0) (λj ih=>pg P ih) n
noncomputable def Ko.inn(A:Around):Ko→Around
 |.top=>A
 |.ret co hd _ κ=>((κ.inn A).under co).mark hd
noncomputable def fq(M:Model)(A:Around)(R:Result→Shared→Prop):PySem.Fin→Shared→Prop:=λfin s'=>match fin with
 |.done f=>R (.ok f) s'
 |.again c'=>c'.quiet=true∧codeAny M A c' R s'
noncomputable def Ko.post(M:Model)(A:Around)(R:Result→Shared→Prop):Ko→Result→Shared→Prop
 |.top=>R
 |.ret co _ k κ=>λr s=>wpAny M ((κ.inn A).under co) (k r) (fq M (κ.inn A) (κ.post M A R)) (λe s'=>κ.post M A R (.error e) s') s
noncomputable def fG(M:Model)(A:Around)(R:Result→Shared→Prop)(c:Code)(κ:Ko)(t:Sem PySem.Fin)(s:Shared):Prop:=
 wpAny M ((κ.inn A).under c) t (fq M (κ.inn A) (κ.post M A R)) (λe s'=>κ.post M A R (.error e) s') s
theorem ek(A:Around)(c:Code):(A.under c).handled=A.handled:=rfl
theorem Ko.hd_eq(A:Around):∀κ:Ko,(κ.inn A).handled=κ.hd A.handled
 |.top=>rfl
 |.ret co hd k κ=>by
  show hd.or ((κ.inn A).under co).handled=_
  rw[ek,Ko.hd_eq A κ];rfl
noncomputable def adr(AT:BT)(j:Nat):Option Nat:=match AT.get j with
 |some w=>w.dict
 |none=>none
structure Rp (B:X.KT) (h₀:Heap) (p:Nat) (h:Heap) (n0 i m:Nat) (T AT:BT):Prop where
 size:h.objs.size=n0+i
 base:∀x o,B.get x=some o→h.get? x=some o
 obj:∀j a o,adr AT j=some a→T.get j=some o→h.get? a=some o
 sep:∀j k a,adr AT j=some a→adr AT k=some a→j=k
 off:∀j a,adr AT j=some a→B.get a=none
 fr:∀j a,adr AT j=some a→j<m∧a<n0+i
 pm:p≤m
 keep:∀b o,h₀.get? b=some o→(∀j,j<p→adr AT j≠some b)→h.get? b=some o
 old:∀j a,p≤j→adr AT j=some a→h₀.objs.size≤a
 lo:h₀.objs.size≤n0
 ful:∀j a,adr AT j=some a→(T.get j).isSome=true
theorem c9{AT:BT}{m j:Nat}{a:Nat}(hg:((AT.ins m (sb a)).get m).isSome=true):adr (AT.ins m (sb a)) j=if j=m then some a else adr AT j:=by
 unfold adr
 rw[BT.get_ins _ _ _ hg]
 by_cases h:j=m
 ·rw[if_pos h,if_pos h];rfl
 ·rw[if_neg h,if_neg h]
theorem Rp.alloc{B:X.KT}{h₀:Heap}{p:Nat}{h:Heap}{n0 i m:Nat}{T AT:BT}(D:Rp B h₀ p h n0 i m T AT){o:Obj}(hf:o.isFreed=false)
  (h1:((T.ins m o).get m).isSome=true) (h2:((AT.ins m (sb (n0+i))).get m).isSome=true):
  Rp B h₀ p (h.push o) n0 (i+1) (m+1) (T.ins m o) (AT.ins m (sb (n0+i))):=by
 have fresh:∀b o,h.get? b=some o→b<n0+i:=λb o e=>D.size▸Heap.lt_size e
 refine⟨by rw[Heap.size_push,D.size,Nat.add_assoc],λx o' e=>Heap.get?_push_of_some _ (D.base x o' e),λj a o' e1 e2=>?_,λj k a e1 e2=>?_,λj a e=>?_,λj a e=>?_,
  Nat.le_succ_of_le D.pm,λb o' e q=>Heap.get?_push_of_some _ (D.keep b o' e λj hj=>?_),λj a hj e=>?_,D.lo,λj a e=>?_⟩
 ·rw[c9 h2]at e1
  rw[BT.get_ins _ _ _ h1]at e2
  by_cases hj:j=m
  ·rw[if_pos hj]at e1 e2
   cases e1;cases e2
   rw[←D.size];exact Heap.get?_push_size _ hf
  ·rw[if_neg hj]at e1 e2
   exact Heap.get?_push_of_some _ (D.obj j a o' e1 e2)
 ·rw[c9 h2]at e1 e2
  by_cases hj:j=m
  ·by_cases hk:k=m
   ·rw[hj,hk]
   ·rw[if_pos hj]at e1;rw[if_neg hk]at e2
    cases e1
    exact absurd (D.fr k _ e2).2 (Nat.lt_irrefl _)
  ·by_cases hk:k=m
   ·rw[if_neg hj]at e1;rw[if_pos hk]at e2
    cases e2
    exact absurd (D.fr j _ e1).2 (Nat.lt_irrefl _)
   ·rw[if_neg hj]at e1;rw[if_neg hk]at e2
    exact D.sep j k a e1 e2
 ·rw[c9 h2]at e
  by_cases hj:j=m
  ·rw[if_pos hj]at e
   cases e
   cases q:B.get (n0+i)with
   |none=>rfl
   |some o'=>exact absurd (fresh _ _ (D.base _ _ q)) (Nat.lt_irrefl _)
  ·rw[if_neg hj]at e;exact D.off j a e
 ·rw[c9 h2]at e
  by_cases hj:j=m
  ·rw[if_pos hj]at e
   cases e
   exact⟨hj▸Nat.lt_succ_self _,Nat.lt_succ_self _⟩
  ·rw[if_neg hj]at e
   exact⟨Nat.lt_succ_of_lt (D.fr j a e).1,Nat.lt_succ_of_lt (D.fr j a e).2⟩
 ·have z:=q j hj
  rw[c9 h2,if_neg (Nat.ne_of_lt (Nat.lt_of_lt_of_le hj D.pm))]at z
  exact z
 ·rw[c9 h2]at e
  by_cases hj':j=m
  ·rw[if_pos hj']at e
   cases e
   exact Nat.le_add_right_of_le D.lo
  ·rw[if_neg hj']at e;exact D.old j a hj e
 ·rw[c9 h2]at e
  rw[BT.get_ins _ _ _ h1]
  by_cases hj:j=m
  ·rw[if_pos hj];rfl
  ·rw[if_neg hj]at e ⊢;exact D.ful j a e
theorem Rp.update{B:X.KT}{h₀:Heap}{p:Nat}{h:Heap}{n0 i m:Nat}{T AT:BT}(D:Rp B h₀ p h n0 i m T AT){j:Nat}{a:Addr}{o:Obj}{f:Obj→Obj}(ea:adr AT j=some a)
  (eo:T.get j=some o) (hf:(f o).isFreed=false):Rp B h₀ p (h.update a f) n0 i m (T.set j f) AT:=by
 have ho:=D.obj j a o ea eo
 have hs:Heap.SameBut a h (h.update a f):=Heap.SameBut.update ..
 refine⟨by rw[Heap.size_after_update,D.size],λx o' e=>(hs.2 x ?_).trans (D.base x o' e),λk b o' e1 e2=>?_,D.sep,D.off,D.fr,D.pm,λb o' e q=>(hs.2 b ?_).trans (D.keep b o' e q),D.old,D.lo,λk b e=>?_⟩
 ·rintro rfl
  rw[D.off j _ ea]at e;cases e
 ·rw[BT.get_set]at e2
  by_cases hk:k=j
  ·subst hk
   rw[if_pos rfl,eo]at e2
   rw[ea]at e1
   cases e1;cases e2
   exact Heap.get?_update_self f ho hf
  ·rw[if_neg hk]at e2
   have:b≠a:=by
    rintro rfl
    exact hk (D.sep k j _ e1 ea)
   exact(hs.2 b this).trans (D.obj k b o' e1 e2)
 ·rintro rfl
  by_cases hj:j<p
  ·exact q j hj ea
  ·exact absurd (Heap.lt_size e) (Nat.not_lt.mpr (D.old j b (Nat.le_of_not_lt hj) ea))
 ·rw[BT.get_set]
  by_cases hk:k=j
  ·rw[if_pos hk,eo];rfl
  ·rw[if_neg hk];exact D.ful k b e
noncomputable def aU.cs:aU→List (Nat×Nat)
 |.fin _ _ _ _ _ _ _ _ cs _ _=>cs
 |.ent _ _ _ _ _ _ _ _ _ cs _ _=>cs
 |.gen _ _ _ _ _ _ _ _ _ _ _ cs _ _=>cs
 |.bad _ _=>[]
noncomputable def aU.ts:aU→List (Sem PySem.Fin×Sem PySem.Fin)
 |.fin _ _ _ _ _ _ _ _ _ ts _=>ts
 |.ent _ _ _ _ _ _ _ _ _ _ ts _=>ts
 |.gen _ _ _ _ _ _ _ _ _ _ _ _ ts _=>ts
 |.bad _ _=>[]
noncomputable def aU.ps:aU→List Prop
 |.fin _ _ _ _ _ _ _ _ _ _ ps=>ps
 |.ent _ _ _ _ _ _ _ _ _ _ _ ps=>ps
 |.gen _ _ _ _ _ _ _ _ _ _ _ _ _ ps=>ps
 |.bad _ _=>[]
noncomputable def aU.isBad:aU→Bool
 |.bad _ _=>true
 |_=>false
noncomputable def Rm(Γ:Ctx):Prop:=Γ.units<cLine∧frameCount Γ.below+Γ.code.weight<recursionLimit
theorem f9{prog:Program}{w:World}{A:Around}{c:Code}{R:Result→Shared→Prop}{s:Shared}
  (h:∀Γ p,Γ.code=c→Γ.In (A.under c)→Sem.wp (model prog w) Γ (denote table c) (λfin j s'=>match fin with|.done f=>R (.ok f) s'|.again c'=>c'.quiet=true∧codeAny (model prog w) A c' R s') (λe j s'=>R (.error e) s') p s):codeAny (model prog w) A c R s:=by
 refine λΓ p hc hΓ=>?_
 rw[wpCode_iff_wp,hc]
 have h0:=h Γ p hc (hc▸hΓ.in)
 refine Sem.wp_mono _ _ _ (λf p' s' hf=>?_) (λj j j e=>e) p s h0
 cases f with
 |done f=>exact hf
 |again c'=>exact⟨hf.1,hf.2 _ _ rfl (hΓ.goto c')⟩
structure z3 (P:Pm) (prog:Program) (w:World):Prop where
 den:∀c,P.odd c=false→P.den c=denote table c
 le:∀c,P.odd c=true→∀(M:Model) (Γ:Ctx),Γ.code=c→Rm Γ→∀Q E p s,Sem.wp M Γ (P.den c) Q E p s→Sem.wp M Γ (denote table c) Q E p s
 entF:P.entF 0=enterFrame
 room:∀x,∃m,P.room x=cRoom m
 bd:∀t k,P.bd t k=t.bind k
 st:P.st=⟨prog,w.params⟩
 lim:∀h:Heap,(∀x o,P.B.get x=some o→h.get? x=some o)→h.NoLimit
structure cD (o:aU) (cs:List (Nat×Nat)) (ts:List (Sem PySem.Fin×Sem PySem.Fin)) (ps:List Prop):Prop where
 on:o.isBad=false→(∀q∈cs,q∈o.cs)∧(∀q∈ts,q∈o.ts)∧(∀q∈ps,q∈o.ps)
theorem cD.bad{a b:Nat}{cs ts ps}:cD (.bad a b) cs ts ps:=⟨λh=>by cases h⟩
theorem cD.cons{o:aU}{cs ts ps}{x:Nat×Nat}(h:cD o (x::cs) ts ps):cD o cs ts ps:=⟨λhb=>⟨λq hq=>(h.on hb).1 q (.tail _ hq),(h.on hb).2⟩⟩
theorem cD.const{o:aU}{cs ts ps}{x}(h:cD o cs (x::ts) ps):cD o cs ts ps:=⟨λhb=>⟨(h.on hb).1,λq hq=>(h.on hb).2.1 q (.tail _ hq),(h.on hb).2.2⟩⟩
theorem cD.consp{o:aU}{cs ts ps}{x}(h:cD o cs ts (x::ps)):cD o cs ts ps:=⟨λhb=>⟨(h.on hb).1,(h.on hb).2.1,λq hq=>(h.on hb).2.2 q (.tail _ hq)⟩⟩
theorem cD.refl{cs ts ps}{o:aU}(h1:o.cs=cs)(h2:o.ts=ts)(h3:o.ps=ps):cD o cs ts ps:=⟨λj=>⟨λj hq=>h1▸hq,λj hq=>h2▸hq,λj hq=>h3▸hq⟩⟩
theorem cD.og{α:Type}{x:Option α}{f:α→aU}{b:aU}{cs ts ps}(hb:cD b cs ts ps)(h:∀a,cD (f a) cs ts ps):cD (og x f b) cs ts ps:=by
 cases x with
 |none=>exact hb
 |some a=>exact h a
theorem cD.bg{x:Bool}{a b:aU}{cs ts ps}(h:cD a cs ts ps)(hb:cD b cs ts ps):cD (bg x a b) cs ts ps:=by
 cases x with
 |false=>exact hb
 |true=>exact h
section
variable {P:Pm} {ih:Go} (key:∀orc cnt c κ t n0 i tk u m T AT cs ts ps,cD (ih orc cnt c κ t n0 i tk u m T AT cs ts ps) cs ts ps)
include key
theorem iB(orc cnt κ c n0 i tk u m T AT cs ts ps):cD (oo P ih orc cnt κ c n0 i tk u m T AT cs ts ps) cs ts ps:=by
 cases cnt with
 |zero=>exact .refl rfl rfl rfl
 |succ k=>exact .bg (.bg (key ..) .bad) (key ..)
theorem hY(orc cnt r κ n0 i tk u m T AT cs ts ps):cD (nI ih orc cnt r κ n0 i tk u m T AT cs ts ps) cs ts ps:=by
 cases κ with
 |top=>exact .refl rfl rfl rfl
 |ret=>exact key ..
theorem lz(orc cnt c κ t n0 i tk u m T AT cs ts ps):cD (pg P ih orc cnt c κ t n0 i tk u m T AT cs ts ps) cs ts ps:=by
 have ent:=iB (P:=P) key
 cases t with
 |pure fin=>
  cases fin with
  |done f=>exact hY key ..
  |again c'=>exact .bg (ent ..) .bad
 |raise e=>exact hY key ..
 |rule _ k=>exact key ..
 |«at» _ k=>exact key ..
 |point _ k=>exact key ..
 |ask k=>exact key ..
 |fresh k=>exact key ..
 |load a q k=>
  cases orc with
  |nil=>exact .bad
  |cons x orc=>
   cases x with
   |zero=>exact .og .bad λr=>key ..
   |succ j=>exact .og .bad λr=>.og .bad λr=>.og .bad λr=>.cons (key ..)
 |update a q f k=>
  cases orc with
  |nil=>exact .bad
  |cons x orc=>
   cases x with
   |zero=>exact .bad
   |succ j=>exact .og .bad λr=>.og .bad λr=>.og .bad λr=>.bg .bad (.cons (key ..))
 |alloc o k=>exact .bg .bad (.og .bad λr=>.og .bad λr=>key ..)
 |handled own k=>
  cases own with
  |false=>exact key ..
  |true=>exact .bad
 |stack k=>
  cases orc with
  |nil=>exact .bad
  |cons x orc=>
   cases x with
   |zero=>exact .og .bad λr=>.bg (.bg (.const (ent ..)) .bad) .bad
   |succ x=>exact .bg (.const (key ..)) .bad
 |call c' hd g l k=>
  refine .bg (.og (ent ..) λy=>?_) .bad
  cases orc with
  |nil=>exact .bad
  |cons x orc=>
   refine .og (ent ..) λz=>?_
   cases z with
   |int v q=>exact .consp (key ..)
   |bool v q=>exact .consp (key ..)
 |newGen=>exact .refl rfl rfl rfl
 |_=>exact .bad
end
theorem py(P:Pm):∀n orc cnt c κ t n0 i tk u m T AT cs ts ps,cD (yc P n orc cnt c κ t n0 i tk u m T AT cs ts ps) cs ts ps:=λn=>by
 induction n with
 |zero=>exact λj j j j j j j j j j j j j j j=>.bad
 |succ n ih=>exact lz ih
noncomputable def aT(M:Model)(B:X.KT)(h₀:Heap)(p:Nat)(A:Around)(R:Result→Shared→Prop)(g:Array GenState)(d:Drawn)(os:OsState):aU→Prop
 |.fin r n0 i tk u m T AT cs ts ps=>(∀q∈cs,q.1=q.2)∧(∀q∈ts,q.1=q.2)∧(∀q∈ps,q)∧∀h,Rp B h₀ p h n0 i m T AT→R r ⟨h,g,d,tk+u,os⟩
 |.ent κ c n0 i tk u m T AT cs ts ps=>(∀q∈cs,q.1=q.2)∧(∀q∈ts,q.1=q.2)∧(∀q∈ps,q)∧∀h,Rp B h₀ p h n0 i m T AT→codeAny M (κ.inn A) c (κ.post M A R) ⟨h,g,d,tk+u,os⟩
 |.gen c' k c κ n0 i tk u m T AT cs ts ps=>(∀q∈cs,q.1=q.2)∧(∀q∈ts,q.1=q.2)∧(∀q∈ps,q)∧∀h,Rp B h₀ p h n0 i m T AT→fG M A R c κ (k g.size) ⟨h,g.push (.fresh c'),d,tk+u,os⟩
 |.bad _ _=>False
section
variable {M:Model} {B:X.KT} {h₀:Heap} {p:Nat} {A:Around} {R:Result→Shared→Prop} {g:Array GenState} {d:Drawn} {os:OsState}
theorem aT.cs{o:aU}(h:aT M B h₀ p A R g d os o):∀q∈o.cs,q.1=q.2:=by
 cases o with
 |fin=>exact h.1
 |ent=>exact h.1
 |gen=>exact h.1
 |bad=>cases h
theorem aT.ts{o:aU}(h:aT M B h₀ p A R g d os o):∀q∈o.ts,q.1=q.2:=by
 cases o with
 |fin=>exact h.2.1
 |ent=>exact h.2.1
 |gen=>exact h.2.1
 |bad=>cases h
theorem aT.ps{o:aU}(h:aT M B h₀ p A R g d os o):∀q∈o.ps,q:=by
 cases o with
 |fin=>exact h.2.2.1
 |ent=>exact h.2.2.1
 |gen=>exact h.2.2.1
 |bad=>cases h
theorem aT.notBad{o:aU}(h:aT M B h₀ p A R g d os o):o.isBad=false:=by
 cases o with
 |fin=>rfl
 |ent=>rfl
 |gen=>rfl
 |bad=>cases h
section
open PySem.Calls
variable {prog:Program} {w:World} {A:Around} {R:Result→Shared→Prop} {s:Shared}
theorem aR{T:String}{name:Str}{id:String}{b:Builtin}{self:Value}{rest:List Value}{m:Made}(h:Slot T name id)(hT:s.TypeIs self T)
  (hb:entryFor table id=some b) (ha:argsOk id ⟨self::rest,[]⟩) (g:Gives (b ⟨self::rest,[]⟩) m) (hr:m.post (λv s'=>R (.ok (.ret v)) s') s):
  codeAny (model prog w) A (.call (.builtin id) ⟨self::rest,[]⟩) R s:=
 codeAny_call_builtin h.plain hb (h.check _ _ _ _ _ _ _ _ hT ha (g prog w A R s hr))
theorem ql{c n:Nat}:∀(l:List Nat) (k:Nat),E3 c l (k+1)=n+1→∃i,l[i]?=some c∧n=k+i
 |[],k,h=>nomatch (show 0=n+1 from h)
 |a::l,k,h=>by
  have h:(@Bool.rec (λj=>Nat) (E3 c l (k+1+1)) (k+1) (Nat.beq c a))=n+1:=h
  cases q:Nat.beq c a with
  |true=>
   rw[q]at h
   exact⟨0,congrArg some (Nat.eq_of_beq_eq_true q).symm,(Nat.succ.inj h).symm⟩
  |false=>
   rw[q]at h
   obtain⟨i,h1,h2⟩:=ql l (k+1) h
   exact⟨i+1,h1,h2.trans (Nat.succ_add_eq_add_succ k i)⟩
theorem sO{s:String}{n:Nat}(h:yr (code s)=n+1):Ei[n]?=some s:=by
 obtain⟨i,h1,e⟩:=ql _ 0 h
 rw[show GK=Ei.map code by decide+kernel,List.getElem?_map]at h1
 rw[e,Nat.zero_add]
 cases q:Ei[i]? with
 |none=>rw[q]at h1;cases h1
 |some x=>rw[q]at h1;exact congrArg some (code_inj _ _ (Option.some.inj h1))
noncomputable def zh(prog:Program)(w:World)(c:Code)(o:Option IR):Prop:=match o with
 |none=>True
 |some r=>match r with
  |.int v q=>q→∀A (R:Result→Shared→Prop) s,R (.ok (.ret (.int v s.toks))) {s with toks:=s.toks+1}→codeAny (model prog w) A c R s
  |.bool v q=>q→∀A (R:Result→Shared→Prop) s,R (.ok (.ret (.bool v))) s→codeAny (model prog w) A c R s
theorem eT{c:Code}{f:Bool}(C:∀A (R:Result→Shared→Prop) s,R (.ok (.ret (.bool f))) s→codeAny (model prog w) A c R s){P Q:Prop}(hp:P→f=true)(hq:Q→f=false)(x:Nat):
  zh prog w c (match x with|0=>none|1=>some (.bool true P)|_=>some (.bool false Q)):=match x with
 |0=>trivial
 |1=>λh A R s r=>C A R s (hp h▸r)
 |_+2=>λh A R s r=>C A R s (hq h▸r)
theorem zi{id:String}{a b:Int}{t u:Tok}:∀{n:Nat},Ei[n]?=some id→∀x,zh prog w (.call (.builtin id) ⟨[.int a t,.int b u],[]⟩) (BZ (n+1) x a b)
 |0,h=>by
  cases h
  exact fun|0=>trivial|1=>λhq j j s hr=>aR F.slot_int_mul (typeIs_int s a t) F.entry_int_mul (F.args_int_mul_2 _ _) (gives_int_mul a b t u hq) hr|_+2=>trivial
 |1,h=>by
  cases h
  exact fun|0=>trivial|1=>λhq j j s hr=>aR F.slot_int_mod (typeIs_int s a t) F.entry_int_mod (F.args_int_mod_2 _ _) (AutoIntG6.int___mod___int_int_1 a t b u λe=>hq (beq_iff_eq.mp e)) hr|_+2=>trivial
 |2,h=>by
  cases h
  exact fun|0=>trivial|1=>λhq j j s hr=>aR F.slot_int_floordiv (typeIs_int s a t) F.entry_int_floordiv (F.args_int_floordiv_2 _ _) (AutoIntG4.int___floordiv___int_int_1 a t b u (λe=>hq.1 (beq_iff_eq.mp e)) (by rw[hq.2];exact nofun)) hr|_+2=>trivial
 |3,h=>by
  cases h
  exact eT (λj j s hr=>aR F.slot_int_eq (typeIs_int s a t) F.entry_int_eq (F.args_int_eq_2 _ _) (gives_int_eq a b t u) hr) beq_iff_eq.mpr beq_eq_false_iff_ne.mpr
 |4,h=>by
  cases h
  exact eT (λj j s hr=>aR F.slot_int_ne (typeIs_int s a t) F.entry_int_ne (F.args_int_ne_2 _ _) (gives_int_ne a b t u) hr) bne_iff_ne.mpr λe=>e▸bne_self_eq_false a
 |5,h=>by
  cases h
  exact eT (λj j s hr=>aR F.slot_int_lt (typeIs_int s a t) F.entry_int_lt (F.args_int_lt_2 _ _) (gives_int_lt a b t u) hr) decide_eq_true λe=>decide_eq_false (Int.not_lt.mpr e)
 |6,h=>by
  cases h
  exact eT (λj j s hr=>aR F.slot_int_le (typeIs_int s a t) F.entry_int_le (F.args_int_le_2 _ _) (gives_int_le a b t u) hr) decide_eq_true λe=>decide_eq_false (Int.not_le.mpr e)
 |7,h=>by
  cases h
  exact eT (λj j s hr=>aR F.slot_int_gt (typeIs_int s a t) F.entry_int_gt (F.args_int_gt_2 _ _) (gives_int_gt a b t u) hr) decide_eq_true λe=>decide_eq_false (Int.not_lt.mpr e)
 |8,h=>by
  cases h
  exact eT (λj j s hr=>aR F.slot_int_ge (typeIs_int s a t) F.entry_int_ge (F.args_int_ge_2 _ _) (gives_int_ge a b t u) hr) decide_eq_true λe=>decide_eq_false (Int.not_le.mpr e)
 |n+9,h=>nomatch (show none=some id from h)
noncomputable def E6(prog:Program)(w:World)(c:Code)(o:Option IA):Prop:=match o with
 |none=>True
 |some y=>∀x,zh prog w c (BZ y.op x y.a y.b)
theorem qr(c:Code):E6 prog w c (vO c):=by
 cases c with
 |call f args=>
  cases f with
  |builtin id=>
   obtain⟨pos,kw⟩:=args
   cases kw with
   |cons=>exact trivial
   |nil=>
    cases pos with
    |nil=>exact trivial
    |cons x pos=>
     cases x with
     |int a t=>
      cases pos with
      |nil=>
       have K:∀k,Nat.beq (code id) 29827134633612522566320484202=k→E6 prog w (.call (.builtin id) ⟨[.int a t],[]⟩) (Hh a k):=fun
        |false,_=>trivial
        |true,h=>by
         have e:=code_inj _ _ ((Nat.eq_of_beq_eq_true h).trans (show 29827134633612522566320484202=code "int.__bool__" by decide+kernel))
         subst e
         exact eT (λj j s hr=>aR F.slot_int_bool (typeIs_int s a t) F.entry_int_bool (F.args_int_bool_1 _) (gives_int_bool a t) hr) bne_iff_ne.mpr λe=>e▸bne_self_eq_false a
       exact K _ rfl
      |cons y pos=>
       cases y with
       |int b u=>
        cases pos with
        |nil=>
         have K:∀k,yr (code id)=k→E6 prog w (.call (.builtin id) ⟨[.int a t,.int b u],[]⟩) (Hg a b k):=fun
          |0,_=>trivial
          |n+1,h=>zi (sO h)
         exact K _ rfl
        |cons=>exact trivial
       |_=>exact trivial
     |_=>exact trivial
  |_=>exact trivial
 |_=>exact trivial
theorem tU{c:Code}{y:IA}(h:∀x,zh prog w c (BZ y.op x y.a y.b)):∀x,zh prog w c (BY y.op x y.a y.b)
 |0=>h 0
 |1=>h 1
 |2=>h 2
 |n+3=>by
  have K:∀o,zh prog w c o→zh prog w c (BX n o):=fun
   |none,_=>trivial
   |some (.int _ _),h=>fun⟨e,hq⟩=>e▸h hq
   |some (.bool _ _),_=>trivial
  exact K _ (h 1)
end
set_option tactic.hygienic true in
theorem Ko.dep_le{A:Around}:∀{κ:Ko} {n:Nat},κ.dep=some n→(κ.inn A).depth≤A.depth+n
 |.top,n,h=>by cases h;exact Nat.le_refl _
 |.ret co hd k κ,n,h=>by
  unfold Ko.dep at h
  split at h
  ·rename_i a ha
   split at h
   ·rename_i b hb
    cases h
    have z:=Ko.dep_le (A:=A) ha
    have y:=jj hb
    show(κ.inn A).depth+co.weight≤_
    omega
   ·cases h
  ·cases h
set_option tactic.hygienic true in
theorem kQ{A:Around}{lim:Nat}{κ:Ko}{c:Code}(h:gM lim κ c=true):((κ.inn A).under c).depth≤A.depth+lim:=by
 unfold gM at h
 split at h
 ·rename_i a ha
  split at h
  ·rename_i b hb
   have z:=Ko.dep_le (A:=A) ha
   have y:=jj hb
   have x:=Nat.le_of_ble_eq_true h
   show(κ.inn A).depth+c.weight≤_
   omega
  ·cases h
 ·cases h
theorem vc{c:Code}{n:Nat}(h:wt c=some n):c.cUnits≤20*n:=by
 have hf:1+3*c.frames≤10:=Nat.add_le_add_left (Nat.mul_le_mul_left 3 (fP c)) 1
 have hc:c.cUnits≤20:=Nat.le_trans (by
  cases c with
  |builtin=>exact Nat.le_refl _
  |call=>exact Nat.le_of_ble_eq_true rfl
  |_=>exact Nat.le_add_left _ _) (Nat.le_trans hf (by decide))
 have hn:1≤n:=by
  cases c with
  |builtin id args=>
   have h':(match b4 id.toByteArray.data.toList 99 108 97 105 with|true=>none|false=>some 5)=some n:=h
   cases hb:b4 id.toByteArray.data.toList 99 108 97 105 with
   |true=>rw[hb]at h';cases h'
   |false=>rw[hb]at h';cases h';decide
  |_=>exact Nat.le_of_eq (Option.some.inj h)
 exact Nat.le_trans hc (Nat.le_mul_of_pos_right 20 hn)
set_option tactic.hygienic true in
theorem Ko.un_le{A:Around}:∀{κ:Ko} {n:Nat},κ.dep=some n→(κ.inn A).units≤A.units+20*n
 |.top,n,h=>by cases h;exact Nat.le_refl _
 |.ret co hd k κ,n,h=>by
  unfold Ko.dep at h
  split at h
  ·rename_i a ha
   split at h
   ·rename_i b hb
    cases h
    have z:=Ko.un_le (A:=A) ha
    have y:=vc hb
    show(κ.inn A).units+co.cUnits≤_
    omega
   ·cases h
  ·cases h
set_option tactic.hygienic true in
theorem kO{A:Around}{lim:Nat}{κ:Ko}{c:Code}(h:gM lim κ c=true):((κ.inn A).under c).units≤A.units+20*lim:=by
 unfold gM at h
 split at h
 ·rename_i a ha
  split at h
  ·rename_i b hb
   have z:=Ko.un_le (A:=A) ha
   have y:=vc hb
   have x:=Nat.le_of_ble_eq_true h
   show(κ.inn A).units+c.cUnits≤_
   omega
  ·cases h
 ·cases h
section
variable {M:Model} {B:X.KT} {h₀:Heap} {p:Nat} {A:Around} {R:Result→Shared→Prop} {g:Array GenState} {d:Drawn} {os:OsState} {α:Type} {x:Option α} {q:Bool} {F:α→aU} {a b:aU} {i j:Nat}
theorem aT.og(H:aT M B h₀ p A R g d os (og x F b)){Q:Prop}(h1:x=none→aT M B h₀ p A R g d os b→Q)(h2:∀a,x=some a→aT M B h₀ p A R g d os (F a)→Q):Q:=by
 cases x with
 |none=>exact h1 rfl H
 |some a=>exact h2 a rfl H
theorem aT.o(H:aT M B h₀ p A R g d os (Mine.og x F (.bad i j))){Q:Prop}(h:∀a,x=some a→aT M B h₀ p A R g d os (F a)→Q):Q:=H.og (λq h=>h.elim) h
theorem aT.bg(H:aT M B h₀ p A R g d os (bg q a b)){Q:Prop}(h1:q=true→aT M B h₀ p A R g d os a→Q)(h2:q=false→aT M B h₀ p A R g d os b→Q):Q:=by
 cases q with
 |true=>exact h1 rfl H
 |false=>exact h2 rfl H
theorem aT.t(H:aT M B h₀ p A R g d os (Mine.bg q a (.bad i j))){Q:Prop}(h:q=true→aT M B h₀ p A R g d os a→Q):Q:=H.bg h λo h=>h.elim
theorem aT.f(H:aT M B h₀ p A R g d os (Mine.bg q (.bad i j) b)){Q:Prop}(h:q=false→aT M B h₀ p A R g d os b→Q):Q:=H.bg (λo h=>h.elim) h
end
section
variable {P:Pm} {prog:Program} {w:World} (ok:z3 P prog w) {h₀:Heap} {p:Nat} {A:Around} {R:Result→Shared→Prop} {g:Array GenState} {d:Drawn} {os:OsState}
 (hA:A.handled=none) (hD:A.depth+P.lim<recursionLimit) (hU:A.units+20*P.lim<cLine)
section
variable {ih:Go} (key:∀orc cnt c κ t n0 i tk u m T AT cs ts ps,cD (ih orc cnt c κ t n0 i tk u m T AT cs ts ps) cs ts ps)
 (IH:∀{orc cnt c κ t n0 i tk u m T AT cs ts ps h},aT (model prog w) P.B h₀ p A R g d os (ih orc cnt c κ t n0 i tk u m T AT cs ts ps)→Rp P.B h₀ p h n0 i m T AT→fG (model prog w) A R c κ t ⟨h,g,d,tk+u,os⟩)
include IH
theorem gy{orc cnt r κ n0 i tk u m T AT cs ts ps h}(H:aT (model prog w) P.B h₀ p A R g d os (nI ih orc cnt r κ n0 i tk u m T AT cs ts ps))(D:Rp P.B h₀ p h n0 i m T AT):
  κ.post (model prog w) A R r ⟨h,g,d,tk+u,os⟩:=by
 cases κ with
 |top=>exact H.2.2.2 h D
 |ret co hd k κ=>exact IH H D
include ok hD hU
theorem dw{orc cnt κ c n0 i tk u m T AT cs ts ps h}(H:aT (model prog w) P.B h₀ p A R g d os (oo P ih orc cnt κ c n0 i tk u m T AT cs ts ps))(D:Rp P.B h₀ p h n0 i m T AT):
  codeAny (model prog w) (κ.inn A) c (κ.post (model prog w) A R) ⟨h,g,d,tk+u,os⟩:=by
 cases cnt with
 |zero=>exact H.2.2.2 h D
 |succ k=>
  refine aT.bg H (λho H=>?_) λho H=>?_
  ·refine aT.t H λhdep H=>?_
   have h1:=kO (A:=A) hdep
   have h3:=kQ (A:=A) hdep
   refine f9 (λΓ p' hc hΓ=>ok.le _ ho _ Γ hc ⟨Nat.lt_of_le_of_lt (Nat.le_trans hΓ.2.2.2.2 h1) hU,Nat.lt_of_le_of_lt (Nat.le_trans hΓ.2.1 h3) hD⟩ _ _ _ _ (IH H D Γ p' hΓ))
  ·have z:=IH H D
   rw[ok.den _ ho]at z
   exact X.x_code z
include key hA
theorem jn{orc cnt c κ t n0 i tk u m T AT cs ts ps h}(H:aT (model prog w) P.B h₀ p A R g d os (pg P ih orc cnt c κ t n0 i tk u m T AT cs ts ps))(D:Rp P.B h₀ p h n0 i m T AT):
  fG (model prog w) A R c κ t ⟨h,g,d,tk+u,os⟩:=by
 cases t with
 |pure fin=>
  cases fin with
  |done f=>exact wpAny_pure (show fq _ _ _ (.done f) _ from gy (ih:=ih) IH H D)
  |again c'=>
   refine aT.t H λhq H=>?_
   exact wpAny_pure (show fq _ _ _ (.again c') _ from⟨pA _ hq,dw (ih:=ih) ok hD hU IH H D⟩)
 |raise e=>exact wpAny_throw (gy (ih:=ih) IH H D)
 |rule tag k=>exact X.x_rule (IH H D)
 |«at» q k=>exact X.x_at (IH H D)
 |point l k=>exact X.x_point (IH H D)
 |ask k=>
  have z:=IH H D
  rw[ok.st]at z
  exact X.x_ask z
 |load a q k=>
  cases orc with
  |nil=>cases H
  |cons x orc=>
   cases x with
   |zero=>
    refine aT.o H λo e H=>?_
    exact X.x_load (D.base a o e) (IH H D)
   |succ j=>
    refine aT.o H λwo ew H=>?_
    refine aT.o H λb eb H=>?_
    refine aT.o H λo eo H=>?_
    have hab:a=b:=H.cs (a,b) (((key _ _ _ _ _ _ _ _ _ _ _ _ _ _ _).on H.notBad).1 _ (.head _))
    have ea:adr AT j=some b:=by unfold adr;rw[ew];exact eb
    exact X.x_load (hab▸D.obj j b o ea eo) (IH H D)
 |update a q f k=>
  cases orc with
  |nil=>cases H
  |cons x orc=>
   cases x with
   |zero=>cases H
   |succ j=>
    refine aT.o H λwo ew H=>?_
    refine aT.o H λb eb H=>?_
    refine aT.o H λo eo H=>?_
    refine aT.f H λhf H=>?_
    have hab:a=b:=H.cs (a,b) (((key _ _ _ _ _ _ _ _ _ _ _ _ _ _ _).on H.notBad).1 _ (.head _))
    have ea:adr AT j=some b:=by unfold adr;rw[ew];exact eb
    subst hab
    exact wpAny_bind (m:=updatePart a q f) (f:=k) (wpAny_updatePart (D.obj j a o ea eo) (IH H (D.update ea eo hf)))
 |alloc o k=>
  refine aT.f H λhf H=>?_
  refine aT.o H λo1 e1 H=>?_
  refine aT.o H λo2 e2 H=>?_
  have z:=IH H (D.alloc hf (by rw[e1];rfl) (by rw[e2];rfl))
  refine wpAny_bind (m:=alloc o) (f:=k) (wpAny_alloc ?_)
  rw[D.size]
  exact z
 |fresh k=>exact X.x_fresh (IH (u:=u+1) H D)
 |handled own k=>
  cases own with
  |true=>cases H
  |false=>
   refine X.x_handled ?_
   rw[show((κ.inn A).under c).handled=κ.hd none by rw[ek,Ko.hd_eq,hA]]
   exact IH H D
 |stack k=>
  cases orc with
  |nil=>cases H
  |cons x orc=>
   unfold fG
   cases x with
   |zero=>
    refine aT.o H λc' ec H=>?_
    refine aT.t H λhq H=>?_
    refine aT.t H λhdep H=>?_
    have e:=H.ts _ (((iB key _ _ _ _ _ _ _ _ _ _ _ _ _ _).on H.notBad).2.1 _ (.head _))
    have e':(Sem.stack k:Sem PySem.Fin)=(enterFrame>>=λr=>Sem.pure (.again c')):=e.trans (by rw[ok.bd,ok.entF];rfl)
    rw[e']
    exact wpAny_bind (wpAny_enterFrame (ok.lim h D.base) (Nat.lt_of_le_of_lt (kQ hdep) hD) (wpAny_pure (show fq _ _ _ (.again c') _ from⟨pA _ hq,dw (ih:=ih) ok hD hU IH H D⟩)))
   |succ x=>
    refine aT.t H λhdep H=>?_
    have e:=H.ts _ (((key _ _ _ _ _ _ _ _ _ _ _ _ _ _ _).on H.notBad).2.1 _ (.head _))
    obtain⟨what,hroom⟩:=ok.room x
    have e':(Sem.stack k:Sem PySem.Fin)=(cRoom what>>=λr=>k []):=e.trans (by rw[ok.bd,hroom];rfl)
    rw[e']
    exact wpAny_bind (wpAny_cRoom (Nat.lt_of_le_of_lt (kO hdep) hU) (IH H D))
 |call c' hd gd l k=>
  refine aT.t H λhm H=>?_
  have hnb:hd≠some byPass:=by
   intro e
   subst e
   exact absurd hm (by simp[pE])
  refine aT.og H (λr H=>X.x_call (dw (ih:=ih) ok hD hU IH H D) hnb) λy hy H=>?_
  ·cases orc with
   |nil=>cases H
   |cons x orc=>
    refine aT.og H (λr H=>X.x_call (dw (ih:=ih) ok hD hU IH H D) hnb) λz hz H=>?_
    ·have K:=qr (prog:=prog) (w:=w) c'
     rw[hy]at K
     have K:=tU K x
     rw[hz]at K
     cases z with
     |int v q=>exact X.x_call (K (H.ps q (((key _ _ _ _ _ _ _ _ _ _ _ _ _ _ _).on H.notBad).2.2 _ (.head _))) _ _ _ (IH (u:=u+1) H D)) hnb
     |bool v q=>exact X.x_call (K (H.ps q (((key _ _ _ _ _ _ _ _ _ _ _ _ _ _ _).on H.notBad).2.2 _ (.head _))) _ _ _ (IH H D)) hnb
 |newGen c' k=>exact wpAny_bind (m:=newGen c') (f:=k) (wpAny_newGen (H.2.2.2 h D))
 |_=>cases H
end
include ok hA hD hU
theorem dZ(n orc cnt c κ t n0 i tk u m T AT cs ts ps h)(H:aT (model prog w) P.B h₀ p A R g d os (yc P n orc cnt c κ t n0 i tk u m T AT cs ts ps))(D:Rp P.B h₀ p h n0 i m T AT):
  fG (model prog w) A R c κ t ⟨h,g,d,tk+u,os⟩:=by
 induction n generalizing orc cnt c κ t n0 i tk u m T AT cs ts ps h with
 |zero=>cases H
 |succ n ih=>exact jn ok hA hD hU (py P n) (λH D=>ih _ _ _ _ _ _ _ _ _ _ _ _ _ _ _ _ H D) H D
end
end
noncomputable def Le{α:Type}(m m':Sem α):Prop:=∀(M:Model) (Γ:Ctx),Rm Γ→∀Q E p s,Sem.wp M Γ m' Q E p s→Sem.wp M Γ m Q E p s
namespace Le
variable {α β:Type}
theorem rfl'(m:Sem α):Le m m:=λj j j j j j j h=>h
theorem of_eq{m m':Sem α}(h:m=m'):Le m m':=h▸rfl' m
theorem trans{a b c:Sem α}(h:Le a b)(g:Le b c):Le a c:=λM Γ u Q E p s x=>h M Γ u Q E p s (g M Γ u Q E p s x)
theorem bind{m m':Sem α}{f f':α→Sem β}(h:Le m m')(g:∀a,Le (f a) (f' a)):Le (m>>=f) (R.bindR m' f'):=λM Γ u Q E p s x=>by
 rw[←R.bindR_eq]at x
 have x':Sem.wp M Γ (m' >>=f') Q E p s:=x
 rw[Sem.wp_bind']at x' ⊢
 exact h M Γ u _ _ _ _ (Sem.wp_mono M Γ m' (λa p' s' y=>g a M Γ u _ _ _ _ y) (λj j j y=>y) p s x')
theorem onRaise{m m':Sem α}(f:Value→Sem Unit)(h:Le m m'):Le (m.onRaise f) (R.onRaiseR m' f):=λM Γ u Q E p s x=>by
 rw[←R.onRaiseR_eq]at x
 rw[Sem.wp_onRaise]at x ⊢
 exact h M Γ u _ _ _ _ x
theorem holding{l:List Value}{m m':Sem α}(h:Le m m'):Le (PySem.holding l m) m':=λM Γ u Q E p s x=>by
 rw[Sem.wp_holding];exact h M Γ u _ _ _ _ x
theorem operate{l:List Value}{m m':Sem Value}(h:Le m m'):Le (PySem.operate l m) m':=λM Γ u Q E p s x=>by
 rw[Sem.wp_operate];exact h M Γ u _ _ _ _ x
theorem stand{pos:Pos}{f:Unit→Sem β}{f':Unit→Sem β}(h:Le (f ()) (f' ())):Le (standAt pos>>=f) (.at pos f'):=λM Γ u Q E p s x=>by
 rw[Sem.wp_bind',Sem.wp_cmd_standAt]
 rw[Sem.wp_at]at x
 exact h M Γ u _ _ _ _ x
end Le
noncomputable def yg(op:CmpOp)(a b:Value):{X:Unit→Sem Value // Fast.tw9423741818375054981 op a b=Fast.tw17359229931016689406 [a,b] (R.bindR (Fast.tw13383273872528276517 "comparison" [a,b]) X)}:=⟨_,by delta Fast.tw9423741818375054981;rfl⟩
theorem pz(op:CmpOp)(a b:Value):Le (richCompare op a b) ((yg op a b).1 ()):=λM Γ u Q E p s x=>by
 generalize yg op a b=q at x
 obtain⟨X,e⟩:=q
 rw[←Fast.te9423741818375054981,←Fast.te17359229931016689406,←Fast.te13383273872528276517,←R.bindR_eq]at e
 rw[e,Sem.wp_holding]
 show Sem.wp M Γ (cRoomFor "comparison" [a,b]>>=X) Q E p s
 rw[Sem.wp_bind']
 exact Sem.wp_cRoomFor _ _ u.1 x
noncomputable def fN:CmpOp→Bool
 |.Eq=>true|.NotEq=>true|.Lt=>true|.LtE=>true|.Gt=>true|.GtE=>true|_=>false
theorem mI{op:CmpOp}(h:fN op=true)(a b:Value):compareOp op a b=richCompare op a b:=by
 cases op<;>first|rfl|cases h
set_option tactic.hygienic true in
theorem gx{op:CmpOp}(h:fN op=true)(e:Expr):behindInMarks op e=false:=by
 cases e<;>first|rfl|skip
 rename_i elts k pos
 cases op<;>first|(cases h;done)|(show(k==0&&_&&_)=false;cases(k==0)<;>rfl)
noncomputable def iC(pos:Pos)(op:BoolOp):List (Sem Value)→Sem Value
 |[]=>.unsupported "internal:empty-boolop"
 |x::rest=>match rest with
  |[]=>x
  |_::_=>R.bindR x λv=>.at pos λj=>R.bindR (Fast.tw15245631507167962100 v) λt=>match op with
   |.And=>match t with|true=>iC pos op rest|false=>.pure v
   |.Or=>match t with|true=>.pure v|false=>iC pos op rest
inductive Ev:List (Sem Value)→List (Sem Value)→Prop
 |nil:Ev [] []
 |cons {a b l k}:Le a b→Ev l k→Ev (a::l) (b::k)
theorem kZ(pos:Pos)(op:BoolOp):∀{l l':List (Sem Value)},Ev l l'→Le (boolOp pos op l) (iC pos op l')
 |_,_,.nil=>.rfl' _
 |_,_,.cons h .nil=>h
 |_,_,.cons (a:=a) (b:=b) h (.cons (a:=c) (b:=d) (l:=l) (k:=k) g t)=>by
  show Le (a>>=λv=>standAt pos>>=λj=>PySem.holding [v] (truthy v)>>=λt=>match op,t with
   |.And,false|.Or,true=>pure v
   |_,_=>boolOp pos op (c::l)) (R.bindR b λv=>.at pos λj=>R.bindR (Fast.tw15245631507167962100 v) λt=>match op with
   |.And=>match t with|true=>iC pos op (d::k)|false=>.pure v
   |.Or=>match t with|true=>.pure v|false=>iC pos op (d::k))
  refine .bind h λv=>.stand (.bind (.holding (.of_eq (by rw[←Fast.te15245631507167962100]))) λt'=>?_)
  cases op<;>cases t'<;>first|exact kZ pos _ (.cons g t)|exact .rfl' _
set_option backward.match.sparseCases false in
noncomputable def oQ:Nat→Expr→Env→Sem Value
 |0,e,env=>Fast.tw14044960220447912780 e env
 |n+1,e,env=>match e with
  |.UnaryOp op x pos=>R.bindR (oQ n x env) λv=>.at pos λj=>Fast.tw3993959178420608569 op v
  |.BoolOp op vs pos=>iC pos op (vs.map λx=>oQ n x env)
  |.Compare l ops rs pos=>match ops with
   |[op]=>match rs with
    |[r]=>match fN op with
     |true=>R.bindR (oQ n l env) λa=>R.bindR (oQ n r env) λb=>.at pos λj=>(yg op a b).1 ()
     |false=>Fast.tw14044960220447912780 e env
    |_=>Fast.tw14044960220447912780 e env
   |_=>Fast.tw14044960220447912780 e env
  |_=>Fast.tw14044960220447912780 e env
theorem du(e:Expr)(env:Env):Le (eval e env) (Fast.tw14044960220447912780 e env):=.of_eq (by rw[←Fast.te14044960220447912780])
theorem i8:∀n e env,Le (eval e env) (oQ n e env)
 |0,e,env=>du e env
 |n+1,e,env=>by
  have ih:=λe=>i8 n e env
  cases e with
  |UnaryOp op x pos=>
   rw[arm_eval_UnaryOp]
   exact .bind (ih x) λv=>.stand (.holding (.of_eq (by rw[←Fast.te3993959178420608569])))
  |BoolOp op vs pos=>
   rw[arm_eval_BoolOp]
   refine kZ pos op ?_
   induction vs with
   |nil=>exact .nil
   |cons x vs iv=>exact .cons (ih x) iv
  |Compare l ops rs pos=>
   cases ops with
   |nil=>exact du _ env
   |cons op ops=>
    cases ops with
    |cons=>exact du _ env
    |nil=>
     cases rs with
     |nil=>exact du _ env
     |cons r rs=>
      cases rs with
      |cons=>exact du _ env
      |nil=>
       have K:∀b,fN op=b→Le (eval (.Compare l [op] [r] pos) env) (match b with
        |true=>R.bindR (oQ n l env) λa=>R.bindR (oQ n r env) λb=>.at pos λj=>(yg op a b).1 ()
        |false=>Fast.tw14044960220447912780 (.Compare l [op] [r] pos) env):=fun
        |true,hr=>by
         rw[eval_Compare1,markedBehindIn_of_false (gx hr r)]
         exact .bind (ih l) λa=>.bind (.holding (ih r)) λb=>.stand (.operate (mI hr a b▸pz op a b))
        |false,_=>du _ env
       exact K _ rfl
  |_=>exact du _ env
noncomputable def NI(c:Code):Prop:=∃b e,c=.func b e
noncomputable def eD{α:Type}(m m':Sem α):Prop:=∀(M:Model) (Γ:Ctx),NI Γ.code→Rm Γ→∀Q E p s,Sem.wp M Γ m' Q E p s→Sem.wp M Γ m Q E p s
namespace eD
variable {α β:Type}
theorem of{m m':Sem α}(h:Le m m'):eD m m':=λM Γ _ u Q E p s x=>h M Γ u Q E p s x
theorem bind{m m':Sem α}{f f':α→Sem β}(h:eD m m')(g:∀a,eD (f a) (f' a)):eD (m>>=f) (R.bindR m' f'):=λM Γ c u Q E p s x=>by
 rw[←R.bindR_eq]at x
 have x':Sem.wp M Γ (m' >>=f') Q E p s:=x
 rw[Sem.wp_bind']at x' ⊢
 exact h M Γ c u _ _ _ _ (Sem.wp_mono M Γ m' (λa p' s' y=>g a M Γ c u _ _ _ _ y) (λj j j y=>y) p s x')
theorem onRaise{m m':Sem α}(f:Value→Sem Unit)(h:eD m m'):eD (m.onRaise f) (R.onRaiseR m' f):=λM Γ c u Q E p s x=>by
 rw[←R.onRaiseR_eq]at x
 rw[Sem.wp_onRaise]at x ⊢
 exact h M Γ c u _ _ _ _ x
theorem holding{l:List Value}{m m':Sem α}(h:eD m m'):eD (PySem.holding l m) m':=λM Γ c u Q E p s x=>by
 rw[Sem.wp_holding];exact h M Γ c u _ _ _ _ x
theorem stand{pos:Pos}{f:Unit→Sem β}{f':Unit→Sem β}(h:eD (f ()) (f' ())):eD (standAt pos>>=f) (.at pos f'):=λM Γ c u Q E p s x=>by
 rw[Sem.wp_bind',Sem.wp_cmd_standAt]
 rw[Sem.wp_at]at x
 exact h M Γ c u _ _ _ _ x
end eD
noncomputable def l5:Sem Unit:=R.bindR Fast.tw2211186353215096513 λn=>match Nat.beq n 1000 with
 |true=>.pure ()
 |false=>.unsupported ""
theorem sQ{Γ:Ctx}{p:Pos}(h:frameCount Γ.below+Γ.code.weight<recursionLimit):
  nearTheLimitUnderAClaim (((Γ.code,p)::Γ.below).map (·.1)) (((((Γ.code,p)::Γ.below).map (·.1)).map (·.frames)).sum+((((Γ.code,p)::Γ.below).map (·.1)).filter Code.isCreation).length) recursionLimit=false:=by
 let A:Around:={depth:=frameCount Γ.below+Γ.code.weight,handled:=Γ.handled,frames:=none,guards:=none,units:=Γ.units}
 exact not_nearTheLimit (A:=A) (Γ:=Γ) ⟨rfl,Nat.le_refl _,(λj h=>by cases h),(λj h=>by cases h),Nat.le_refl _⟩ h
theorem q7:Le enterFrame l5:=λM Γ u Q E p s x=>by
 unfold l5 at x
 rw[←R.bindR_eq,←Fast.te2211186353215096513]at x
 have x':Sem.wp M Γ (currentRecursionLimit>>=λn=>match Nat.beq n 1000 with|true=>(.pure ():Sem Unit)|false=>.unsupported "") Q E p s:=x
 rw[Sem.wp_bind']at x'
 unfold enterFrame
 rw[Sem.wp_bind']
 show Sem.wp M Γ (currentRecursionLimit>>=_) Q E p s
 rw[Sem.wp_bind']
 refine Sem.wp_mono M Γ _ (λn p' s' y=>?_) (λj j j y=>y) p s x'
 have hsum:((((Γ.code,p)::Γ.below).map (·.1)).map (·.frames)).sum+((((Γ.code,p)::Γ.below).map (·.1)).filter Code.isCreation).length<recursionLimit:=by
  have hge:=frameCount_ge ((Γ.code,p)::Γ.below)
  rw[frameCount_cons]at hge
  have:=u.2
  omega
 cases hn:Nat.beq n 1000 with
 |false=>rw[hn]at y;rw[Sem.wp_unsupported]at y;exact y.elim
 |true=>
  rw[hn]at y
  have en:n=recursionLimit:=Nat.eq_of_beq_eq_true hn
  subst en
  have hlt:¬((((Γ.code,p)::Γ.below).map (·.1)).map (·.frames)).sum≥recursionLimit:=by omega
  have hlt':¬((((Γ.code,p)::Γ.below).map (·.1)).map (·.frames)).sum+((((Γ.code,p)::Γ.below).map (·.1)).filter Code.isCreation).length≥recursionLimit:=by omega
  show Sem.wp M Γ (if nearTheLimitUnderAClaim (((Γ.code,p)::Γ.below).map (·.1)) (((((Γ.code,p)::Γ.below).map (·.1)).map (·.frames)).sum+((((Γ.code,p)::Γ.below).map (·.1)).filter Code.isCreation).length) recursionLimit=true then _ else _) Q E p' s'
  rw[if_neg (by rw[sQ u.2];exact Bool.false_ne_true)]
  show Sem.wp M Γ (if((((Γ.code,p)::Γ.below).map (·.1)).map (·.frames)).sum≥recursionLimit then _ else _) _ _ p' s'
  rw[if_neg hlt]
  show Sem.wp M Γ (if((((Γ.code,p)::Γ.below).map (·.1)).map (·.frames)).sum+((((Γ.code,p)::Γ.below).map (·.1)).filter Code.isCreation).length≥recursionLimit then _ else _) _ _ p' s'
  rw[if_neg hlt']
  exact y
theorem oG:eD comprehensionsAround (.pure []):=λM Γ c u Q E p s x=>by
 obtain⟨b,e,hc⟩:=c
 unfold comprehensionsAround callersCodes
 have hp:∀p,pastTheWaiting ((Γ.code,p)::Γ.below)=(Γ.code,p)::pastTheWaiting.go false (some Γ.code) Γ.below:=λp=>by
  rw[hc];rfl
 rw[Sem.wp_bind',Sem.wp_bind']
 show Sem.wp M Γ (if(((((Γ.code,p)::Γ.below).map (·.1)).findSome? (·.env?)).map (·.frame)!=((((pastTheWaiting ((Γ.code,p)::Γ.below)).map (·.1)).findSome? (·.env?)).map (·.frame)))=true then _ else _) _ E p s
 rw[hp,hc]
 have h1:(((((Code.func b e,p)::Γ.below).map (·.1)).findSome? (·.env?)).map (·.frame)!=((((Code.func b e,p)::pastTheWaiting.go false (some (Code.func b e)) Γ.below).map (·.1)).findSome? (·.env?)).map (·.frame))=false:=by
  show(some e.frame !=some e.frame)=false
  exact bne_self_eq_false _
 rw[h1]
 exact x
noncomputable def E4:List Comprehension→Bool
 |[⟨_,_,_,.ofNat 0⟩]=>true
 |_=>false
noncomputable def Fb(elt:Expr)(gens:List Comprehension)(scope:Scope)(pos:Pos)(env:Env):Sem Value:=
 R.bindR (Fast.tw18100340678103251363 gens env) λx=>.at (firstIterPos gens pos) λj=>R.bindR (Fast.tw11392484809677674534 (firstAsync gens) (clausesOf (.GeneratorExp elt gens scope pos)) env x) λx=>
  R.bindR (match firstAsync gens with|true=>asyncIter x|false=>Fast.tw8711993805878244202 x) λit=>R.bindR l5 λj=>
   R.bindR (Fast.tw14069538253670106520 scope env) λcl=>R.bindR (Fast.tw9492743126541576920 env pos (env.qual++"<genexpr>") scope) λcode=>R.bindR (Fast.tw6600643334278800223 env.globals env.builtins) λbi=>
    R.bindR (@Fast.tw11113344188204177931 scope env.globals cl [(".0",it)] (env.qual++"<genexpr>.") none code none bi) λcenv=>
     match scope.isCoroutine with
     |true=>newAsyncGenerator (.compStart (.GeneratorExp elt gens scope pos) 0 it .none cenv) "<genexpr>" (env.qual++"<genexpr>")
     |false=>Fast.tw2426001476595277715 (.compStart (.GeneratorExp elt gens scope pos) 0 it .none cenv) "<genexpr>" (env.qual++"<genexpr>")
theorem B1(elt:Expr)(gens:List Comprehension)(scope:Scope)(pos:Pos)(env:Env):Le (eval (.GeneratorExp elt gens scope pos) env) (Fb elt gens scope pos env):=by
 rw[arm_eval_GeneratorExp]
 unfold Fb
 refine .bind (.of_eq (by rw[←Fast.te18100340678103251363])) λx=>.stand (.bind (.of_eq (by rw[←Fast.te11392484809677674534])) λx=>.bind (.holding ?_) λit=>.bind q7 λj=>?_)
 ·cases firstAsync gens
  ·exact .of_eq (by rw[←Fast.te8711993805878244202];rfl)
  ·exact .of_eq rfl
 ·refine .bind (.of_eq (by rw[←Fast.te14069538253670106520])) λcl=>.bind (.of_eq (by rw[←Fast.te9492743126541576920])) λcode=>.bind (.of_eq (by rw[←Fast.te6600643334278800223])) λbi=>.bind (.of_eq (by rw[←Fast.te11113344188204177931])) λcenv=>?_
  cases scope.isCoroutine
  ·exact .of_eq (by rw[←Fast.te2426001476595277715];rfl)
  ·exact .of_eq rfl
theorem Le.bindS{α β:Type}{m m':Sem α}{f:α→Sem β}(h:Le m m'):Le (m>>=f) (m' >>=f):=λM Γ u Q E p s x=>by
 rw[Sem.wp_bind']at x ⊢
 exact h M Γ u _ _ _ _ x
theorem Le.holdS{α:Type}{l:List Value}{m m':Sem α}(h:Le m m'):Le (PySem.holding l m) (PySem.holding l m'):=λM Γ u Q E p s x=>by
 rw[Sem.wp_holding]at x ⊢
 exact h M Γ u _ _ _ _ x
theorem kK(f:Value){t t':Sem Value}(h:Le t t'):Le (evalArgs f true [(false,t)] []) (evalArgs f true [(false,t')] []):=by
 unfold evalArgs
 exact .bindS (.bindS h)
theorem kW(pos:Pos)(f:Value){t t':Sem Value}(h:Le t t'):Le (callWith pos f [] [(false,t)] []) (Fast.tw8289420714989923916 pos f [] [(false,t')] []):=by
 rw[←Fast.te8289420714989923916]
 show Le (PySem.holding [f] (evalArgs f true [(false,t)] [])>>=_) (PySem.holding [f] (evalArgs f true [(false,t')] [])>>=_)
 exact .bindS (.holdS (kK f h))
noncomputable def Fu(x:Str)(p0:Pos)(elt:Expr)(gens:List Comprehension)(scope:Scope)(gp pos:Pos)(env:Env):Sem Value:=
 R.bindR (Fast.tw14044960220447912780 (.Name x p0) env) λf=>Fast.tw8289420714989923916 pos f [] [(false,Fb elt gens scope gp env)] []
theorem Cr(x:Str)(p0:Pos)(elt:Expr)(gens:List Comprehension)(scope:Scope)(gp pos:Pos)(env:Env):
  Le (eval (.Call (.Name x p0) [.GeneratorExp elt gens scope gp] [] pos) env) (Fu x p0 elt gens scope gp pos env):=by
 show Le (eval (.Name x p0) env>>=λf=>callWith pos f [] [(false,eval (.GeneratorExp elt gens scope gp) env)] []) _
 exact .bind (.of_eq (by rw[←Fast.te14044960220447912780])) λf=>kW pos f (B1 elt gens scope gp env)
set_option backward.match.sparseCases false in
noncomputable def mW(e:Expr):Option (Str×Pos×Expr×List Comprehension×Scope×Pos×Pos):=match e with
 |.Call fn args kws pos=>match fn with
  |.Name x p0=>match args with
   |[a]=>match a with
    |.GeneratorExp elt gens scope gp=>match kws with
     |[]=>some (x,p0,elt,gens,scope,gp,pos)
     |_::_=>none
    |_=>none
   |_=>none
  |_=>none
 |_=>none
theorem kA{P:Option (Str×Pos×Expr×List Comprehension×Scope×Pos×Pos)→Prop}{e:Expr}(hn:P none)(hs:∀x p0 elt gens scope gp pos,e=.Call (.Name x p0) [.GeneratorExp elt gens scope gp] [] pos→P (some (x,p0,elt,gens,scope,gp,pos))):P (mW e):=by
 cases e with
 |Call fn args kws pos=>
  cases fn with
  |Name x p0=>
   cases args with
   |nil=>exact hn
   |cons a l=>
    cases l with
    |cons=>cases a<;>exact hn
    |nil=>
     cases a with
     |GeneratorExp elt gens scope gp=>
      cases kws with
      |nil=>exact hs _ _ _ _ _ _ _ rfl
      |cons=>exact hn
     |_=>exact hn
  |_=>exact hn
 |_=>exact hn
noncomputable def Gz(e:Expr)(env:Env):Sem Bool:=match mW e with
 |some (x,p0,elt,gens,scope,gp,pos)=>R.bindR (Fu x p0 elt gens scope gp pos env) λv=>.at pos λj=>Fast.tw15245631507167962100 v
 |none=>Fast.tw15418851999007992765 e env (Fast.tw14044960220447912780 e env)
theorem vd(e:Expr)(env:Env):Le (isTrue e env (eval e env)) (Gz e env):=by
 refine kA (P:=λo=>Le (isTrue e env (eval e env)) (match o with
  |some (x,p0,elt,gens,scope,gp,pos)=>R.bindR (Fu x p0 elt gens scope gp pos env) λv=>.at pos λj=>Fast.tw15245631507167962100 v
  |none=>Fast.tw15418851999007992765 e env (Fast.tw14044960220447912780 e env))) ?_ λx p0 elt gens scope gp pos h=>?_
 ·exact .of_eq (by rw[←Fast.te15418851999007992765,←Fast.te14044960220447912780])
 ·subst h
  exact .bind (Cr x p0 elt gens scope gp pos env) λv=>.stand (.holding (.of_eq (by rw[←Fast.te15245631507167962100])))
set_option backward.match.sparseCases false in
noncomputable def xJ:Nat→Expr→Env→Sem Bool
 |0,e,env=>Fast.tw15418851999007992765 e env (Fast.tw14044960220447912780 e env)
 |n+1,e,env=>match e with
  |.UnaryOp .Not x _=>R.bindR (xJ n x env) λb=>.pure (match b with|true=>false|false=>true)
  |.BoolOp op vs _=>vs.foldr (λx t=>R.bindR (xJ n x env) λb=>match op with
    |.And=>match b with|true=>t|false=>.pure false
    |.Or=>match b with|true=>.pure true|false=>t) (.pure (match op with|.And=>true|.Or=>false))
  |.Compare l ops rs pos=>match ops with
   |[op]=>match rs with
    |[r]=>match fN op with
     |true=>R.bindR (oQ n l env) λa=>R.bindR (oQ n r env) λb=>.at pos λj=>R.bindR ((yg op a b).1 ()) λc=>Fast.tw15245631507167962100 c
     |false=>Fast.tw15418851999007992765 e env (Fast.tw14044960220447912780 e env)
    |_=>Fast.tw15418851999007992765 e env (Fast.tw14044960220447912780 e env)
   |_=>Fast.tw15418851999007992765 e env (Fast.tw14044960220447912780 e env)
  |_=>Gz e env
theorem dY(e:Expr)(env:Env):Le (isTrue e env (eval e env)) (Fast.tw15418851999007992765 e env (Fast.tw14044960220447912780 e env)):=.of_eq (by rw[←Fast.te15418851999007992765,←Fast.te14044960220447912780])
theorem lw:∀n e env,Le (isTrue e env (eval e env)) (xJ n e env)
 |0,e,env=>dY e env
 |n+1,e,env=>by
  have ih:=λe=>lw n e env
  cases e with
  |UnaryOp op x pos=>
   cases op with
   |Not=>
    rw[arm_isTrue_UnaryOp]
    exact .bind (ih x) λb=>.of_eq (by cases b<;>rfl)
   |_=>exact vd _ env
  |BoolOp op vs pos=>
   rw[arm_isTrue_BoolOp]
   induction vs with
   |nil=>exact .of_eq (by cases op<;>rfl)
   |cons x vs iv=>
    show Le (isTrue x env (eval x env)>>=λb=>match op,b with
     |.And,false=>pure false
     |.Or,true=>pure true
     |_,_=>allTrue op vs env) (R.bindR (xJ n x env) _)
    refine .bind (ih x) λb=>?_
    cases op<;>cases b<;>first|exact iv|exact .rfl' _
  |Compare l ops rs pos=>
   cases ops with
   |nil=>exact dY _ env
   |cons op ops=>
    cases ops with
    |cons=>exact dY _ env
    |nil=>
     cases rs with
     |nil=>exact dY _ env
     |cons r rs=>
      cases rs with
      |cons=>exact dY _ env
      |nil=>
       have K:∀b,fN op=b→Le (isTrue (.Compare l [op] [r] pos) env (eval (.Compare l [op] [r] pos) env)) (match b with
        |true=>R.bindR (oQ n l env) λa=>R.bindR (oQ n r env) λb=>.at pos λj=>R.bindR ((yg op a b).1 ()) λc=>Fast.tw15245631507167962100 c
        |false=>Fast.tw15418851999007992765 (.Compare l [op] [r] pos) env (Fast.tw14044960220447912780 (.Compare l [op] [r] pos) env)):=fun
        |true,hr=>by
         rw[isTrue_Compare1,markedBehindIn_of_false (gx hr r)]
         exact .bind (i8 n l env) λa=>.bind (.holding (i8 n r env)) λb=>.stand (.bind (.operate (mI hr a b▸pz op a b)) λc=>.holding (.of_eq (by rw[←Fast.te15245631507167962100])))
        |false,_=>dY _ env
       exact K _ rfl
  |_=>exact vd _ env
noncomputable def vg(t:Sem Flow)(k:Sem Flow):Sem Flow:=R.bindR t λf=>match f with|.next=>k|f=>.pure f
set_option backward.match.sparseCases false in
noncomputable def bR:Nat→List Stmt→Env→Sem Flow
 |0,l,env=>Fast.tw12563942051412417395 l env
 |n+1,l,env=>match l with
  |[]=>.pure .next
  |st::rest=>vg (match st with
   |.If test body orelse pos=>.at pos λj=>R.bindR (xJ 4 test env) λb=>match b with|true=>bR n body env|false=>bR n orelse env
   |.Return (some e) pos=>.at pos λj=>R.bindR (oQ 4 e env) λv=>.pure (.ret v)
   |_=>Fast.tw12563942051412417395 [st] env) (bR n rest env)
theorem iy(st:Stmt)(env:Env):Le (exec st env) (Fast.tw12563942051412417395 [st] env):=λM Γ u Q E p s x=>by
 rw[←Fast.te12563942051412417395,execs_cons,Sem.wp_bind']at x
 refine Sem.wp_mono M Γ _ (λf p' s' y=>?_) (λj j j y=>y) p s x
 cases f<;>exact y
theorem di:∀n l env,Le (execs l env) (bR n l env)
 |0,l,env=>.of_eq (by show execs l env=Fast.tw12563942051412417395 l env;rw[←Fast.te12563942051412417395])
 |n+1,l,env=>by
  cases l with
  |nil=>exact .rfl' _
  |cons st rest=>
   rw[execs_cons]
   refine .bind ?_ λf=>?_
   ·cases st with
    |If test body orelse pos=>
     rw[exec_If]
     refine .stand (.bind (lw 4 test env) λb=>?_)
     cases b
     ·exact di n orelse env
     ·exact di n body env
    |Return v pos=>
     cases v with
     |some e=>
      rw[exec_Return_some]
      exact .stand (.bind (i8 4 e env) λv=>.rfl' _)
     |none=>exact iy _ env
    |_=>exact iy _ env
   ·cases f<;>first|exact di n rest env|exact .rfl' _
noncomputable def uh(target:Expr)(it:Value)(body orelse:List Stmt)(env:Env)(y:Sem Flow):Sem PySem.Fin:=
 .at target.pos λj=>R.bindR (R.onRaiseR (Fast.tw9404975358583537561 it) λj=>standAt {target.pos with line:=0}) λo=>match o with
  |none=>.pure (.again (.block orelse env))
  |some v=>R.bindR (Fast.tw1578499551869305889 target it v) λj=>R.bindR (Fast.tw17772580674575903948 target env v) λj=>R.bindR y λf=>match f with
   |.next=>.pure (.again (.forLoop target it body orelse env))
   |.cont=>.pure (.again (.forLoop target it body orelse env))
   |.brk=>.pure (.done .next)
   |.ret v=>.pure (.done (.ret v))
theorem ug(target:Expr)(it:Value)(body orelse:List Stmt)(env:Env){y:Sem Flow}(h:Le (execs body env) y):Le (forTurn target it body orelse env) (uh target it body orelse env y):=by
 unfold forTurn uh
 refine .stand (.bind (.onRaise _ (.of_eq (by rw[←Fast.te9404975358583537561]))) λo=>?_)
 cases o with
 |none=>exact .rfl' _
 |some v=>
  refine .bind (.of_eq (by rw[←Fast.te1578499551869305889])) λj=>.bind (.of_eq (by rw[←Fast.te17772580674575903948])) λj=>.bind h λf=>?_
  cases f<;>exact .rfl' _
noncomputable def cX(elt target iter:Expr)(c:Expr)(scope:Scope)(pos:Pos)(it acc:Value)(env:Env)(y:Sem Bool):Sem PySem.Fin:=
 .at iter.pos λj=>R.bindR (Fast.tw9404975358583537561 it) λo=>match o with
  |none=>.pure (.done .next)
  |some v=>R.bindR (Fast.tw1578499551869305889 target it v) λj=>R.bindR (Fast.tw17772580674575903948 target env v) λj=>R.bindR y λok=>match ok with
   |true=>R.bindR (Fast.tw14044960220447912780 elt env) λx=>R.bindR (Fast.tw11478286150595567475 (.builtin "list.append") [acc,x]) λj=>.pure (.again (.compLoop (.ListComp elt [⟨target,iter,[c],0⟩] scope pos) 0 it acc env))
   |false=>.pure (.again (.compLoop (.ListComp elt [⟨target,iter,[c],0⟩] scope pos) 0 it acc env))
theorem Cu(elt target iter:Expr)(c:Expr)(scope:Scope)(pos:Pos)(it acc:Value)(env:Env){y:Sem Bool}(h:Le (isTrue c env (eval c env)) y):
  Le (compTurn (.ListComp elt [⟨target,iter,[c],0⟩] scope pos) 0 it acc env) (cX elt target iter c scope pos it acc env y):=by
 rw[compTurn_list]
 unfold cX
 refine .stand (.bind (.of_eq (by rw[←Fast.te9404975358583537561])) λo=>?_)
 cases o with
 |none=>exact .rfl' _
 |some v=>
  refine .bind (.of_eq (by rw[←Fast.te1578499551869305889])) λj=>.bind (.of_eq (by rw[←Fast.te17772580674575903948])) λj=>?_
  simp only[List.forIn_cons,List.forIn_nil,if_true]
  intro M Γ u Q E p s x
  rw[←R.bindR_eq]at x
  rw[Sem.wp_bind',Sem.wp_bind',Sem.wp_bind']
  change Sem.wp M Γ (y>>=_) Q E p s at x
  rw[Sem.wp_bind']at x
  refine h M Γ u _ _ _ _ (Sem.wp_mono M Γ y (λb p' s' z=>?_) (λj j j z=>z) p s x)
  cases b with
  |false=>exact z
  |true=>
   show Sem.wp M Γ (((do let x ←eval elt env;let _ ←call (.builtin "list.append") [acc,x];pure ()):Sem Unit)>>=λj=>again (.compLoop (.ListComp elt [⟨target,iter,[c],0⟩] scope pos) 0 it acc env)) Q E p' s'
   rw[←Fast.te14044960220447912780,←Fast.te11478286150595567475]at z
   change Sem.wp M Γ (eval elt env>>=λx=>call (.builtin "list.append") [acc,x]>>=λj=>_) Q E p' s' at z
   simp only[Sem.wp_bind',Sem.wp_pure']at z ⊢
   exact z
noncomputable def ib(env:Env)(x:Value):Sem Unit:=R.bindR (Fast.tw17872113653443481271 x env) λj=>Fast.tw1623429502029203251 x
theorem j6(env:Env):ib env=λx=>(do noteFrame x env;theTreesLotGoes x):=by
 funext x
 unfold ib
 rw[←R.bindR_eq,←Fast.te17872113653443481271,←Fast.te1623429502029203251];rfl
noncomputable abbrev fu(c:Code):Sem PySem.Fin:=Fast.tw11892475500146522536 Fast.tw14364793385576792824 c
theorem gr(c:Code):fu c=denote table c:=by
 show Fast.tw11892475500146522536 Fast.tw14364793385576792824 c=_
 rw[←Fast.te11892475500146522536,←Fast.te14364793385576792824,←table_eq_tree]
theorem eD.unsup{α:Type}{m:Sem α}{w:String}:eD m (.unsupported w):=λM Γ c u Q E p s x=>by rw[Sem.wp_unsupported]at x;exact x.elim
theorem eD.rule{α:Type}{t:String}{f:Unit→Sem α}{f':Unit→Sem α}(h:eD (f ()) (f' ())):eD (PySem.rule t>>=f) (.rule t f'):=λM Γ c u Q E p s x=>by
 rw[Sem.wp_bind']
 exact h M Γ c u _ _ _ _ x
theorem eD.around{α:Type}{f:List Env→Sem α}{t:Sem α}(h:eD (f []) t):eD (comprehensionsAround>>=f) t:=λM Γ c u Q E p s x=>by
 rw[Sem.wp_bind']
 exact oG M Γ c u _ _ _ _ (h M Γ c u _ _ _ _ x)
noncomputable def FG(id attr:Str)(pos:Pos)(f:Addr)(env:Env)(whole:Sem Value):Sem Value:=
 match(id !="super" || attr=="__class__" || env.kindOf "super" !=some .globalImplicit || env.kindOf "__class__" !=some .free)with
 |true=>whole
 |false=>R.bindR (Fast.tw16755525298939948312 (.ref f)) λfd=>match(fd.params.posonlyargs++fd.params.args).head? with
  |none=>whole
  |some first=>R.bindR ask λa=>R.bindR (match env.code with|.none=>pure .none|c=>Fast.tw6609576154772507232 c 2) λfv=>match fv with
   |.str file _=>match(if a.program.main.file==file then some a.program.main else(a.program.modules.find? fun(n,_,m)=>m.file==file || ("<frozen "++n++">":Str)==file).map (·.2.2))with
    |none=>.unsupported ""
    |some top=>match(top.scope.names.lookup ("super":Str)).isSome with
     |true=>whole
     |false=>.rule "super.attribute-form" λj=>.at pos λj=>R.bindR (Fast.tw8468629109055619292 env "super") λg=>R.bindR (Fast.tw8468629109055619292 env "__class__") λcls=>
      R.bindR (Fast.tw8468629109055619292 ((env.holderOf []) first.arg) first.arg) λself=>R.bindR (Fast.tw10380811246957099773 cls) λaType=>
       match(g==.type "super"&&aType)with
       |true=>@Fast.tw11478286150595567475 g [cls,self] []
       |false=>@Fast.tw11478286150595567475 g [] []
   |_=>.unsupported ""
set_option tactic.hygienic true in
theorem CP(id attr:Str)(p1 pos:Pos)(f:Addr)(env:Env)(whole:Sem Value)(hf:env.func=some f):eD (attributeBase (.Call (.Name id p1) [] [] pos) attr env whole) (FG id attr pos f env whole):=by
 unfold attributeBase FG
 simp only[hf]
 cases hc:(id !="super" || attr=="__class__" || env.kindOf "super" !=some .globalImplicit || env.kindOf "__class__" !=some .free)with
 |true=>
  simp only[↓reduceIte]
  exact .of (.rfl' _)
 |false=>
  have hk:(env.kindOf "__class__" !=some .free)=false:=(Bool.or_eq_false_iff.mp hc).2
  simp only[Bool.false_eq_true,↓reduceIte,Option.isSome_some,pure_bind,hf,hk]
  refine .bind (.of (.of_eq (by rw[←Fast.te16755525298939948312]))) λfd=>?_
  split
  ·rename_i first hfi
   rw[hfi]
   refine .bind (.of (.rfl' _)) λa=>.bind (.of (.of_eq ?_)) λfv=>?_
   ·rw[←Fast.te6609576154772507232]
    cases env.code<;>rfl
   ·split
    ·rename_i file tok
     split
     ·rename_i top htop
      simp only[htop]
      cases hs:(top.scope.names.lookup ("super":Str)).isSome with
      |true=>
       simp only[↓reduceIte]
       exact .of (.rfl' _)
      |false=>
       simp only[Bool.false_eq_true,↓reduceIte]
       refine .rule (.stand (.bind (.of (.of_eq (by rw[←Fast.te8468629109055619292]))) λg=>.bind (.of (.of_eq (by rw[←Fast.te8468629109055619292]))) λcls=>.around (.bind (.of (.of_eq (by rw[←Fast.te8468629109055619292]))) λself=>.bind (.of (.of_eq (by rw[←Fast.te10380811246957099773]))) λaType=>?_)))
       cases(g==.type "super"&&aType)with
       |true=>exact .of (.of_eq (by rw[←Fast.te11478286150595567475];rfl))
       |false=>exact .of (.holding (.of_eq (by rw[←Fast.te11478286150595567475])))
     ·rename_i hn
      show eD _ (match(if(a.program.main.file==file)=true then some a.program.main else(a.program.modules.find? fun(n,_,m)=>m.file==file || ("<frozen "++n++">":Str)==file).map (·.2.2))with
       |none=>.unsupported ""
       |some top=>_)
      generalize (if(a.program.main.file==file)=true then some a.program.main else(a.program.modules.find? fun(n,_,m)=>m.file==file || ("<frozen "++n++">":Str)==file).map (·.2.2))=o at hn
      cases o with
      |none=>exact .unsup
      |some t=>exact absurd rfl (hn t)
    ·rename_i hn
     cases fv<;>first|exact .unsup|exact absurd rfl (hn _ _)
  ·rename_i hfi
   cases ho:(fd.params.posonlyargs++fd.params.args).head? with
   |none=>exact .of (.rfl' _)
   |some x=>exact absurd ho (hfi x)
structure gT where
 id:Str
 p1:Pos
 p2:Pos
 name:Str
 apos:Pos
 args:List Expr
 kws:List Keyword
 pos:Pos
 spos:Pos
set_option backward.match.sparseCases false in
noncomputable def vf(st:Stmt):Option gT:=match st with
 |.Expr e spos=>match e with
  |.Call fn args kws pos=>match fn with
   |.Attribute o name apos=>match o with
    |.Call g as ks p2=>match g with
     |.Name id p1=>match as with
      |[]=>match ks with
       |[]=>some ⟨id,p1,p2,name,apos,args,kws,pos,spos⟩
       |_::_=>none
      |_::_=>none
     |_=>none
    |_=>none
   |_=>none
  |_=>none
 |_=>none
noncomputable def gT.call(x:gT):Expr:=.Call (.Attribute (.Call (.Name x.id x.p1) [] [] x.p2) x.name x.apos) x.args x.kws x.pos
theorem nB{P:Option gT→Prop}{st:Stmt}(hn:P none)(hs:∀x:gT,st=.Expr x.call x.spos→P (some x)):P (vf st):=by
 cases st with
 |Expr e spos=>
  cases e with
  |Call fn args kws pos=>
   cases fn with
   |Attribute o name apos=>
    cases o with
    |Call g as ks p2=>
     cases g with
     |Name id p1=>
      cases as with
      |cons=>exact hn
      |nil=>
       cases ks with
       |nil=>exact hs _ rfl
       |cons=>exact hn
     |_=>exact hn
    |_=>exact hn
   |_=>exact hn
  |_=>exact hn
 |_=>exact hn
noncomputable def pe(x:gT)(f:Addr)(env:Env):Sem Flow:=.at x.spos λj=>
 R.bindR (R.bindR (FG x.id x.name x.p2 f env (Fast.tw14044960220447912780 (.Call (.Name x.id x.p1) [] [] x.p2) env)) λov=>.at x.apos.atName λj=>
  Fast.tw13401596951702201221 (.Call (.Name x.id x.p1) [] [] x.p2) x.name x.apos x.pos env ov (x.args.length+x.kws.length) (Fast.tw4897270859577272712 x.pos (Fast.tw13897175071876407860 x.args env)) (Fast.tw621762911399731506 x.pos (Fast.tw11621922129505618389 x.kws env))) λv=>
 Fast.tw12372662630863984472 x.call x.spos v
theorem xW(x:gT)(f:Addr)(env:Env)(hf:env.func=some f)(hi:interactive env=false):eD (exec (.Expr x.call x.spos) env) (pe x f env):=by
 rw[exec_Expr (e:=x.call) (pos:=x.spos) (hi:=hi) (hs:=rfl)]
 refine .stand (.bind ?_ λv=>.of (.of_eq (by rw[←Fast.te12372662630863984472])))
 show eD (eval (.Call (.Attribute (.Call (.Name x.id x.p1) [] [] x.p2) x.name x.apos) x.args x.kws x.pos) env) _
 rw[arm_eval_Call]
 refine .bind ?_ λov=>.stand (.of (.of_eq ?_))
 ·rw[←Fast.te14044960220447912780]
  exact CP x.id x.name x.p1 x.p2 f env _ hf
 ·rw[←Fast.te13401596951702201221,←Fast.te4897270859577272712,←Fast.te13897175071876407860,←Fast.te621762911399731506,←Fast.te11621922129505618389]
noncomputable def GA(st:Stmt)(env:Env):Sem Flow:=match vf st with
 |some x=>match env.func with
  |some f=>match interactive env with
   |false=>pe x f env
   |true=>bR 3 [st] env
  |none=>bR 3 [st] env
 |none=>bR 3 [st] env
noncomputable def i7(env:Env):List Stmt→Sem Flow
 |[]=>.pure .next
 |st::rest=>vg (GA st env) (i7 env rest)
theorem qZ(st:Stmt)(env:Env):Le (exec st env) (execs [st] env):=λM Γ u Q E p s x=>by
 rw[execs_cons,Sem.wp_bind']at x
 refine Sem.wp_mono M Γ _ (λf p' s' y=>?_) (λj j j y=>y) p s x
 cases f<;>exact y
theorem xX(st:Stmt)(env:Env):eD (exec st env) (GA st env):=by
 have self:eD (exec st env) (bR 3 [st] env):=.of (.trans (qZ st env) (di 3 [st] env))
 refine nB (P:=λo=>eD (exec st env) (match o with
  |some x=>match env.func with
   |some f=>match interactive env with
    |false=>pe x f env
    |true=>bR 3 [st] env
   |none=>bR 3 [st] env
  |none=>bR 3 [st] env)) self λx hx=>?_
 subst hx
 show eD _ (match env.func with
   |some f=>match interactive env with
    |false=>pe x f env
    |true=>bR 3 [.Expr x.call x.spos] env
   |none=>bR 3 [.Expr x.call x.spos] env)
 cases hf:env.func with
 |none=>exact self
 |some f=>
  show eD _ (match interactive env with
    |false=>pe x f env
    |true=>bR 3 [.Expr x.call x.spos] env)
  cases hi:interactive env with
  |false=>exact xW x f env hf hi
  |true=>exact self
theorem iw(env:Env):∀l,eD (execs l env) (i7 env l)
 |[]=>.of (.rfl' _)
 |st::rest=>by
  rw[execs_cons]
  refine .bind (xX st env) λf=>?_
  cases f with
  |next=>exact iw env rest
  |_=>exact .of (.rfl' _)
namespace Le
variable {α β:Type}
theorem unsup{m:Sem α}{w:String}:Le m (.unsupported w):=λM Γ u Q E p s x=>by rw[Sem.wp_unsupported]at x;exact x.elim
theorem catch'{m m':Sem α}{h:Value→Sem α}(g:Le m m'):Le (tryCatch m h) (R.catchR m' λj=>.unsupported ""):=λM Γ u Q E p s x=>by
 rw[←R.catchR_eq]at x
 rw[Sem.wp_tryCatch]at x
 rw[Sem.wp_tryCatch']
 refine Sem.wp_mono M Γ m (λj j j y=>y) (λe p' s' y=>?_) p s (g M Γ u _ _ _ _ x)
 rw[Sem.wp_unsupported]at y
 exact y.elim
theorem letGo{l k:List Value}{f:Unit→Sem β}{t:Sem β}(h:Le (f ()) t):Le (PySem.letGo l k>>=f) t:=λM Γ u Q E p s x=>by
 rw[Sem.wp_bind']
 have y:=h M Γ u Q E p s x
 clear h x
 induction l generalizing p s with
 |nil=>
  rw[PySem.letGo]
  exact y
 |cons a l ih=>
  rw[PySem.letGo,Sem.wp_bind',Sem.wp_holding,Sem.wp_cmd_point]
  exact ih _ _ y
end Le
noncomputable def EP(I S:Addr):Sem PySem.Fin:=.pure (.again (.builtin "max.loop" ⟨[.ref I,.none,.ref S],[]⟩))
noncomputable def Ej(I S:Addr):Sem PySem.Fin:=R.bindR (Fast.tw4765909148043602726 (.ref S)) λo=>R.bindR (R.catchR (Fast.tw9404975358583537561 (.ref I)) λj=>.unsupported "") λr=>match r with
 |none=>match(o.getD #[]).toList with
  |[item,_]=>R.bindR (Fast.tw9418318071634752848 S λj=>#[]) λj=>.pure (.done (.ret item))
  |_=>.unsupported ""
 |some item=>match(o.getD #[]).toList with
  |[]=>R.bindR (Fast.tw9418318071634752848 S λj=>#[item,item]) λj=>EP I S
  |[_,oldVal]=>R.bindR (R.catchR (R.bindR ((yg .Gt item oldVal).1 ()) λa=>Fast.tw15245631507167962100 a) λj=>.unsupported "") λyes=>match yes with
   |true=>R.bindR (Fast.tw9418318071634752848 S λj=>#[item,item]) λj=>EP I S
   |false=>EP I S
  |_=>.unsupported ""
theorem kS{id:String}{args:Args}{b:Builtin}(hb:entryFor table id=some b):denote table (.builtin id args)=b args:=by
 show(match entryFor table id with|some b=>b args|none=>unsupported ((withoutEnding? id "#data").getD id))=_
 rw[hb]
theorem Bo(I S:Addr):Le (denote table (.builtin "max.loop" ⟨[.ref I,.none,.ref S],[]⟩)) (Ej I S):=by
 have hname:(toString "max"++toString ".loop":String)="max.loop":=by decide
 rw[kS F.entry_max_loop]
 show Le (seqItems? (.ref S)>>=_) _
 refine .bind (.of_eq (by rw[←Fast.te4765909148043602726])) λo=>?_
 show Le (tryCatch (pyNext (.ref I)) _>>=_) _
 refine .bind (.catch' (.of_eq (by rw[←Fast.te9404975358583537561]))) λr=>?_
 generalize ho:(o.getD #[]).toList=old
 cases r with
 |none=>
  rcases old with _|⟨item,_|⟨val,_|⟨x,l⟩⟩⟩
  ·exact .unsup
  ·exact .unsup
  ·show Le (updateSeq S _>>=λj=>letGo [val] [item]>>=λj=>ret item) _
   exact .bind (.of_eq (by rw[←Fast.te9418318071634752848])) λj=>.letGo (.rfl' _)
  ·exact .unsup
 |some item=>
  rcases old with _|⟨oi,_|⟨ov,_|⟨x,l⟩⟩⟩
  ·show Le (updateSeq S _>>=_) _
   refine .bind (.of_eq (by rw[←Fast.te9418318071634752848])) λj=>?_
   rw[hname]
   exact .rfl' _
  ·exact .unsup
  ·show Le (tryCatch (holding [item,item] (richCompare .Gt item ov>>=_)) _>>=_) _
   refine .bind (.catch' (.holding (.bind (pz .Gt item ov) λa=>?_))) λyes=>?_
   ·intro M Γ u Q E p s x
    rw[←Fast.te15245631507167962100]at x
    show Sem.wp M Γ (holding [a] (truthy a)>>=λyes=>letGo [a]>>=λj=>pure yes) Q E p s
    rw[Sem.wp_bind',Sem.wp_holding]
    refine Sem.wp_mono M Γ (truthy a) (λy p' s' hy=>?_) (λj j j h=>h) p s x
    exact Le.letGo (f:=λj=>pure y) (t:=pure y) (.rfl' _) M Γ u Q E p' s' hy
   ·cases yes with
    |true=>
     show Le (updateSeq S _>>=λj=>letGo _>>=_) _
     refine .bind (.of_eq (by rw[←Fast.te9418318071634752848])) λj=>.letGo ?_
     rw[hname]
     exact .rfl' _
    |false=>
     show Le (letGo _>>=_) _
     refine .letGo ?_
     rw[hname]
     exact .rfl' _
  ·exact .unsup
set_option backward.match.sparseCases false in
noncomputable def zg(id:String)(args:Args):Option (Addr×Addr):=match args with
 |⟨pos,kw⟩=>match pos with
  |[a,b,c]=>match b with
   |.none=>match kw with
    |[]=>match c with
     |.ref S=>match a with
      |.ref I=>match decEq id "max.loop" with
       |.isTrue _=>some (I,S)
       |.isFalse _=>none
      |_=>none
     |_=>none
    |_=>none
   |_=>none
  |_=>none
theorem gC{P:Option (Addr×Addr)→Prop}{id:String}{args:Args}(hn:P none)(hs:∀I S,Code.builtin id args=.builtin "max.loop" ⟨[.ref I,.none,.ref S],[]⟩→P (some (I,S))):P (zg id args):=by
 obtain⟨pos,kw⟩:=args
 cases pos with
 |nil=>exact hn
 |cons a pos=>
  cases pos with
  |nil=>exact hn
  |cons b pos=>
   cases pos with
   |nil=>exact hn
   |cons c pos=>
    cases pos with
    |cons=>exact hn
    |nil=>
     cases b with
     |none=>
      cases kw with
      |cons=>exact hn
      |nil=>
       cases c with
       |ref S=>
        cases a with
        |ref I=>
         have K:∀d:Decidable (id="max.loop"),P (match d with|.isTrue _=>some (I,S)|.isFalse _=>none):=fun
          |.isTrue e=>hs _ _ (e▸rfl)
          |.isFalse _=>hn
         exact K _
        |_=>exact hn
       |_=>exact hn
     |_=>exact hn
noncomputable def zJ(c:Code):Sem PySem.Fin:=match c with
 |.func body env=>.point [] λj=>R.bindR (R.onRaiseR (i7 env body) (Fast.tw9442747609961115081 env)) λf=>match f with
  |.ret v=>.pure (.done (.ret v))
  |_=>.pure (.done (.ret .none))
 |.forLoop target it body orelse env=>R.onRaiseR (uh target it body orelse env (bR 6 body env)) (ib env)
 |.compLoop e depth it acc env=>match depth with
  |0=>match e with
   |.ListComp elt gs scope pos=>match gs with
    |[g]=>match g with
     |⟨target,iter,ifs,asy⟩=>match ifs with
      |[c0]=>match asy with
       |.ofNat 0=>R.onRaiseR (cX elt target iter c0 scope pos it acc env (xJ 4 c0 env)) (ib env)
       |_=>fu c
      |_=>fu c
    |_=>fu c
   |_=>fu c
  |_=>fu c
 |.builtin id args=>match zg id args with
  |some (I,S)=>Ej I S
  |none=>fu c
 |_=>fu c
noncomputable def yt(c:Code):Bool:=match c with
 |.func ..=>true
 |.forLoop ..=>true
 |.compLoop ..=>true
 |.builtin id args=>match zg id args with
  |some _=>true
  |none=>false
 |_=>false
theorem us(c:Code):∀(M:Model) (Γ:Ctx),Γ.code=c→Rm Γ→∀Q E p s,Sem.wp M Γ (zJ c) Q E p s→Sem.wp M Γ (denote table c) Q E p s:=by
 intro M Γ hc u
 have self:Le (denote table c) (fu c):=.of_eq (gr c).symm
 have go:∀{m':Sem PySem.Fin},Le (denote table c) m'→∀Q E p s,Sem.wp M Γ m' Q E p s→Sem.wp M Γ (denote table c) Q E p s:=λh=>h M Γ u
 cases c with
 |func body env=>
  intro Q E p s x
  show Sem.wp M Γ (do point;match ←(execs body env).onRaise (leaving env)with|.ret v=>ret v|_=>ret .none) Q E p s
  change Sem.wp M Γ (.point [] λj=>R.bindR (R.onRaiseR (i7 env body) (Fast.tw9442747609961115081 env)) λf=>match f with
   |.ret v=>.pure (.done (.ret v))
   |_=>.pure (.done (.ret .none))) Q E p s at x
  rw[Sem.wp_point]at x
  rw[Sem.wp_bind',Sem.wp_cmd_point]
  rw[←Fast.te9442747609961115081]at x
  refine eD.bind (.onRaise (leaving env) (iw env body)) (λf=>?_) M Γ ⟨body,env,hc⟩ u Q E p s x
  cases f<;>exact .of (.rfl' _)
 |forLoop target it body orelse env=>
  refine go ?_
  show Le ((forTurn target it body orelse env).onRaise (λx=>do noteFrame x env;theTreesLotGoes x)) (R.onRaiseR (uh target it body orelse env (bR 6 body env)) (ib env))
  rw[←j6]
  exact .onRaise _ (ug target it body orelse env (di 6 body env))
 |compLoop e depth it acc env=>
  cases depth with
  |succ=>exact go self
  |zero=>
   cases e with
   |ListComp elt gs scope pos=>
    cases gs with
    |nil=>exact go self
    |cons g gs=>
     cases gs with
     |cons=>exact go self
     |nil=>
      obtain⟨target,iter,ifs,asy⟩:=g
      cases ifs with
      |nil=>exact go self
      |cons c0 ifs=>
       cases ifs with
       |cons=>exact go self
       |nil=>
        cases asy with
        |negSucc=>exact go self
        |ofNat k=>
         cases k with
         |succ=>exact go self
         |zero=>
          refine go ?_
          show Le ((compTurn (.ListComp elt [⟨target,iter,[c0],0⟩] scope pos) 0 it acc env).onRaise (λx=>do noteFrame x env;theTreesLotGoes x)) (R.onRaiseR (cX elt target iter c0 scope pos it acc env (xJ 4 c0 env)) (ib env))
          rw[←j6]
          exact .onRaise _ (Cu elt target iter c0 scope pos it acc env (lw 4 c0 env))
   |_=>exact go self
 |builtin id args=>
  refine gC (P:=λo=>∀Q E p s,Sem.wp M Γ (match o with|some (I,S)=>Ej I S|none=>fu (.builtin id args)) Q E p s→Sem.wp M Γ (denote table (.builtin id args)) Q E p s) (go self) λI S h=>?_
  rw[h]
  rw[h]at hc
  exact Bo I S M Γ u
 |_=>exact go self
theorem ut(c:Code)(h:yt c=false):zJ c=denote table c:=by
 cases c with
 |builtin id args=>exact gC (P:=λo=>(match o with|some _=>true|none=>false)=false→(match o with|some (I,S)=>Ej I S|none=>fu (.builtin id args))=denote table (.builtin id args)) (λj=>gr _) (λj j j h=>nomatch h) h
 |func=>cases h
 |forLoop=>cases h
 |compLoop=>cases h
 |_=>rw[←gr];rfl
theorem lJ{c:Code}(h:yt c=true):c.weight≤5:=by
 cases c with
 |builtin id args=>
  refine gC (P:=λo=>(match o with|some _=>true|none=>false)=true→(Code.builtin id args).weight≤5) (λh=>nomatch h) (λj j e j=>?_) h
  rw[e,plainId_weight F.plain_max_loop]
  exact Nat.zero_le 5
 |func=>exact Nat.le_trans (jj (n:=1) rfl) (by decide)
 |forLoop=>exact Nat.le_trans (jj (n:=1) rfl) (by decide)
 |compLoop=>exact Nat.le_trans (jj (n:=1) rfl) (by decide)
 |_=>cases h
theorem A7(h:PySem.Challenge.rw_ba0002_01.row.wellSaid=true→PySem.Challenge.rw_ba0002_01.row.Holds):PySem.Challenge.rw_ba0002_01.Holds:=holds_law (by kernel_rfl) h
noncomputable abbrev PQ:Program:=PySem.Challenge.pw_ba0002_01
noncomputable def ph:Stmt:=.Pass default
noncomputable def hV(i:Nat):Stmt:=match PQ.main.body[i]? with|some s=>s|none=>ph
set_option backward.match.sparseCases false in
noncomputable def jo(i j:Nat):Stmt:=match hV i with
 |.ClassDef _ _ _ b _ _ _ _ _ _ _=>match b[j]? with|some s=>s|none=>ph
 |_=>ph
set_option backward.match.sparseCases false in
noncomputable def Fg:Stmt→Arguments|.FunctionDef _ a _ _ _ _ _ _ _ _=>a|_=>⟨[],[],none,[],[],none,[]⟩
noncomputable def Fh:Stmt→FuncBody|.FunctionDef _ _ b _ _ _ _ _ _ _=>.stmts b|_=>.stmts []
noncomputable def Ff:Stmt→Scope|.FunctionDef _ _ _ _ _ _ s _ _ _=>s|_=>default
noncomputable def en(P:Params)(s:Str)(t:Tok)(v:Value):DictEntry:=⟨PyData.keyHash P s,.str s t,v⟩
noncomputable def uz:Nat→Nat→List Nat
 |0,_=>[]
 |k+1,n=>match Nat.beq n 0 with
  |true=>[]
  |false=>n % 128::uz k (n / 128)
noncomputable def ux(n:Nat):Str:=⟨(uz 40 n).toArray⟩
noncomputable def Q0:Str:=ux 53901559791857631
noncomputable def Q1:Str:=ux 421105403244511
noncomputable def Q2:Str:=ux 113039760542812094607327
noncomputable def Q3:Str:=ux 883130438894441148383
noncomputable def Q4:Str:=ux 53901488956436447
noncomputable def Q5:Str:=ux 955164018354127622050279660
noncomputable def Q6:Str:=ux 17649437021532907831537859
noncomputable def Q7:Str:=ux 286987318107084488908186614118
noncomputable def Q8:Str:=ux 62416317159340358
noncomputable def Q9:Str:=ux 42979540882802918770183266155180388376616007617935189
noncomputable def Dq:Str:=ux 162767162150579019635004814691237099554550503
noncomputable def Do:Str:=ux 15398306910554937454392436
noncomputable def Dn:Str:=ux 91629764068392665812152214349458554491601189195120474059495
noncomputable def Dm:Str:=ux 2258848082130624369817137392
noncomputable def Dl:Str:=ux 37008966977628149675083198657121
noncomputable def Dj:Str:=ux 289132554512719919336593585779
noncomputable def Di:Str:=ux 17647250641645502889196385
noncomputable def Dg:Str:=ux 17647250641645502889193955
noncomputable def Df:Str:=ux 4737147774187037179548691072547425
noncomputable def De:Str:=ux 4826748728514418801322892868817208183956652668804182253
noncomputable def Dc:Str:=ux 10237069341188908968054329290432995550056806786353241157054701
noncomputable def Db:Str:=ux 447941950830928
noncomputable def Da:Str:=ux 30815369174
noncomputable def C9:Str:=ux 1069317748913323144799
noncomputable def C8:Str:=ux 17516288922708359561901663
noncomputable def C7:Str:=ux 2103812882875788239702619743
noncomputable def C6:Str:=ux 939838068271212951135
noncomputable def C5:Str:=ux 1058799029411603052127
noncomputable def CY:Str:=ux 16764252203921434123728479
noncomputable def CX:Str:=ux 1962220
noncomputable def mo:Str:=ux 53902074141372383
noncomputable def Ia:Str:=ux 133455071560268017028700366219749684735094979
noncomputable def H9:Str:=ux 6899461432163233759
noncomputable def oM:Str:=ux 247352547554224748503997411681
noncomputable def CW:Str:=ux 883123151916293124063
noncomputable def CV:Str:=ux 30344074158132277796980072755167
noncomputable def Et:Str:=ux 421109440507871
noncomputable def H8:Str:=ux 286696420313289618980622613107
noncomputable def CU:Str:=ux 133454983862861831018029446609853876543483871
noncomputable def Es:Str:=ux 53902072520191967
noncomputable def H7:Str:=ux 497158883364006940379014915811735878
noncomputable def FU:Str:=ux 421105648562143
noncomputable def H6:Str:=ux 3884014063509667652501860725061958
noncomputable def FT:Str:=ux 53901523016265695
noncomputable def H5:Str:=ux 497153800132109105674829769490331974
noncomputable def FS:Str:=ux 421107831893983
noncomputable def H4:Str:=ux 3884034201191507883187338393188678
noncomputable def FR:Str:=ux 53901802482741215
noncomputable def H3:Str:=ux 497156377755384655202570911010552134
noncomputable def FQ:Str:=ux 3289915158495
noncomputable def H2:Str:=ux 30344111476490807799316915714374
noncomputable def FP:Str:=ux 3289921564639
noncomputable def H1:Str:=ux 30344170562740241464317829478726
noncomputable def FO:Str:=ux 3289890107359
noncomputable def H0:Str:=ux 30343880420543533953315899996486
noncomputable def FN:Str:=ux 3289921482719
noncomputable def HZ:Str:=ux 30344169807161604205174595287366
noncomputable def Er:Str:=ux 113039831549272488013791
noncomputable def HY:Str:=ux 330418753060302849718308806055138000290314207386154956771501604337284949
noncomputable def oK:Str:=ux 4697246798973516505729475928453473
noncomputable def HX:Str:=ux 3884053776281304221671368502802768
noncomputable def xj:Str:=ux 161394894349527023131103253842711547479650657
noncomputable def Ep:Str:=ux 56782140129114862
noncomputable def HW:Str:=ux 4091584402028495708465768030796112
noncomputable def FM:Str:=ux 2220481364428742213978798815
noncomputable def HV:Str:=ux 160002544726790623464791420897580936620407120
noncomputable def FL:Str:=ux 8271937684821848673
noncomputable def HU:Str:=ux 596055927599930257140727649679440208
noncomputable def FK:Str:=ux 53902004360736735
noncomputable def HT:Str:=ux 3884048748056588989524973606140240
noncomputable def HS:Str:=ux 237063829118731947126971774934
noncomputable def dH(a b:Str)(s:Stmt)(cl:List (Str×Addr))(df:Value)(m:Str)(mt co:Nat)(ct:Value):Obj:={cls:=.type "function",dict:=none,data:=.func {name:=a,qualname:=b,params:=Fg s,body:=Fh s,scope:=Ff s,globals:=3,closure:=cl,defaults:=df,kwdefaults:=.none,doc:=.none,pyModule:=.str m mt,annotations:=none,code:=.ref co,closureTuple:=ct,builtins:=0},slots:=#[]}
noncomputable def dI(a b:Str)(ta tb tc:Nat)(l i:Int)(r1 r2:Nat)(x y:Value)(r3:Nat)(t7:Int)(t8:Nat):Obj:={cls:=.type "code",dict:=none,data:=.fields #[.str a ta,.str b tb,.str (ux 2357460733860917196365705647) tc,.int l 0,.int i 0,.int 0 0,.int 0 0,.int 3 0,.ref r1,.bool true,.int 271 0,.ref r2,.none,x,y,.ref r3,.int t7 0,.int l 0,.str (ux 2357460733860917196365705647) t8],slots:=#[]}
noncomputable def HF(P:Params):Obj:={cls:=(.type "dict"),dict:=none,data:=.dict #[en P Q0 1 (.str (ux 65226668898941666) 160),en P Q1 2 (.builtin "builtins.__doc__:str#opaque"),en P Q2 3 (.builtin "builtins.__package__:str#opaque"),en P Q3 4 (.builtin "builtins.__loader__:shared#opaque"),en P Q4 5 (.builtin "builtins.__spec__#opaque"),en P (ux 30344152280222117430921858166751) 6 (.builtin "__build_class__"),en P (ux 883131622350932045791) 7 (.builtin "__import__"),en P (ux 1896801) 8 (.builtin "abs"),en P (ux 1783393) 9 (.builtin "all"),en P (ux 1996641) 10 (.builtin "any"),en P (ux 28407560673) 11 (.builtin "ascii"),en P (ux 1815778) 12 (.builtin "bin"),en P (ux 1077897093424816421218) 13 (.builtin "breakpoint"),en P (ux 57336327839625443) 14 (.builtin "callable"),en P (ux 1881187) 15 (.builtin "chr"),en P (ux 447941971769315) 16 (.builtin "compile"),en P (ux 505394375635684) 17 (.builtin "delattr"),en P (ux 1881316) 18 (.builtin "dir"),en P (ux 3466000708836) 19 (.builtin "divmod"),en P (ux 228096869) 20 (.builtin "eval"),en P (ux 209288293) 21 (.builtin "exec"),en P (ux 4011998361574) 22 (.builtin "format"),en P (ux 505394375766759) 23 (.builtin "getattr"),en P (ux 509512446113383) 24 (.builtin "globals"),en P (ux 505394375749864) 25 (.builtin "hasattr"),en P (ux 220000488) 26 (.builtin "hash"),en P (ux 1979112) 27 (.builtin "hex"),en P (ux 12905) 28 (.builtin "id"),en P (ux 31385728873) 29 (.builtin "input"),en P (ux 938756632654307293673) 30 (.builtin "isinstance"),en P (ux 1069029492115334035945) 31 (.builtin "issubclass"),en P (ux 240745065) 32 (.builtin "iter"),en P (ux 30815368417) 33 (.builtin "aiter"),en P (ux 1815276) 34 (.builtin "len"),en P (ux 3980566001644) 35 (.builtin "locals"),en P (ux 1978605) 36 (.builtin "max"),en P (ux 1815789) 37 (.builtin "min"),en P (ux 245248750) 38 (.builtin "next"),en P (ux 31391840097) 39 (.builtin "anext"),en P (ux 1913327) 40 (.builtin "oct"),en P (ux 1653103) 41 (.builtin "ord"),en P (ux 1964016) 42 (.builtin "pow"),en P (ux 31370934640) 43 (.builtin "print"),en P (ux 240923378) 44 (.builtin "repr"),en P (ux 27076163570) 45 (.builtin "round"),en P (ux 505394375766771) 46 (.builtin "setattr"),en P (ux 3463330969587) 47 (.builtin "sorted"),en P (ux 1800947) 48 (.builtin "sum"),en P (ux 243052790) 49 (.builtin "vars"),en P (ux 213628878) 50 .none,en P (ux 65205021183784517) 51 .ellipsis,en P (ux 249559292210508177048917063630) 52 .notImplemented,en P (ux 27354935494) 53 (.bool false),en P (ux 213743956) 54 (.bool true),en P (ux 228325346) 55 (.type "bool"),en P (ux 1104918722286511157997) 56 (.type "memoryview"),en P (ux 8774080344635555042) 57 (.type "bytearray"),en P (ux 31083805922) 58 (.type "bytes"),en P (ux 119090516107785573791331) 59 (.type "classmethod"),en P (ux 531265142618083) 60 (.type "complex"),en P (ux 244905188) 61 (.type "dict"),en P (ux 7343549747291846501) 62 (.type "enumerate"),en P (ux 3944367207654) 63 (.type "filter"),en P (ux 31343769190) 64 (.type "float"),en P (ux 8416048435984857446) 65 (.type "frozenset"),en P (ux 68631062118136176) 66 (.type "property"),en P (ux 1914729) 67 (.type "int"),en P (ux 245167340) 68 (.type "list"),en P (ux 1847533) 69 (.type "map"),en P (ux 4012518322543) 70 (.type "object"),en P (ux 27329802482) 71 (.type "range"),en P (ux 56743180225065714) 72 (.type "reversed"),en P (ux 1913587) 73 (.type "set"),en P (ux 27321333363) 74 (.type "slice"),en P (ux 15243586061796001044789875) 75 (.type "staticmethod"),en P (ux 1882739) 76 (.type "str"),en P (ux 30815304435) 77 (.type "super"),en P (ux 27340323572) 78 (.type "tuple"),en P (ux 213662964) 79 (.type "type"),en P (ux 1848570) 80 (.type "zip"),en P (ux 6899408724578349023) 81 (.bool true),en P (ux 2144608328427979956675211458) 82 (.type "BaseException"),en P (ux 75048805497310074797475301384395747522) 83 (.type "BaseExceptionGroup"),en P (ux 7989288599893376069) 84 (.type "Exception"),en P (ux 2259775788271917090767352519) 85 (.type "GeneratorExit"),en P (ux 606887058592124963826847896089555659) 86 (.type "KeyboardInterrupt"),en P (ux 1077545064881324883155) 87 (.type "SystemExit"),en P (ux 36405087185495366414458704001345) 88 (.type "ArithmeticError"),en P (ux 284414743637478513485316684225) 89 (.type "AssertionError"),en P (ux 284414743636832862044436642369) 90 (.type "AttributeError"),en P (ux 135619518107300329536194) 91 (.type "BufferError"),en P (ux 64668425610438597) 92 (.type "EOFError"),en P (ux 135619518107372557711049) 93 (.type "ImportError"),en P (ux 135619518107235915659212) 94 (.type "LookupError"),en P (ux 135619518107544356352717) 95 (.type "MemoryError"),en P (ux 8277558478201647310) 96 (.type "NameError"),en P (ux 505222075083215) 97 (.type "OSError"),en P (ux 284414743636823261214370542290) 98 (.type "ReferenceError"),en P (ux 17359298317677543288453842) 99 (.type "RuntimeError"),en P (ux 73688181029732760979861761720974047827) 100 (.type "StopAsyncIteration"),en P (ux 2144608327354443055251585619) 101 (.type "StopIteration"),en P (ux 135619518107505443716307) 102 (.type "SyntaxError"),en P (ux 135619518107128560418003) 103 (.type "SystemError"),en P (ux 8277558478201699540) 104 (.type "TypeError"),en P (ux 1059527485209827815638) 105 (.type "ValueError"),en P (ux 456806780154071) 106 (.type "Warning"),en P (ux 76347001401565549172022971204879775302) 107 (.type "FloatingPointError"),en P (ux 2221990184672867535505947471) 108 (.type "OverflowError"),en P (ux 596460948448825339435709122012295898) 109 (.type "ZeroDivisionError"),en P (ux 15695761450822405373902018) 110 (.type "BytesWarning"),en P (ux 69030688887910131414683259145360782020) 111 (.type "DeprecationWarning"),en P (ux 32916397518115102358488844138309) 112 (.type "EncodingWarning"),en P (ux 2009057465705267410314803910) 113 (.type "FutureWarning"),en P (ux 2009057465705267925698229961) 114 (.type "ImportWarning"),en P (ux 38860823094090088344862957532350705683709293613527760) 115 (.type "PendingDeprecationWarning"),en P (ux 32916397518115101184524226982610) 116 (.type "ResourceWarning"),en P (ux 257159355610274228345274874578) 117 (.type "RuntimeWarning"),en P (ux 2009057465705268058584235219) 118 (.type "SyntaxWarning"),en P (ux 257159355610274228037612107605) 119 (.type "UnicodeWarning"),en P (ux 122623136334550039886293) 120 (.type "UserWarning"),en P (ux 36405087185308585851808749712962) 121 (.type "BlockingIOError"),en P (ux 596460948449585602396400739990271043) 122 (.type "ChildProcessError"),en P (ux 36405087185597249725605128943555) 123 (.type "ConnectionError"),en P (ux 36405087185643732455593560716486) 124 (.type "FileExistsError"),en P (ux 596460948447313111942092348597155014) 125 (.type "FileNotFoundError"),en P (ux 4659851159744550605411261016258377) 126 (.type "InterruptedError"),en P (ux 596460948450491209621379057095571913) 127 (.type "IsADirectoryError"),en P (ux 76347001401662874831536519308233226190) 128 (.type "NotADirectoryError"),en P (ux 36405087185597249721757909955280) 129 (.type "PermissionError"),en P (ux 76347001401489238093061647269290047824) 130 (.type "ProcessLookupError"),en P (ux 17359298317743790443164884) 131 (.type "TimeoutError"),en P (ux 4659851159756447964869175788779337) 132 (.type "IndentationError"),en P (ux 160111266683298230276514338163358344402412767) 133 (.type "_IncompleteInputError"),en P (ux 1059527485214894405449) 134 (.type "IndexError"),en P (ux 64668425611277003) 135 (.type "KeyError"),en P (ux 9772416179360778026059241039415813421005) 136 (.type "ModuleNotFoundError"),en P (ux 9772416179360603788730312093072824809422) 137 (.type "NotImplementedError"),en P (ux 2623262993335139085089472075953563181683566263504) 138 (.type "PythonFinalizationError"),en P (ux 284414743637478513450990236370) 139 (.type "RecursionError"),en P (ux 596460948448506524053248295145355093) 140 (.type "UnboundLocalError"),en P (ux 17359298317677235625686869) 141 (.type "UnicodeError"),en P (ux 36405087185514311276915750336834) 142 (.type "BrokenPipeError"),en P (ux 20494242135378448966838595156105550829079738307) 143 (.type "ConnectionAbortedError"),en P (ux 20494242135378448657179973433975883185073665987) 144 (.type "ConnectionRefusedError"),en P (ux 1250869270963227866633116906101536422868931) 145 (.type "ConnectionResetError"),en P (ux 64668425610899668) 146 (.type "TabError"),en P (ux 76347001401273902792403668249563789141) 147 (.type "UnicodeDecodeError"),en P (ux 76347001401273902793052749545858561877) 148 (.type "UnicodeEncodeError"),en P (ux 160111266682689403905225237760896967613511509) 149 (.type "UnicodeTranslateError"),en P (ux 279578587030284385373723884613) 150 (.type "ExceptionGroup"),en P (ux 4659851159763521999107421464540997) 151 (.type "OSError"),en P (ux 505222075082697) 152 (.type "OSError"),en P (ux 232355951) 153 (.builtin "open"),en P (ux 245005041) 154 (.builtin "builtins.quit#opaque"),en P (ux 245005413) 155 (.builtin "builtins.exit#opaque"),en P (ux 8417684340975876067) 156 (.builtin "builtins.copyright#opaque"),en P (ux 509789475535203) 157 (.builtin "builtins.credits#opaque"),en P (ux 448183808881900) 158 (.builtin "builtins.license#opaque"),en P (ux 236663528) 159 (.builtin "builtins.help#opaque")] 159,slots:=#[]}
noncomputable def CA(P:Params):Obj:={cls:=.none,dict:=none,data:=.dict #[en P (ux 338631619643883533659015481143369976491230403245801) 185 (.bool true),en P (ux 13611511324835615763999887771972201812561342553971854697140721715737548772905350755) 187 (.ref 15),en P (ux 289424076894133919113247797495) 208 (.ref 19),en P (ux 344383126619072329083102062379737332700520626784942038200961712329881187) 218 (.ref 23),en P (ux 306273061180714509059669758797502511201347419569395) 247 (.int 3 0),en P (ux 11635293854095927547987093656551915092193328347985451692129523) 248 (.bool true),en P (ux 90900733235124433968649169353114418921999346846898342082281) 261 (.bool true),en P (ux 38630574582600218964230280130807) 263 (.ref 28),en P (ux 2646969940859921500323459932896669609104515084535) 0 (.str (ux 13) 0),en P (ux 190632654505507676946220673137986060457451869512593694889546166519) 264 (.str ⟨#[4,0,0,12,4,0,0,12,4,0,0,3,4,0,0,12,8,4,100,105,99,116,2]⟩ 0),en P (ux 18096057421672008005982925133764100433663323396652276) 330 (.int 75 0),en P (ux 41293011409388099123711810798636944521642284718767348) 331 (.int 1 0)] 12,slots:=#[]}
noncomputable def oU(P:Params):Obj:={cls:=(.type "dict"),dict:=none,data:=.dict #[en P Q0 165 (.str Q5 879),en P Q1 166 .none,en P Q2 167 .none,en P Q3 168 (.builtin "__main__.__loader__#opaque"),en P Q4 169 .none,en P (ux 30344151541145318921183520387039) 170 (.ref 6),en P (ux 14469218985635115783729119) 171 (.ref 4),en P (ux 53901559540068319) 173 (.str (ux 2357460733860917196365705647) 172),en P (ux 883122557733039566815) 174 .none,en P (ux 478350348693744) 270 (.type "functools.partial"),en P (ux 29219126239) 283 (.ref 39),en P Q6 333 (.ref 75),en P (ux 161396331904046787100952271774852256165050995) 343 (.ref 86),en P Q7 350 (.ref 93),en P Q8 537 (.ref 237),en P Q9 568 (.ref 260),en P Dq 578 (.ref 271),en P Do 592 (.ref 278),en P Dn 600 (.ref 285),en P Dm 607 (.ref 292),en P Dl 614 (.ref 299),en P Dj 621 (.ref 306),en P Di 628 (.ref 313),en P Dg 635 (.ref 320),en P Df 643 (.ref 327),en P De 656 (.ref 334),en P Dc 669 (.ref 341),en P Db 830 (.ref 477),en P Da 878 (.ref 514),en P C9 886 (.ref 523),en P C8 892 (.ref 528),en P C7 901 (.ref 535),en P C6 907 (.ref 540),en P C5 913 (.ref 545),en P CY 920 (.ref 552),en P CX 926 (.ref 557)] 36,slots:=#[]}
noncomputable def HE(P:Params):Obj:={cls:=(.type "module"),dict:=(some 0),data:=.plain,slots:=#[]}
noncomputable def Cz(P:Params):Obj:={cls:=(.type "cell"),dict:=none,data:=.cell (some (.ref 75)),slots:=#[]}
noncomputable def Cy(P:Params):Obj:={cls:=(.type "tuple"),dict:=none,data:=.seq #[(.ref 48),.none] 0,slots:=#[]}
noncomputable def uH(P:Params):Obj:={cls:=.none,dict:=none,data:=.fields #[],slots:=#[]}
noncomputable def k5(P:Params):Obj:=dI mo Ia 298 299 300 8 3 51 52 (.ref 53) (.ref 54) 55 307 308
noncomputable def zN(P:Params):Obj:=dH mo Ia (jo 3 0) [(H9,43)] (.ref 49) oM 284 56 (.ref 50)
noncomputable def Cx(P:Params):Obj:={cls:=(.type "dict"),dict:=none,data:=.dict #[en P CW 293 (.str oM 284),en P CV 297 (.int 6 296),en P mo 309 (.ref 57),en P Et 316 (.ref 64),en P H8 324 (.ref 72),en P CU 325 (.ref 73),en P Es 328 (.ref 76),en P Q1 329 .none] 4,slots:=#[]}
noncomputable def uG(P:Params):Obj:={cls:=(.type "type"),dict:=none,data:=.cls {name:=Q6,bases:=[(.type "set")],mro:=[(.ref 75),(.type "set"),(.type "object")],ns:=74,qualname:=Q6,hasDict:=true,slotNames:=[],subclasses:=[],abstract:=false,collection:=none,hasDel:=false},slots:=#[(some (.ref 40)),none,(some (.str Q6 286)),(some (.str Q6 294)),(some (.builtin "set.__new__")),(some (.bool true))]}
noncomputable def Cw(P:Params):Obj:=dI Q7 Q7 344 345 346 31 1 87 88 (.ref 89) (.ref 90) 91 348 349
noncomputable def Cv(P:Params):Obj:=dH Q7 Q7 (hV 5) [] .none oM 284 92 .none
noncomputable def xf(P:Params):Obj:={cls:=(.type "tuple"),dict:=none,data:=.seq #[(.int 0 363),(.int 1 364)] 0,slots:=#[]}
noncomputable def xe(P:Params):Obj:=dI mo H7 365 366 367 39 3 102 103 (.ref 104) (.ref 105) 106 377 378
noncomputable def rp(P:Params):Obj:=dH mo H7 (jo 6 0) [] (.ref 101) oM 284 107 .none
noncomputable def xd(P:Params):Obj:=dI FU H6 415 416 417 68 2 144 145 (.ref 146) (.ref 147) 148 422 423
noncomputable def xc(P:Params):Obj:=dH FU H6 (jo 6 6) [] .none oM 284 149 .none
noncomputable def xb(P:Params):Obj:=dI FT H5 425 426 427 72 2 151 152 (.ref 153) (.ref 154) 155 430 431
noncomputable def xa(P:Params):Obj:=dH FT H5 (jo 6 7) [] .none oM 284 156 .none
noncomputable def w9(P:Params):Obj:=dI FS H4 449 450 451 81 2 172 173 (.ref 174) (.ref 175) 176 456 457
noncomputable def w8(P:Params):Obj:=dH FS H4 (jo 6 10) [] .none oM 284 177 .none
noncomputable def w7(P:Params):Obj:=dI FR H3 459 460 461 85 2 179 180 (.ref 181) (.ref 182) 183 464 465
noncomputable def w6(P:Params):Obj:=dH FR H3 (jo 6 11) [] .none oM 284 184 .none
noncomputable def w5(P:Params):Obj:=dI FQ H2 483 484 485 94 2 200 201 (.ref 202) (.ref 203) 204 488 489
noncomputable def w4(P:Params):Obj:=dH FQ H2 (jo 6 14) [] .none oM 284 205 .none
noncomputable def w3(P:Params):Obj:=dI FP H1 491 492 493 97 2 207 208 (.ref 209) (.ref 210) 211 498 499
noncomputable def w2(P:Params):Obj:=dH FP H1 (jo 6 15) [] .none oM 284 212 .none
noncomputable def w1(P:Params):Obj:=dI FO H0 501 502 503 101 2 214 215 (.ref 216) (.ref 217) 218 508 509
noncomputable def wZ(P:Params):Obj:=dH FO H0 (jo 6 16) [] .none oM 284 219 .none
noncomputable def wY(P:Params):Obj:=dI FN HZ 511 512 513 105 2 221 222 (.ref 223) (.ref 224) 225 516 517
noncomputable def wX(P:Params):Obj:=dH FN HZ (jo 6 17) [] .none oM 284 226 .none
noncomputable def wW(P:Params):Obj:={cls:=(.type "dict"),dict:=none,data:=.dict #[en P CW 358 (.str oM 284),en P CV 362 (.int 37 361),en P mo 379 (.ref 108),en P (ux 53901800876060639) 386 (.ref 115),en P Et 393 (.ref 122),en P (ux 30836258406) 400 (.ref 129),en P (ux 228225763) 407 (.ref 136),en P (ux 421106456178655) 414 (.ref 143),en P FU 424 (.ref 150),en P FT 432 (.ref 157),en P (ux 421105147637727) 440 (.ref 164),en P (ux 53901458897940447) 448 (.ref 171),en P FS 458 (.ref 178),en P FR 466 (.ref 185),en P (ux 113040986660803494883295) 474 (.ref 192),en P (ux 14469246292582847345373151) 482 (.ref 199),en P FQ 490 (.ref 206),en P FP 500 (.ref 213),en P FO 510 (.ref 220),en P FN 518 (.ref 227),en P (ux 3289890025439) 526 (.ref 234),en P CU 529 (.ref 235),en P Es 531 (.ref 238),en P Er 533 (.ref 239),en P Q1 534 .none,en P (ux 53901664481587167) 535 .none] 5,slots:=#[]}
noncomputable def wV(P:Params):Obj:={cls:=(.type "type"),dict:=none,data:=.cls {name:=Q8,bases:=[(.type "object")],mro:=[(.ref 237),(.type "object")],ns:=236,qualname:=Q8,hasDict:=true,slotNames:=[],subclasses:=[],abstract:=false,collection:=none,hasDel:=false},slots:=#[none,none,(some (.str Q8 351)),(some (.str Q8 359)),(some (.builtin "object.__new__")),(some (.bool true))]}
noncomputable def wU(P:Params):Obj:={cls:=(.type "cell"),dict:=none,data:=.cell (some (.ref 260)),slots:=#[]}
noncomputable def wT(P:Params):Obj:=dI mo HY 552 553 554 113 2 251 252 (.ref 253) (.ref 254) 255 559 560
noncomputable def wS(P:Params):Obj:=dH mo HY (jo 8 0) [(H9,245)] .none oK 538 256 (.ref 250)
noncomputable def wR(P:Params):Obj:={cls:=(.type "dict"),dict:=none,data:=.dict #[en P CW 547 (.str oK 538),en P CV 551 (.int 111 550),en P mo 561 (.ref 257),en P CU 562 (.ref 258),en P Er 565 (.ref 261),en P Q1 566 .none] 4,slots:=#[]}
noncomputable def nl(P:Params):Obj:={cls:=(.type "type"),dict:=none,data:=.cls {name:=Q9,bases:=[(.type "ValueError")],mro:=[(.ref 260),(.type "ValueError"),(.type "Exception"),(.type "BaseException"),(.type "object")],ns:=259,qualname:=Q9,hasDict:=true,slotNames:=[],subclasses:=[],abstract:=false,collection:=none,hasDel:=false},slots:=#[(some (.ref 242)),none,(some (.str Q9 540)),(some (.str Q9 548)),(some (.builtin "ValueError.__new__")),(some (.bool true))]}
noncomputable def wQ(P:Params):Obj:={cls:=(.type "tuple"),dict:=none,data:=.seq #[.none] 0,slots:=#[]}
noncomputable def wP(P:Params):Obj:=dI Dq Dq 569 570 571 116 2 265 266 (.ref 267) (.ref 268) 269 576 577
noncomputable def ro(P:Params):Obj:=dH Dq Dq (hV 9) [] (.ref 264) oK 538 270 .none
noncomputable def wO(P:Params):Obj:=dI Do Do 579 580 581 134 3 272 273 (.ref 274) (.ref 275) 276 590 591
noncomputable def rn(P:Params):Obj:=dH Do Do (hV 10) [] .none oK 538 277 .none
noncomputable def wN(P:Params):Obj:=dI Dn Dn 593 594 595 143 2 279 280 (.ref 281) (.ref 282) 283 598 599
noncomputable def wM(P:Params):Obj:=dH Dn Dn (hV 11) [] .none oK 538 284 .none
noncomputable def wL(P:Params):Obj:=dI Dm Dm 601 602 603 147 1 286 287 (.ref 288) (.ref 289) 290 605 606
noncomputable def fC(P:Params):Obj:=dH Dm Dm (hV 12) [] .none oK 538 291 .none
noncomputable def wK(P:Params):Obj:=dI Dl Dl 608 609 610 151 1 293 294 (.ref 295) (.ref 296) 297 612 613
noncomputable def dX(P:Params):Obj:=dH Dl Dl (hV 13) [] .none oK 538 298 .none
noncomputable def wJ(P:Params):Obj:=dI Dj Dj 615 616 617 157 1 300 301 (.ref 302) (.ref 303) 304 619 620
noncomputable def fB(P:Params):Obj:=dH Dj Dj (hV 14) [] .none oK 538 305 .none
noncomputable def wI(P:Params):Obj:=dI Di Di 622 623 624 161 1 307 308 (.ref 309) (.ref 310) 311 626 627
noncomputable def fA(P:Params):Obj:=dH Di Di (hV 15) [] .none oK 538 312 .none
noncomputable def wH(P:Params):Obj:=dI Dg Dg 629 630 631 165 1 314 315 (.ref 316) (.ref 317) 318 633 634
noncomputable def fz(P:Params):Obj:=dH Dg Dg (hV 16) [] .none oK 538 319 .none
noncomputable def wG(P:Params):Obj:=dI Df Df 636 637 638 169 2 321 322 (.ref 323) (.ref 324) 325 641 642
noncomputable def wF(P:Params):Obj:=dH Df Df (hV 17) [] .none oK 538 326 .none
noncomputable def wE(P:Params):Obj:=dI De De 644 645 646 173 3 328 329 (.ref 330) (.ref 331) 332 654 655
noncomputable def rm(P:Params):Obj:=dH De De (hV 18) [] .none oK 538 333 .none
noncomputable def wD(P:Params):Obj:=dI Dc Dc 657 658 659 182 3 335 336 (.ref 337) (.ref 338) 339 667 668
noncomputable def rl(P:Params):Obj:=dH Dc Dc (hV 19) [] .none oK 538 340 .none
noncomputable def wC(P:Params):Obj:={cls:=(.type "tuple"),dict:=none,data:=.seq #[.none] 0,slots:=#[]}
noncomputable def wB(P:Params):Obj:=dI mo HX 684 685 686 195 3 350 351 .none .none 352 687 688
noncomputable def wA(P:Params):Obj:=dH mo HX (jo 21 0) [] (.ref 349) xj 670 353 .none
noncomputable def wz(P:Params):Obj:=dI Ep HW 690 691 692 206 1 355 356 (.ref 357) (.ref 358) 359 694 695
noncomputable def wy(P:Params):Obj:=dH Ep HW (jo 21 1) [] .none xj 670 360 .none
noncomputable def wx(P:Params):Obj:={cls:=(.type "property"),dict:=none,data:=.fields #[(.ref 361),.none,.none,.none,(.str Ep 697),(.bool false)],slots:=#[]}
noncomputable def ww(P:Params):Obj:=dI FM HV 712 713 714 216 2 377 378 (.ref 379) (.ref 380) 381 718 719
noncomputable def wv(P:Params):Obj:=dH FM HV (jo 21 4) [] .none xj 670 382 .none
noncomputable def wu(P:Params):Obj:=dI FL HU 721 722 723 223 2 384 385 (.ref 386) (.ref 387) 388 726 727
noncomputable def wq(P:Params):Obj:=dH FL HU (jo 21 5) [] .none xj 670 389 .none
noncomputable def wn(P:Params):Obj:=dI FK HT 765 766 767 241 1 426 427 (.ref 428) (.ref 429) 430 769 770
noncomputable def wm(P:Params):Obj:=dH FK HT (jo 21 11) [] .none xj 670 431 .none
noncomputable def wl(P:Params):Obj:={cls:=(.type "dict"),dict:=none,data:=.dict #[en P CW 679 (.str xj 670),en P CV 683 (.int 193 682),en P mo 689 (.ref 354),en P Ep 697 (.ref 362),en P (ux 9850850335940355658017105262479159343201) 704 (.ref 369),en P (ux 421108335194079) 711 (.ref 376),en P FM 720 (.ref 383),en P FL 728 (.ref 390),en P (ux 1068959721923121066593) 736 (.ref 397),en P (ux 17653163543718510035023860) 743 (.ref 404),en P (ux 4701975576071920562803417563328744) 750 (.ref 411),en P (ux 2646976931537834339355930461635595472497679251427) 757 (.ref 418),en P (ux 8574791744891329521929677055081737598947) 764 (.ref 425),en P FK 771 (.ref 432),en P (ux 113040335961163227066335) 779 (.ref 439),en P (ux 113040335961163227262943) 788 (.ref 446),en P Et 798 (.ref 453),en P (ux 255604707) 805 (.ref 460),en P (ux 2261269595020169845790996969) 812 (.ref 467),en P (ux 137868794955112573090419) 819 (.ref 474),en P CU 823 (.ref 475),en P Es 825 (.ref 478),en P Er 827 (.ref 479),en P Q1 828 .none] 4,slots:=#[]}
noncomputable def wj(P:Params):Obj:={cls:=(.type "type"),dict:=none,data:=.cls {name:=Db,bases:=[(.type "object")],mro:=[(.ref 477),(.type "object")],ns:=476,qualname:=Db,hasDict:=true,slotNames:=[],subclasses:=[],abstract:=false,collection:=none,hasDel:=false},slots:=#[none,none,(some (.str Db 672)),(some (.str Db 680)),(some (.builtin "object.__new__")),(some (.bool true))]}
noncomputable def wh(P:Params):Obj:={cls:=(.type "tuple"),dict:=none,data:=.seq #[(.int 1 843),.none] 0,slots:=#[]}
noncomputable def wg(P:Params):Obj:=dI mo HS 844 845 846 272 4 490 491 (.ref 492) (.ref 493) 494 851 852
noncomputable def wf(P:Params):Obj:=dH mo HS (jo 22 0) [] (.ref 489) xj 670 495 .none
noncomputable def we(P:Params):Obj:={cls:=(.type "dict"),dict:=none,data:=.dict #[en P CW 838 (.str xj 670),en P CV 842 (.int 270 841),en P mo 853 (.ref 496),en P Et 860 (.ref 503),en P H8 868 (.ref 511),en P CU 871 (.ref 512),en P Es 873 (.ref 515),en P Er 875 (.ref 516),en P Q1 876 .none] 4,slots:=#[]}
noncomputable def wd(P:Params):Obj:={cls:=(.type "type"),dict:=none,data:=.cls {name:=Da,bases:=[(.type "object")],mro:=[(.ref 514),(.type "object")],ns:=513,qualname:=Da,hasDict:=true,slotNames:=[],subclasses:=[],abstract:=false,collection:=none,hasDel:=false},slots:=#[none,none,(some (.str Da 831)),(some (.str Da 839)),(some (.builtin "object.__new__")),(some (.bool true))]}
noncomputable def wc(P:Params):Obj:=dI C9 C9 881 882 883 284 2 519 520 .none .none 521 884 885
noncomputable def rj(P:Params):Obj:=dH C9 C9 (hV 24) [] .none Q5 879 522 .none
noncomputable def wb(P:Params):Obj:=dI C8 C8 887 888 889 287 2 524 525 .none .none 526 890 891
noncomputable def ri(P:Params):Obj:=dH C8 C8 (hV 25) [] .none Q5 879 527 .none
noncomputable def v9(P:Params):Obj:=dI C7 C7 893 894 895 289 2 529 530 (.ref 531) (.ref 532) 533 899 900
noncomputable def v8(P:Params):Obj:=dH C7 C7 (hV 26) [] .none Q5 879 534 .none
noncomputable def v7(P:Params):Obj:=dI C6 C6 902 903 904 297 3 536 537 .none .none 538 905 906
noncomputable def rh(P:Params):Obj:=dH C6 C6 (hV 27) [] .none Q5 879 539 .none
noncomputable def v6(P:Params):Obj:=dI C5 C5 908 909 910 303 2 541 542 .none .none 543 911 912
noncomputable def rg(P:Params):Obj:=dH C5 C5 (hV 28) [] .none Q5 879 544 .none
noncomputable def v5(P:Params):Obj:=dI CY CY 914 915 916 309 1 546 547 (.ref 548) (.ref 549) 550 918 919
noncomputable def rf(P:Params):Obj:=dH CY CY (hV 29) [] .none Q5 879 551 .none
noncomputable def v4(P:Params):Obj:=dI CX CX 921 922 923 315 1 553 554 .none .none 555 924 925
noncomputable def nk(P:Params):Obj:=dH CX CX (hV 30) [] .none Q5 879 556 .none
noncomputable def bK(P:Params):X.KT:=.node (some (HF P)) (.node none (.node (some (oU P)) (.node none (.node none (.node none (.node none (.node none .nil (.node (some (wv P)) .nil .nil)) (.node none (.node (some (wH P)) .nil .nil) .nil)) .nil) (.node none (.node none (.node none (.node (some (ro P)) (.node (some (wb P)) .nil .nil) .nil) .nil) .nil) (.node none (.node none .nil (.node (some (wn P)) .nil .nil)) (.node none .nil (.node (some (wg P)) .nil .nil))))) (.node none (.node none (.node none .nil (.node none (.node (some (wF P)) .nil .nil) .nil)) (.node none (.node none (.node none (.node (some (v5 P)) .nil .nil) .nil) .nil) .nil)) (.node none (.node none (.node none (.node none (.node (some (v8 P)) .nil .nil) .nil) .nil) .nil) .nil))) (.node none (.node none (.node none (.node none (.node none (.node (some (wR P)) .nil .nil) .nil) .nil) (.node none (.node none (.node (some (wL P)) .nil .nil) .nil) (.node (some (wX P)) .nil .nil))) .nil) (.node none (.node (some (Cz P)) (.node (some (uG P)) (.node none (.node none (.node (some (rj P)) .nil .nil) .nil) .nil) .nil) (.node (some (xe P)) .nil .nil)) (.node none (.node none (.node none (.node none (.node (some (v7 P)) .nil .nil) .nil) .nil) (.node (some (w1 P)) .nil .nil)) .nil)))) (.node none (.node none (.node none (.node none (.node none (.node none (.node (some (wS P)) (.node (some (we P)) .nil .nil) .nil) .nil) .nil) (.node none (.node none (.node none (.node (some (rg P)) .nil .nil) .nil) .nil) (.node none (.node (some (wB P)) .nil .nil) .nil))) (.node (some (Cy P)) .nil (.node none (.node (some (w9 P)) (.node (some (wJ P)) .nil .nil) .nil) .nil))) (.node none (.node none .nil (.node none .nil (.node none (.node (some (wy P)) .nil .nil) (.node (some (wh P)) .nil .nil)))) (.node (some (zN P)) .nil (.node none (.node (some (w6 P)) .nil .nil) .nil)))) (.node none (.node none (.node none (.node none (.node none .nil (.node (some (wu P)) .nil .nil)) .nil) (.node (some (xf P)) .nil .nil)) (.node none (.node none (.node (some (xd P)) (.node (some (wO P)) .nil .nil) .nil) (.node (some (w2 P)) (.node (some (rl P)) .nil .nil) .nil)) (.node none .nil (.node (some (wU P)) .nil .nil)))) (.node none (.node none (.node none .nil (.node (some (w5 P)) (.node (some (wE P)) .nil .nil) .nil)) (.node none (.node none (.node none (.node (some (nk P)) .nil .nil) .nil) .nil) (.node (some (wV P)) .nil .nil))) (.node none (.node (some (Cv P)) (.node (some (xa P)) (.node (some (wM P)) .nil .nil) .nil) (.node none (.node (some (wC P)) .nil .nil) (.node (some (wj P)) .nil .nil))) .nil))))) (.node (some (CA P)) (.node (some (HE P)) (.node none (.node none (.node none (.node none (.node none (.node (some (wT P)) .nil .nil) .nil) .nil) (.node none (.node none (.node none (.node (some (v6 P)) .nil .nil) .nil) .nil) .nil)) (.node none (.node none (.node none (.node none (.node (some (ri P)) .nil .nil) .nil) .nil) .nil) (.node none (.node none .nil (.node (some (wm P)) .nil .nil)) (.node none .nil (.node (some (wf P)) .nil .nil))))) (.node none (.node none (.node none (.node none (.node (some (wQ P)) .nil .nil) .nil) .nil) (.node none (.node none (.node none (.node (some (rf P)) .nil .nil) .nil) .nil) (.node none (.node (some (wz P)) .nil .nil) .nil))) (.node (some (k5 P)) .nil (.node none (.node (some (w7 P)) (.node (some (wI P)) .nil .nil) .nil) .nil)))) (.node none (.node none (.node none (.node none (.node none (.node (some (nl P)) .nil .nil) .nil) .nil) .nil) (.node none (.node none .nil (.node (some (w3 P)) (.node (some (wD P)) .nil .nil) .nil)) .nil)) (.node none (.node none .nil (.node (some (rp P)) (.node none (.node none (.node (some (v4 P)) .nil .nil) .nil) .nil) (.node (some (wW P)) .nil .nil))) (.node none (.node (some (Cw P)) (.node (some (xb P)) (.node (some (wN P)) (.node (some (rh P)) .nil .nil) .nil) .nil) (.node (some (wZ P)) .nil (.node (some (wl P)) .nil .nil))) .nil)))) (.node none (.node none (.node none (.node none (.node none (.node none (.node none (.node (some (wd P)) .nil .nil) .nil) .nil) .nil) (.node none .nil (.node (some (wY P)) (.node (some (wA P)) .nil .nil) .nil))) (.node none .nil (.node none (.node (some (w8 P)) .nil .nil) .nil))) (.node none (.node none (.node (some (Cx P)) (.node none (.node none (.node (some (wc P)) .nil .nil) .nil) .nil) .nil) (.node none (.node none (.node (some (wK P)) .nil .nil) .nil) (.node none (.node (some (wx P)) .nil .nil) .nil))) .nil)) (.node none (.node none (.node none (.node none (.node none .nil (.node (some (wq P)) .nil .nil)) (.node none (.node (some (wG P)) .nil .nil) .nil)) .nil) (.node none (.node none (.node (some (xc P)) (.node (some (rn P)) (.node (some (v9 P)) .nil .nil) .nil) .nil) .nil) .nil)) (.node none (.node none (.node none (.node none (.node (some (wP P)) .nil .nil) .nil) (.node (some (w4 P)) (.node (some (rm P)) .nil .nil) .nil)) .nil) (.node none .nil (.node none .nil (.node none (.node (some (ww P)) .nil .nil) .nil)))))))
noncomputable def bF(P:Params):Frag:=[(0,HF P),(2,CA P),(3,oU P),(4,HE P),(43,Cz P),(49,Cy P),(56,k5 P),(57,zN P),(74,Cx P),(75,uG P),(92,Cw P),(93,Cv P),(101,xf P),(107,xe P),(108,rp P),(149,xd P),(150,xc P),(156,xb P),(157,xa P),(177,w9 P),(178,w8 P),(184,w7 P),(185,w6 P),(205,w5 P),(206,w4 P),(212,w3 P),(213,w2 P),(219,w1 P),(220,wZ P),(226,wY P),(227,wX P),(236,wW P),(237,wV P),(245,wU P),(256,wT P),(257,wS P),(259,wR P),(260,nl P),(264,wQ P),(270,wP P),(271,ro P),(277,wO P),(278,rn P),(284,wN P),(285,wM P),(291,wL P),(298,wK P),(305,wJ P),(312,wI P),(319,wH P),(326,wG P),(327,wF P),(333,wE P),(334,rm P),(340,wD P),(341,rl P),(349,wC P),(353,wB P),(354,wA P),(360,wz P),(361,wy P),(362,wx P),(382,ww P),(383,wv P),(389,wu P),(390,wq P),(431,wn P),(432,wm P),(476,wl P),(477,wj P),(489,wh P),(495,wg P),(496,wf P),(513,we P),(514,wd P),(522,wc P),(523,rj P),(527,wb P),(528,ri P),(534,v9 P),(535,v8 P),(539,v7 P),(540,rh P),(544,v6 P),(545,rg P),(551,v5 P),(552,rf P),(556,v4 P),(557,nk P)]
noncomputable def bA:List Addr:=[0,2,3,4,43,49,56,57,74,75,92,93,101,107,108,149,150,156,157,177,178,184,185,205,206,212,213,219,220,226,227,236,237,245,256,257,259,260,264,270,271,277,278,284,285,291,298,305,312,319,326,327,333,334,340,341,349,353,354,360,361,362,382,383,389,390,431,432,476,477,489,495,496,513,514,522,523,527,528,534,535,539,540,544,545,551,552,556,557]
noncomputable def FD:List Addr:=bA++[52,292,299,306,313,320]
noncomputable def Ax(P:Params):Frag:=bF P++[(52,uH P),(292,fC P),(299,dX P),(306,fB P),(313,fA P),(320,fz P)]
theorem CH(P:Params):FD=(Ax P).map (·.1):=by kernel_rfl
theorem CG(P:Params):X.KT.of (bF P)=bK P:=by kernel_rfl
structure ah (s s':Shared) (W:List Addr):Prop where
 gens:AllBare s.gens→AllBare s'.gens
 drawn:s'.drawn=s.drawn
 os:s'.os=s.os
 size:s.heap.objs.size≤s'.heap.objs.size
 toks:s.toks≤s'.toks
 keep:∀b o,s.heap.get? b=some o→b∉W→s'.heap.get? b=some o
theorem ah.refl(s:Shared):ah s s []:=⟨λh=>h,rfl,rfl,Nat.le_refl _,Nat.le_refl _,λj j e j=>e⟩
theorem ah.trans{s s' s'':Shared}{W W':List Addr}(x:ah s s' W)(y:ah s' s'' W'):ah s s'' (W++W'):=
 ⟨λh=>y.gens (x.gens h),y.drawn.trans x.drawn,y.os.trans x.os,Nat.le_trans x.size y.size,Nat.le_trans x.toks y.toks,
  λb o e h=>y.keep b o (x.keep b o e λq=>h (List.mem_append_left _ q)) λq=>h (List.mem_append_right _ q)⟩
theorem ah.mono{s s':Shared}{W W':List Addr}(x:ah s s' W)(h:∀a∈W,a∈W'∨s.heap.objs.size≤a):ah s s' W':=
 ⟨x.gens,x.drawn,x.os,x.size,x.toks,λb o e q=>x.keep b o e λz=>by
  rcases h b z with h|h
  ·exact q h
  ·exact absurd (Heap.lt_size e) (Nat.not_lt.mpr h)⟩
structure Kn (B:X.KT) (s:Shared) (kn:List (Addr×Obj)):Prop where
 base:∀x o,B.get x=some o→s.heap.get? x=some o
 obj:∀p∈kn,s.heap.get? p.1=some p.2
 off:∀p∈kn,B.get p.1=none
 nd:(kn.map (·.1)).Nodup
 toks:0<s.toks
theorem Kn.nil{B:X.KT}{s:Shared}{kn:List (Addr×Obj)}(k:Kn B s kn):Kn B s []:=⟨k.base,by simp,by simp,by simp,k.toks⟩
theorem Kn.sub{B:X.KT}{s:Shared}{kn kn':List (Addr×Obj)}(k:Kn B s kn)(h:kn'.Sublist kn):Kn B s kn':=
 ⟨k.base,λp hp=>k.obj p (h.subset hp),λp hp=>k.off p (h.subset hp),(h.map _).nodup k.nd,k.toks⟩
theorem Kn.perm{B:X.KT}{s:Shared}{kn kn':List (Addr×Obj)}(k:Kn B s kn)(h:kn.Perm kn'):Kn B s kn':=
 ⟨k.base,λp hp=>k.obj p (h.mem_iff.mpr hp),λp hp=>k.off p (h.mem_iff.mpr hp),(h.map _).nodup_iff.mp k.nd,k.toks⟩
theorem Kn.lt{B:X.KT}{s:Shared}{kn:List (Addr×Obj)}(k:Kn B s kn){p:Addr×Obj}(h:p∈kn):p.1<s.heap.objs.size:=Heap.lt_size (k.obj p h)
theorem Kn.after{B:X.KT}{s s':Shared}{kn:List (Addr×Obj)}{W:List Addr}(k:Kn B s kn)(F:ah s s' W)(hB:∀a∈W,B.get a=none)(hW:∀p∈kn,p.1∉W):Kn B s' kn:=
 ⟨λx o e=>F.keep x o (k.base x o e) (λh=>by rw[hB x h]at e;cases e),λp hp=>F.keep _ _ (k.obj p hp) (hW p hp),k.off,k.nd,Nat.lt_of_lt_of_le k.toks F.toks⟩
theorem Kn.app{B:X.KT}{s:Shared}{a b:List (Addr×Obj)}(k:Kn B s a)(l:Kn B s b)(h:∀p∈a,∀q∈b,p.1≠q.1):Kn B s (a++b):=by
 refine⟨k.base,λp hp=>?_,λp hp=>?_,?_,k.toks⟩
 ·rcases List.mem_append.mp hp with h|h
  ·exact k.obj p h
  ·exact l.obj p h
 ·rcases List.mem_append.mp hp with h|h
  ·exact k.off p h
  ·exact l.off p h
 ·rw[List.map_append,List.nodup_append]
  refine⟨k.nd,l.nd,λx hx y hy e=>?_⟩
  obtain⟨p,hp,rfl⟩:=List.mem_map.mp hx
  obtain⟨q,hq,rfl⟩:=List.mem_map.mp hy
  exact h p hp q hq e
structure cp (A:Around) (D:Nat):Prop where
 hd:A.handled=none
 dep:A.depth+D+5<recursionLimit
 un:A.units+20*D+20<cLine
theorem cp.le{A:Around}{D D':Nat}(h:cp A D)(hd:D'≤D):cp A D':=⟨h.hd,by have:=h.dep;omega,by have:=h.un;omega⟩
noncomputable def cy:List (Addr×Obj)→Nat→BT→BT
 |[],_,T=>T
 |p::l,m,T=>cy l (m+1) (T.ins m p.2)
noncomputable def bY:List (Addr×Obj)→Nat→BT→BT
 |[],_,T=>T
 |p::l,m,T=>bY l (m+1) (T.ins m (sb p.1))
noncomputable def cY:List (Addr×Obj)→Nat→BT→BT→Bool
 |[],_,_,_=>true
 |p::l,m,T,AT=>match(T.ins m p.2).get m with
  |some _=>match(AT.ins m (sb p.1)).get m with
   |some _=>cY l (m+1) (T.ins m p.2) (AT.ins m (sb p.1))
   |none=>false
  |none=>false
noncomputable def bZ:List (Nat×Obj)→BT→BT
 |[],T=>T
 |p::l,T=>bZ l (T.set p.1 λj=>p.2)
set_option tactic.hygienic true in
theorem bf:∀(l:List (Addr×Obj)) (m:Nat) (T AT:BT),cY l m T AT=true→∀j a,adr (bY l m AT) j=some a→
  (∃k,k<l.length∧j=m+k∧∃o,l[k]?=some (a,o)∧(cy l m T).get j=some o)∨((j<m∨m+l.length≤j)∧adr AT j=some a∧(cy l m T).get j=T.get j)
 |[],m,T,AT,_,j,a,e=>.inr ⟨by rcases Nat.lt_or_ge j m with h|h;exact .inl h;exact .inr h,e,rfl⟩
 |p::l,m,T,AT,ok,j,a,e=>by
  unfold cY at ok
  split at ok
  ·rename_i o1 e1
   split at ok
   ·rename_i o2 e2
    have h1:((T.ins m p.2).get m).isSome=true:=by rw[e1];rfl
    have h2:((AT.ins m (sb p.1)).get m).isSome=true:=by rw[e2];rfl
    rcases bf l (m+1) _ _ ok j a e with⟨k,hk,hj,o,ho,hg⟩|⟨hj,ha,hg⟩
    ·exact .inl ⟨k+1,by simpa using hk,by omega,o,by simpa using ho,hg⟩
    ·rw[c9 h2]at ha
     by_cases q:j=m
     ·rw[if_pos q]at ha
      cases ha
      refine .inl ⟨0,by simp,by omega,p.2,by simp,?_⟩
      show(cy l (m+1) (T.ins m p.2)).get j=_
      rw[hg,BT.get_ins _ _ _ h1,if_pos q]
     ·rw[if_neg q]at ha
      refine .inr ⟨?_,ha,?_⟩
      ·simp only[List.length_cons]
       rcases hj with h|h
       ·exact .inl (by omega)
       ·exact .inr (by omega)
      ·show(cy l (m+1) (T.ins m p.2)).get j=_
       rw[hg,BT.get_ins _ _ _ h1,if_neg q]
   ·cases ok
  ·cases ok
theorem gF:∀(l:List (Nat×Obj)) (T:BT) (j:Nat) (o:Obj),(bZ l T).get j=some o→(∃x∈l,x.1=j∧x.2=o)∨((∀x∈l,x.1≠j)∧T.get j=some o)
 |[],_,_,_,e=>.inr ⟨λi h=>(nomatch h),e⟩
 |p::l,T,j,o,e=>by
  rcases gF l _ j o e with⟨x,hx,h1,h2⟩|⟨hn,h⟩
  ·exact .inl ⟨x,.tail _ hx,h1,h2⟩
  ·rw[BT.get_set]at h
   by_cases q:j=p.1
   ·rw[if_pos q]at h
    cases hT:T.get p.1 with
    |none=>rw[hT]at h;cases h
    |some o'=>
     rw[hT]at h
     cases h
     exact .inl ⟨p,.head _,q.symm,rfl⟩
   ·rw[if_neg q]at h
    exact .inr ⟨λx hx=>by rcases List.mem_cons.mp hx with rfl|hx;exact Ne.symm q;exact hn x hx,h⟩
theorem fZ:∀(l:List (Nat×Obj)) (T:BT) (j:Nat),(T.get j).isSome=true→((bZ l T).get j).isSome=true
 |[],_,_,h=>h
 |p::l,T,j,h=>fZ l _ j (by
  rw[BT.get_set]
  by_cases q:j=p.1
  ·rw[if_pos q,←q,Option.isSome_map];exact h
  ·rw[if_neg q];exact h)
theorem Rp.start{B:X.KT}{s:Shared}{kn:List (Addr×Obj)}(k:Kn B s kn)(ok:cY kn 0 .nil .nil=true):
  Rp B s.heap kn.length s.heap s.heap.objs.size 0 kn.length (cy kn 0 .nil) (bY kn 0 .nil):=by
 have look:∀j a,adr (bY kn 0 .nil) j=some a→j<kn.length∧∃o,kn[j]?=some (a,o)∧(cy kn 0 .nil).get j=some o:=λj a e=>by
  rcases bf kn 0 .nil .nil ok j a e with⟨i,hi,hj,o,ho,hg⟩|⟨_,h,_⟩
  ·rw[Nat.zero_add]at hj;subst hj;exact⟨hi,o,ho,hg⟩
  ·cases h
 refine⟨rfl,k.base,λj a o e1 e2=>?_,λj i a e1 e2=>?_,λj a e=>?_,λj a e=>?_,Nat.le_refl _,λq q e q=>e,λj a hj e=>?_,Nat.le_refl _,λj a e=>?_⟩
 ·obtain⟨_,o',ho,hg⟩:=look j a e1
  rw[hg]at e2;cases e2
  exact k.obj _ (List.mem_of_getElem? ho)
 ·obtain⟨hj,o,ho,_⟩:=look j a e1
  obtain⟨hi,o',ho',_⟩:=look i a e2
  have nd:=k.nd
  have q1:(kn.map (·.1))[j]?=some a:=by rw[List.getElem?_map,ho];rfl
  have q2:(kn.map (·.1))[i]?=some a:=by rw[List.getElem?_map,ho'];rfl
  exact(List.getElem?_inj (by simpa using hj) nd).mp (q1.trans q2.symm)
 ·obtain⟨_,o,ho,_⟩:=look j a e
  exact k.off _ (List.mem_of_getElem? ho)
 ·obtain⟨hj,o,ho,_⟩:=look j a e
  exact⟨hj,Heap.lt_size (k.obj _ (List.mem_of_getElem? ho))⟩
 ·exact absurd (look j a e).1 (Nat.not_lt.mpr hj)
 ·obtain⟨_,o,_,hg⟩:=look j a e
  rw[hg];rfl
noncomputable def HA:Obj:=⟨.none,none,.plain,#[]⟩
noncomputable def dU:List Nat→BT→BT
 |[],T=>T
 |j::l,T=>dU l (T.set j λo=>HA)
theorem bJ:∀(l:List Nat) (T:BT) (j a:Nat),adr (dU l T) j=some a→j∉l∧adr T j=some a
 |[],_,_,_,e=>⟨by simp,e⟩
 |k::l,T,j,a,e=>by
  obtain⟨h1,h2⟩:=bJ l _ j a e
  unfold adr at h2
  rw[BT.get_set]at h2
  by_cases q:j=k
  ·rw[if_pos q]at h2
   cases hT:T.get k with
   |none=>rw[hT]at h2;cases h2
   |some o=>rw[hT]at h2;cases h2
  ·rw[if_neg q]at h2
   exact⟨by simp[q,h1],h2⟩
theorem Rp.afterR{B:X.KT}{h₀:Heap}{p:Nat}{s1 s2:Shared}{n0 i m:Nat}{T AT:BT}{W:List Addr}(D:Rp B h₀ p s1.heap n0 i m T AT)(F:ah s1 s2 W)
  {upd:List (Nat×Obj)} {add:List (Addr×Obj)} {fo:List Nat} (hW:∀b∈W,(∃x∈upd,adr AT x.1=some b)∨∃j∈fo,adr AT j=some b) (hu:∀x∈upd,∀a,adr AT x.1=some a→s2.heap.get? a=some x.2)
  (ha:∀x∈add,s2.heap.get? x.1=some x.2∧s1.heap.objs.size≤x.1) (hn:(add.map (·.1)).Nodup) (ok:cY add m (bZ upd T) (dU fo AT)=true):
  Rp B s2.heap (m+add.length) s2.heap s2.heap.objs.size 0 (m+add.length) (cy add m (bZ upd T)) (bY add m (dU fo AT)):=by
 have lt1:∀j a,adr AT j=some a→a<s1.heap.objs.size:=λj a e=>D.size▸(D.fr j a e).2
 have offW:∀j a,adr (dU fo AT) j=some a→(∀x∈upd,x.1≠j)→a∉W:=λj a e hx hm=>by
  obtain⟨hj,e⟩:=bJ _ _ _ _ e
  rcases hW a hm with⟨x,hx',e'⟩|⟨k,hk,e'⟩
  ·exact hx x hx' (D.sep _ _ _ e' e)
  ·exact hj (D.sep _ _ _ e' e▸hk)
 refine⟨rfl,λx o e=>F.keep x o (D.base x o e) λhm=>?_,λj a o e1 e2=>?_,λj k a e1 e2=>?_,λj a e=>?_,λj a e=>?_,Nat.le_refl _,λb o e q=>e,λj a hj e=>?_,Nat.le_refl _,λj a e=>?_⟩
 ·rcases hW x hm with⟨y,_,e'⟩|⟨y,_,e'⟩<;>rw[D.off _ _ e']at e<;>cases e
 ·rcases bf add m _ _ ok j a e1 with⟨k,hk,hj,o',ho,hg⟩|⟨_,h,hg⟩
  ·rw[hg]at e2;cases e2
   exact(ha _ (List.mem_of_getElem? ho)).1
  ·rw[hg]at e2
   have h':=(bJ _ _ _ _ h).2
   rcases gF upd T j o e2 with⟨x,hx,h1,h2⟩|⟨hx,h2⟩
   ·subst h1;subst h2
    exact hu x hx a h'
   ·exact F.keep a o (D.obj j a o h' h2) (offW j a h hx)
 ·rcases bf add m (bZ upd T) _ ok j a e1 with⟨x,hx,hj,o,ho,_⟩|⟨_,h,_⟩<;>rcases bf add m (bZ upd T) _ ok k a e2 with⟨y,hy,hk,o',ho',_⟩|⟨_,h',_⟩
  ·have q1:(add.map (·.1))[x]?=some a:=by rw[List.getElem?_map,ho];rfl
   have q2:(add.map (·.1))[y]?=some a:=by rw[List.getElem?_map,ho'];rfl
   have:x=y:=(List.getElem?_inj (by simpa using hx) hn).mp (q1.trans q2.symm)
   omega
  ·exact absurd (lt1 k a (bJ _ _ _ _ h').2) (Nat.not_lt.mpr (ha _ (List.mem_of_getElem? ho)).2)
  ·exact absurd (lt1 j a (bJ _ _ _ _ h).2) (Nat.not_lt.mpr (ha _ (List.mem_of_getElem? ho')).2)
  ·exact D.sep j k a (bJ _ _ _ _ h).2 (bJ _ _ _ _ h').2
 ·rcases bf add m (bZ upd T) _ ok j a e with⟨x,hx,hj,o,ho,_⟩|⟨_,h,_⟩
  ·cases q:B.get a with
   |none=>rfl
   |some o'=>exact absurd (Heap.lt_size (D.base a o' q)) (Nat.not_lt.mpr (ha _ (List.mem_of_getElem? ho)).2)
  ·exact D.off j a (bJ _ _ _ _ h).2
 ·rcases bf add m (bZ upd T) _ ok j a e with⟨x,hx,hj,o,ho,_⟩|⟨_,h,_⟩
  ·exact⟨by omega,Heap.lt_size (ha _ (List.mem_of_getElem? ho)).1⟩
  ·have h:=(bJ _ _ _ _ h).2
   exact⟨Nat.lt_of_lt_of_le (D.fr j a h).1 (Nat.le_add_right ..),Nat.lt_of_lt_of_le (lt1 j a h) F.size⟩
 ·rcases bf add m (bZ upd T) _ ok j a e with⟨x,hx,hj',o,ho,_⟩|⟨hj',h,_⟩
  ·omega
  ·have:=(D.fr j a (bJ _ _ _ _ h).2).1
   omega
 ·rcases bf add m _ _ ok j a e with⟨k,hk,hj,o',ho,hg⟩|⟨_,h,hg⟩
  ·rw[hg];rfl
  ·rw[hg];exact fZ upd T j (D.ful j a (bJ _ _ _ _ h).2)
noncomputable def yd:Nat→Sem Unit
 |0=>PySem.W.Fast.tw10648789137845014744 SL.s11705397079073618416x4
 |_+1=>PySem.W.Fast.tw10648789137845014744 "comparison"
noncomputable def Ib(B:X.KT)(prog:Program)(w:World)(lim:Nat):Pm where
 den:=zJ
 odd:=yt
 entF:=λn=>PySem.W.Fast.tw15066281185411960212 n
 room:=yd
 bd:=R.bindR
 B:=B
 st:=⟨prog,w.params⟩
 lim:=lim
noncomputable def Ed(B:X.KT):Prop:=∀h:Heap,(∀x o,B.get x=some o→h.get? x=some o)→h.NoLimit
theorem yj{B:X.KT}{prog:Program}{w:World}{lim:Nat}(hB:Ed B):z3 (Ib B prog w lim) prog w where
 den:=ut
 le:=λc _ M Γ hc u Q E p s h=>us c M Γ hc u Q E p s h
 entF:=by
  show PySem.W.Fast.tw15066281185411960212 0=_
  rw[←PySem.W.Fast.te15066281185411960212]
 room:=λx=>match x with
  |0=>⟨_,(congr (congrArg (λx x_1=>x x_1) PySem.W.Fast.te10648789137845014744) SL.e11705397079073618416x4).symm⟩
  |_+1=>⟨_,(congrArg (λx=>x "comparison") PySem.W.Fast.te10648789137845014744).symm⟩
 bd:=λt k=>by
  show R.bindR t k=_
  rw[←R.bindR_eq]
 st:=rfl
 lim:=hB
theorem lL{h:Heap}{o:Obj}{es:Array DictEntry}{ep:Nat}(e:h.get? cStatics=some o)(hd:o.data=.dict es ep)(hs:StrKeys es)(hf:nsFind es "sys.recursionlimit"=none):h.NoLimit:=
 ⟨λn=>nsFind es n,⟨o,es,ep,e,hd,hs,λj=>rfl⟩,hf⟩
noncomputable def W3(w:World)(b1 b2 b3:Bool):World:=
 {w with params:={w.params with followText:=λr=>match Nat.beq (code r) 10139888712337904147300001983332972444938612 with
   |true=>b1
   |false=>match Nat.beq (code r) 2510650655181157320538776789020469319833841985448949215332 with
    |true=>b2
    |false=>match Nat.beq (code r) 2128753998966767838836 with
     |true=>b3
     |false=>w.params.followText r}}
set_option tactic.hygienic true in
theorem uQ(w:World):W3 w (w.params.followText "special-get-raises") (w.params.followText "comprehension-iter-twice") (w.params.followText "set-order")=w:=by
 obtain⟨draws,params⟩:=w
 unfold W3
 congr 1
 have:(λr=>match Nat.beq (code r) 10139888712337904147300001983332972444938612 with
   |true=>params.followText "special-get-raises"
   |false=>match Nat.beq (code r) 2510650655181157320538776789020469319833841985448949215332 with
    |true=>params.followText "comprehension-iter-twice"
    |false=>match Nat.beq (code r) 2128753998966767838836 with
     |true=>params.followText "set-order"
     |false=>params.followText r)=params.followText:=by
  funext r
  split
  ·rename_i e
   rw[code_inj r "special-get-raises" ((Nat.eq_of_beq_eq_true e).trans (by decide+kernel))]
  ·split
   ·rename_i e
    rw[code_inj r "comprehension-iter-twice" ((Nat.eq_of_beq_eq_true e).trans (by decide+kernel))]
   ·split
    ·rename_i e
     rw[code_inj r "set-order" ((Nat.eq_of_beq_eq_true e).trans (by decide+kernel))]
    ·rfl
 rw[this]
namespace aU
noncomputable def isFin:aU→Bool|fin ..=>true|_=>false
noncomputable def isEnt:aU→Bool|ent ..=>true|_=>false
noncomputable def isGen:aU→Bool|gen ..=>true|_=>false
noncomputable def res:aU→Result|fin r ..=>r|_=>.error .none
noncomputable def kap:aU→Ko|ent κ ..=>κ|gen _ _ _ κ ..=>κ|_=>.top
noncomputable def cd:aU→Code|ent _ c ..=>c|gen _ _ c ..=>c|_=>.block [] default
noncomputable def cg:aU→Code|gen c ..=>c|_=>.block [] default
noncomputable def kg:aU→Nat→Sem PySem.Fin|gen _ k ..=>k|_=>λj=>.unsupported ""
noncomputable def n0:aU→Nat|fin _ n ..=>n|ent _ _ n ..=>n|gen _ _ _ _ n ..=>n|_=>0
noncomputable def i:aU→Nat|fin _ _ i ..=>i|ent _ _ _ i ..=>i|gen _ _ _ _ _ i ..=>i|_=>0
noncomputable def tk:aU→Nat|fin _ _ _ t ..=>t|ent _ _ _ _ t ..=>t|gen _ _ _ _ _ _ t ..=>t|_=>0
noncomputable def u:aU→Nat|fin _ _ _ _ u ..=>u|ent _ _ _ _ _ u ..=>u|gen _ _ _ _ _ _ _ u ..=>u|_=>0
noncomputable def m:aU→Nat|fin _ _ _ _ _ m ..=>m|ent _ _ _ _ _ _ m ..=>m|gen _ _ _ _ _ _ _ _ m ..=>m|_=>0
noncomputable def T:aU→BT|fin _ _ _ _ _ _ T ..=>T|ent _ _ _ _ _ _ _ T ..=>T|gen _ _ _ _ _ _ _ _ _ T ..=>T|_=>.nil
noncomputable def AT:aU→BT|fin _ _ _ _ _ _ _ T ..=>T|ent _ _ _ _ _ _ _ _ T ..=>T|gen _ _ _ _ _ _ _ _ _ _ T ..=>T|_=>.nil
noncomputable def lk(E:aU)(j:Nat):Option (Nat×Obj):=match adr E.AT j with
 |some a=>match E.T.get j with
  |some o=>some (a,o)
  |none=>none
 |none=>none
end aU
theorem p7{E:aU}{j a:Nat}{o:Obj}(h:E.lk j=some (a,o)):adr E.AT j=some a∧E.T.get j=some o:=by
 unfold aU.lk at h
 split at h
 ·split at h
  ·cases h;constructor<;>assumption
  ·cases h
 ·cases h
noncomputable def Ko.fine(κ:Ko)(K:Nat):Bool:=match κ.dep with
 |some k=>match Nat.ble k K with
  |true=>match κ.hd none with
   |none=>true
   |some _=>false
  |false=>false
 |none=>false
set_option tactic.hygienic true in
theorem cp.inn{A:Around}{D K D':Nat}(h:cp A D){κ:Ko}(f:κ.fine K=true)(hd:K+D'≤D):cp (κ.inn A) D':=by
 unfold Ko.fine at f
 split at f
 ·rename_i k hk
  split at f
  ·rename_i hb
   have hb':=Nat.le_of_ble_eq_true hb
   split at f
   ·rename_i hh
    have h1:=Ko.dep_le (A:=A) hk
    have h2:=Ko.un_le (A:=A) hk
    have:=h.dep
    have:=h.un
    refine⟨?_,by omega,by omega⟩
    rw[Ko.hd_eq,h.hd,hh]
   ·cases f
  ·cases f
 ·cases f
noncomputable def Fa(P:Pm)(n:Nat)(orc:List Nat)(cnt:Nat)(c:Code)(n0 tk:Nat)(kn:List (Addr×Obj)):aU:=
 yc P n orc cnt c .top (P.den c) n0 0 tk 0 kn.length (cy kn 0 .nil) (bY kn 0 .nil) [] [] []
noncomputable abbrev pr:Program:=PySem.Challenge.pw_ba0002_01
noncomputable abbrev KB(w:World):X.KT:=bK w.params
noncomputable abbrev PW(w:World)(lim:Nat):Pm:=Ib (KB w) pr w lim
theorem qk(w:World):Ed (KB w):=λh hb=>by
 have e:=hb 2 (CA w.params) (by kernel_rfl)
 exact lL e (by unfold CA;rfl) (by intro e he;simp[en]at he;rcases he with rfl|rfl|rfl|rfl|rfl|rfl|rfl|rfl|rfl|rfl|rfl|rfl<;>exact⟨_,_,rfl⟩) (by kernel_rfl)
theorem ia(w:World)(lim:Nat):z3 (PW w lim) pr w:=yj (qk w)
structure eU where
 m:Nat
 T:BT
 AT:BT
noncomputable def eU.ok(w:World)(s:Shared)(t:eU):Prop:=Rp (KB w) s.heap t.m s.heap s.heap.objs.size 0 t.m t.T t.AT
noncomputable def eU.kn(kn:List (Addr×Obj)):eU:=⟨kn.length,cy kn 0 .nil,bY kn 0 .nil⟩
noncomputable def xl(w:World)(s:Shared)(t:eU)(A:Around)(R:Result→Shared→Prop)(E:aU):Prop:=aT (model pr w) (KB w) s.heap t.m A R s.gens s.drawn s.os E
noncomputable def gD(j:Nat):List Nat→Bool
 |[]=>false
 |k::l=>match Nat.beq j k with|true=>true|false=>gD j l
theorem fh{j:Nat}:∀{l:List Nat},gD j l=true↔j∈l
 |[]=>by simp[gD]
 |k::l=>by
  unfold gD
  cases h:Nat.beq j k with
  |true=>simp[Nat.eq_of_beq_eq_true h]
  |false=>simp[fh (l:=l),Nat.ne_of_beq_eq_false h]
noncomputable def uO(t:eU)(ws:List Nat):List Addr:=ws.filterMap λj=>adr t.AT j
theorem pd{w:World}{s:Shared}{kn:List (Addr×Obj)}(k:Kn (KB w) s kn)(ok:cY kn 0 .nil .nil=true):(eU.kn kn).ok w s:=Rp.start k ok
noncomputable def uu:BT→Nat→BT
 |.nil,_=>.nil
 |.node v l r,k=>match Nat.beq k 0 with
  |true=>.nil
  |false=>match Nat.beq (k % 2) 1 with
   |true=>.node v (uu l (k / 2)) r
   |false=>.node v l (uu r (k / 2-1))
theorem iY:∀(t:BT) (k j:Nat),j<k→(uu t k).get j=t.get j
 |.nil,_,_,_=>rfl
 |.node v l r,k,j,h=>by
  have hk:Nat.beq k 0=false:=by cases k with|zero=>omega|succ=>rfl
  unfold uu
  rw[hk]
  show(match Nat.beq (k % 2) 1 with|true=>BT.node v (uu l (k / 2)) r|false=>.node v l (uu r (k / 2-1))).get j=_
  cases p:Nat.beq (k % 2) 1 with
  |true=>
   have p:=Nat.eq_of_beq_eq_true p
   show(BT.node v (uu l (k / 2)) r).get j=_
   rw[BT.get_node,BT.get_node]
   by_cases a:j=0
   ·rw[if_pos a,if_pos a]
   ·rw[if_neg a,if_neg a]
    by_cases b:j % 2=1
    ·rw[if_pos b,if_pos b];exact iY l _ _ (by omega)
    ·rw[if_neg b,if_neg b]
  |false=>
   have p:=Nat.ne_of_beq_eq_false p
   show(BT.node v l (uu r (k / 2-1))).get j=_
   rw[BT.get_node,BT.get_node]
   by_cases a:j=0
   ·rw[if_pos a,if_pos a]
   ·rw[if_neg a,if_neg a]
    by_cases b:j % 2=1
    ·rw[if_pos b,if_pos b]
    ·rw[if_neg b,if_neg b];exact iY r _ _ (by omega)
noncomputable def jl(m:Nat):Nat→BT→BT
 |0,t=>t
 |i+1,t=>jl m i (uu t (m+i))
theorem gE{m j:Nat}(h:j<m):∀(i:Nat) (t:BT),(jl m i t).get j=t.get j
 |0,_=>rfl
 |i+1,t=>(gE h i _).trans (iY t _ _ (Nat.lt_add_right i h))
theorem gG{j:Nat}:∀{l:List Nat},gD j l=false→∀t:BT,(dU l t).get j=t.get j
 |[],_,_=>rfl
 |k::l,h,t=>by
  unfold gD at h
  cases q:Nat.beq j k with
  |true=>rw[q]at h;cases h
  |false=>
   rw[q]at h
   have e:=gG h (t.set k λo=>HA)
   rw[BT.get_set,if_neg (Nat.ne_of_beq_eq_false q)]at e
   exact e
noncomputable def jf(E:aU)(t:eU)(ws:List Nat):Prop:=dU ws (jl t.m (E.m-t.m) E.T)=dU ws t.T∧jl t.m (E.m-t.m) E.AT=t.AT
theorem jf.adr{E:aU}{t:eU}{ws:List Nat}(h:jf E t ws){j:Nat}(hj:j<t.m):adr E.AT j=adr t.AT j:=by
 unfold Mine.adr
 rw[←h.2,gE hj]
section
variable {w:World} {D:Nat} {A:Around} {R:Result→Shared→Prop} {s:Shared} {t:eU}
theorem nC{E:aU}{g:Array GenState}(hg:AllBare s.gens→AllBare g)(hT:t.ok w s)(ws:List Nat)(hk:jf E t ws)
  {h:Heap} (D:Rp (KB w) s.heap t.m h E.n0 E.i E.m E.T E.AT) (hn:s.heap.objs.size≤E.n0+E.i) (ht:s.toks≤E.tk+E.u):
  ah s ⟨h,g,s.drawn,E.tk+E.u,s.os⟩ (uO t ws):=by
 refine⟨hg,rfl,rfl,?_,ht,λb o e hb=>?_⟩
 ·show _≤h.objs.size
  rw[D.size];exact hn
 ·show h.get? b=some o
  have eqA:∀j,j<t.m→adr E.AT j=adr t.AT j:=λj hj=>hk.adr hj
  by_cases hq:∃j,j<t.m∧adr t.AT j=some b
  ·obtain⟨j,hj,ha⟩:=hq
   have hw:gD j ws=false:=by
    cases q:gD j ws with
    |false=>rfl
    |true=>exact absurd (List.mem_filterMap.mpr ⟨j,fh.mp q,ha⟩) hb
   obtain⟨o',h4⟩:=Option.isSome_iff_exists.mp (hT.ful j b ha)
   have h5:s.heap.get? b=some o':=hT.obj j b o' ha h4
   rw[h5]at e
   cases e
   refine D.obj j b _ ((eqA j hj).trans ha) ?_
   rw[←h4,←gG hw t.T,←hk.1,gG hw,gE hj]
  ·exact D.keep b o e λj hj ea=>hq ⟨j,hj,(eqA j hj).symm.trans ea⟩
theorem BS{B:X.KT}{h₀:Heap}{p:Nat}{h:Heap}{g:Array GenState}{d:Drawn}{os:OsState}{tk:Nat}{E:aU}(D:Rp B h₀ p h E.n0 E.i E.m E.T E.AT)(ht:0<tk){js:List Nat}{kn1:List (Addr×Obj)}
  (h3:js.map E.lk=kn1.map some) (hj:js.Nodup):Kn B ⟨h,g,d,tk,os⟩ kn1:=by
 have look:∀(j:Nat) (x:Addr×Obj),kn1[j]?=some x→∃j',js[j]?=some j'∧adr E.AT j'=some x.1∧E.T.get j'=some x.2:=λj x e=>by
  have e0:(kn1.map some)[j]?=some (some x):=by rw[List.getElem?_map,e];rfl
  rw[←h3,List.getElem?_map]at e0
  cases q:js[j]? with
  |none=>rw[q]at e0;cases e0
  |some j'=>
   rw[q]at e0
   have e':E.lk j'=some x:=by simpa using e0
   exact⟨j',rfl,(p7 e').1,(p7 e').2⟩
 refine⟨D.base,λx hx=>?_,λx hx=>?_,?_,ht⟩
 ·obtain⟨j,hj⟩:=List.getElem?_of_mem hx
  obtain⟨j',_,e1,e2⟩:=look j x hj
  exact D.obj _ _ _ e1 e2
 ·obtain⟨j,hj⟩:=List.getElem?_of_mem hx
  obtain⟨j',_,e1,e2⟩:=look j x hj
  exact D.off _ _ e1
 ·show List.Pairwise (·≠·) _
  rw[List.pairwise_iff_getElem]
  intro i k hi' hk' hik e'
  have hk:k<kn1.length:=by simpa using hk'
  have hi:i<kn1.length:=Nat.lt_trans hik hk
  have e:(kn1[i]?).map (·.1)=(kn1[k]?).map (·.1):=by
   rw[List.getElem?_eq_getElem hi,List.getElem?_eq_getElem hk]
   simpa using e'
  obtain⟨j1,q1,a1,_⟩:=look i _ (List.getElem?_eq_getElem hi)
  obtain⟨j2,q2,a2,_⟩:=look k _ (List.getElem?_eq_getElem hk)
  rw[List.getElem?_eq_getElem hi,List.getElem?_eq_getElem hk]at e
  have e3:kn1[i].1=kn1[k].1:=by simpa using e
  rw[e3]at a1
  have:=D.sep _ _ _ a1 a2
  subst this
  have hl:i<js.length:=(List.getElem?_eq_some_iff.mp q1).1
  exact Nat.ne_of_lt hik ((List.getElem?_inj hl hj).mp (q1.trans q2.symm))
end
structure bS (Y:Type) where
 res:Y→Result
 upd:Y→List (Addr×Obj):=λj=>[]
 add:Y→List (Addr×Obj):=λj=>[]
noncomputable def Ct{Y:Type}(w:World)(D:Nat)(kn:List (Addr×Obj))(Pre:Shared→Prop)(c:Code)(W:List Addr)(F:bS Y)(P:Y→Shared→Shared→Prop):Prop:=
 ∀A s R,cp A D→Kn (KB w) s kn→Pre s→(∀x s',ah s s' W→Kn (KB w) s' (F.upd x++F.add x)→(∀p∈F.add x,s.heap.objs.size≤p.1)→P x s s'→R (F.res x) s')→codeAny (model pr w) A c R s
noncomputable def Ew{Y:Type}(w:World)(D:Nat)(kn:List (Addr×Obj))(Pre:Shared→Prop)(c:Code)(W:List Addr)(F:bS Y)(P:Y→Shared→Shared→Prop)(Q:Around→Prop):Prop:=
 ∀A s R,cp A D→Q A→Kn (KB w) s kn→Pre s→(∀x s',ah s s' W→Kn (KB w) s' (F.upd x++F.add x)→(∀p∈F.add x,s.heap.objs.size≤p.1)→P x s s'→R (F.res x) s')→codeAny (model pr w) A c R s
noncomputable def cT:List Prop→Prop
 |[]=>True
 |p::l=>p∧cT l
theorem cT.mem:∀{l:List Prop},cT l→∀q∈l,q
 |[],_,_,h=>nomatch h
 |p::l,h,q,hq=>by
  rcases List.mem_cons.mp hq with rfl|hq
  ·exact h.1
  ·exact cT.mem h.2 q hq
noncomputable def dz:Nat→Nat→List Nat
 |0,_=>[]
 |k+1,n=>n % 128::dz k (n / 128)
structure Sg where
 ws:List Nat:=[]
 js:List Nat:=[]
 ju:List Nat:=[]
 i:Nat:=0
 u:Nat:=0
 K:Nat:=0
 N:Nat:=0
 cnt:Nat:=0
 orc:List Nat:=[]
 ps:List Prop:=[]
 wa:List Addr:=[]
 fo:List Nat:=[]
 fa:List Addr:=[]
 big:Bool:=false
 fr:Option (List Env):=none
noncomputable def Sg.off(g:Sg):Nat:=match g.big with|true=>76|false=>0
theorem Sg.off_le(g:Sg):g.off≤76:=by unfold Sg.off;split<;>omega
theorem qf{w:World}{s:Shared}{kn:List (Addr×Obj)}(k:Kn (KB w) s kn)(g:Sg):∃z,s.heap.objs.size=z+g.off:=by
 have h:75<s.heap.objs.size:=Heap.lt_size (k.base 75 (uG w.params) (by kernel_rfl))
 have:=g.off_le
 exact⟨s.heap.objs.size-g.off,by omega⟩
inductive Dp:Type 1 where
 |fin (g:Sg) (r:Result) (l:aU→List (Addr×Obj)):Dp
 |tail (g:Sg) (c:Code) (l:aU→List (Addr×Obj)):Dp
 |cut (g:Sg) (c:Code) (kn1:aU→List (Addr×Obj)) {Y:Type} (F:aU→bS Y) (next:Y→Nat→Nat→Dp):Dp
 |gen (g:Sg) (c:Code) (l:aU→List (Addr×Obj)) (next:Nat→Nat→Nat→Dp):Dp
noncomputable def eI:List Nat→Bool
 |[]=>true
 |x::l=>match gD x l with
  |true=>false
  |false=>eI l
set_option tactic.hygienic true in
theorem fK:∀{l:List Nat},eI l=true→l.Nodup
 |[],_=>List.nodup_nil
 |x::l,h=>by
  unfold eI at h
  split at h
  ·cases h
  ·rename_i hx
   exact List.nodup_cons.mpr ⟨(λhm=>by rw[fh.mpr hm]at hx;cases hx),fK h⟩
noncomputable def nO{α β:Type}:List α→List β→Bool
 |[],[]=>true
 |_::a,_::b=>nO a b
 |_,_=>false
theorem iS{α β:Type}:∀{a:List α} {b:List β},nO a b=true→a.length=b.length
 |[],[],_=>rfl
 |_::a,_::b,h=>by simp only[List.length_cons];rw[iS (a:=a) (b:=b) h]
 |[],_::_,h=>by cases h
 |_::_,[],h=>by cases h
noncomputable def lr(upd:List (Addr×Obj))(ju:List Nat):List (Nat×Obj):=(ju.zip upd).map λy=>(y.1,y.2.2)
noncomputable def Ko.envs:Ko→List Env
 |.top=>[]
 |.ret co _ _ κ=>co.envs++κ.envs
theorem Ko.frames_inn{A:Around}{l0:List Env}(h:A.frames=some l0):∀κ:Ko,(κ.inn A).frames=some (κ.envs++l0)
 |.top=>h
 |.ret co hd k κ=>by
  show pushEnvs co.envs (κ.inn A).frames=_
  rw[Ko.frames_inn h κ,pushEnvs_eq]
  simp[Ko.envs]
noncomputable def Hn:Option (List Env)→Ko→Option (List Env)
 |none,_=>none
 |some _,κ=>some κ.envs
noncomputable def Ko.isTop:Ko→Bool|.top=>true|_=>false
noncomputable def Dp.sg:Dp→Sg
 |.fin g _ _=>g
 |.tail g _ _=>g
 |.cut g _ _ _ _=>g
 |.gen g _ _ _=>g
noncomputable def E8{Y:Type}(w:World)(D:Nat)(h:Sg)(g:Sg)(F:bS Y)(E:aU)(x:Y)(n1 t1:Nat):aU:=
 nI (yc (PW w D) h.N) h.orc h.cnt (F.res x) E.kap n1 0 t1 0 (E.m+(F.add x).length) (cy (F.add x) E.m (bZ (lr (F.upd x) g.ju) E.T)) (bY (F.add x) E.m (dU g.fo E.AT)) [] [] []
noncomputable def E9(w:World)(D:Nat)(h:Sg)(E:aU)(gi n1 t1:Nat):aU:=
 yc (PW w D) h.N h.orc h.cnt E.cd E.kap (E.kg gi) n1 0 t1 0 E.m E.T E.AT [] [] []
noncomputable def nA{Y:Type}(g:Sg)(F:bS Y)(E:aU)(x:Y):eU:=⟨E.m+(F.add x).length,cy (F.add x) E.m (bZ (lr (F.upd x) g.ju) E.T),bY (F.add x) E.m (dU g.fo E.AT)⟩
noncomputable def sx(E:aU):eU:=⟨E.m,E.T,E.AT⟩
noncomputable def keeps(g:Sg)(T:eU)(E:aU):Prop:=(dU g.ws (jl T.m (E.m-T.m) E.T),jl T.m (E.m-T.m) E.AT,uO T g.ws,eI g.js)=(dU g.ws T.T,T.AT,g.wa,true)
noncomputable def hO(g:Sg)(E:aU)(l:List (Addr×Obj))(n u:Nat):Prop:=(g.js.map E.lk,E.n0+E.i,E.tk+E.u,E.cs.map (·.1),E.ts.map (·.1),E.ps)=(l.map some,n+g.i,u+g.u,E.cs.map (·.2),E.ts.map (·.2),g.ps)
noncomputable def AF{Y:Type}(g:Sg)(F:bS Y)(E:aU)(x:Y):Prop:=
 ((g.ju.zip (F.upd x)).map λy=>adr E.AT y.1,g.fo.map (adr E.AT),cY (F.add x) E.m (bZ (lr (F.upd x) g.ju) E.T) (dU g.fo E.AT),nO g.ju (F.upd x))=((g.ju.zip (F.upd x)).map λy=>some y.2.1,g.fa.map some,true,true)
noncomputable def Dp.holds(w:World)(D:Nat):Dp→eU→aU→Nat→Nat→Prop
 |.fin g r l,T,E,n,u=>keeps g T E∧(E.isFin,E.res)=(true,r)∧hO g E (l E) n u
 |.tail g c l,T,E,n,u=>keeps g T E∧(E.isEnt,E.kap.isTop,E.cd)=(true,true,c)∧hO g E (l E) n u
 |.cut g c kn1 F next,T,E,n,u=>keeps g T E∧(E.isEnt,E.cd,E.kap.fine g.K,Hn g.fr E.kap)=(true,c,true,g.fr)∧hO g E (kn1 E) n u∧
   ∀x n1 t1,AF g (F E) E x∧(next x (n1+g.off) t1).holds w D (nA g (F E) E x) (E8 w D (next x (n1+g.off) t1).sg g (F E) E x (n1+g.off) t1) (n1+g.off) t1
 |.gen g c l next,T,E,n,u=>keeps g T E∧(E.isGen,E.cg)=(true,c)∧hO g E (l E) n u∧
   ∀gi n1 t1,(next gi (n1+g.off) t1).holds w D (sx E) (E9 w D (next gi (n1+g.off) t1).sg E gi (n1+g.off) t1) (n1+g.off) t1
section
variable {w:World} {D:Nat} {A:Around} {R:Result→Shared→Prop}
theorem mR{g:Sg}{T:eU}{E:aU}(h:keeps g T E):jf E T g.ws∧uO T g.ws=g.wa∧g.js.Nodup:=by
 unfold keeps at h
 simp only[Prod.mk.injEq]at h
 obtain⟨h1,h2,h4,h5⟩:=h
 exact⟨⟨h1,h2⟩,h4,fK h5⟩
end
set_option genInjectivity true in
structure Row where
 kp:BT×BT×List Addr×Bool
 hd:Nat×Result×Code×Bool×Option (List Env)
 st:List (Option (Nat×Obj))×Nat×Nat×List Nat×List (Sem PySem.Fin)×List Prop
set_option genInjectivity true in
inductive Tr:Type 1 where
 |stop (a:Row):Tr
 |cut (Y:Type) (a:Row) (b:Y→Nat→Nat→List (Option Nat)×List (Option Nat)×Bool×Bool) (next:Y→Nat→Nat→Tr):Tr
 |gen (a:Row) (next:Nat→Nat→Nat→Tr):Tr
noncomputable def c0:Code:=.block [] default
noncomputable def r0:Result:=.error .none
noncomputable def kL(g:Sg)(T:eU)(E:aU):=(dU g.ws (jl T.m (E.m-T.m) E.T),jl T.m (E.m-T.m) E.AT,uO T g.ws,eI g.js)
noncomputable def kR(g:Sg)(T:eU):=(dU g.ws T.T,T.AT,g.wa,true)
noncomputable def sL(g:Sg)(E:aU):=(g.js.map E.lk,E.n0+E.i,E.tk+E.u,E.cs.map (·.1),E.ts.map (·.1),E.ps)
noncomputable def sR(g:Sg)(E:aU)(l:List (Addr×Obj))(n u:Nat):=(l.map some,n+g.i,u+g.u,E.cs.map (·.2),E.ts.map (·.2),g.ps)
noncomputable def ij(E:aU):Nat:=match E with|.fin ..=>0|.ent κ ..=>(match κ with|.top=>1|.ret ..=>2)|.gen ..=>3|.bad ..=>4
noncomputable def Dp.lhs(w:World)(D:Nat):Dp→eU→aU→Nat→Nat→Tr
 |.fin g r l,T,E,n,u=>.stop ⟨kL g T E,(ij E,E.res,c0,true,none),sL g E⟩
 |.tail g c l,T,E,n,u=>.stop ⟨kL g T E,(ij E,r0,E.cd,true,none),sL g E⟩
 |.cut (Y:=Y) g c kn1 F next,T,E,n,u=>.cut Y ⟨kL g T E,(if E.isEnt then 2 else 9,r0,E.cd,E.kap.fine g.K,Hn g.fr E.kap),sL g E⟩
   (λx n1 t1=>((g.ju.zip ((F E).upd x)).map λy=>adr E.AT y.1,g.fo.map (adr E.AT),cY ((F E).add x) E.m (bZ (lr ((F E).upd x) g.ju) E.T) (dU g.fo E.AT),nO g.ju ((F E).upd x)))
   λx n1 t1=>(next x (n1+g.off) t1).lhs w D (nA g (F E) E x) (E8 w D (next x (n1+g.off) t1).sg g (F E) E x (n1+g.off) t1) (n1+g.off) t1
 |.gen g c l next,T,E,n,u=>.gen ⟨kL g T E,(ij E,r0,E.cg,true,none),sL g E⟩
   λgi n1 t1=>(next gi (n1+g.off) t1).lhs w D (sx E) (E9 w D (next gi (n1+g.off) t1).sg E gi (n1+g.off) t1) (n1+g.off) t1
noncomputable def Dp.rhs(w:World)(D:Nat):Dp→eU→aU→Nat→Nat→Tr
 |.fin g r l,T,E,n,u=>.stop ⟨kR g T,(0,r,c0,true,none),sR g E (l E) n u⟩
 |.tail g c l,T,E,n,u=>.stop ⟨kR g T,(1,r0,c,true,none),sR g E (l E) n u⟩
 |.cut (Y:=Y) g c kn1 F next,T,E,n,u=>.cut Y ⟨kR g T,(2,r0,c,true,g.fr),sR g E (kn1 E) n u⟩
   (λx n1 t1=>((g.ju.zip ((F E).upd x)).map λy=>some y.2.1,g.fa.map some,true,true))
   λx n1 t1=>(next x (n1+g.off) t1).rhs w D (nA g (F E) E x) (E8 w D (next x (n1+g.off) t1).sg g (F E) E x (n1+g.off) t1) (n1+g.off) t1
 |.gen g c l next,T,E,n,u=>.gen ⟨kR g T,(3,r0,c,true,none),sR g E (l E) n u⟩
   λgi n1 t1=>(next gi (n1+g.off) t1).rhs w D (sx E) (E9 w D (next gi (n1+g.off) t1).sg E gi (n1+g.off) t1) (n1+g.off) t1
theorem d0{g:Sg}{T:eU}{E:aU}(h:kL g T E=kR g T):keeps g T E:=h
theorem qj{E:aU}(h:ij E=0):E.isFin=true:=by
 cases E with
 |fin=>rfl
 |ent κ=>cases κ<;>cases h
 |gen=>cases h
 |bad=>cases h
theorem ii{E:aU}(h:ij E=1):E.isEnt=true∧E.kap.isTop=true:=by
 cases E with
 |fin=>cases h
 |ent κ=>cases κ with|top=>exact⟨rfl,rfl⟩|ret=>cases h
 |gen=>cases h
 |bad=>cases h
theorem qi{E:aU}(h:ij E=3):E.isGen=true:=by
 cases E with
 |fin=>cases h
 |ent κ=>cases κ<;>cases h
 |gen=>rfl
 |bad=>cases h
theorem Dp.holds_of{w:World}{D:Nat}:∀(p:Dp) (T:eU) (E:aU) (n u:Nat),p.lhs w D T E n u=p.rhs w D T E n u→p.holds w D T E n u
 |.fin g r l,T,E,n,u,h=>by
  have h:=Tr.stop.inj h
  simp only[Row.mk.injEq]at h
  obtain⟨h1,h2,h3⟩:=h
  simp only[Prod.mk.injEq]at h2
  exact⟨d0 h1,Prod.ext (qj h2.1) h2.2.1,h3⟩
 |.tail g c l,T,E,n,u,h=>by
  have h:=Tr.stop.inj h
  simp only[Row.mk.injEq]at h
  obtain⟨h1,h2,h3⟩:=h
  simp only[Prod.mk.injEq]at h2
  exact⟨d0 h1,Prod.ext (ii h2.1).1 (Prod.ext (ii h2.1).2 h2.2.2.1),h3⟩
 |.cut (Y:=Y) g c kn1 F next,T,E,n,u,h=>by
  have h:=Tr.cut.inj h
  obtain⟨_,h0,hb,hn⟩:=h
  simp only[Row.mk.injEq]at h0
  obtain⟨h1,h2,h3⟩:=h0
  simp only[Prod.mk.injEq]at h2
  have e1:E.isEnt=true:=by
   cases q:E.isEnt with
   |true=>rfl
   |false=>rw[q]at h2;exact absurd h2.1 (by decide)
  have hb:=eq_of_heq hb
  have hn:=eq_of_heq hn
  exact⟨d0 h1,Prod.ext e1 (Prod.ext h2.2.2.1 (Prod.ext h2.2.2.2.1 h2.2.2.2.2)),h3,λx n1 t1=>⟨congrFun (congrFun (congrFun hb x) n1) t1,Dp.holds_of _ _ _ _ _ (congrFun (congrFun (congrFun hn x) n1) t1)⟩⟩
 |.gen g c l next,T,E,n,u,h=>by
  have h:=Tr.gen.inj h
  obtain⟨h0,hn⟩:=h
  simp only[Row.mk.injEq]at h0
  obtain⟨h1,h2,h3⟩:=h0
  simp only[Prod.mk.injEq]at h2
  exact⟨d0 h1,Prod.ext (qi h2.1) h2.2.2.1,h3,λx n1 t1=>Dp.holds_of _ _ _ _ _ (congrFun (congrFun (congrFun hn x) n1) t1)⟩
noncomputable def iN:Str:=⟨#[115,101,108,102]⟩
noncomputable def dR:Str:=⟨#[110,117,109,101,114,97,116,111,114]⟩
noncomputable def eq:Str:=⟨#[100,101,110,111,109,105,110,97,116,111,114]⟩
noncomputable def sS:Str:=⟨#[117,112,112,101,114]⟩
noncomputable def sW:Str:=⟨#[98,101,108,111,119]⟩
noncomputable def sV:Str:=⟨#[108,111,119,101,114]⟩
noncomputable def sX:Str:=⟨#[97,98,111,118,101]⟩
noncomputable def yz:Str:=⟨#[114,101,115,116]⟩
noncomputable def nM:Str:=⟨#[100,105,118,105,115,111,114]⟩
noncomputable def bH:Str:=⟨#[110,117,109,98,101,114]⟩
noncomputable def aG:Str:=⟨#[111,116,104,101,114]⟩
noncomputable def dn:Str:=⟨#[99,97,110,100,105,100,97,116,101,115]⟩
noncomputable def ax:Str:=⟨#[110,117,109,95,99,97,110,100]⟩
noncomputable def cO:Str:=⟨#[99,97,110,100]⟩
noncomputable def dq:Str:=⟨#[97,112,112,114,111,118,101,100]⟩
noncomputable def dg:Str:=⟨#[119,101,105,103,104,116]⟩
noncomputable def iP:Str:=⟨#[99,97,110,100,95,110,97,109,101,115]⟩
noncomputable def nJ:Str:=⟨#[95,118,111,116,101,114,115]⟩
noncomputable def gn:Str:=⟨#[118,111,116,101,114]⟩
noncomputable def aA:Str:=⟨#[109,97,114,103,105,110,97,108,95,115,99,111,114,101,102,99,116]⟩
noncomputable def bL:Str:=⟨#[112,114,111,102,105,108,101]⟩
noncomputable def am:Str:=⟨#[99,111,109,109,105,116,116,101,101]⟩
noncomputable def dm:Str:=⟨#[109,97,114,103,105,110,97,108]⟩
noncomputable def cV:Str:=⟨#[105,110,116,101,114,115,101,99,116,105,111,110,115,105,122,101]⟩
noncomputable def dQ:Str:=⟨#[115,97,116,105,115,102,97,99,116,105,111,110]⟩
noncomputable def cx:Str:=⟨#[109,97,114,103,95,117,116,105,108,95,99,97,110,100]⟩
noncomputable def pJ:Str:=⟨#[118,111,116,101]⟩
noncomputable def et:Str:=⟨#[99,97,110,100,95,105,110,95,99,111,109]⟩
noncomputable def iO:Str:=⟨#[115,99,111,114,101]⟩
noncomputable def bc:Str:=⟨#[115,99,111,114,101,102,99,116,95,105,100]⟩
noncomputable def bI:Str:=⟨#[99,111,109,109,105,116,116,101,101,115,105,122,101]⟩
noncomputable def aN:Str:=⟨#[98,97,115,101]⟩
noncomputable def dS:Str:=⟨#[101,108,108]⟩
noncomputable def ID:Str:=⟨#[95]⟩
noncomputable def pK:Str:=⟨#[115,99,114,105,112,116]⟩
noncomputable def mO:Str:=⟨#[100,114,97,119,115]⟩
noncomputable def Bn:Str:=⟨#[109]⟩
noncomputable def aV:Str:=⟨#[110,97,109,101]⟩
noncomputable def lP:Str:=⟨#[115,105,122,101]⟩
noncomputable def ic:Str:=⟨#[98,97,108,108,111,116,115]⟩
noncomputable def EN:Str:=⟨#[107]⟩
noncomputable def iQ:Str:=⟨#[98,111,111,107]⟩
noncomputable def j9:Str:=⟨#[98,101,102,111,114,101]⟩
noncomputable def sU:Str:=⟨#[111,114,100,101,114]⟩
noncomputable def f4:Str:=⟨#[99,97,110,100,105,100,97,116,101]⟩
noncomputable def lO:Str:=⟨#[116,111,108,100]⟩
noncomputable def vv:Str:=⟨#[110,111,119]⟩
noncomputable def pM:Str:=⟨#[100,117,101]⟩
noncomputable def cQ:Str:=⟨#[99]⟩
noncomputable def pL:Str:=⟨#[108,101,102,116]⟩
noncomputable def mM:Str:=⟨#[102,111,117,110,100]⟩
noncomputable def yy:Str:=⟨#[115,116,101,112]⟩
noncomputable def mL:Str:=⟨#[116,111,116,97,108]⟩
noncomputable def sT:Str:=⟨#[115,101,97,116,115]⟩
noncomputable def om(ht:Nat→Int×Tok):Nat→List (Str×Value)→List DictEntry
 |_,[]=>[]
 |i,(k,v)::l=>⟨(ht i).1,.str k (ht i).2,v⟩::om ht (i+1) l
noncomputable def fQ(ht:Nat→Int×Tok)(l:List (Str×Value))(ep:Nat):Obj:=⟨.type "frame",none,.dict (om ht 0 l).toArray ep,#[]⟩
noncomputable def bO(ht:Nat→Int×Tok)(l:List (Str×Value))(ep:Nat):Obj:=⟨.type "dict",none,.dict (om ht 0 l).toArray ep,#[]⟩
set_option backward.match.sparseCases false in
noncomputable def aq(o:Option (Nat×Obj))(i:Nat):Int×Tok:=match o with
 |some (_,o)=>match o.data with
  |.dict es _=>match es.toList[i]? with
   |some e=>match e.key with
    |.str _ t=>(e.hash,t)
    |_=>(e.hash,0)
   |none=>(0,0)
  |_=>(0,0)
 |none=>(0,0)
noncomputable def jk(o:Option (Nat×Obj))(i:Nat):Value:=match o with
 |some (_,o)=>match o.data with
  |.dict es _=>match es.toList[i]? with
   |some e=>e.val
   |none=>.none
  |_=>.none
 |none=>.none
set_option backward.match.sparseCases false in
noncomputable def m6(o:Obj):FuncData:=match o.data with|.func f=>f|_=>default
set_option backward.match.sparseCases false in
noncomputable def aH(f:FuncData):List Stmt:=match f.body with|.stmts b=>b|_=>[]
noncomputable def cR(f:FuncData)(a L:Addr):Env:={scope:=f.scope,locals:=L,globals:=f.globals,cells:=[],qual:=f.qualname++Str.mk #[46,60,108,111,99,97,108,115,62,46],func:=some a,code:=f.code,frame:=some L,builtins:=f.builtins}
structure WV where
 w0:World
 b1:Bool
 b2:Bool
 b3:Bool
noncomputable def WV.w(v:WV):World:=W3 v.w0 v.b1 v.b2 v.b3
noncomputable def Hk(w:World)(D:Nat)(p:Dp)(c:Code)(zn zu:Nat)(kn:List (Addr×Obj)):aU:=Fa (PW w D) p.sg.N p.sg.orc p.sg.cnt c zn zu kn
noncomputable def tL(w:World)(D:Nat)(p:Dp)(c:Code)(zn zu:Nat)(kn:List (Addr×Obj)):Bool×Tr:=(cY kn 0 .nil .nil,p.lhs w D (eU.kn kn) (Hk w D p c zn zu kn) zn zu)
noncomputable def tR(w:World)(D:Nat)(p:Dp)(c:Code)(zn zu:Nat)(kn:List (Addr×Obj)):Bool×Tr:=(true,p.rhs w D (eU.kn kn) (Hk w D p c zn zu kn) zn zu)
structure Cn where
 D:Nat
 k:List (Addr×Obj)
 c:Code
 p:Nat→Nat→Dp
noncomputable def Cn.G(x:Cn)(v:WV):Prop:=∀zn zu,tL v.w x.D (x.p zn zu) x.c zn zu x.k=tR v.w x.D (x.p zn zu) x.c zn zu x.k
noncomputable def Cn.GB(x:Cn)(m:Nat)(v:WV):Prop:=Nat.ble m 557=true∧∀zn zu,tL v.w x.D (x.p (zn+m) zu) x.c (zn+m) zu x.k=tR v.w x.D (x.p (zn+m) zu) x.c (zn+m) zu x.k
structure En (T:Type) where
 F:Type 1→Type 1
 e:{α:Type 1}→(T→α)→F α
 e':{α:Type 1}→(T→α)→F α
 ok:∀{α:Type 1} {L R:T→α},e L=e' R→∀t,L t=R t
noncomputable def cm:En Bool:=⟨λα=>α×α,λL=>(L true,L false),λL=>(L true,L false),λh t=>match t with
 |true=>congrArg Prod.fst h
 |false=>congrArg Prod.snd h⟩
noncomputable def cz(β:Type):En (Option β):=⟨λα=>α×(β→α),λL=>(L none,λx=>L (some x)),λL=>(L none,λx=>L (some x)),λh t=>match t with
 |none=>congrArg Prod.fst h
 |some x=>congrFun (congrArg Prod.snd h) x⟩
noncomputable def oq{T:Type}(l:List T)(ix:T→Nat)(hl:∀t,l[ix t]?=some t):En T:=⟨List,λL=>l.map L,λL=>l.foldr (λt r=>L t::r) [],fun{α} {L R} h t=>by
 have e:l.foldr (λt r=>R t::r) []=l.map R:=by induction l<;>simp_all
 rw[e]at h
 have:=congrArg (λx:List α=>x[ix t]?) h
 simp only[List.getElem?_map,hl]at this
 exact Option.some.inj this⟩
noncomputable def Cn.L(x:Cn)(v:WV)(zn zu:Nat):Bool×Tr:=tL v.w x.D (x.p zn zu) x.c zn zu x.k
noncomputable def Cn.R(x:Cn)(v:WV)(zn zu:Nat):Bool×Tr:=tR v.w x.D (x.p zn zu) x.c zn zu x.k
theorem Cn.g1{f:WV→Cn}(h:∀w0 b2 b3 zn zu,cm.e (λb1=>(f ⟨w0,b1,b2,b3⟩).L ⟨w0,b1,b2,b3⟩ zn zu)=cm.e' (λb1=>(f ⟨w0,b1,b2,b3⟩).R ⟨w0,b1,b2,b3⟩ zn zu))(v:WV):(f v).G v:=λzn zu=>cm.ok (h v.w0 v.b2 v.b3 zn zu) v.b1
theorem Cn.g2{T:Type}(E:En T){f:T→WV→Cn}(h:∀w0 b2 b3 zn zu,cm.e (λb1=>E.e λt=>(f t ⟨w0,b1,b2,b3⟩).L ⟨w0,b1,b2,b3⟩ zn zu)=cm.e' (λb1=>E.e' λt=>(f t ⟨w0,b1,b2,b3⟩).R ⟨w0,b1,b2,b3⟩ zn zu))(t:T)(v:WV):(f t v).G v:=λzn zu=>E.ok (cm.ok (h v.w0 v.b2 v.b3 zn zu) v.b1) t
theorem Cn.g3{T U:Type}(E:En T)(H:En U){f:T→U→WV→Cn}(h:∀w0 b2 b3 zn zu,cm.e (λb1=>E.e λt=>H.e λu=>(f t u ⟨w0,b1,b2,b3⟩).L ⟨w0,b1,b2,b3⟩ zn zu)=cm.e' (λb1=>E.e' λt=>H.e' λu=>(f t u ⟨w0,b1,b2,b3⟩).R ⟨w0,b1,b2,b3⟩ zn zu))(t:T)(u:U)(v:WV):(f t u v).G v:=λzn zu=>H.ok (E.ok (cm.ok (h v.w0 v.b2 v.b3 zn zu) v.b1) t) u
theorem Cn.g4{T U S:Type}(E:En T)(H:En U)(J:En S){f:T→U→S→WV→Cn}(h:∀w0 b2 b3 zn zu,cm.e (λb1=>E.e λt=>H.e λu=>J.e λs=>(f t u s ⟨w0,b1,b2,b3⟩).L ⟨w0,b1,b2,b3⟩ zn zu)=cm.e' (λb1=>E.e' λt=>H.e' λu=>J.e' λs=>(f t u s ⟨w0,b1,b2,b3⟩).R ⟨w0,b1,b2,b3⟩ zn zu))(t:T)(u:U)(s:S)(v:WV):(f t u s v).G v:=λzn zu=>J.ok (H.ok (E.ok (cm.ok (h v.w0 v.b2 v.b3 zn zu) v.b1) t) u) s
theorem Cn.h1{f:WV→Cn}(h:∀w0 b3 zn zu,cm.e (λb1=>cm.e λb2=>(f ⟨w0,b1,b2,b3⟩).L ⟨w0,b1,b2,b3⟩ zn zu)=cm.e' (λb1=>cm.e' λb2=>(f ⟨w0,b1,b2,b3⟩).R ⟨w0,b1,b2,b3⟩ zn zu))(v:WV):(f v).G v:=λzn zu=>cm.ok (cm.ok (h v.w0 v.b3 zn zu) v.b1) v.b2
theorem Cn.h2{T:Type}(E:En T){f:T→WV→Cn}(h:∀w0 b3 zn zu,cm.e (λb1=>cm.e λb2=>E.e λt=>(f t ⟨w0,b1,b2,b3⟩).L ⟨w0,b1,b2,b3⟩ zn zu)=cm.e' (λb1=>cm.e' λb2=>E.e' λt=>(f t ⟨w0,b1,b2,b3⟩).R ⟨w0,b1,b2,b3⟩ zn zu))(t:T)(v:WV):(f t v).G v:=λzn zu=>E.ok (cm.ok (cm.ok (h v.w0 v.b3 zn zu) v.b1) v.b2) t
theorem Cn.h3{T U:Type}(E:En T)(H:En U){f:T→U→WV→Cn}(h:∀w0 b3 zn zu,cm.e (λb1=>cm.e λb2=>E.e λt=>H.e λu=>(f t u ⟨w0,b1,b2,b3⟩).L ⟨w0,b1,b2,b3⟩ zn zu)=cm.e' (λb1=>cm.e' λb2=>E.e' λt=>H.e' λu=>(f t u ⟨w0,b1,b2,b3⟩).R ⟨w0,b1,b2,b3⟩ zn zu))(t:T)(u:U)(v:WV):(f t u v).G v:=λzn zu=>H.ok (E.ok (cm.ok (cm.ok (h v.w0 v.b3 zn zu) v.b1) v.b2) t) u
theorem Cn.k1{f:WV→Cn}(h:∀w0 b1 b2 b3 zn zu,((f ⟨w0,b1,b2,b3⟩).L ⟨w0,b1,b2,b3⟩ zn zu)=((f ⟨w0,b1,b2,b3⟩).R ⟨w0,b1,b2,b3⟩ zn zu))(v:WV):(f v).G v:=λzn zu=>h v.w0 v.b1 v.b2 v.b3 zn zu
theorem Cn.k2{T:Type}(ET:En T){f:T→WV→Cn}(h:∀w0 b1 b2 b3 zn zu,(ET.e λt'=>(f t' ⟨w0,b1,b2,b3⟩).L ⟨w0,b1,b2,b3⟩ zn zu)=(ET.e' λt'=>(f t' ⟨w0,b1,b2,b3⟩).R ⟨w0,b1,b2,b3⟩ zn zu))(t':T)(v:WV):(f t' v).G v:=λzn zu=>ET.ok (h v.w0 v.b1 v.b2 v.b3 zn zu) t'
theorem Cn.k3{T U:Type}(ET:En T)(EU:En U){f:T→U→WV→Cn}(h:∀w0 b1 b2 b3 zn zu,(ET.e λt'=>EU.e λu'=>(f t' u' ⟨w0,b1,b2,b3⟩).L ⟨w0,b1,b2,b3⟩ zn zu)=(ET.e' λt'=>EU.e' λu'=>(f t' u' ⟨w0,b1,b2,b3⟩).R ⟨w0,b1,b2,b3⟩ zn zu))(t':T)(u':U)(v:WV):(f t' u' v).G v:=λzn zu=>EU.ok ((ET.ok (h v.w0 v.b1 v.b2 v.b3 zn zu) t')) u'
theorem Cn.k4{T U S:Type}(ET:En T)(EU:En U)(ES:En S){f:T→U→S→WV→Cn}(h:∀w0 b1 b2 b3 zn zu,(ET.e λt'=>EU.e λu'=>ES.e λs'=>(f t' u' s' ⟨w0,b1,b2,b3⟩).L ⟨w0,b1,b2,b3⟩ zn zu)=(ET.e' λt'=>EU.e' λu'=>ES.e' λs'=>(f t' u' s' ⟨w0,b1,b2,b3⟩).R ⟨w0,b1,b2,b3⟩ zn zu))(t':T)(u':U)(s':S)(v:WV):(f t' u' s' v).G v:=λzn zu=>ES.ok ((EU.ok ((ET.ok (h v.w0 v.b1 v.b2 v.b3 zn zu) t')) u')) s'
noncomputable def IV(n:Nat):En (Fin n):=oq (List.finRange n) Fin.val (λt=>by simp)
theorem Kn.big{v:WV}{s:Shared}{kn:List (Addr×Obj)}(n:Nat)(hn:n≤557)(k:Kn (KB v.w) s kn):∃z,s.heap.objs.size=z+n:=by
 have h:557<s.heap.objs.size:=Heap.lt_size (k.base 557 (nk v.w.params) (by kernel_rfl))
 exact⟨s.heap.objs.size-n,by omega⟩
noncomputable abbrev bP{Y:Type}:Y→Shared→Shared→Prop:=λj j j=>True
noncomputable abbrev aK:Shared→Prop:=λj=>True
noncomputable abbrev aS{Y:Type}(w:World)(D:Nat)(kn:List (Addr×Obj))(c:Code)(W:List Addr)(F:bS Y):Prop:=Ct w D kn aK c W F bP
noncomputable def lK{α:Type}:List α→Nat→Option α
 |[],_=>none
 |x::_,0=>some x
 |_::l,n+1=>lK l n
noncomputable def eV{α:Type}(l:List α):List Nat→List α
 |[]=>[]
 |i::r=>match lK l i with
  |some x=>x::eV l r
  |none=>eV l r
theorem dd{α:Type}:∀(l:List α) (i:Nat),lK l i=l[i]?
 |[],i=>rfl
 |x::l,0=>rfl
 |x::l,i+1=>by rw[List.getElem?_cons_succ];exact dd l i
set_option tactic.hygienic true in
theorem c7{α:Type}{l:List α}{x:α}:∀{ix:List Nat},x∈eV l ix→∃i∈ix,l[i]?=some x
 |[],h=>nomatch h
 |i::r,h=>by
  unfold eV at h
  split at h
  ·rename_i y e
   rcases List.mem_cons.mp h with rfl|h
   ·exact⟨i,List.mem_cons_self ..,dd l i▸e⟩
   ·obtain⟨j,hj,e'⟩:=c7 h
    exact⟨j,List.mem_cons_of_mem _ hj,e'⟩
  ·obtain⟨j,hj,e'⟩:=c7 h
   exact⟨j,List.mem_cons_of_mem _ hj,e'⟩
set_option tactic.hygienic true in
theorem lI{l:List (Addr×Obj)}(nd:(l.map (·.1)).Nodup):∀{ix:List Nat},ix.Nodup→((eV l ix).map (·.1)).Nodup
 |[],_=>List.nodup_nil
 |i::r,h=>by
  obtain⟨h1,h2⟩:=List.nodup_cons.mp h
  unfold eV
  split
  ·rename_i x e
   rw[List.map_cons,List.nodup_cons]
   refine⟨λhm=>?_,lI nd h2⟩
   obtain⟨q,hq,e2⟩:=List.mem_map.mp hm
   obtain⟨j,hj,ej⟩:=c7 hq
   have ei:l[i]?=some x:=dd l i▸e
   have q1:(l.map (·.1))[i]?=some x.1:=by rw[List.getElem?_map,ei];rfl
   have q2:(l.map (·.1))[j]?=some x.1:=by rw[List.getElem?_map,ej,←e2];rfl
   have hi:i<(l.map (·.1)).length:=by rw[List.length_map];exact(List.getElem?_eq_some_iff.mp ei).1
   exact h1 ((List.getElem?_inj hi nd).mp (q1.trans q2.symm)▸hj)
  ·exact lI nd h2
theorem Kn.pk{B:X.KT}{s:Shared}{l:List (Addr×Obj)}(k:Kn B s l)(ix:List Nat)(h:eI ix=true):Kn B s (eV l ix):=
 ⟨k.base,λp hp=>let⟨_,_,e⟩:=c7 hp;k.obj p (List.mem_of_getElem? e),λp hp=>let⟨_,_,e⟩:=c7 hp;k.off p (List.mem_of_getElem? e),lI k.nd (fK h),k.toks⟩
theorem Kn.offA{B:X.KT}{s:Shared}{l:List (Addr×Obj)}(k:Kn B s l){a:Addr}(h:a∈l.map (·.1)):B.get a=none:=by
 obtain⟨p,hp,rfl⟩:=List.mem_map.mp h
 exact k.off p hp
noncomputable def fU(C:List Addr)(n:Nat):List Addr→Prop
 |[]=>True
 |a::l=>(a∈C∨n≤a)∧fU C n l
theorem fU.mem{C:List Addr}{n:Nat}:∀{l:List Addr},fU C n l→∀a∈l,a∈C∨n≤a
 |[],_,_,h=>nomatch h
 |_::_,h,_,hq=>by
  rcases List.mem_cons.mp hq with rfl|hq
  ·exact h.1
  ·exact fU.mem h.2 _ hq
theorem ah.ext{s s1 s2:Shared}{C W:List Addr}(F:ah s s1 C)(G:ah s1 s2 W)(h:fU C s.heap.objs.size W):ah s s2 C:=(F.trans G).mono λa ha=>by
 rcases List.mem_append.mp ha with ha|ha
 ·exact .inl ha
 ·exact h.mem a ha
theorem mN{α:Type}{l:List α}{x:α}(i:Nat)(h:lK l i=some x):x∈l:=List.mem_of_getElem? ((dd l i).symm.trans h)
theorem fU.app{C:List Addr}{n:Nat}:∀{a b:List Addr},fU C n a→fU C n b→fU C n (a++b)
 |[],_,_,h=>h
 |_::_,_,g,h=>⟨g.1,fU.app g.2 h⟩
inductive Qm|e0|e1|e2|e3|e4|e5|e6|e7|e8|e9|e10|e11|e12|e13|e14|e15|e16|e17|e18|e19|e20|e21|e22|e23|e24|e25|e26|e27|e28|e29|e30|e31
noncomputable def nn:List Qm:=[.e0,.e1,.e2,.e3,.e4,.e5,.e6,.e7,.e8,.e9,.e10,.e11,.e12,.e13,.e14,.e15,.e16,.e17,.e18,.e19,.e20,.e21,.e22,.e23,.e24,.e25,.e26,.e27,.e28,.e29,.e30,.e31]
noncomputable def zw:En Qm:=oq nn Qm.ctorIdx (λt=>by cases t<;>rfl)
theorem mJ{α:Type}{l:List α}{j:Nat}{x:α}(e:l[j]?=some x):∀{ix:List Nat},j∈ix→x∈eV l ix
 |i::r,h=>by
  unfold eV
  rcases List.mem_cons.mp h with rfl|h
  ·rw[dd,e];exact List.mem_cons_self ..
  ·split
   ·exact List.mem_cons_of_mem _ (mJ e h)
   ·exact mJ e h
noncomputable def fit(wi:List Nat)(p0:Nat)(j:Nat):Bool:=match Nat.ble p0 j with
 |true=>true
 |false=>gD j wi
noncomputable def Sg.fit(g:Sg)(wi:List Nat)(p0:Nat):Bool:=((g.ws++g.ju)++g.fo).all (Mine.fit wi p0)
structure Iv (s0:Shared) (W:List Addr) (wi:List Nat) (p0:Nat) (m:Nat) (AT:BT) (s:Shared):Prop where
 fr:ah s0 s W
 le:p0≤m
 nw:∀j a,adr AT j=some a→p0≤j→s0.heap.objs.size≤a
 od:∀j a,adr AT j=some a→j<p0→gD j wi=true→a∈W
theorem Iv.fit{s0:Shared}{W:List Addr}{wi:List Nat}{p0 m:Nat}{AT:BT}{s:Shared}(V:Iv s0 W wi p0 m AT s){j a:Nat}(e:adr AT j=some a)(h:Mine.fit wi p0 j=true):a∈W∨s0.heap.objs.size≤a:=by
 unfold Mine.fit at h
 cases q:Nat.ble p0 j with
 |true=>exact .inr (V.nw j a e (Nat.le_of_ble_eq_true q))
 |false=>
  rw[q]at h
  exact .inl (V.od j a e (Nat.lt_of_not_le λh=>by rw[Nat.ble_eq_true_of_le h]at q;cases q) h)
theorem ah.to{s s1 s2:Shared}{C W:List Addr}(F:ah s s1 C)(G:ah s1 s2 W)(h:∀a∈W,a∈C∨s.heap.objs.size≤a):ah s s2 C:=(F.trans G).mono λa ha=>by
 rcases List.mem_append.mp ha with ha|ha
 ·exact .inl ha
 ·exact h a ha
theorem ah.trans'{s s1 s2:Shared}{W:List Addr}(F:ah s s1 W)(G:ah s1 s2 W):ah s s2 W:=F.to G λj h=>.inl h
noncomputable def yx(js:List Nat)(p0:Nat)(l:List (Addr×Obj))(n:Nat):Prop:=∀(k j:Nat) (a:Addr) (o:Obj),js[k]?=some j→l[k]?=some (a,o)→p0≤j→n≤a
noncomputable def Fe(js:List Nat)(wi:List Nat)(p0:Nat)(l:List (Addr×Obj))(W:List Addr)(n:Nat):Prop:=∀(k j:Nat) (a:Addr) (o:Obj),js[k]?=some j→l[k]?=some (a,o)→fit wi p0 j=true→a∈W∨n≤a
noncomputable def Dp.ok2(w:World)(D:Nat)(A:Around)(R:Result→Shared→Prop)(s0:Shared)(W:List Addr)(wi:List Nat)(p0:Nat):Dp→Shared→Prop
 |.fin g r l,s=>cT g.ps∧g.fit wi p0=true∧∀E s',ah s0 s' W→ah s s' g.wa→Kn (KB w) s' (l E)→yx g.js p0 (l E) s0.heap.objs.size→s'.heap.objs.size=s.heap.objs.size+g.i→s'.toks=s.toks+g.u→R r s'
 |.tail g c l,s=>cT g.ps∧g.fit wi p0=true∧∀E s',ah s0 s' W→ah s s' g.wa→Kn (KB w) s' (l E)→Fe g.js wi p0 (l E) W s0.heap.objs.size→s'.heap.objs.size=s.heap.objs.size+g.i→s'.toks=s.toks+g.u→codeAny (model pr w) A c R s'
 |.cut (Y:=Y) g c kn1 F next,s=>cT g.ps∧g.fit wi p0=true∧∀E,∃(D1:Nat) (W1:List Addr) (Pre:Shared→Prop) (P:Y→Shared→Shared→Prop),
   Ew w D1 (kn1 E) Pre c W1 (F E) P (λA'=>∀l l0,g.fr=some l→A.frames=some l0→A'.frames=some (l++l0))∧g.K+D1≤D∧(∀x,∀b∈W1,b∈((F E).upd x).map (·.1)∨b∈g.fa)∧
   (∀s1,ah s0 s1 W→ah s s1 g.wa→Kn (KB w) s1 (kn1 E)→s1.heap.objs.size=s.heap.objs.size+g.i→s1.toks=s.toks+g.u→s1.gens=s.gens→Pre s1)∧
   ∀x s1 s2,ah s0 s1 W→ah s s1 g.wa→Kn (KB w) s1 (kn1 E)→s1.heap.objs.size=s.heap.objs.size+g.i→s1.toks=s.toks+g.u→ah s1 s2 W1→ah s0 s2 W→Kn (KB w) s2 ((F E).upd x++(F E).add x)→(∀p∈(F E).add x,s1.heap.objs.size≤p.1)→P x s1 s2→
    (next x s2.heap.objs.size s2.toks).ok2 w D A R s0 W wi p0 s2
 |.gen g c l next,s=>cT g.ps∧g.fit wi p0=true∧∀E s1,ah s0 s1 W→ah s s1 g.wa→Kn (KB w) s1 (l E)→s1.heap.objs.size=s.heap.objs.size+g.i→s1.toks=s.toks+g.u→s1.gens=s.gens.push (.fresh c)→
    (next s.gens.size s1.heap.objs.size s1.toks).ok2 w D A R s0 W wi p0 s1
noncomputable def rL(w:World){Y:Type}(F:bS Y)(P:Y→Shared→Shared→Prop)(W:List Addr)(s:Shared)(R:Result→Shared→Prop):Prop:=
 ∀y s',ah s s' W→Kn (KB w) s' (F.upd y++F.add y)→(∀q∈F.add y,s.heap.objs.size≤q.1)→P y s s'→R (F.res y) s'
section
variable {w:World} {D:Nat} {A:Around} {R:Result→Shared→Prop} {s0:Shared} {W:List Addr} {wi:List Nat} {p0:Nat}
theorem k9{g:Sg}{T:eU}{E:aU}(hk:keeps g T E){j:Nat}(hj:j<T.m):adr E.AT j=adr T.AT j:=(mR hk).1.adr hj
theorem gl{g:Sg}{T:eU}{E:aU}{s:Shared}{n u:Nat}{l:List (Addr×Obj)}(hk:keeps g T E)(h2:hO g E l n u)(hT:T.ok w s)(hn:s.heap.objs.size=n)(hu:s.toks=u)(ht:0<s.toks)
  (V:Iv s0 W wi p0 T.m T.AT s) (hf:g.fit wi p0=true) (hps:cT g.ps):
  (∀q∈E.cs,q.1=q.2)∧(∀q∈E.ts,q.1=q.2)∧(∀q∈E.ps,q)∧∀h gg,(AllBare s.gens→AllBare gg)→Rp (KB w) s.heap T.m h E.n0 E.i E.m E.T E.AT→
   ah s0 ⟨h,gg,s.drawn,E.tk+E.u,s.os⟩ W∧ah s ⟨h,gg,s.drawn,E.tk+E.u,s.os⟩ g.wa∧Kn (KB w) ⟨h,gg,s.drawn,E.tk+E.u,s.os⟩ l∧h.objs.size=s.heap.objs.size+g.i∧E.tk+E.u=s.toks+g.u∧
   Iv s0 W wi p0 E.m E.AT ⟨h,gg,s.drawn,E.tk+E.u,s.os⟩:=by
 unfold hO at h2
 simp only[Prod.mk.injEq]at h2
 obtain⟨h3,hh1,hh2,h4,h5,h6⟩:=h2
 obtain⟨hk1,hk2,hk3⟩:=mR hk
 refine⟨λq hq=>List.map_inj_left.mp h4 q hq,λq hq=>List.map_inj_left.mp h5 q hq,λq hq=>hps.mem q (h6▸hq),λh gg hg Dh=>?_⟩
 have F:=nC (g:=gg) hg hT g.ws hk1 Dh (by rw[hh1];omega) (by rw[hh2];omega)
 have K:=BS (g:=gg) (d:=s.drawn) (os:=s.os) (tk:=E.tk+E.u) Dh (by omega) h3 hk3
 have F0:=V.fr.to F λa ha=>by
  obtain⟨j,hj,e⟩:=List.mem_filterMap.mp ha
  exact V.fit e (List.all_eq_true.mp hf j (List.mem_append_left _ (List.mem_append_left _ hj)))
 refine⟨F0,hk2▸F,K,by rw[Dh.size];omega,by omega,F0,Nat.le_trans V.le Dh.pm,λj a e hj=>?_,λj a e hj hi=>?_⟩
 ·by_cases q:j<T.m
  ·exact V.nw j a (k9 hk q▸e) hj
  ·exact Nat.le_trans V.fr.size (Dh.old j a (Nat.le_of_not_lt q) e)
 ·exact V.od j a (k9 hk (Nat.lt_of_lt_of_le hj V.le)▸e) hj hi
theorem mQ{E:aU}{js:List Nat}{l:List (Addr×Obj)}(h3:js.map E.lk=l.map some){k j:Nat}{a:Addr}{o:Obj}(h1:js[k]?=some j)(h2:l[k]?=some (a,o)):adr E.AT j=some a:=by
 have e0:(l.map some)[k]?=some (some (a,o)):=by rw[List.getElem?_map,h2];rfl
 rw[←h3,List.getElem?_map,h1]at e0
 exact(p7 (Option.some.inj e0)).1
theorem qy{M:Model}{B:X.KT}{h₀:Heap}{p:Nat}{g:Array GenState}{d:Drawn}{os:OsState}{E:aU}(h:E.isFin=true)(h1:∀q∈E.cs,q.1=q.2)(h2:∀q∈E.ts,q.1=q.2)(h3:∀q∈E.ps,q)
  (k:∀h,Rp B h₀ p h E.n0 E.i E.m E.T E.AT→R E.res ⟨h,g,d,E.tk+E.u,os⟩):aT M B h₀ p A R g d os E:=by
 cases E with
 |fin=>exact⟨h1,h2,h3,k⟩
 |_=>cases h
theorem kz{M:Model}{B:X.KT}{h₀:Heap}{p:Nat}{g:Array GenState}{d:Drawn}{os:OsState}{E:aU}(h:E.isEnt=true)(h1:∀q∈E.cs,q.1=q.2)(h2:∀q∈E.ts,q.1=q.2)(h3:∀q∈E.ps,q)
  (k:∀h,Rp B h₀ p h E.n0 E.i E.m E.T E.AT→codeAny M (E.kap.inn A) E.cd (E.kap.post M A R) ⟨h,g,d,E.tk+E.u,os⟩):aT M B h₀ p A R g d os E:=by
 cases E with
 |ent=>exact⟨h1,h2,h3,k⟩
 |_=>cases h
theorem qx{M:Model}{B:X.KT}{h₀:Heap}{p:Nat}{g:Array GenState}{d:Drawn}{os:OsState}{E:aU}(h:E.isGen=true)(h1:∀q∈E.cs,q.1=q.2)(h2:∀q∈E.ts,q.1=q.2)(h3:∀q∈E.ps,q)
  (k:∀h,Rp B h₀ p h E.n0 E.i E.m E.T E.AT→fG M A R E.cd E.kap (E.kg g.size) ⟨h,g.push (.fresh E.cg),d,E.tk+E.u,os⟩):aT M B h₀ p A R g d os E:=by
 cases E with
 |gen=>exact⟨h1,h2,h3,k⟩
 |_=>cases h
theorem sJ(hA:cp A D){t:eU}{s:Shared}{N cnt n u:Nat}{orc:List Nat}{r:Result}:∀{κ:Ko},xl w s t A R (nI (yc (PW w D) N) orc cnt r κ n 0 u 0 t.m t.T t.AT [] [] [])→t.ok w s→s.heap.objs.size=n→s.toks=u→κ.post (model pr w) A R r s
 |.top,G,h,hn,hu=>by subst hn;subst hu;exact G.2.2.2 _ h
 |.ret co hd k κ,G,h,hn,hu=>by
  subst hn;subst hu
  exact dZ (ia _ _) hA.hd (Nat.lt_of_le_of_lt (Nat.le_add_right _ 5) hA.dep) (by have:=hA.un;show A.units+20*D<cLine;omega) _ _ _ _ _ _ _ _ _ _ _ _ _ _ _ _ _ G h
theorem k8{Y:Type}{g:Sg}{F:bS Y}{E:aU}{x:Y}(ok:cY (F.add x) E.m (bZ (lr (F.upd x) g.ju) E.T) (dU g.fo E.AT)=true){j a}(e:adr (nA g F E x).AT j=some a):(E.m≤j∧a∈((F.add x).map (·.1)))∨adr E.AT j=some a:=by
 rcases bf _ _ _ _ ok j a e with⟨k,hk,hj,o,ho,hg⟩|⟨_,h,_⟩
 ·exact .inl ⟨by omega,List.mem_map_of_mem (f:=(·.1)) (List.mem_of_getElem? ho)⟩
 ·exact .inr (bJ _ _ _ _ h).2
theorem Dp.sound2(hA:cp A D):∀(p:Dp) (T:eU) (E:aU) (s:Shared) (n u:Nat),p.holds w D T E n u→T.ok w s→s.heap.objs.size=n→s.toks=u→0<s.toks→Iv s0 W wi p0 T.m T.AT s→p.ok2 w D A R s0 W wi p0 s→xl w s T A R E
 |.fin g r l,T,E,s,n,u,h,hT,hn,hu,hp,V,k=>by
  obtain⟨hk,h1,h2⟩:=h
  obtain⟨k1,k2,k3⟩:=k
  obtain⟨a1,a2,a3,a4⟩:=gl hk h2 hT hn hu hp V k2 k1
  simp only[Prod.mk.injEq]at h1
  refine qy h1.1 a1 a2 a3 λh Dh=>?_
  obtain⟨F0,F,K,z,t,V'⟩:=a4 h s.gens (λx=>x) Dh
  rw[h1.2]
  exact k3 E _ F0 F K (λk j a o e1 e2 hj=>V'.nw j a (mQ (congrArg (·.1) h2) e1 e2) hj) z t
 |.tail g c l,T,E,s,n,u,h,hT,hn,hu,hp,V,k=>by
  obtain⟨hk,h1,h2⟩:=h
  obtain⟨k1,k2,k3⟩:=k
  obtain⟨a1,a2,a3,a4⟩:=gl hk h2 hT hn hu hp V k2 k1
  simp only[Prod.mk.injEq]at h1
  refine kz h1.1 a1 a2 a3 λh Dh=>?_
  obtain⟨F0,F,K,z,t,V'⟩:=a4 h s.gens (λx=>x) Dh
  have h1t:=h1.2.1
  have:E.kap=.top:=by
   cases q:E.kap with
   |top=>rfl
   |ret=>rw[q]at h1t;cases h1t
  rw[this,h1.2.2]
  exact k3 E _ F0 F K (λk j a o e1 e2 hj=>V'.fit (mQ (congrArg (·.1) h2) e1 e2) hj) z t
 |.cut (Y:=Y) g c kn1 F next,T,E,s,n,u,h,hT,hn,hu,hp,V,k=>by
  obtain⟨hk,h1,h2,h9⟩:=h
  obtain⟨k1,k2,k3⟩:=k
  obtain⟨D1,W1,Pre,P,C,hK,hW,hpre,hnext⟩:=k3 E
  obtain⟨a1,a2,a3,a4⟩:=gl hk h2 hT hn hu hp V k2 k1
  simp only[Prod.mk.injEq]at h1
  obtain⟨h1,hr,hf,hq⟩:=h1
  refine kz h1 a1 a2 a3 λh Dh=>?_
  obtain⟨F0,Fr,K,z,t,V'⟩:=a4 h s.gens (λx=>x) Dh
  rw[hr]
  refine C _ _ _ (hA.inn hf hK) (λl l0 hl h0=>by
   rw[hl]at hq
   rw[←Option.some.inj (show some E.kap.envs=some l from hq)]
   exact Ko.frames_inn h0 _) K (hpre _ F0 Fr K z t rfl) λx s2 F2 K2 ha hP=>?_
  obtain⟨zz,hzz⟩:=qf K2 g
  obtain⟨g1,g6⟩:=h9 x zz s2.toks
  rw[←hzz]at g6
  unfold AF at g1
  simp only[Prod.mk.injEq]at g1
  obtain⟨g1,gf,g1',g1l⟩:=g1
  have g1l:=iS g1l
  have au:∀y∈g.ju.zip ((F E).upd x),adr E.AT y.1=some y.2.1:=λy hy=>List.map_inj_left.mp g1 y hy
  have hW1:∀b∈W1,(∃y∈lr ((F E).upd x) g.ju,y.1∈g.ju∧adr E.AT y.1=some b)∨∃j∈g.fo,adr E.AT j=some b:=λb hb=>by
   rcases hW x b hb with hb|hb
   ·obtain⟨p,hp,rfl⟩:=List.mem_map.mp hb
    obtain⟨i,hi,e⟩:=List.getElem_of_mem hp
    have hz:(g.ju[i]'(by omega),p)∈g.ju.zip ((F E).upd x):=by
     rw[←e]
     exact List.mem_iff_getElem.mpr ⟨i,by rw[List.length_zip];omega,List.getElem_zip ..⟩
    exact .inl ⟨_,List.mem_map_of_mem hz,List.getElem_mem _,au _ hz⟩
   ·have:some b∈g.fo.map (adr E.AT):=gf▸List.mem_map_of_mem hb
    obtain⟨j,hj,e⟩:=List.mem_map.mp this
    exact .inr ⟨j,hj,e⟩
  have D3:=Rp.afterR (fo:=g.fo) (s1:=⟨h,s.gens,s.drawn,E.tk+E.u,s.os⟩) (upd:=lr ((F E).upd x) g.ju) (add:=(F E).add x) Dh F2 (λb hb=>(hW1 b hb).imp (fun⟨y,h1,_,h2⟩=>⟨y,h1,h2⟩) id) (λy hy a ea=>by
   obtain⟨z,hz,rfl⟩:=List.mem_map.mp hy
   have e:=au z hz
   rw[e]at ea;cases ea
   exact K2.obj _ (List.mem_append_left _ (List.of_mem_zip hz).2)) (λy hy=>⟨K2.obj _ (List.mem_append_right _ hy),ha y hy⟩) (by
    have:=K2.nd
    rw[List.map_append,List.nodup_append]at this
    exact this.2.1) g1'
  have F02:=F0.to F2 λb hb=>by
   rcases hW1 b hb with⟨y,_,hy,e⟩|⟨j,hj,e⟩
   ·exact V'.fit e (List.all_eq_true.mp k2 _ (List.mem_append_left _ (List.mem_append_right _ hy)))
   ·exact V'.fit e (List.all_eq_true.mp k2 _ (List.mem_append_right _ hj))
  exact sJ hA (t:=nA g (F E) E x) (Dp.sound2 hA (next x s2.heap.objs.size s2.toks) (nA g (F E) E x) _ s2 _ _ g6 D3 rfl rfl K2.toks
   ⟨F02,Nat.le_trans V'.le (Nat.le_add_right _ _),λj a e hj=>(k8 g1' e).elim (fun⟨_,hm⟩=>by
    obtain⟨p,hp,rfl⟩:=List.mem_map.mp hm
    exact Nat.le_trans F0.size (ha p hp)) λe=>V'.nw j a e hj,λj a e hj hi=>(k8 g1' e).elim (fun⟨hm,_⟩=>absurd (Nat.le_trans V'.le hm) (Nat.not_le.mpr hj)) λe=>V'.od j a e hj hi⟩
   (hnext x _ s2 F0 Fr K z t F2 F02 K2 ha hP)) D3 rfl rfl
 |.gen g c l next,T,E,s,n,u,h,hT,hn,hu,hp,V,k=>by
  obtain⟨hk,h1,h2,h9⟩:=h
  obtain⟨k1,k2,k3⟩:=k
  obtain⟨a1,a2,a3,a4⟩:=gl hk h2 hT hn hu hp V k2 k1
  simp only[Prod.mk.injEq]at h1
  refine qx h1.1 a1 a2 a3 λh Dh=>?_
  obtain⟨F0,F,K,z,t,V'⟩:=a4 h (s.gens.push (.fresh E.cg)) (λx=>x.push rfl) Dh
  have D1:Rp (KB w) h E.m h h.objs.size 0 E.m E.T E.AT:=⟨rfl,Dh.base,Dh.obj,Dh.sep,Dh.off,λj a e=>⟨(Dh.fr j a e).1,by rw[Nat.add_zero,Dh.size];exact(Dh.fr j a e).2⟩,Nat.le_refl _,λd d e d=>e,λj a hj e=>absurd (Dh.fr j a e).1 (Nat.not_lt.mpr hj),Nat.le_refl _,Dh.ful⟩
  obtain⟨zz,hzz⟩:=qf K g
  have hzz:h.objs.size=zz+g.off:=hzz
  have g6:=h9 s.gens.size zz (E.tk+E.u)
  rw[←hzz]at g6
  have G:=Dp.sound2 hA (next s.gens.size h.objs.size (E.tk+E.u)) (sx E) _ ⟨h,s.gens.push (.fresh E.cg),s.drawn,E.tk+E.u,s.os⟩ _ _ g6 D1 rfl rfl K.toks V' (k3 E ⟨h,s.gens.push (.fresh E.cg),s.drawn,E.tk+E.u,s.os⟩ F0 F K z t (by rw[h1.2]))
  exact dZ (ia w D) hA.hd (Nat.lt_of_le_of_lt (Nat.le_add_right _ 5) hA.dep) (by have:=hA.un;show A.units+20*D<cLine;omega) _ _ _ _ _ _ _ 0 _ 0 _ _ _ _ _ _ _ G D1
theorem ky{s:Shared}{kn:List (Addr×Obj)}(ok:cY kn 0 .nil .nil=true):Iv s (eV (kn.map (·.1)) wi) wi kn.length kn.length (bY kn 0 .nil) s:=by
 have look:∀j a,adr (bY kn 0 .nil) j=some a→j<kn.length∧(kn.map (·.1))[j]?=some a:=λj a e=>by
  rcases bf kn 0 .nil .nil ok j a e with⟨i,hi,hj,o,ho,hg⟩|⟨_,h,_⟩
  ·rw[Nat.zero_add]at hj;subst hj;exact⟨hi,by rw[List.getElem?_map,ho];rfl⟩
  ·cases h
 refine⟨⟨λh=>h,rfl,rfl,Nat.le_refl _,Nat.le_refl _,λq q e q=>e⟩,Nat.le_refl _,λj a e hj=>absurd (look j a e).1 (Nat.not_lt.mpr hj),λj a e q hi=>?_⟩
 exact mJ (look j a e).2 (fh.mp hi)
theorem Dp.start2H(hA:cp A D){c:Code}{kn:List (Addr×Obj)}{s:Shared}(k:Kn (KB w) s kn)(p:Dp)(wi:List Nat)
  (ok:cY kn 0 .nil .nil=true) (h:p.holds w D (eU.kn kn) (Fa (PW w D) p.sg.N p.sg.orc p.sg.cnt c s.heap.objs.size s.toks kn) s.heap.objs.size s.toks) (H:p.ok2 w D A R s (eV (kn.map (·.1)) wi) wi kn.length s):codeAny (model pr w) A c R s:=by
 have G:=Dp.sound2 hA p _ _ s _ _ h (pd k ok) rfl rfl k.toks (ky ok) H
 have z:=dZ (ia w D) hA.hd (Nat.lt_of_le_of_lt (Nat.le_add_right _ 5) hA.dep) (by have:=hA.un;show A.units+20*D<cLine;omega) _ _ _ _ _ _ _ _ _ _ _ _ _ _ _ _ _ G (Rp.start k ok)
 unfold fG at z
 cases ho:(PW w D).odd c with
 |false=>rw[(ia w D).den _ ho]at z;exact X.x_code z
 |true=>
  refine f9 λΓ p' hc hΓ=>(ia w D).le _ ho _ Γ hc ?_ _ _ _ _ (z Γ p' hΓ)
  have h1:=hA.un
  have h2:=hΓ.2.2.2.2
  have h3:c.cUnits≤10:=by
   have:=fP c
   unfold Code.cUnits
   split<;>omega
  have h5:Γ.units≤A.units+c.cUnits:=h2
  have h6:c.weight≤5:=lJ ho
  have h7:frameCount Γ.below+Γ.code.weight≤A.depth+c.weight:=hΓ.2.1
  have h8:=hA.dep
  exact⟨by omega,by omega⟩
theorem Dp.start2(hA:cp A D){c:Code}{kn:List (Addr×Obj)}{s:Shared}(k:Kn (KB w) s kn)(p:Dp)(wi:List Nat)
  (h:tL w D p c s.heap.objs.size s.toks kn=tR w D p c s.heap.objs.size s.toks kn) (H:p.ok2 w D A R s (eV (kn.map (·.1)) wi) wi kn.length s):codeAny (model pr w) A c R s:=
 Dp.start2H hA k p wi (congrArg Prod.fst h) (Dp.holds_of _ _ _ _ _ (congrArg Prod.snd h)) H
noncomputable def Dp.cd:Dp→Code|.tail _ c _=>c|.cut _ c _ _ _=>c|.gen _ c _ _=>c|_=>c0
noncomputable def Dp.kn:Dp→aU→List (Addr×Obj)|.fin _ _ l=>l|.tail _ _ l=>l|.cut _ _ l _ _=>l|.gen _ _ l _=>l
noncomputable def Dp.Y:Dp→Type|.cut (Y:=Y) ..=>Y|_=>Unit
noncomputable def Dp.F:(p:Dp)→aU→bS p.Y|.cut _ _ _ F _=>F|.fin ..=>λj=>⟨λj=>r0,λj=>[],λj=>[]⟩|.tail ..=>λj=>⟨λj=>r0,λj=>[],λj=>[]⟩|.gen ..=>λj=>⟨λj=>r0,λj=>[],λj=>[]⟩
noncomputable def Dp.nx:(p:Dp)→p.Y→Nat→Nat→Dp|.cut _ _ _ _ n=>n|.fin g r l=>λj j j=>.fin g r l|.tail g c l=>λj j j=>.tail g c l|.gen _ _ _ n=>λj=>n 0
noncomputable def Dp.ng:(p:Dp)→Nat→Nat→Nat→Dp|.gen _ _ _ n=>n|p=>λj j j=>p
noncomputable def Dp.rs:Dp→Result|.fin _ r _=>r|_=>r0
noncomputable def Dp.k:Dp→Nat|.fin ..=>0|.tail ..=>1|.cut ..=>2|.gen ..=>3
noncomputable def Dp.at(p:Dp)(k D1 D:Nat)(wi:List Nat)(p0:Nat):Bool:=Nat.beq p.k k&&Nat.ble (p.sg.K+D1) D&&p.sg.fit wi p0
theorem Dp.at_is{p:Dp}{k D1 D:Nat}{wi:List Nat}{p0:Nat}(h:p.at k D1 D wi p0=true):p.k=k∧p.sg.K+D1≤D∧p.sg.fit wi p0=true:=by
 unfold Dp.at at h
 rw[Bool.and_eq_true,Bool.and_eq_true]at h
 exact⟨Nat.eq_of_beq_eq_true h.1.1,Nat.le_of_ble_eq_true h.1.2,h.2⟩
noncomputable def Dp.uW(p:Dp)(E:aU)(x:p.Y):List Addr:=((p.F E).upd x).map (·.1)++p.sg.fa
variable {p:Dp} {s:Shared}
theorem kX{D1:Nat}{W1:List Addr}{Pre:Shared→Prop}{P:p.Y→Shared→Shared→Prop}(C:∀E,Ew w D1 (p.kn E) Pre p.cd W1 (p.F E) P (λA'=>∀l l0,p.sg.fr=some l→A.frames=some l0→A'.frames=some (l++l0)))
  (hpre:∀E s1,ah s0 s1 W→ah s s1 p.sg.wa→Kn (KB w) s1 (p.kn E)→s1.heap.objs.size=s.heap.objs.size+p.sg.i→s1.toks=s.toks+p.sg.u→s1.gens=s.gens→Pre s1)
  (h:∀E x s1 s2,ah s0 s1 W→ah s s1 p.sg.wa→Kn (KB w) s1 (p.kn E)→s1.heap.objs.size=s.heap.objs.size+p.sg.i→s1.toks=s.toks+p.sg.u→ah s1 s2 W1→ah s0 s2 W→Kn (KB w) s2 ((p.F E).upd x++(p.F E).add x)→(∀q∈(p.F E).add x,s1.heap.objs.size≤q.1)→P x s1 s2→
   (p.nx x s2.heap.objs.size s2.toks).ok2 w D A R s0 W wi p0 s2)
  (hps:cT p.sg.ps:=by exact True.intro) (hc:p.at 2 D1 D wi p0=true:=by rfl) (hW:∀E x,W1=p.uW E x:=by exact λj j=>rfl):p.ok2 w D A R s0 W wi p0 s:=by
 obtain⟨hk,hK,hf⟩:=Dp.at_is hc
 cases p with
 |cut g c kn1 F next=>exact⟨hps,hf,λE=>⟨D1,W1,Pre,P,C E,hK,λx b hb=>List.mem_append.mp (show b∈((F E).upd x).map (·.1)++g.fa from have e:W1=((F E).upd x).map (·.1)++g.fa:=hW E x;e▸hb),hpre E,h E⟩⟩
 |_=>cases hk
theorem kc{D1:Nat}{W1:List Addr}{P:p.Y→Shared→Shared→Prop}(C:∀E,Ct w D1 (p.kn E) aK p.cd W1 (p.F E) P)(h:∀x s1 s2,P x s1 s2→(p.nx x s2.heap.objs.size s2.toks).ok2 w D A R s0 W wi p0 s2)
  (hps:cT p.sg.ps:=by exact True.intro) (hc:p.at 2 D1 D wi p0=true:=by rfl) (hW:∀E x,W1=p.uW E x:=by exact λj j=>rfl):p.ok2 w D A R s0 W wi p0 s:=
 kX (λE A' s' R' hA j=>C E A' s' R' hA) (λj j j j j j j j=>trivial) (λj x s1 s2 j j j j j j j j j hP=>h x s1 s2 hP) hps hc hW
theorem oO{D1:Nat}{W1:List Addr}{P:p.Y→Shared→Shared→Prop}(C:∀E,Ct w D1 (p.kn E) aK p.cd W1 (p.F E) P)
  (h:∀E x s1 s2,ah s0 s2 W→Kn (KB w) s2 ((p.F E).upd x++(p.F E).add x)→(∀q∈(p.F E).add x,s0.heap.objs.size≤q.1)→P x s1 s2→(p.nx x s2.heap.objs.size s2.toks).ok2 w D A R s0 W wi p0 s2)
  (hps:cT p.sg.ps:=by exact True.intro) (hc:p.at 2 D1 D wi p0=true:=by rfl) (hW:∀E x,W1=p.uW E x:=by exact λj j=>rfl):p.ok2 w D A R s0 W wi p0 s:=
 kX (λE A' s' R' hA j=>C E A' s' R' hA) (λj j j j j j j j=>trivial) (λE x s1 s2 F0 j j j j j F02 K2 ha hP=>h E x s1 s2 F02 K2 (λq hq=>Nat.le_trans F0.size (ha q hq)) hP) hps hc hW
theorem dF{D1:Nat}{W1:List Addr}{Pre:Shared→Prop}{P:p.Y→Shared→Shared→Prop}(C:∀E,Ct w D1 (p.kn E) Pre p.cd W1 (p.F E) P)(hpre:∀E s1,ah s0 s1 W→Kn (KB w) s1 (p.kn E)→Pre s1)(h:∀x s1 s2,P x s1 s2→(p.nx x s2.heap.objs.size s2.toks).ok2 w D A R s0 W wi p0 s2)
  (hps:cT p.sg.ps:=by exact True.intro) (hc:p.at 2 D1 D wi p0=true:=by rfl) (hW:∀E x,W1=p.uW E x:=by exact λj j=>rfl):p.ok2 w D A R s0 W wi p0 s:=
 kX (λE A' s' R' hA j=>C E A' s' R' hA) (λE s1 F j K j j j=>hpre E s1 F K) (λj x s1 s2 j j j j j j j j j hP=>h x s1 s2 hP) hps hc hW
theorem d7{g g1:Array GenState}{x:GenState}(h:g1=g.push x):g1[g.size]?=some x:=by subst h;simp
theorem At{D1:Nat}{W1:List Addr}{Pre:Shared→Prop}{P:p.Y→Shared→Shared→Prop}(C:∀E,Ct w D1 (p.kn E) Pre p.cd W1 (p.F E) P)(hpre:∀s1,s1.gens=s.gens→s1.heap.objs.size=s.heap.objs.size+p.sg.i→Pre s1)(h:∀x s1 s2,P x s1 s2→(p.nx x s2.heap.objs.size s2.toks).ok2 w D A R s0 W wi p0 s2)
  (hps:cT p.sg.ps:=by exact True.intro) (hc:p.at 2 D1 D wi p0=true:=by rfl) (hW:∀E x,W1=p.uW E x:=by exact λj j=>rfl):p.ok2 w D A R s0 W wi p0 s:=
 kX (λE A' s' R' hA j=>C E A' s' R' hA) (λj s1 j j j z j g=>hpre s1 g z) (λj x s1 s2 j j j j j j j j j hP=>h x s1 s2 hP) hps hc hW
theorem vL{D1:Nat}{W1:List Addr}{Pre:Shared→Prop}{P:p.Y→Shared→Shared→Prop}(C:∀E,Ct w D1 (p.kn E) Pre p.cd W1 (p.F E) P)(hpre:∀E s1,ah s0 s1 W→Kn (KB w) s1 (p.kn E)→Pre s1)
  (h:∀E x s1 s2,ah s s1 p.sg.wa→ah s1 s2 W1→ah s0 s2 W→Kn (KB w) s2 ((p.F E).upd x++(p.F E).add x)→(∀q∈(p.F E).add x,s0.heap.objs.size≤q.1)→P x s1 s2→(p.nx x s2.heap.objs.size s2.toks).ok2 w D A R s0 W wi p0 s2)
  (hps:cT p.sg.ps:=by exact True.intro) (hc:p.at 2 D1 D wi p0=true:=by rfl) (hW:∀E x,W1=p.uW E x:=by exact λj j=>rfl):p.ok2 w D A R s0 W wi p0 s:=
 kX (λE A' s' R' hA j=>C E A' s' R' hA) (λE s1 F j K j j j=>hpre E s1 F K) (λE x s1 s2 F0 F1 j j j F2 F02 K2 ha hP=>h E x s1 s2 F1 F2 F02 K2 (λq hq=>Nat.le_trans F0.size (ha q hq)) hP) hps hc hW
theorem EL{w:World}{s0:Shared}{W:List Addr}{k:aU→List (Addr×Obj)}:∀(E:aU) (s1:Shared),ah s0 s1 W→Kn (KB w) s1 (k E)→aK s1:=λj j j j=>trivial
theorem kf(h:∀E s',ah s0 s' W→Kn (KB w) s' (p.kn E)→yx p.sg.js p0 (p.kn E) s0.heap.objs.size→R p.rs s')(hps:cT p.sg.ps:=by exact True.intro)(hc:p.at 0 0 p.sg.K wi p0=true:=by rfl):p.ok2 w D A R s0 W wi p0 s:=by
 obtain⟨hk,hK,hf⟩:=Dp.at_is hc
 cases p with
 |fin g r l=>exact⟨hps,hf,λE s' F j K N j j=>h E s' F K N⟩
 |_=>cases hk
theorem Em(h:∀E s',ah s0 s' W→ah s s' p.sg.wa→Kn (KB w) s' (p.kn E)→yx p.sg.js p0 (p.kn E) s0.heap.objs.size→R p.rs s')(hps:cT p.sg.ps:=by exact True.intro)(hc:p.at 0 0 p.sg.K wi p0=true:=by rfl):p.ok2 w D A R s0 W wi p0 s:=by
 obtain⟨hk,hK,hf⟩:=Dp.at_is hc
 cases p with
 |fin g r l=>exact⟨hps,hf,λE s' F L K N j j=>h E s' F L K N⟩
 |_=>cases hk
theorem kr{Y:Type}{F:bS Y}{P:Y→Shared→Shared→Prop}(hR:rL w F P W s0 R)(y:aU→Y)(hP:∀E s',ah s0 s' W→P (y E) s0 s':=by exact λo o o=>True.intro)
  (hps:cT p.sg.ps:=by exact True.intro) (hc:p.at 0 0 p.sg.K wi p0=true:=by rfl) (hr:∀E,p.rs=F.res (y E):=by exact λo=>rfl) (hl:∀E,p.kn E=F.upd (y E)++F.add (y E):=by exact λo=>rfl)
  (hn:∀E,(p.sg.js.drop (F.upd (y E)).length).all (Nat.ble p0)=true:=by exact λo=>rfl) (hj:∀E,Nat.ble (p.kn E).length p.sg.js.length=true:=by exact λo=>rfl):p.ok2 w D A R s0 W wi p0 s:=
 kf (λE s' G K N=>hr E▸hR (y E) s' G (hl E▸K) (λq hq=>by
  obtain⟨k,hk,e⟩:=List.getElem_of_mem hq
  have e1:(p.kn E)[(F.upd (y E)).length+k]?=some q:=by rw[hl E,List.getElem?_append_right (Nat.le_add_right _ _),Nat.add_sub_cancel_left,List.getElem?_eq_getElem hk,e]
  have h1:=(List.getElem?_eq_some_iff.mp e1).1
  have h2:=Nat.le_of_ble_eq_true (hj E)
  obtain⟨j,e2⟩:∃j,p.sg.js[(F.upd (y E)).length+k]?=some j:=⟨_,List.getElem?_eq_getElem (Nat.lt_of_lt_of_le h1 h2)⟩
  refine N _ j q.1 q.2 e2 e1 (Nat.le_of_ble_eq_true (List.all_eq_true.mp (hn E) j (List.mem_of_getElem? (i:=k) ?_)))
  rw[List.getElem?_drop];exact e2) (hP E s' G)) hps hc
theorem kt(h:∀E s',ah s0 s' W→Kn (KB w) s' (p.kn E)→codeAny (model pr w) A p.cd R s')(hps:cT p.sg.ps:=by exact True.intro)(hc:p.at 1 0 p.sg.K wi p0=true:=by rfl):p.ok2 w D A R s0 W wi p0 s:=by
 obtain⟨hk,hK,hf⟩:=Dp.at_is hc
 cases p with
 |tail g c l=>exact⟨hps,hf,λE s' F j K N j j=>h E s' F K⟩
 |_=>cases hk
theorem Hf(h:∀E s',ah s0 s' W→ah s s' p.sg.wa→Kn (KB w) s' (p.kn E)→codeAny (model pr w) A p.cd R s')(hps:cT p.sg.ps:=by exact True.intro)(hc:p.at 1 0 p.sg.K wi p0=true:=by rfl):p.ok2 w D A R s0 W wi p0 s:=by
 obtain⟨hk,hK,hf⟩:=Dp.at_is hc
 cases p with
 |tail g c l=>exact⟨hps,hf,λE s' F L K N j j=>h E s' F L K⟩
 |_=>cases hk
theorem IO{Y:Type}{F:aU→bS Y}{D1:Nat}{W1:aU→List Addr}{Pre:Shared→Prop}{P:Y→Shared→Shared→Prop}(hA:cp A D)(ju:List Nat)(C:∀E,Ct w D1 (p.kn E) Pre p.cd (W1 E) (F E) P)(hpre:∀E s1,ah s0 s1 W→Kn (KB w) s1 (p.kn E)→Pre s1)
  (h:∀E x s1 s2,ah s0 s2 W→Kn (KB w) s2 ((F E).upd x++(F E).add x)→(∀q∈(F E).add x,s0.heap.objs.size≤q.1)→P x s1 s2→R ((F E).res x) s2)
  (hps:cT p.sg.ps:=by exact True.intro) (hc:p.at 1 D1 D wi p0=true:=by rfl) (hW:∀E,W1 E=eV ((p.kn E).map (·.1)) ju:=by exact λo=>rfl) (hj:(eV p.sg.js ju).all (Mine.fit wi p0)=true:=by rfl) (hl:∀E,nO p.sg.js (p.kn E)=true:=by exact λo=>rfl):p.ok2 w D A R s0 W wi p0 s:=by
 obtain⟨hk,hK,hf⟩:=Dp.at_is hc
 cases p with
 |tail g c l=>exact⟨hps,hf,λE s' G o K N o o=>C E A s' R (hA.le (Nat.le_trans (Nat.le_add_left _ _) hK)) K (hpre E s' G K) λx s2 G2 K2 ha hP=>h E x s' s2 (G.to G2 λb hb=>by
   rw[hW E]at hb
   obtain⟨i,hi,e⟩:=c7 hb
   rw[List.getElem?_map]at e
   cases q:(l E)[i]? with
   |none=>rw[show(Dp.tail g c l).kn E=l E from rfl,q]at e;cases e
   |some z=>
    rw[show(Dp.tail g c l).kn E=l E from rfl,q]at e
    cases e
    have h1:=(List.getElem?_eq_some_iff.mp q).1
    have h2:g.js.length=(l E).length:=iS (hl E)
    obtain⟨j,e2⟩:∃j,g.js[i]?=some j:=⟨_,List.getElem?_eq_getElem (h2▸h1)⟩
    exact N i j z.1 z.2 e2 q (List.all_eq_true.mp hj j (mJ e2 hi))) K2 (λq hq=>Nat.le_trans G.size (ha q hq)) hP⟩
 |_=>cases hk
theorem kT{Y:Type}{F:bS Y}{P P1:Y→Shared→Shared→Prop}{D1:Nat}{W1:aU→List Addr}(hR:rL w F P W s0 R)(hA:cp A D)(ju:List Nat)(C:∀E,Ct w D1 (p.kn E) aK p.cd (W1 E) F P1)(hP:∀x s1 s2,P1 x s1 s2→P x s0 s2:=by exact λj j j h=>h)
  (hps:cT p.sg.ps:=by exact True.intro) (hc:p.at 1 D1 D wi p0=true:=by rfl) (hW:∀E,W1 E=eV ((p.kn E).map (·.1)) ju:=by exact λj=>rfl) (hj:(eV p.sg.js ju).all (Mine.fit wi p0)=true:=by rfl) (hl:∀E,nO p.sg.js (p.kn E)=true:=by exact λj=>rfl):p.ok2 w D A R s0 W wi p0 s:=
 IO (F:=λj=>F) hA ju C (λj j j j=>trivial) (λj x s1 s2 G K ha h=>hR x s2 G K ha (hP x s1 s2 h)) hps hc hW hj hl
theorem kg(h:∀E s1,ah s0 s1 W→Kn (KB w) s1 (p.kn E)→s1.gens=s.gens.push (.fresh p.cd)→(p.ng s.gens.size s1.heap.objs.size s1.toks).ok2 w D A R s0 W wi p0 s1)(hps:cT p.sg.ps:=by exact True.intro)(hc:p.at 3 0 p.sg.K wi p0=true:=by rfl):p.ok2 w D A R s0 W wi p0 s:=by
 obtain⟨hk,hK,hf⟩:=Dp.at_is hc
 cases p with
 |gen g c l next=>exact⟨hps,hf,λE s' G j K j j hg=>h E s' G K hg⟩
 |_=>cases hk
theorem Cn.G.go{x:Cn}{v:WV}(h:x.G v)(hA:cp A x.D)(hk:Kn (KB v.w) s x.k)(wi:List Nat)(H:(x.p s.heap.objs.size s.toks).ok2 v.w x.D A R s W wi x.k.length s)(hW:eV (x.k.map (·.1)) wi=W:=by rfl):codeAny (model pr v.w) A x.c R s:=by
 subst hW
 exact Dp.start2 hA hk _ wi (h _ _) H
theorem Cn.GB.go{x:Cn}{m:Nat}{v:WV}(h:x.GB m v)(hA:cp A x.D)(hk:Kn (KB v.w) s x.k)(wi:List Nat)(H:(x.p s.heap.objs.size s.toks).ok2 v.w x.D A R s W wi x.k.length s)(hW:eV (x.k.map (·.1)) wi=W:=by rfl):codeAny (model pr v.w) A x.c R s:=by
 subst hW
 obtain⟨z,e⟩:=Kn.big m (Nat.le_of_ble_eq_true h.1) hk
 have g:=h.2 z s.toks
 rw[←e]at g
 exact Dp.start2 hA hk _ wi g H
theorem Cn.GB.ct{x:Cn}{m:Nat}{v:WV}(h:x.GB m v){Y:Type}{Pre:Shared→Prop}{F:bS Y}{P:Y→Shared→Shared→Prop}(wi:List Nat)
  (H:∀A s R,cp A x.D→Kn (KB v.w) s x.k→Pre s→rL v.w F P W s R→(x.p s.heap.objs.size s.toks).ok2 v.w x.D A R s W wi x.k.length s)
  (hW:eV (x.k.map (·.1)) wi=W:=by rfl):Ct v.w x.D x.k Pre x.c W F P:=λA s R hA hk hp hR=>h.go hA hk wi (H A s R hA hk hp hR) hW
theorem Cn.G.ct{x:Cn}{v:WV}(h:x.G v){Y:Type}{Pre:Shared→Prop}{F:bS Y}{P:Y→Shared→Shared→Prop}(wi:List Nat)
  (H:∀A s R,cp A x.D→Kn (KB v.w) s x.k→Pre s→rL v.w F P W s R→(x.p s.heap.objs.size s.toks).ok2 v.w x.D A R s W wi x.k.length s)
  (hW:eV (x.k.map (·.1)) wi=W:=by rfl):Ct v.w x.D x.k Pre x.c W F P:=λA s R hA hk hp hR=>h.go hA hk wi (H A s R hA hk hp hR) hW
theorem Cn.G.ctP{x:Cn}{v:WV}(h:x.G v){Y:Type}{F:bS Y}{P:Y→Shared→Shared→Prop}
  (H:∀A s R,cp A x.D→rL v.w F P [] s R→(x.p s.heap.objs.size s.toks).ok2 v.w x.D A R s [] [] x.k.length s):Ct v.w x.D [] (λs=>Kn (KB v.w) s x.k) x.c [] F P:=λA s R hA j hp hR=>h.go hA hp [] (H A s R hA hR)
end
noncomputable def Ce(w:World):FuncData:=m6 (rp w.params)
set_option backward.match.sparseCases false in
noncomputable def cW(w:World)(L:Addr):Code:=match((aH (Ce w))[5]?:Option Stmt)with
 |some (Stmt.While t b o _)=>.whileLoop t b o (cR (Ce w) 108 L)
 |_=>.block [] default
noncomputable def oP(ht:Nat→Int×Tok)(vs:Nat→Value)(r:Int)(tr:Tok)(g:Int)(tg:Tok):Obj:=
 fQ ht [(iN,vs 0),(dR,vs 1),(eq,vs 2),(sS,vs 3),(sW,vs 4),(sV,vs 5),(sX,vs 6),(yz,.int r tr),(nM,.int g tg)] 9
noncomputable def bn(b:Addr):Obj:=⟨.ref 237,some b,.plain,#[]⟩
noncomputable def cu(ht:Nat→Int×Tok)(n:Int)(tn:Tok)(d:Int)(td:Tok):Obj:=bO ht [(dR,.int n tn),(eq,.int d td)] 2
noncomputable def aJ(a b:Addr)(ht:Nat→Int×Tok)(n:Int)(tn:Tok)(d:Int)(td:Tok):List (Addr×Obj):=[(a,bn b),(b,cu ht n tn d td)]
noncomputable def uk(L:Addr)(mk:Tok×Tok→Obj):bS (Tok×Tok):={res:=λj=>.ok .next,upd:=λx=>[(L,mk x)]}
structure QX where
 a:Addr
 b:Addr
 ht:Nat→Int×Tok
 tn:Tok
 td:Tok
noncomputable def ar(q:Rat):bS QX:={res:=λx=>.ok (.ret (.ref x.a)),add:=λx=>[(x.a,bn x.b),(x.b,cu x.ht q.num x.tn q.den x.td)]}
noncomputable def aW(r:Result):bS Unit:={res:=λj=>r}
noncomputable def aM(b:Bool):bS Unit:=aW (.ok (.ret (.bool b)))
noncomputable def aw(k:Int):bS Tok:={res:=λt=>.ok (.ret (.int k t))}
noncomputable def aO(xs:Array Value)(ep:Nat):Obj:={cls:=.type "tuple",dict:=none,data:=.seq xs ep,slots:=#[]}
noncomputable def ac(xs:Array Value)(ep:Nat):Obj:={cls:=.type "list",dict:=none,data:=.seq xs ep,slots:=#[]}
noncomputable def B7(v:WV)(L:Addr)(ht:Nat→Int×Tok)(vs:Nat→Value)(tr:Tok)(g:Int)(tg:Tok):Cn:=⟨40,[(L,oP ht vs 0 tr g tg)],cW v.w L,λzn zu=>.fin {js:=[0],cnt:=2,N:=11,orc:=(dz 2 1)} (.ok .next) (λE=>[(L,oP ht vs 0 tr g tg)])⟩
theorem uf v L ht vs tr g tg:(B7 v L ht vs tr g tg).G v:=Cn.k1 (f:=λv=>B7 v L ht vs tr g tg) (λj j j j j j=>by kernel_rfl) v
noncomputable def B6(v:WV)(L:Addr)(ht:Nat→Int×Tok)(vs:Nat→Value)(r:Int)(tr:Tok)(g:Int)(tg:Tok):Cn:=⟨40,[(L,oP ht vs r tr g tg)],cW v.w L,λzn zu=>.tail {ws:=[0],js:=[0],i:=4,u:=3,cnt:=8,N:=78,orc:=(dz 37 7293989981481108118002686678839849128040214067943476604995942525069122617473),ps:=[r≠(0:Int),r≠(0:Int)],wa:=[L]} (cW v.w L) (λE=>[(L,oP ht vs (g.fmod r) zu r tr)])⟩
theorem ue v L ht vs r tr g tg:(B6 v L ht vs r tr g tg).G v:=Cn.g1 (f:=λv=>B6 v L ht vs r tr g tg) (λj j j j j=>by kernel_rfl) v
noncomputable def Ho(v:WV)(n:Int)(tn:Tok)(d:Int)(td:Tok)(g:Int):Cn:=⟨80,[],.call (.ref 237) ⟨[.int n tn,.int d td],[]⟩,λzn zu=>.cut {js:=[2],ju:=[2],i:=21,u:=21,K:=6,cnt:=64,N:=472,orc:=(dz 219 7117064411660273498084157451683632293113283457384970022370478955129894756086631094476885600049827834727879705001919549688593706179187936430825203916926439255580404138602850639710281926423000176898005445341999165036613694220843312483859285482455152899183592124572311336504578992706306289511705733944143668108637182701214514097414211926829282067593214873799874014674742856030849227775852698296947682697939413442781144783960421614928819860181198347065857761345536),ps:=[d*(1:Int)≠(0:Int),d*(1:Int)≠(0:Int),IntMulOk d (1:Int),IntMulOk n (1:Int)]} (cW v.w (zn+2)) (λE=>[(zn+2,oP (aq (E.lk 2)) (jk (E.lk 2)) ((n*1).fmod (d*1)) (zu+18) (d*1) (zu+14))]) (λE=>uk (zn+2) λx=>oP (aq (E.lk 2)) (jk (E.lk 2)) 0 x.1 g x.2) λx n1 t1=>.fin {ws:=[0],js:=[1,0],u:=6,cnt:=4,N:=72,orc:=(dz 42 250619466050512998356203892721763579069123704127383696219459478399280790089469488284035),ps:=[g≠(0:Int)∧Builtin.divisionGoesByPylong (d*(1:Int)) g=false,g≠(0:Int)∧Builtin.divisionGoesByPylong (n*(1:Int)) g=false],wa:=[zn+0]} (.ok (.ret (.ref (zn+1)))) (λE=>[(zn+1,bn zn),(zn,cu (aq (E.lk 0)) ((n*1).fdiv g) t1 ((d*1).fdiv g) (t1+3))])⟩
theorem zr v n tn d td g:(Ho v n tn d td g).G v:=Cn.g1 (f:=λv=>Ho v n tn d td g) (λj j j j j=>by kernel_rfl) v
noncomputable def B4(v:WV)(n:Int)(tn:Tok):Cn:=⟨80,[],.call (.ref 237) ⟨[.int n tn],[]⟩,λzn zu=>.cut {js:=[2],ju:=[2],i:=21,u:=21,K:=6,cnt:=68,N:=477,orc:=(dz 219 7117064411660273498084157451683632293113283457384970022370478955129894756003367636919570407394425912108967020692997451710460067736635037627596327375425146750600790920495170845499554914284248617555373322125281522526805453920838004433309972875853973682148096525605313305639903670198429587978960782861711450462753755833638730395477302685979201862587670002405249002452791373360560932044823819330317223449146067084132632493841154669391064875993116371391502465630208),ps:=[(1:Int)*(1:Int)≠(0:Int),IntMulOk n (1:Int)]} (cW v.w (zn+2)) (λE=>[(zn+2,oP (aq (E.lk 2)) (jk (E.lk 2)) ((n*1).fmod 1) (zu+18) 1 (zu+14))]) (λE=>uk (zn+2) λx=>oP (aq (E.lk 2)) (jk (E.lk 2)) 0 x.1 1 x.2) λx n1 t1=>.fin {ws:=[0],js:=[1,0],u:=6,cnt:=6,N:=75,orc:=(dz 42 250619466050512998356203892721763579066200700852721890383052108733848224050157623198083),ps:=[(1:Int)≠(0:Int)∧Builtin.divisionGoesByPylong (n*(1:Int)) (1:Int)=false],wa:=[zn+0]} (.ok (.ret (.ref (zn+1)))) (λE=>[(zn+1,bn zn),(zn,cu (aq (E.lk 0)) ((n*1).fdiv 1) t1 1 (t1+3))])⟩
theorem uc v n tn:(B4 v n tn).G v:=Cn.g1 (f:=λv=>B4 v n tn) (λj j j j j=>by kernel_rfl) v
noncomputable def B5(v:WV)(a b:Addr)(ht:Nat→Int×Tok)(n:Int)(tn:Tok)(d:Int)(td:Tok)(k:Int)(tk:Tok)(q:Rat):Cn:=⟨120,aJ a b ht n tn d td,.call (.ref 178) ⟨[.ref a,.int k tk],[]⟩,λzn zu=>.cut {i:=6,u:=11,K:=1,cnt:=24,N:=199,orc:=(dz 91 278349505381516904967471917654493712123131344355727017311751985547995363468358339194637585186164238316879382519951226664308660355384833484619998793824134458704061765553258287691542347776),ps:=[IntMulOk d (1:Int),IntMulOk n k]} (.call (.ref 237) ⟨[.int (n*k) (zu+8),.int (d*1) (zu+10)],[]⟩) (λj=>[]) (λj=>ar q) λx n1 t1=>.fin {js:=[8,9],N:=6} (.ok (.ret (.ref x.a))) (λj=>(ar q).add x)⟩
theorem ud v a b ht n tn d td k tk q:(B5 v a b ht n tn d td k tk q).G v:=Cn.g1 (f:=λv=>B5 v a b ht n tn d td k tk q) (λj j j j j=>by kernel_rfl) v
noncomputable def B2(v:WV)(a b:Addr)(ht:Nat→Int×Tok)(n:Int)(tn:Tok)(d:Int)(td:Tok)(k:Int)(tk:Tok)(q:Rat):Cn:=⟨150,aJ a b ht n tn d td,.call (.ref 185) ⟨[.ref a,.int k tk],[]⟩,λzn zu=>.cut {js:=[0,1],i:=1,u:=2,K:=1,cnt:=1,N:=40,orc:=(dz 25 1393796574908163946345991833274295313809408)} (.call (.ref 178) ⟨[.ref a,.int k tk],[]⟩) (λj=>aJ a b ht n tn d td) (λj=>ar q) λx n1 t1=>.fin {js:=[3,4],N:=5} (.ok (.ret (.ref x.a))) (λj=>(ar q).add x)⟩
theorem tZ v a b ht n tn d td k tk q:(B2 v a b ht n tn d td k tk q).G v:=Cn.k1 (f:=λv=>B2 v a b ht n tn d td k tk q) (λj j j j j j=>by kernel_rfl) v
noncomputable def vU(v:WV)(a b:Addr)(ht:Nat→Int×Tok)(n:Int)(tn:Tok)(d:Int)(td:Tok)(a2 bb:Addr)(ht2:Nat→Int×Tok)(n2:Int)(tn2:Tok)(d2:Int)(td2:Tok)(q:Rat):Cn:=⟨120,[(a,bn b),(b,cu ht n tn d td),(a2,bn bb),(bb,cu ht2 n2 tn2 d2 td2)],.call (.ref 150) ⟨[.ref a,.ref a2],[]⟩,λzn zu=>.cut {i:=6,u:=14,K:=1,cnt:=21,N:=235,orc:=(dz 125 124827130848663234193587606701540540049616653774930058997365169055277963282680841021871306792618335196038912191759175061216714758428359707465827847803617684085965869135607972253485779024446573866458244701326624141096798113366573973166755448220490505786572800),ps:=[IntMulOk d d2,IntMulOk n2 d,IntMulOk n d2]} (.call (.ref 237) ⟨[.int (n*d2+n2*d) (zu+11),.int (d*d2) (zu+13)],[]⟩) (λj=>[]) (λj=>ar q) λx n1 t1=>.fin {js:=[10,11],N:=6} (.ok (.ret (.ref x.a))) (λj=>(ar q).add x)⟩
theorem qL v a b ht n tn d td a2 bb ht2 n2 tn2 d2 td2 q:(vU v a b ht n tn d td a2 bb ht2 n2 tn2 d2 td2 q).G v:=Cn.g1 (f:=λv=>vU v a b ht n tn d td a2 bb ht2 n2 tn2 d2 td2 q) (λj j j j j=>by kernel_rfl) v
noncomputable def vV(v:WV)(a b:Addr)(ht:Nat→Int×Tok)(n:Int)(tn:Tok)(d:Int)(td:Tok)(k:Int)(tk:Tok)(q:Rat):Cn:=⟨120,aJ a b ht n tn d td,.call (.ref 150) ⟨[.ref a,.int k tk],[]⟩,λzn zu=>.cut {i:=6,u:=14,K:=1,cnt:=27,N:=227,orc:=(dz 106 11291197362243541584393143300089380101651815858977297059316595819070656569893712312670828594843719506389975641055153437705723653173612436988558850128599182422816296986740511811454364813104165229884747926570661232820224),ps:=[IntMulOk d (1:Int),IntMulOk k d,IntMulOk n (1:Int)]} (.call (.ref 237) ⟨[.int (n*1+k*d) (zu+11),.int (d*1) (zu+13)],[]⟩) (λj=>[]) (λj=>ar q) λx n1 t1=>.fin {js:=[8,9],N:=6} (.ok (.ret (.ref x.a))) (λj=>(ar q).add x)⟩
theorem qM v a b ht n tn d td k tk q:(vV v a b ht n tn d td k tk q).G v:=Cn.g1 (f:=λv=>vV v a b ht n tn d td k tk q) (λj j j j j=>by kernel_rfl) v
noncomputable def B3(v:WV)(a b:Addr)(ht:Nat→Int×Tok)(n:Int)(tn:Tok)(d:Int)(td:Tok)(k:Int)(tk:Tok)(q:Rat):Cn:=⟨150,aJ a b ht n tn d td,.call (.ref 157) ⟨[.ref a,.int k tk],[]⟩,λzn zu=>.cut {js:=[0,1],i:=1,u:=2,K:=1,cnt:=1,N:=40,orc:=(dz 25 1393796574908163946345991833274295313809408)} (.call (.ref 150) ⟨[.ref a,.int k tk],[]⟩) (λj=>aJ a b ht n tn d td) (λj=>ar q) λx n1 t1=>.fin {js:=[3,4],N:=5} (.ok (.ret (.ref x.a))) (λj=>(ar q).add x)⟩
theorem ua v a b ht n tn d td k tk q:(B3 v a b ht n tn d td k tk q).G v:=Cn.k1 (f:=λv=>B3 v a b ht n tn d td k tk q) (λj j j j j j=>by kernel_rfl) v
noncomputable def vT(v:WV)(a b:Addr)(ht:Nat→Int×Tok)(n:Int)(tn:Tok)(d:Int)(td:Tok)(k:Int)(tk:Tok)(x:Bool):Cn:=⟨150,aJ a b ht n tn d td,.call (.ref 206) ⟨[.ref a,.int k tk],[]⟩,λzn zu=>.cut {js:=[5,7],i:=6,u:=8,K:=1,cnt:=26,N:=195,orc:=(dz 79 1396547965317560396532941379604758780494747608705043547786213268828927517760933643396008278133617994355405555072030735602261257816152122691849539102758737086028759040)} (.call (.builtin "tuple.__eq__") ⟨[.ref (zn+3),.ref (zn+5)],[]⟩) (λj=>[(zn+3,aO #[.int n tn,.int d td] 0),(zn+5,aO #[.int k tk,.int 1 (zu+7)] 0)]) (λj=>aM x) λj n1 t1=>.fin {N:=5} (.ok (.ret (.bool x))) (λj=>[])⟩
theorem qK v a b ht n tn d td k tk x:(vT v a b ht n tn d td k tk x).G v:=Cn.g2 cm (f:=λx v=>vT v a b ht n tn d td k tk x) (λj j j j j=>by kernel_rfl) x v
noncomputable def vS(v:WV)(a b:Addr)(ht:Nat→Int×Tok)(n:Int)(tn:Tok)(d:Int)(td:Tok)(k:Int)(tk:Tok)(x:Bool):Cn:=⟨150,aJ a b ht n tn d td,.call (.ref 227) ⟨[.ref a,.int k tk],[]⟩,λzn zu=>.cut {js:=[0,1],i:=1,u:=2,K:=1,cnt:=1,N:=31,orc:=(dz 15 1190032854490130989056)} (.call (.ref 220) ⟨[.ref a,.int k tk],[]⟩) (λj=>aJ a b ht n tn d td) (λj=>aM (x)) λj n1 t1=>.fin {N:=6} (.ok (.ret (.bool (!x)))) (λj=>[])⟩
theorem qJ v a b ht n tn d td k tk x:(vS v a b ht n tn d td k tk x).G v:=Cn.g2 cm (f:=λx v=>vS v a b ht n tn d td k tk x) (λj j j j j=>by kernel_rfl) x v
noncomputable def vR(v:WV)(a b:Addr)(ht:Nat→Int×Tok)(n:Int)(tn:Tok)(d:Int)(td:Tok)(a2 bb:Addr)(ht2:Nat→Int×Tok)(n2:Int)(tn2:Tok)(d2:Int)(td2:Tok)(x:Bool):Cn:=⟨150,[(a,bn b),(b,cu ht n tn d td),(a2,bn bb),(bb,cu ht2 n2 tn2 d2 td2)],.call (.ref 227) ⟨[.ref a,.ref a2],[]⟩,λzn zu=>.cut {js:=[0,1,2,3],i:=1,u:=2,K:=1,cnt:=1,N:=32,orc:=(dz 16 154667088788910843707392)} (.call (.ref 220) ⟨[.ref a,.ref a2],[]⟩) (λj=>[(a,bn b),(b,cu ht n tn d td),(a2,bn bb),(bb,cu ht2 n2 tn2 d2 td2)]) (λj=>aM (x)) λj n1 t1=>.fin {N:=6} (.ok (.ret (.bool (!x)))) (λj=>[])⟩
theorem qI v a b ht n tn d td a2 bb ht2 n2 tn2 d2 td2 x:(vR v a b ht n tn d td a2 bb ht2 n2 tn2 d2 td2 x).G v:=Cn.g2 cm (f:=λx v=>vR v a b ht n tn d td a2 bb ht2 n2 tn2 d2 td2 x) (λj j j j j=>by kernel_rfl) x v
noncomputable def qC(v:WV)(a b:Addr)(ht:Nat→Int×Tok)(n:Int)(tn:Tok)(d:Int)(td:Tok)(k:Int)(tk:Tok):Cn:=⟨120,aJ a b ht n tn d td,.call (.ref 213) ⟨[.ref a,.int k tk],[]⟩,λzn zu=>.fin {i:=6,u:=11,cnt:=24,N:=197,orc:=(dz 89 274100401438982768177955212002087266579467283888423416606432580442370311324797691830012207638971929443811518843586676620838547801244780848538335055928279112439403556941289470153212346368),ps:=[n*(1:Int)<k*d,IntMulOk k d,IntMulOk n (1:Int)]} (.ok (.ret (.bool true))) (λj=>[])⟩
theorem nS v a b ht n tn d td k tk:(qC v a b ht n tn d td k tk).G v:=Cn.g1 (f:=λv=>qC v a b ht n tn d td k tk) (λj j j j j=>by kernel_rfl) v
noncomputable def qG(v:WV)(a b:Addr)(ht:Nat→Int×Tok)(n:Int)(tn:Tok)(d:Int)(td:Tok)(k:Int)(tk:Tok):Cn:=⟨120,aJ a b ht n tn d td,.call (.ref 220) ⟨[.ref a,.int k tk],[]⟩,λzn zu=>.fin {i:=6,u:=11,cnt:=24,N:=197,orc:=(dz 89 274100401438982768177955212002087266579467283888423416606432580442370311324797691830012207638971929443811518843586676620838547801244780848538335055928279112439403556941289470153212346368),ps:=[n*(1:Int)≤k*d,IntMulOk k d,IntMulOk n (1:Int)]} (.ok (.ret (.bool true))) (λj=>[])⟩
theorem nW v a b ht n tn d td k tk:(qG v a b ht n tn d td k tk).G v:=Cn.g1 (f:=λv=>qG v a b ht n tn d td k tk) (λj j j j j=>by kernel_rfl) v
noncomputable def qE(v:WV)(a b:Addr)(ht:Nat→Int×Tok)(n:Int)(tn:Tok)(d:Int)(td:Tok)(a2 bb:Addr)(ht2:Nat→Int×Tok)(n2:Int)(tn2:Tok)(d2:Int)(td2:Tok):Cn:=⟨120,[(a,bn b),(b,cu ht n tn d td),(a2,bn bb),(bb,cu ht2 n2 tn2 d2 td2)],.call (.ref 220) ⟨[.ref a,.ref a2],[]⟩,λzn zu=>.fin {i:=6,u:=11,cnt:=18,N:=205,orc:=(dz 108 2984689068020366832791521705781136170407395026403284221277166860077000105181673721645157959244095713042206446608581221658968306907324207102324061568826684102477370671568658764464661537507451877060183231916147058590979610198016),ps:=[n*d2≤n2*d,IntMulOk n2 d,IntMulOk n d2]} (.ok (.ret (.bool true))) (λj=>[])⟩
theorem nU v a b ht n tn d td a2 bb ht2 n2 tn2 d2 td2:(qE v a b ht n tn d td a2 bb ht2 n2 tn2 d2 td2).G v:=Cn.g1 (f:=λv=>qE v a b ht n tn d td a2 bb ht2 n2 tn2 d2 td2) (λj j j j j=>by kernel_rfl) v
noncomputable def qD(v:WV)(a b:Addr)(ht:Nat→Int×Tok)(n:Int)(tn:Tok)(d:Int)(td:Tok)(k:Int)(tk:Tok):Cn:=⟨120,aJ a b ht n tn d td,.call (.ref 213) ⟨[.ref a,.int k tk],[]⟩,λzn zu=>.fin {i:=6,u:=11,cnt:=24,N:=197,orc:=(dz 89 546043053761167522707024373756951203772218960164663761284547979200976933973554040112463408798769323706282855540544885140695996422122966955116009285056771836634645167609010798297457147904),ps:=[k*d≤n*(1:Int),IntMulOk k d,IntMulOk n (1:Int)]} (.ok (.ret (.bool false))) (λj=>[])⟩
theorem nT v a b ht n tn d td k tk:(qD v a b ht n tn d td k tk).G v:=Cn.g1 (f:=λv=>qD v a b ht n tn d td k tk) (λj j j j j=>by kernel_rfl) v
noncomputable def qH(v:WV)(a b:Addr)(ht:Nat→Int×Tok)(n:Int)(tn:Tok)(d:Int)(td:Tok)(k:Int)(tk:Tok):Cn:=⟨120,aJ a b ht n tn d td,.call (.ref 220) ⟨[.ref a,.int k tk],[]⟩,λzn zu=>.fin {i:=6,u:=11,cnt:=24,N:=197,orc:=(dz 89 546043053761167522707024373756951203772218960164663761284547979200976933973554040112463408798769323706282855540544885140695996422122966955116009285056771836634645167609010798297457147904),ps:=[k*d<n*(1:Int),IntMulOk k d,IntMulOk n (1:Int)]} (.ok (.ret (.bool false))) (λj=>[])⟩
theorem nX v a b ht n tn d td k tk:(qH v a b ht n tn d td k tk).G v:=Cn.g1 (f:=λv=>qH v a b ht n tn d td k tk) (λj j j j j=>by kernel_rfl) v
noncomputable def qF(v:WV)(a b:Addr)(ht:Nat→Int×Tok)(n:Int)(tn:Tok)(d:Int)(td:Tok)(a2 bb:Addr)(ht2:Nat→Int×Tok)(n2:Int)(tn2:Tok)(d2:Int)(td2:Tok):Cn:=⟨120,[(a,bn b),(b,cu ht n tn d td),(a2,bn bb),(bb,cu ht2 n2 tn2 d2 td2)],.call (.ref 220) ⟨[.ref a,.ref a2],[]⟩,λzn zu=>.fin {i:=6,u:=11,cnt:=18,N:=205,orc:=(dz 108 5945882328786794702872430459104696036848904305876963975799589723133280151046497799882459611825590002345962646821309861654870521041759506768622522100139972102974149113991239303310229785553560971346649828889025455103760461283328),ps:=[n2*d<n*d2,IntMulOk n2 d,IntMulOk n d2]} (.ok (.ret (.bool false))) (λj=>[])⟩
theorem nV v a b ht n tn d td a2 bb ht2 n2 tn2 d2 td2:(qF v a b ht n tn d td a2 bb ht2 n2 tn2 d2 td2).G v:=Cn.g1 (f:=λv=>qF v a b ht n tn d td a2 bb ht2 n2 tn2 d2 td2) (λj j j j j=>by kernel_rfl) v
theorem cA{prog:Program}{w:World}{A:Around}{s:Shared}{T:String}{name:Str}{id:String}{B:Builtin}{self:Value}{rest:List Value}{S:PySem.Spec}{R:Result→Shared→Prop}(slot:Slot T name id)(hT:s.TypeIs self T)
  (entry:entryFor table id=some B) (args:argsOk id ⟨self::rest,[]⟩) (g:Meets (B ⟨self::rest,[]⟩) S) (h:S A R s):
  codeAny (model prog w) A (.call (.builtin id) ⟨self::rest,[]⟩) R s:=
 codeAny_call_builtin slot.plain entry (slot.check _ _ _ _ _ _ _ _ hT args (g prog w A R s h))
theorem uY(w:World)(x y:Addr)(n d k e:Int)(t1 t2 t3 t4:Tok)(ep1 ep2:Nat){r:Bool}(hr:r=decide (n=k∧d=e)):
  aS w 20 [(x,aO #[.int n t1,.int d t2] ep1),(y,aO #[.int k t3,.int e t4] ep2)] (.call (.builtin "tuple.__eq__") ⟨[.ref x,.ref y],[]⟩) [] (aM r):=by
 intro A s R hA hk _ hR
 have o1:=hk.obj (x,aO #[.int n t1,.int d t2] ep1) (by simp)
 have o2:=hk.obj (y,aO #[.int k t3,.int e t4] ep2) (by simp)
 refine cA F.slot_tuple_eq ⟨_,o1,rfl⟩ F.entry_tuple_eq (F.args_tuple_eq_2 _ _) (SeqAt.tuple_eqAt x y _ _ ep1 ep2 none none #[] #[] (λj=>match j with|0=>n==k|_=>d==e)) ⟨o1,o2,?_,?_⟩
 ·intro j h1 h2
  match j,h1 with
  |0,_=>exact(MeetsSeq.EqGives.int n k t1 t3).at _ _
  |1,_=>exact(MeetsSeq.EqGives.int d e t2 t4).at _ _
 ·have z:=hR () s (ah.refl s) hk.nil (by simp[aM,aW]) trivial
  have:(List.range 2).all (λj=>match j with|0=>n==k|_=>d==e)=((n==k)&&(d==e)):=by
   simp[List.range_succ]
  have e1:((List.range 2).all (λj=>match j with|0=>n==k|_=>d==e)&&true)=r:=by
   rw[this,Bool.and_true,hr]
   by_cases h1:n=k<;>by_cases h2:d=e<;>simp[h1,h2]
  show R (Except.ok (Flow.ret (Value.bool ((List.range 2).all (λj=>match j with|0=>n==k|_=>d==e)&&true)))) s
  rw[e1]
  exact z
theorem rR(v:WV)(L:Addr)(ht vs):∀(N:Nat) (r:Int) (tr:Tok) (g:Int) (tg:Tok),0≤r→0<g→r.toNat≤N→
  aS v.w 40 [(L,oP ht vs r tr g tg)] (cW v.w L) [L] (uk L λx=>oP ht vs 0 x.1 (Int.gcd g r) x.2):=by
 have base:∀(tr:Tok) (g:Int) (tg:Tok),0<g→aS v.w 40 [(L,oP ht vs 0 tr g tg)] (cW v.w L) [L] (uk L λx=>oP ht vs 0 x.1 (Int.gcd g 0) x.2):=by
  intro tr g tg hg
  rw[Int.gcd_zero_right,show(g.natAbs:Int)=g by omega]
  exact(uf v L ht vs tr g tg).ct [0] λA s R j j j hR=>kr hR λj=>(tr,tg)
 intro N
 induction N with
 |zero=>
  intro r tr g tg h0 hg hN
  obtain rfl:r=0:=by omega
  exact base tr g tg hg
 |succ N ih=>
  intro r tr g tg h0 hg hN
  by_cases hr:r=0
  ·subst hr
   exact base tr g tg hg
  ·have hr':0<r:=by omega
   have h1:0≤g.fmod r:=Int.fmod_nonneg_of_pos _ hr'
   have h2:g.fmod r<r:=Int.fmod_lt_of_pos _ hr'
   have e:Int.gcd r (g.fmod r)=Int.gcd g r:=by
    rw[Int.fmod_eq_emod_of_nonneg _ (Int.le_of_lt hr')]
    obtain⟨a,rfl⟩:=Int.eq_ofNat_of_zero_le (Int.le_of_lt hg)
    obtain⟨b,rfl⟩:=Int.eq_ofNat_of_zero_le h0
    rw[←Int.natCast_emod,Int.gcd_natCast_natCast,Int.gcd_natCast_natCast,Nat.gcd_comm a b,Nat.gcd_rec b a,Nat.gcd_comm]
   have z:=λt=>ih (g.fmod r) t r tr h1 hr' (by omega)
   rw[e]at z
   exact(ue v L ht vs r tr g tg).ct [0] λA s R hA j j hR=>kT hR hA [0] (λj=>z _) (hps:=⟨hr,hr,trivial⟩)
theorem az{a b:Int}(h1:-(2 ^ 64)<b)(h2:b<2 ^ 64):IntMulOk a b:=IntMulOk.of_right (intBits_le_64 h1 h2)
theorem nR{n d:Int}(hd:0<d):Int.gcd d (n.fmod d)=Int.gcd n d∧0<(Int.gcd n d:Int)∧(Int.gcd n d:Int)≤d:=by
 have h1:0<Int.gcd n d:=Int.gcd_pos_of_ne_zero_right _ (by omega)
 have h2:(Int.gcd n d:Int)∣d:=Int.gcd_dvd_right ..
 have h3:=Int.le_of_dvd hd h2
 refine⟨?_,by omega,h3⟩
 rw[Int.fmod_eq_emod_of_nonneg _ (Int.le_of_lt hd),Int.gcd_comm n d]
 have:=Int.gcd_add_mul_right_right d (n % d) (n / d)
 have e:n % d+(n / d)*d=n:=by have:=Int.emod_add_mul_ediv n d;rw[Int.mul_comm]at this;omega
 rw[e]at this
 exact this.symm
theorem l8{n d:Int}(hd:0<d):(Rat.divInt n d).num=n / (Int.gcd n d:Int)∧((Rat.divInt n d).den:Int)=d / (Int.gcd n d:Int):=by
 rw[Rat.num_divInt,Rat.den_divInt,if_neg (by omega),Int.sign_eq_one_of_pos hd,Int.one_mul,Int.gcd_comm]
 refine⟨rfl,?_⟩
 rw[Int.natCast_ediv,Int.natAbs_of_nonneg (Int.le_of_lt hd),Int.gcd_comm]
theorem fH(v:WV)(n:Int)(tn:Tok)(d:Int)(td:Tok){q:Rat}(hd:0<d)(hd2:d<2 ^ 29)(hq:q=Rat.divInt n d):aS v.w 80 [] (.call (.ref 237) ⟨[.int n tn,.int d td],[]⟩) [] (ar q):=by
 obtain⟨hg1,hg2,hg3⟩:=nR (n:=n) hd
 obtain⟨e1,e2⟩:=l8 (n:=n) hd
 rw[←hq]at e1 e2
 have hm0:0≤(n*1).fmod (d*1):=Int.fmod_nonneg_of_pos _ (by omega)
 have b1:(Int.gcd n d:Int)≠0:=by omega
 have b2:∀x,Builtin.divisionGoesByPylong x (Int.gcd n d:Int)=false:=λx=>PyProof.noPylong_small (by omega)
 have e3:Int.gcd (d*1) ((n*1).fmod (d*1))=Int.gcd n d:=by rw[Int.mul_one,Int.mul_one,hg1]
 have e5:∀a b ht t t',[(a,bn b),(b,cu ht ((n*1).fdiv (Int.gcd n d)) t ((d*1).fdiv (Int.gcd n d)) t')]=(ar q).upd ⟨a,b,ht,t,t'⟩++(ar q).add ⟨a,b,ht,t,t'⟩:=λa b ht t t'=>by
  rw[Int.mul_one,Int.mul_one,Int.fdiv_eq_ediv_of_nonneg _ (Int.le_of_lt hg2),Int.fdiv_eq_ediv_of_nonneg _ (Int.le_of_lt hg2),←e1,←e2];rfl
 exact(zr v n tn d td (Int.gcd n d)).ct [] λA s R j j j hR=>kc (P:=bP) (hps:=⟨by omega,by omega,az (by decide) (by decide),az (by decide) (by decide),trivial⟩) (λE=>e3▸rR v _ (aq (E.lk 2)) (jk (E.lk 2)) _ ((n*1).fmod (d*1)) _ (d*1) _ hm0 (by omega) (Nat.le_refl _)) λj j j j=>
  kr hR (λE=>⟨_,_,aq (E.lk 0),_,_⟩) (hps:=⟨⟨b1,b2 _⟩,⟨b1,b2 _⟩,trivial⟩) (hl:=λE=>e5 ..)
theorem iE(v:WV)(n:Int)(tn:Tok):aS v.w 80 [] (.call (.ref 237) ⟨[.int n tn],[]⟩) [] (ar (n:Rat)):=by
 have e0:(n*1).fmod 1=0:=by simp
 have e3:Int.gcd 1 ((n*1).fmod 1)=1:=by rw[e0];rfl
 have e5:∀a b ht t t',[(a,bn b),(b,cu ht ((n*1).fdiv 1) t 1 t')]=(ar n).upd ⟨a,b,ht,t,t'⟩++(ar n).add ⟨a,b,ht,t,t'⟩:=λa b ht t t'=>by
  rw[Int.mul_one,show n.fdiv 1=n by simp];rfl
 exact(uc v n tn).ct [] λA s R j j j hR=>kc (P:=bP) (hps:=⟨by decide,az (by decide) (by decide),trivial⟩) (λE=>e3▸rR v _ (aq (E.lk 2)) (jk (E.lk 2)) _ ((n*1).fmod 1) _ 1 _ (by omega) (by omega) (Nat.le_refl _)) λj j j j=>
  kr hR (λE=>⟨_,_,aq (E.lk 0),_,_⟩) (hps:=⟨⟨by decide,PyProof.noPylong_small (by decide)⟩,trivial⟩) (hl:=λE=>e5 ..)
theorem xp(v:WV)(a b:Addr)(ht:Nat→Int×Tok)(n:Int)(tn:Tok)(d:Int)(td:Tok)(k:Int)(tk:Tok){q:Rat}(hd:0<d)(hd2:d<2 ^ 29)(hk2:-(2 ^ 64)<k∧k<2 ^ 64)(hq:q=Rat.divInt (n*k) d):aS v.w 120 (aJ a b ht n tn d td) (.call (.ref 178) ⟨[.ref a,.int k tk],[]⟩) [] (ar q):=
 (ud v a b ht n tn d td k tk q).ct [] λA s R j j j hR=>kc (hps:=⟨az (by omega) (by omega),az hk2.1 hk2.2,trivial⟩) (λj=>fH v _ _ _ _ (by omega) (by omega) (by rw[hq,Int.mul_one])) λx j j j=>kr hR λj=>x
theorem FW(v:WV)(a b:Addr)(ht:Nat→Int×Tok)(n:Int)(tn:Tok)(d:Int)(td:Tok)(k:Int)(tk:Tok){q:Rat}(hd:0<d)(hd2:d<2 ^ 29)(hk2:-(2 ^ 64)<k∧k<2 ^ 64)(hq:q=Rat.divInt (n*k) d):aS v.w 150 (aJ a b ht n tn d td) (.call (.ref 185) ⟨[.ref a,.int k tk],[]⟩) [] (ar q):=
 (tZ v a b ht n tn d td k tk q).ct [] λA s R j j j hR=>kc (λj=>xp v a b ht n tn d td k tk hd hd2 hk2 hq) λx j j j=>kr hR λj=>x
theorem Ea(v:WV)(a b:Addr)(ht:Nat→Int×Tok)(n:Int)(tn:Tok)(d:Int)(td:Tok)(a2 bb:Addr)(ht2:Nat→Int×Tok)(n2:Int)(tn2:Tok)(d2:Int)(td2:Tok){q:Rat}(hd:0<d)(hd2:d<2 ^ 14)(hd3:0<d2)(hd4:d2<2 ^ 14)(hq:q=Rat.divInt (n*d2+n2*d) (d*d2)):aS v.w 120 ([(a,bn b),(b,cu ht n tn d td),(a2,bn bb),(bb,cu ht2 n2 tn2 d2 td2)]) (.call (.ref 150) ⟨[.ref a,.ref a2],[]⟩) [] (ar q):=
 (qL v a b ht n tn d td a2 bb ht2 n2 tn2 d2 td2 q).ct [] λA s R j j j hR=>kc (hps:=⟨az (by omega) (by omega),az (by omega) (by omega),az (by omega) (by omega),trivial⟩) (λj=>fH v _ _ _ _ (Int.mul_pos hd hd3) (by have:=Int.mul_le_mul (Int.le_of_lt hd2) (Int.le_of_lt hd4) (Int.le_of_lt hd3) (by omega);omega) hq) λx j j j=>kr hR λj=>x
theorem xu(v:WV)(a b:Addr)(ht:Nat→Int×Tok)(n:Int)(tn:Tok)(d:Int)(td:Tok)(k:Int)(tk:Tok){q:Rat}(hd:0<d)(hd2:d<2 ^ 14)(hq:q=Rat.divInt (n+k*d) d):aS v.w 120 (aJ a b ht n tn d td) (.call (.ref 150) ⟨[.ref a,.int k tk],[]⟩) [] (ar q):=
 (qM v a b ht n tn d td k tk q).ct [] λA s R j j j hR=>kc (hps:=⟨az (by omega) (by omega),az (by omega) (by omega),az (by omega) (by omega),trivial⟩) (λj=>fH v _ _ _ _ (by omega) (by omega) (by rw[hq,Int.mul_one,Int.mul_one])) λx j j j=>kr hR λj=>x
theorem FX(v:WV)(a b:Addr)(ht:Nat→Int×Tok)(n:Int)(tn:Tok)(d:Int)(td:Tok)(k:Int)(tk:Tok){q:Rat}(hd:0<d)(hd2:d<2 ^ 14)(hq:q=Rat.divInt (n+k*d) d):aS v.w 150 (aJ a b ht n tn d td) (.call (.ref 157) ⟨[.ref a,.int k tk],[]⟩) [] (ar q):=
 (ua v a b ht n tn d td k tk q).ct [] λA s R j j j hR=>kc (λj=>xu v a b ht n tn d td k tk hd hd2 hq) λx j j j=>kr hR λj=>x
theorem DJ(v:WV)(a b:Addr)(ht:Nat→Int×Tok)(n:Int)(tn:Tok)(d:Int)(td:Tok)(k:Int)(tk:Tok){x:Bool}(hd:0<d)(hd2:d<2 ^ 14)(hx:x=decide (n*1<k*d)):aS v.w 120 (aJ a b ht n tn d td) (.call (.ref 213) ⟨[.ref a,.int k tk],[]⟩) [] (aM x):=by
 cases x with
 |true=>
  exact(nS v a b ht n tn d td k tk).ct [] λA s R j j j hR=>kr hR (hps:=⟨of_decide_eq_true hx.symm,az (by omega) (by omega),az (by omega) (by omega),trivial⟩) λj=>()
 |false=>
  exact(nT v a b ht n tn d td k tk).ct [] λA s R j j j hR=>kr hR (hps:=⟨by have:=of_decide_eq_false hx.symm;omega,az (by omega) (by omega),az (by omega) (by omega),trivial⟩) λj=>()
theorem DN(v:WV)(a b:Addr)(ht:Nat→Int×Tok)(n:Int)(tn:Tok)(d:Int)(td:Tok)(k:Int)(tk:Tok){x:Bool}(hd:0<d)(hd2:d<2 ^ 14)(hx:x=decide (n*1≤k*d)):aS v.w 120 (aJ a b ht n tn d td) (.call (.ref 220) ⟨[.ref a,.int k tk],[]⟩) [] (aM x):=by
 cases x with
 |true=>
  exact(nW v a b ht n tn d td k tk).ct [] λA s R j j j hR=>kr hR (hps:=⟨of_decide_eq_true hx.symm,az (by omega) (by omega),az (by omega) (by omega),trivial⟩) λj=>()
 |false=>
  exact(nX v a b ht n tn d td k tk).ct [] λA s R j j j hR=>kr hR (hps:=⟨by have:=of_decide_eq_false hx.symm;omega,az (by omega) (by omega),az (by omega) (by omega),trivial⟩) λj=>()
theorem DM(v:WV)(a b:Addr)(ht:Nat→Int×Tok)(n:Int)(tn:Tok)(d:Int)(td:Tok)(a2 bb:Addr)(ht2:Nat→Int×Tok)(n2:Int)(tn2:Tok)(d2:Int)(td2:Tok){x:Bool}(hd:0<d)(hd2:d<2 ^ 14)(hd3:0<d2)(hd4:d2<2 ^ 14)(hx:x=decide (n*d2≤n2*d)):aS v.w 120 ([(a,bn b),(b,cu ht n tn d td),(a2,bn bb),(bb,cu ht2 n2 tn2 d2 td2)]) (.call (.ref 220) ⟨[.ref a,.ref a2],[]⟩) [] (aM x):=by
 cases x with
 |true=>
  exact(nU v a b ht n tn d td a2 bb ht2 n2 tn2 d2 td2).ct [] λA s R j j j hR=>kr hR (hps:=⟨of_decide_eq_true hx.symm,az (by omega) (by omega),az (by omega) (by omega),trivial⟩) λj=>()
 |false=>
  exact(nV v a b ht n tn d td a2 bb ht2 n2 tn2 d2 td2).ct [] λA s R j j j hR=>kr hR (hps:=⟨by have:=of_decide_eq_false hx.symm;omega,az (by omega) (by omega),az (by omega) (by omega),trivial⟩) λj=>()
theorem DS(v:WV)(a b:Addr)(ht:Nat→Int×Tok)(n:Int)(tn:Tok)(d:Int)(td:Tok)(k:Int)(tk:Tok){x:Bool}(hd:0<d)(hd2:d<2 ^ 14)(hx:x=decide (k*d<n*1)):aS v.w 150 (aJ a b ht n tn d td) (.call (.ref 227) ⟨[.ref a,.int k tk],[]⟩) [] (aM x):=by
 have z:=(qJ v a b ht n tn d td k tk (!x)).ct (Pre:=aK) (F:=aM (!!x)) [] λA s R j j j hR=>kc (λj=>DN v a b ht n tn d td k tk (x:= !x) hd hd2 (by rw[hx,←decide_not];exact decide_eq_decide.mpr Int.not_lt)) λj j j j=>kr (P:=bP) hR λj=>()
 rw[Bool.not_not]at z;exact z
theorem DQ(v:WV)(a b:Addr)(ht:Nat→Int×Tok)(n:Int)(tn:Tok)(d:Int)(td:Tok)(a2 bb:Addr)(ht2:Nat→Int×Tok)(n2:Int)(tn2:Tok)(d2:Int)(td2:Tok){x:Bool}(hd:0<d)(hd2:d<2 ^ 14)(hd3:0<d2)(hd4:d2<2 ^ 14)(hx:x=decide (n2*d<n*d2)):aS v.w 150 ([(a,bn b),(b,cu ht n tn d td),(a2,bn bb),(bb,cu ht2 n2 tn2 d2 td2)]) (.call (.ref 227) ⟨[.ref a,.ref a2],[]⟩) [] (aM x):=by
 have z:=(qI v a b ht n tn d td a2 bb ht2 n2 tn2 d2 td2 (!x)).ct (Pre:=aK) (F:=aM (!!x)) [] λA s R j j j hR=>kc (λj=>DM v a b ht n tn d td a2 bb ht2 n2 tn2 d2 td2 (x:= !x) hd hd2 hd3 hd4 (by rw[hx,←decide_not];exact decide_eq_decide.mpr Int.not_lt)) λj j j j=>kr (P:=bP) hR λj=>()
 rw[Bool.not_not]at z;exact z
theorem rV(v:WV)(a b:Addr)(ht:Nat→Int×Tok)(n:Int)(tn:Tok)(d:Int)(td:Tok)(k:Int)(tk:Tok){x:Bool}(hx:x=decide (n=k∧d=1)):aS v.w 150 (aJ a b ht n tn d td) (.call (.ref 206) ⟨[.ref a,.int k tk],[]⟩) [] (aM x):=
 (qK v a b ht n tn d td k tk x).ct [] λA s R j j j hR=>kc (λj=>uY _ _ _ _ _ _ _ _ _ _ _ _ _ hx) λj j j j=>kr hR λj=>()
theorem Kn.upd1{B:X.KT}{s s':Shared}{I:Addr}{o o':Obj}{rest:List (Addr×Obj)}(k:Kn B s ((I,o)::rest))(F:ah s s' [I])(h:s'.heap.get? I=some o'):Kn B s' [(I,o')]:=by
 refine⟨λx y e=>F.keep x y (k.base x y e) λhm=>?_,λp hp=>?_,λp hp=>?_,by simp,Nat.lt_of_lt_of_le k.toks F.toks⟩
 ·rw[List.mem_singleton]at hm
  subst hm
  have:=k.off (x,o) (List.mem_cons_self ..)
  rw[this]at e;cases e
 ·rw[List.mem_singleton]at hp;subst hp;exact h
 ·rw[List.mem_singleton]at hp;subst hp;exact k.off (I,o) (List.mem_cons_self ..)
theorem bM{B:X.KT}{s:Shared}{kn:List (Addr×Obj)}(k:Kn B s kn){a:Addr}(h:s.heap.objs.size≤a):B.get a=none:=by
 cases e:B.get a with
 |none=>rfl
 |some o=>exact absurd (Heap.lt_size (k.base a o e)) (Nat.not_lt.mpr h)
noncomputable def aa(l:List (Int×Tok)):Array Value:=(l.map λp=>Value.int p.1 p.2).toArray
theorem aF:Slot "set_iterator" "__next__" "set_iterator.__next__":=
 .of (owner:="set_iterator") (n:="__next__") (by rw[typeLookup_type,builtinLookup_eq_fast];kernel_rfl) (by decide+kernel) (by decide+kernel) (by decide+kernel)
  (by first|exact .inl (by decide+kernel)|exact .inr (by decide+kernel)) (by rw[isSubtype_type];kernel_rfl)
theorem bD:entryFor table "set_iterator.__next__"=some Builtin.«set_iterator.__next__»:=entryFor_of_tree (by kernel_rfl)
theorem bN(a:Value):argsOk "set_iterator.__next__" ⟨[a],[]⟩:=by
 unfold argsOk;kernel_rfl
noncomputable def bm(s:Value)(n ep slot g:Nat):Obj:={cls:=.type "set_iterator",data:=.fields #[.int slot 0,.int g 0,s,.int n 0,.int ep 0]}
noncomputable def nx(byText:Bool)(f:Nat→Nat)(es:Array (Int×Value))(t:SetTable)(slot g:Nat):Option (Value×Nat):=
 match byText with
 |true=>((pickOrder f es)[g]?).map λe=>(e.2,slot)
 |false=>match es[SetTable.below t.place slot]?,t.place[SetTable.below t.place slot]? with
  |some (_,x),some j=>some (x,j+1)
  |_,_=>none
section
variable {prog:Program} {w:World} {A:Around} {E:Value→Shared→Prop} {s:Shared}
theorem cE{a:Addr}{o:Obj}{es:Array (Int×Value)}{ep:Nat}{t:SetTable}{slot g:Nat}{Q:Option (Value×Nat)→Shared→Prop}(ho:s.heap.get? a=some o)(hd:o.data=.set es ep t)
  (hfit:t.fits es.size=true) (hpl:t.plain=true) (hled:w.params.followText "set-order"=false→t.led=true)
  (h:Q (nx (w.params.followText "set-order") (w.params.setOrder a ep) es t slot g) s):wpAny (model prog w) A (setNext a slot g ep) Q E s:=by
 have st:∀{Q:Array (Int×Value)×Nat×SetTable→Shared→Prop},Q (es,ep,t) s→wpAny (model prog w) A (setState a) Q E s:=λhq=>by
  exact wpAny_setState_of ho hd hfit hq
 unfold setNext
 refine wpAny_bind (st ?_)
 have byT:∀{Q:Bool→Shared→Prop},Q (w.params.followText "set-order") s→wpAny (model prog w) A setsByText Q E s:=λhq=>by
  unfold setsByText
  exact wpAny_bind (wpAny_askSetting (wpAny_pure hq))
 refine wpAny_bind (byT ?_)
 unfold nx at h
 cases hb:w.params.followText "set-order" with
 |true=>
  rw[hb]at h
  show wpAny _ _ (if(ep !=ep)=true then _ else _) _ _ _
  rw[if_neg (by simp)]
  refine wpAny_bind ?_
  unfold setWalk
  refine wpAny_bind (st (wpAny_bind (byT ?_)))
  rw[hb]
  exact wpAny_bind (wpAny_askSetting (wpAny_pure (wpAny_pure h)))
 |false=>
  rw[hb]at h
  have hl:=hled hb
  obtain⟨mask,place,dummies,fin,led,moves,plain⟩:=t
  subst hpl
  subst hl
  show wpAny _ _ (if(false:Bool)=true then _ else _) _ _ _
  rw[if_neg (by simp)]
  refine wpAny_bind (wpAny_pure ?_)
  exact wpAny_pure h
end
theorem cF{h:Heap}{a:Addr}{cls:Value}{vs:Array Value}(i:Nat)(x:Value)(ho:h.get? a=some {cls:=cls,data:=.fields vs}):
  (h.update a (Obj.mapFields (·.setIfInBounds i x))).get? a=some {cls:=cls,data:=.fields (vs.setIfInBounds i x)}:=Heap.get?_update_self _ ho rfl
noncomputable def eO(n:Nat):Obj:={cls:=.type "StopIteration",data:=.fields #[.ref n,.none,.none,.none,.bool false,.none]}
noncomputable def an(I:Addr)(v:Value)(o:Obj):bS Unit:={res:=λj=>.ok (.ret v),upd:=λj=>[(I,o)]}
noncomputable def aE(I:Addr)(o:Obj):bS Nat:={res:=λn=>.error (.ref (n+1)),upd:=λj=>[(I,o)],add:=λn=>[(n,aO #[] 0),(n+1,eO n)]}
theorem mZ{s:Shared}{I:Addr}{h':Heap}(sz:h'.objs.size=s.heap.objs.size)(keep:∀b o,b≠I→s.heap.get? b=some o→h'.get? b=some o):ah s {s with heap:=h'} [I]:=
 ⟨λh=>h,rfl,rfl,by show s.heap.objs.size≤h'.objs.size;omega,Nat.le_refl _,λb o e hb=>keep b o (by simpa using hb) e⟩
theorem Af(w:World){I a:Addr}{so:Obj}{es:Array (Int×Value)}{ep:Nat}{t:SetTable}{slot g:Nat}{v:Value}{slot':Nat}(hd:so.data=.set es ep t)
  (hfit:t.fits es.size=true) (hpl:t.plain=true) (hled:w.params.followText "set-order"=false→t.led=true)
  (hn:nx (w.params.followText "set-order") (w.params.setOrder a ep) es t slot g=some (v,slot')):
  aS w 20 [(I,bm (.ref a) es.size ep slot g),(a,so)] (.call (.builtin "set_iterator.__next__") ⟨[.ref I],[]⟩) [I] (an I v (bm (.ref a) es.size ep slot' (g+1))):=by
 intro A s R hA hk _ hR
 have o1:s.heap.get? I=some (bm (.ref a) es.size ep slot g):=hk.obj (I,_) (List.mem_cons_self ..)
 have o2:s.heap.get? a=some so:=hk.obj (a,so) (List.mem_cons_of_mem _ (List.mem_cons_self ..))
 refine codeAny_call_builtin aF.plain bD (aF.check _ _ _ _ _ _ _ _ ⟨_,o1,rfl⟩ (bN _) ?_)
 show wpAny _ _ (fieldsOf (.ref I)>>=_) _ _ s
 refine wpAny_bind (wpAny_fieldsOf o1 rfl ?_)
 show wpAny _ _ (setEntries a>>=_) _ _ s
 refine wpAny_bind (wpAny_setEntries_of o2 hd hfit ?_)
 show wpAny _ _ (if((es.size:Int)!=(es.size:Int))=true then _ else _) _ _ _
 rw[if_neg (by simp)]
 show wpAny _ _ (setNext a ((slot:Int).toNat) ((g:Int).toNat) ((ep:Int).toNat)>>=_) _ _ _
 simp only[Int.toNat_natCast]
 refine wpAny_bind (cE o2 hd hfit hpl hled ?_)
 rw[hn]
 refine wpAny_bind (wpAny_setField o1 rfl (by simp) ?_)
 have o3:=cF 0 (rawInt slot') o1
 refine wpAny_bind (wpAny_setField (s:={s with heap:=_}) o3 rfl (by simp) ?_)
 have o4:=cF 1 (rawInt ((g:Int)+1)) o3
 have Fr:=mZ (s:=s) (I:=I) (h':=(s.heap.update I (Obj.mapFields (·.setIfInBounds 0 (rawInt slot')))).update I (Obj.mapFields (·.setIfInBounds 1 (rawInt ((g:Int)+1))))) (by rw[Heap.size_update,Heap.size_update]) λb o hb e=>by rw[Heap.get?_update_ne _ _ _ _ hb,Heap.get?_update_ne _ _ _ _ hb];exact e
 exact wpAny_pure (hR () _ Fr (hk.upd1 Fr o4) (by simp[an]) trivial)
theorem z7(w:World){I a:Addr}{so:Obj}{es:Array (Int×Value)}{ep:Nat}{t:SetTable}{slot g:Nat}(hd:so.data=.set es ep t)
  (hfit:t.fits es.size=true) (hpl:t.plain=true) (hled:w.params.followText "set-order"=false→t.led=true)
  (hn:nx (w.params.followText "set-order") (w.params.setOrder a ep) es t slot g=none):
  aS w 20 [(I,bm (.ref a) es.size ep slot g),(a,so)] (.call (.builtin "set_iterator.__next__") ⟨[.ref I],[]⟩) [I] (aE I (bm .none es.size ep slot g)):=by
 intro A s R hA hk _ hR
 have o1:s.heap.get? I=some (bm (.ref a) es.size ep slot g):=hk.obj (I,_) (List.mem_cons_self ..)
 have o2:s.heap.get? a=some so:=hk.obj (a,so) (List.mem_cons_of_mem _ (List.mem_cons_self ..))
 refine codeAny_call_builtin aF.plain bD (aF.check _ _ _ _ _ _ _ _ ⟨_,o1,rfl⟩ (bN _) ?_)
 show wpAny _ _ (fieldsOf (.ref I)>>=_) _ _ s
 refine wpAny_bind (wpAny_fieldsOf o1 rfl ?_)
 show wpAny _ _ (setEntries a>>=_) _ _ s
 refine wpAny_bind (wpAny_setEntries_of o2 hd hfit ?_)
 show wpAny _ _ (if((es.size:Int)!=(es.size:Int))=true then _ else _) _ _ _
 rw[if_neg (by simp)]
 show wpAny _ _ (setNext a ((slot:Int).toNat) ((g:Int).toNat) ((ep:Int).toNat)>>=_) _ _ _
 simp only[Int.toNat_natCast]
 refine wpAny_bind (cE o2 hd hfit hpl hled ?_)
 rw[hn]
 refine wpAny_bind (wpAny_setField o1 rfl (by simp) ?_)
 have o3:=cF 2 .none o1
 show wpAny _ _ (newExc (.type "StopIteration") []>>=_) _ _ _
 refine wpAny_bind ?_
 simp only[newExc,newTuple]
 refine wpAny_bind (wpAny_newObj_type ?_ (by size_fits))
 refine wpAny_bind (m:=firstArgMember _ _) (wpAny_of_eq (a:=Value.none) (by first|rfl|(simp only[firstArgMember];rfl)) ?_)
 refine wpAny_newObj_type ?_ (by size_fits)
 simp only[raiseNew]
 refine wpAny_bind (wpAny_handled ?_)
 rw[show A.in1.handled=none from hA.hd]
 refine wpAny_bind (wpAny_pure (wpAny_throw ?_))
 have n0:(s.heap.update I (Obj.mapFields (·.setIfInBounds 2 .none))).objs.size=s.heap.objs.size:=Heap.size_update ..
 have g1:(Heap.push (Heap.push (s.heap.update I (Obj.mapFields (·.setIfInBounds 2 .none))) (aO #[] 0)) (eO s.heap.objs.size)).get? I=some (bm .none es.size ep slot g):=Heap.get?_push_of_some _ (Heap.get?_push_of_some _ o3)
 have g2:(Heap.push (Heap.push (s.heap.update I (Obj.mapFields (·.setIfInBounds 2 .none))) (aO #[] 0)) (eO s.heap.objs.size)).get? s.heap.objs.size=some (aO #[] 0):=by
  refine Heap.get?_push_of_some _ ?_
  have:=Heap.get?_push_size (s.heap.update I (Obj.mapFields (·.setIfInBounds 2 .none))) (o:=aO #[] 0) rfl
  rw[n0]at this
  exact this
 have g3:(Heap.push (Heap.push (s.heap.update I (Obj.mapFields (·.setIfInBounds 2 .none))) (aO #[] 0)) (eO s.heap.objs.size)).get? (s.heap.objs.size+1)=some (eO s.heap.objs.size):=by
  have:=Heap.get?_push_size (Heap.push (s.heap.update I (Obj.mapFields (·.setIfInBounds 2 .none))) (aO #[] 0)) (o:=eO s.heap.objs.size) rfl
  rw[Heap.size_push,n0]at this
  exact this
 have Fr:ah s {s with heap:=Heap.push (Heap.push (s.heap.update I (Obj.mapFields (·.setIfInBounds 2 .none))) (aO #[] 0)) (eO s.heap.objs.size)} [I]:=by
  refine⟨λh=>h,rfl,rfl,?_,Nat.le_refl _,λb o e hb=>?_⟩
  ·show s.heap.objs.size≤(Heap.push (Heap.push _ _) _).objs.size
   rw[Heap.size_push,Heap.size_push,n0];omega
  ·have hb':b≠I:=by simpa using hb
   refine Heap.get?_push_of_some _ (Heap.get?_push_of_some _ ?_)
   rw[Heap.get?_update_ne _ _ _ _ hb'];exact e
 have hI:I<s.heap.objs.size:=Heap.lt_size o1
 have K1:=hk.upd1 Fr g1
 have z:=hR s.heap.objs.size _ Fr ⟨K1.base,λp hp=>by
  simp only[aE,List.cons_append,List.nil_append,List.mem_cons,List.not_mem_nil,or_false]at hp
  rcases hp with rfl|rfl|rfl
  ·exact g1
  ·exact g2
  ·exact g3,λp hp=>by
  simp only[aE,List.cons_append,List.nil_append,List.mem_cons,List.not_mem_nil,or_false]at hp
  rcases hp with rfl|rfl|rfl
  ·exact hk.off (I,bm (.ref a) es.size ep slot g) (List.mem_cons_self ..)
  ·exact bM hk (Nat.le_refl _)
  ·exact bM hk (Nat.le_succ _),by
  simp only[aE,List.cons_append,List.nil_append,List.map_cons,List.map_nil,List.nodup_cons,List.mem_cons,List.not_mem_nil,or_false,not_or,List.nodup_nil,and_true,not_false_eq_true]
  exact⟨⟨Nat.ne_of_lt hI,Nat.ne_of_lt (Nat.lt_succ_of_lt hI)⟩,Nat.ne_of_lt (Nat.lt_succ_self _)⟩,K1.toks⟩ (by simp[aE]) trivial
 have e9:(Heap.push (s.heap.update I (Obj.mapFields (·.setIfInBounds 2 .none))) (aO #[] 0)).objs.size=s.heap.objs.size+1:=by rw[Heap.size_push,n0]
 show R (Except.error (Value.ref (Heap.push (s.heap.update I (Obj.mapFields (·.setIfInBounds 2 .none))) (aO #[] 0)).objs.size)) {s with heap:=Heap.push (Heap.push (s.heap.update I (Obj.mapFields (·.setIfInBounds 2 .none))) (aO #[] 0)) (eO (s.heap.update I (Obj.mapFields (·.setIfInBounds 2 .none))).objs.size)}
 rw[e9,n0]
 exact z
theorem jc{w:World}{D:Nat}{kn:List (Addr×Obj)}{c:Code}{r:Result}(h:∀A s R,cp A D→Kn (KB w) s kn→R r s→codeAny (model pr w) A c R s):aS w D kn c [] (aW r):=
 λA s R hA hk j hR=>h A s R hA hk (hR () s (ah.refl s) hk.nil (by simp[aW]) trivial)
theorem bG(w:World)(a:Addr)(l:List (Int×Tok))(ep:Nat)(k:Int)(t:Tok){r:Bool}(hr:r=decide (k∈l.map (·.1))):
  aS w 20 [(a,ac (aa l) ep)] (.call (.builtin "list.__contains__") ⟨[.ref a,.int k t],[]⟩) [] (aM r):=by
 refine jc λA s R hA hk hR=>?_
 have o1:=hk.obj (a,ac (aa l) ep) (by simp)
 refine cA F.slot_list_contains ⟨_,o1,rfl⟩ F.entry_list_contains (F.args_list_contains_2 _ _) (SeqAt.list_containsAt a _ ep none #[] (.int k t) (λy=>match y with|.int i _=>i==k|_=>false)) ⟨o1,?_,?_⟩
 ·intro y hy
  obtain⟨p,_,rfl⟩:∃p∈l,Value.int p.1 p.2=y:=by simpa [aa]using hy
  exact(MeetsSeq.EqGives.int _ _ _ _).at _ _
 ·refine Eq.mp (congrArg (λx=>R x s) ?_) hR
  subst hr
  congr 3
  rw[Bool.eq_iff_iff]
  simp[aa,List.any_eq_true]
noncomputable def bu(l:Addr)(o:Obj):bS Unit:={res:=λj=>.ok (.ret .none),upd:=λj=>[(l,o)]}
theorem bB(w:World){l:Addr}{items:Array Value}{ep:Nat}{k:Int}{t:Tok}{x:Value}(h0:0≤k)(hk:k<2 ^ 63)(hx:items[k.toNat]?=some x):
  aS w 20 [(l,ac items ep)] (.call (.builtin "list.__getitem__") ⟨[.ref l,.int k t],[]⟩) [] (aW (.ok (.ret x))):=by
 refine jc λA s R hA hkn hR=>?_
 have ho:s.heap.get? l=some (ac items ep):=hkn.obj (l,ac items ep) (List.mem_cons_self ..)
 refine codeAny_call_builtin slot_list_getitem.plain entry_list_getitem (slot_list_getitem.check _ _ _ _ _ _ _ _ ⟨_,ho,rfl⟩ (args_list_getitem _ _) ?_)
 show wpAny _ _ (Builtin.List.listSubscript? (.int k t)>>=_) _ _ s
 refine wpAny_bind (wpAny_listSubscript_int (fitsIndex_of h0 hk) ?_)
 clear hk
 obtain⟨j,rfl⟩:=Int.eq_ofNat_of_zero_le h0
 show wpAny _ _ ((seqItemAt l j>>=λr=>pure (r.map (j,·)))>>=_) _ _ s
 refine wpAny_bind (wpAny_bind (wpAny_seqItemAt ho rfl (wpAny_pure ?_)))
 have hx':items[j]?=some x:=hx
 rw[hx']
 exact wpAny_pure hR
theorem ee(w:World){l:Addr}{items:Array Value}{ep:Nat}{k:Int}{t:Tok}{v:Value}(h0:0≤k)(hk:k<2 ^ 63)(hx:k.toNat<items.size):
  aS w 20 [(l,ac items ep)] (.call (.builtin "list.__setitem__") ⟨[.ref l,.int k t,v],[]⟩) [l] (bu l (ac (items.setIfInBounds k.toNat v) ep)):=by
 intro A s R hA hkn _ hR
 have ho:s.heap.get? l=some (ac items ep):=hkn.obj (l,ac items ep) (List.mem_cons_self ..)
 refine codeAny_call_builtin slot_list_setitem.plain entry_list_setitem (slot_list_setitem.check _ _ _ _ _ _ _ _ ⟨_,ho,rfl⟩ (args_list_setitem _ _ _) ?_)
 show wpAny _ _ (Builtin.List.listSubscript? (.int k t)>>=_) _ _ s
 refine wpAny_bind (wpAny_listSubscript_int (fitsIndex_of h0 hk) ?_)
 clear hk
 obtain⟨j,rfl⟩:=Int.eq_ofNat_of_zero_le h0
 show wpAny _ _ ((seqItemAt l j>>=λr=>pure (r.map (j,·)))>>=_) _ _ s
 refine wpAny_bind (wpAny_bind (wpAny_seqItemAt ho rfl (wpAny_pure ?_)))
 have hx':items[j]?=some items[j]:=Array.getElem?_eq_getElem hx
 rw[hx']
 show wpAny _ _ (setSeqItemAt l j v>>=_) _ _ s
 refine wpAny_bind (wpAny_setSeqItemAt ho rfl ?_)
 have Fr:=mZ (s:=s) (I:=l) (h':=s.heap.update l (Obj.mapSeq (·.setIfInBounds j v))) (Heap.size_update ..) λb o hb e=>by rw[Heap.get?_update_ne _ _ _ _ hb];exact e
 refine wpAny_pure (hR () _ Fr (hkn.upd1 Fr ?_) (by simp[bu]) trivial)
 refine(Heap.get?_update_self (Obj.mapSeq (·.setIfInBounds j v)) ho rfl).trans ?_
 simp[Obj.mapSeq,ac]
noncomputable def oh(w:World):FuncData:=m6 (rm w.params)
noncomputable def nZ(w:World):FuncData:=m6 (rl w.params)
set_option backward.match.sparseCases false in
noncomputable def vN(b:List Stmt)(I:Addr)(e:Env):Code:=match(b[1]?:Option Stmt)with
 |some (Stmt.For _ _ body _ _)=>match(body[1]?:Option Stmt)with
  |some (Stmt.For t _ b o _)=>.forLoop t (.ref I) b o e
  |_=>.block [] default
 |_=>.block [] default
noncomputable def pC(b:List Stmt)(I:Addr)(e:Env):Code:=match(b[1]?:Option Stmt)with
 |some (Stmt.For t _ b o _)=>.forLoop t (.ref I) b o e
 |_=>.block [] default
noncomputable def mi(rem:Bool)(w:World)(L I:Addr):Code:=match rem with
 |false=>vN (aH (oh w)) I (cR (oh w) 334 L)
 |true=>vN (aH (nZ w)) I (cR (nZ w) 341 L)
noncomputable def mh(rem:Bool)(w:World)(L I:Addr):Code:=match rem with
 |false=>pC (aH (oh w)) I (cR (oh w) 334 L)
 |true=>pC (aH (nZ w)) I (cR (nZ w) 341 L)
noncomputable def gj(rem:Bool)(ht:Nat→Int×Tok)(f:Addr)(Pf C M V:Addr)(i:Int)(ti:Tok)(cv:Option Value):Obj:=match rem with
 |false=>match cv with
  |none=>fQ ht [(aA,.ref f),(bL,.ref Pf),(am,.ref C),(dm,.ref M),(gn,.ref V),(cV,.int i ti)] 6
  |some v=>fQ ht [(aA,.ref f),(bL,.ref Pf),(am,.ref C),(dm,.ref M),(gn,.ref V),(cV,.int i ti),(cO,v)] 7
 |true=>match cv with
  |none=>fQ ht [(aA,.ref f),(bL,.ref Pf),(am,.ref C),(cx,.ref M),(gn,.ref V),(dQ,.int i ti)] 6
  |some v=>fQ ht [(aA,.ref f),(bL,.ref Pf),(am,.ref C),(cx,.ref M),(gn,.ref V),(dQ,.int i ti),(cO,v)] 7
noncomputable def bT(d:Addr):Obj:=⟨.ref 514,some d,.plain,#[]⟩
noncomputable def bU(ht:Nat→Int×Tok)(S:Addr)(w:Int)(tw:Tok):Obj:=bO ht [(dq,.ref S),(dg,.int w tw)] 2
structure LP where
 I:Addr
 L:Addr
 M:Addr
 V:Addr
 VD:Addr
 S:Addr
 Pf:Addr
 C:Addr
 f:Addr
 so:Obj
 htv:Nat→Int×Tok
 i:Int
 ti:Tok
 me:Nat
 ep:Nat
 wt:Int
 twt:Tok
 fd:FuncData
 fc:Option Addr
 fs:Array (Option Value)
 fa:Addr
 ft:Addr
 fk:Addr
noncomputable def dM(f t d:Addr):Obj:={cls:=.type "functools.partial",data:=.fields #[.ref f,.ref t,.ref d]}
noncomputable def LP.fo(l:LP)(pf:Bool):Obj:=match pf with
 |false=>⟨.type "function",l.fc,.func l.fd,l.fs⟩
 |true=>dM l.fa l.ft l.fk
noncomputable def LP.fr(l:LP)(rem:Bool)(ht:Nat→Int×Tok)(cv:Option Value):Obj:=gj rem ht l.f l.Pf l.C l.M l.V l.i l.ti cv
noncomputable def LP.it(l:LP)(n g slot:Nat):Obj:=bm (.ref l.S) n l.ep slot g
noncomputable def fT(rem:Bool)(i:Int):Int:=match rem with|true=>i|false=>i+1
noncomputable def uN(rem:Bool)(a b:Nat):Nat:=match rem with|true=>a|false=>b+2
noncomputable def ab(rem:Bool)(a b:Nat):Nat:=match rem with|true=>b|false=>a
noncomputable def LP.kn(l:LP)(pf rem:Bool)(ht:Nat→Int×Tok)(cv:Option Value)(items:Array Value)(n g slot:Nat):List (Addr×Obj):=
 [(l.I,l.it n g slot),(l.L,l.fr rem ht cv),(l.M,ac items l.me),(l.V,bT l.VD),(l.VD,bU l.htv l.S l.wt l.twt),(l.S,l.so),(l.f,l.fo pf)]
noncomputable def AJ(v:WV)(pf rem:Bool)(l:LP)(ht:Nat→Int×Tok)(cv:Option Value)(items:Array Value)(n g slot slotN:Nat)(c:Int)(tc:Tok)(k:Int)(tko:Tok)(q q1 q2:Rat):Cn:=⟨220,l.kn pf rem ht cv items n g slot,mi rem v.w l.L l.I,λzn zu=>.cut {js:=[0,5],ju:=[0],K:=1,N:=7,orc:=(dz 1 1)} (.call (.builtin "set_iterator.__next__") ⟨[.ref l.I],[]⟩) (λj=>[(l.I,l.it n g slot),(l.S,l.so)]) (λj=>an l.I (.int c tc) (l.it n (g+1) slotN)) λj n1 t1=>.cut {ws:=[1],js:=[2],u:=1,K:=1,N:=20,orc:=(dz 6 103888748802),wa:=[l.L]} (.call (.builtin "list.__getitem__") ⟨[.ref l.M,.int c tc],[]⟩) (λj=>[(l.M,ac items l.me)]) (λj=>aW (.ok (.ret (.int k tko)))) λj n2 t2=>.cut {u:=ab rem 3 1,K:=1,cnt:=ab rem 3 1,N:=ab rem 36 30,orc:=(dz 16 284592608230219471298597945868802)} (.call (.ref l.f) ⟨[.int (fT rem l.i) (uN rem l.ti t2)],[]⟩) (λj=>[]) (λj=>ar q) λx n3 t3=>.cut {js:=[7,8],K:=1,cnt:=2,N:=23,orc:=(dz 12 4538783999459336)} (.call (.ref 185) ⟨[.ref x.a,.int l.wt l.twt],[]⟩) (λj=>aJ x.a x.b x.ht q.num x.tn q.den x.td) (λj=>ar q1) λy n4 t4=>.cut {js:=[9,10],K:=1,cnt:=2,N:=23,orc:=(dz 12 5673479999324170)} (.call (.ref 157) ⟨[.ref y.a,.int k tko],[]⟩) (λj=>aJ y.a y.b y.ht q1.num y.tn q1.den y.td) (λj=>ar q2) λz n5 t5=>.cut {js:=[2],ju:=[2],K:=1,N:=9,orc:=(dz 2 387)} (.call (.builtin "list.__setitem__") ⟨[.ref l.M,.int c tc,.ref z.a],[]⟩) (λj=>[(l.M,ac items l.me)]) (λj=>bu l.M (ac (items.setIfInBounds c.toNat (.ref z.a)) l.me)) λj n6 t6=>.tail {js:=[0,1,2,3,4,5,6,11,12],N:=6} (mi rem v.w l.L l.I) (λE=>[(l.I,l.it n (g+1) slotN),(l.L,l.fr rem (aq (E.lk 1)) (some (.int c tc))),(l.M,ac (items.setIfInBounds c.toNat (.ref z.a)) l.me),(l.V,bT l.VD),(l.VD,bU l.htv l.S l.wt l.twt),(l.S,l.so),(l.f,l.fo pf),(z.a,bn z.b),(z.b,cu z.ht q2.num z.tn q2.den z.td)])⟩
theorem sm v pf rem l ht cv items n g slot slotN c tc k tko q q1 q2:(AJ v pf rem l ht cv items n g slot slotN c tc k tko q q1 q2).G v:=Cn.k4 cm cm (cz _) (f:=λpf rem cv v=>AJ v pf rem l ht cv items n g slot slotN c tc k tko q q1 q2) (λj j j j j j=>by kernel_rfl) pf rem cv v
noncomputable def AK(v:WV)(pf rem:Bool)(l:LP)(ht:Nat→Int×Tok)(cv:Option Value)(items:Array Value)(n g slot slotN:Nat)(c:Int)(tc:Tok)(oa ob:Addr)(oht:Nat→Int×Tok)(on:Int)(otn:Tok)(od:Int)(otd:Tok)(q q1 q2:Rat):Cn:=⟨220,l.kn pf rem ht cv items n g slot++aJ oa ob oht on otn od otd,mi rem v.w l.L l.I,λzn zu=>.cut {js:=[0,5],ju:=[0],K:=1,N:=7,orc:=(dz 1 1)} (.call (.builtin "set_iterator.__next__") ⟨[.ref l.I],[]⟩) (λj=>[(l.I,l.it n g slot),(l.S,l.so)]) (λj=>an l.I (.int c tc) (l.it n (g+1) slotN)) λj n1 t1=>.cut {ws:=[1],js:=[2],u:=1,K:=1,N:=20,orc:=(dz 6 103888748802),wa:=[l.L]} (.call (.builtin "list.__getitem__") ⟨[.ref l.M,.int c tc],[]⟩) (λj=>[(l.M,ac items l.me)]) (λj=>aW (.ok (.ret (.ref oa)))) λj n2 t2=>.cut {u:=ab rem 3 1,K:=1,cnt:=ab rem 3 1,N:=ab rem 36 30,orc:=(dz 16 284592608230219471298597945868802)} (.call (.ref l.f) ⟨[.int (fT rem l.i) (uN rem l.ti t2)],[]⟩) (λj=>[]) (λj=>ar q) λx n3 t3=>.cut {js:=[9,10],K:=1,cnt:=2,N:=23,orc:=(dz 12 5673479999324170)} (.call (.ref 185) ⟨[.ref x.a,.int l.wt l.twt],[]⟩) (λj=>aJ x.a x.b x.ht q.num x.tn q.den x.td) (λj=>ar q1) λy n4 t4=>.cut {js:=[7,8,11,12],K:=1,N:=23,orc:=(dz 16 1208925819667680610746376)} (.call (.ref 150) ⟨[.ref oa,.ref y.a],[]⟩) (λj=>aJ oa ob oht on otn od otd++aJ y.a y.b y.ht q1.num y.tn q1.den y.td) (λj=>ar q2) λz n5 t5=>.cut {js:=[2],ju:=[2],K:=1,N:=9,orc:=(dz 2 387)} (.call (.builtin "list.__setitem__") ⟨[.ref l.M,.int c tc,.ref z.a],[]⟩) (λj=>[(l.M,ac items l.me)]) (λj=>bu l.M (ac (items.setIfInBounds c.toNat (.ref z.a)) l.me)) λj n6 t6=>.tail {js:=[0,1,2,3,4,5,6,13,14],N:=6} (mi rem v.w l.L l.I) (λE=>[(l.I,l.it n (g+1) slotN),(l.L,l.fr rem (aq (E.lk 1)) (some (.int c tc))),(l.M,ac (items.setIfInBounds c.toNat (.ref z.a)) l.me),(l.V,bT l.VD),(l.VD,bU l.htv l.S l.wt l.twt),(l.S,l.so),(l.f,l.fo pf),(z.a,bn z.b),(z.b,cu z.ht q2.num z.tn q2.den z.td)])⟩
theorem sn v pf rem l ht cv items n g slot slotN c tc oa ob oht on otn od otd q q1 q2:(AK v pf rem l ht cv items n g slot slotN c tc oa ob oht on otn od otd q q1 q2).G v:=Cn.k4 cm cm (cz _) (f:=λpf rem cv v=>AK v pf rem l ht cv items n g slot slotN c tc oa ob oht on otn od otd q q1 q2) (λj j j j j j=>by kernel_rfl) pf rem cv v
noncomputable def AH(v:WV)(pf rem:Bool)(l:LP)(ht:Nat→Int×Tok)(cv:Option Value)(items:Array Value)(n g slot slotN:Nat)(c:Int)(tc:Tok)(k:Int)(tko:Tok)(kv:Int):Cn:=⟨220,l.kn pf rem ht cv items n g slot,mi rem v.w l.L l.I,λzn zu=>.cut {js:=[0,5],ju:=[0],K:=1,N:=7,orc:=(dz 1 1)} (.call (.builtin "set_iterator.__next__") ⟨[.ref l.I],[]⟩) (λj=>[(l.I,l.it n g slot),(l.S,l.so)]) (λj=>an l.I (.int c tc) (l.it n (g+1) slotN)) λj n1 t1=>.cut {ws:=[1],js:=[2],u:=1,K:=1,N:=20,orc:=(dz 6 103888748802),wa:=[l.L]} (.call (.builtin "list.__getitem__") ⟨[.ref l.M,.int c tc],[]⟩) (λj=>[(l.M,ac items l.me)]) (λj=>aW (.ok (.ret (.int k tko)))) λj n2 t2=>.cut {u:=ab rem 3 1,K:=1,cnt:=ab rem 3 1,N:=ab rem 36 30,orc:=(dz 16 284592608230219471298597945868802)} (.call (.ref l.f) ⟨[.int (fT rem l.i) (uN rem l.ti t2)],[]⟩) (λj=>[]) (λj=>aw kv) λx n3 t3=>.cut {js:=[2],ju:=[2],u:=2,K:=1,cnt:=2,N:=16,orc:=(dz 3 49537),ps:=[IntMulOk l.wt kv]} (.call (.builtin "list.__setitem__") ⟨[.ref l.M,.int c tc,.int (k+l.wt*kv) (t3+1)],[]⟩) (λj=>[(l.M,ac items l.me)]) (λj=>bu l.M (ac (items.setIfInBounds c.toNat (.int (k+l.wt*kv) (t3+1))) l.me)) λj n6 t6=>.tail {js:=[0,1,2,3,4,5,6],N:=5} (mi rem v.w l.L l.I) (λE=>[(l.I,l.it n (g+1) slotN),(l.L,l.fr rem (aq (E.lk 1)) (some (.int c tc))),(l.M,ac (items.setIfInBounds c.toNat (.int (k+l.wt*kv) (t3+1))) l.me),(l.V,bT l.VD),(l.VD,bU l.htv l.S l.wt l.twt),(l.S,l.so),(l.f,l.fo pf)])⟩
theorem sj v pf rem l ht cv items n g slot slotN c tc k tko kv:(AH v pf rem l ht cv items n g slot slotN c tc k tko kv).G v:=Cn.k4 cm cm (cz _) (f:=λpf rem cv v=>AH v pf rem l ht cv items n g slot slotN c tc k tko kv) (λj j j j j j=>by kernel_rfl) pf rem cv v
noncomputable def AI(v:WV)(pf rem:Bool)(l:LP)(ht:Nat→Int×Tok)(cv:Option Value)(items:Array Value)(n g slot slotN:Nat)(c:Int)(tc:Tok)(oa ob:Addr)(oht:Nat→Int×Tok)(on:Int)(otn:Tok)(od:Int)(otd:Tok)(kv:Int)(q2:Rat):Cn:=⟨220,l.kn pf rem ht cv items n g slot++aJ oa ob oht on otn od otd,mi rem v.w l.L l.I,λzn zu=>.cut {js:=[0,5],ju:=[0],K:=1,N:=7,orc:=(dz 1 1)} (.call (.builtin "set_iterator.__next__") ⟨[.ref l.I],[]⟩) (λj=>[(l.I,l.it n g slot),(l.S,l.so)]) (λj=>an l.I (.int c tc) (l.it n (g+1) slotN)) λj n1 t1=>.cut {ws:=[1],js:=[2],u:=1,K:=1,N:=20,orc:=(dz 6 103888748802),wa:=[l.L]} (.call (.builtin "list.__getitem__") ⟨[.ref l.M,.int c tc],[]⟩) (λj=>[(l.M,ac items l.me)]) (λj=>aW (.ok (.ret (.ref oa)))) λj n2 t2=>.cut {u:=ab rem 3 1,K:=1,cnt:=ab rem 3 1,N:=ab rem 36 30,orc:=(dz 16 284592608230219471298597945868802)} (.call (.ref l.f) ⟨[.int (fT rem l.i) (uN rem l.ti t2)],[]⟩) (λj=>[]) (λj=>aw kv) λx n3 t3=>.cut {js:=[7,8],u:=1,K:=1,N:=30,orc:=(dz 22 5316911983139663491615263425493468161),ps:=[IntMulOk l.wt kv]} (.call (.ref 150) ⟨[.ref oa,.int (l.wt*kv) t3],[]⟩) (λj=>aJ oa ob oht on otn od otd) (λj=>ar q2) λz n5 t5=>.cut {js:=[2],ju:=[2],K:=1,N:=8,orc:=(dz 2 387)} (.call (.builtin "list.__setitem__") ⟨[.ref l.M,.int c tc,.ref z.a],[]⟩) (λj=>[(l.M,ac items l.me)]) (λj=>bu l.M (ac (items.setIfInBounds c.toNat (.ref z.a)) l.me)) λj n6 t6=>.tail {js:=[0,1,2,3,4,5,6,9,10],N:=6} (mi rem v.w l.L l.I) (λE=>[(l.I,l.it n (g+1) slotN),(l.L,l.fr rem (aq (E.lk 1)) (some (.int c tc))),(l.M,ac (items.setIfInBounds c.toNat (.ref z.a)) l.me),(l.V,bT l.VD),(l.VD,bU l.htv l.S l.wt l.twt),(l.S,l.so),(l.f,l.fo pf),(z.a,bn z.b),(z.b,cu z.ht q2.num z.tn q2.den z.td)])⟩
theorem sk v pf rem l ht cv items n g slot slotN c tc oa ob oht on otn od otd kv q2:(AI v pf rem l ht cv items n g slot slotN c tc oa ob oht on otn od otd kv q2).G v:=Cn.k4 cm cm (cz _) (f:=λpf rem cv v=>AI v pf rem l ht cv items n g slot slotN c tc oa ob oht on otn od otd kv q2) (λj j j j j j=>by kernel_rfl) pf rem cv v
noncomputable def Hr(v:WV)(pf rem:Bool)(l:LP)(ht:Nat→Int×Tok)(cv:Option Value)(items:Array Value)(n g slot:Nat):Cn:=⟨220,l.kn pf rem ht cv items n g slot,mi rem v.w l.L l.I,λzn zu=>.cut {js:=[0,5],ju:=[0],K:=1,N:=7,orc:=(dz 1 1)} (.call (.builtin "set_iterator.__next__") ⟨[.ref l.I],[]⟩) (λj=>[(l.I,l.it n g slot),(l.S,l.so)]) (λj=>aE l.I (bm .none n l.ep slot g)) λx n1 t1=>.fin {js:=[0,1,2,3,4,5,6],cnt:=1,N:=7,orc:=(dz 1 9)} (.ok .next) (λj=>(l.I,bm .none n l.ep slot g)::(l.L,l.fr rem ht cv)::(l.M,ac items l.me)::[(l.V,bT l.VD),(l.VD,bU l.htv l.S l.wt l.twt),(l.S,l.so),(l.f,l.fo pf)])⟩
theorem zx v pf rem l ht cv items n g slot:(Hr v pf rem l ht cv items n g slot).G v:=Cn.k4 cm cm (cz _) (f:=λpf rem cv v=>Hr v pf rem l ht cv items n g slot) (λj j j j j j=>by kernel_rfl) pf rem cv v
theorem eG(q:Rat):Rat.divInt q.num q.den=q:=by exact Rat.num_divInt_den q
theorem ja(q:Rat):(q.den:Int)≠0:=by have:=q.den_pos;omega
theorem fJ(q:Rat)(k:Int):q*(k:Rat)=Rat.divInt (q.num*k) q.den:=by
 have h:(k:Rat)=Rat.divInt k 1:=(eG (k:Rat)).symm
 conv=>lhs;rw[←eG q,h,Rat.divInt_mul_divInt,Int.mul_one]
theorem hZ(q:Rat)(k:Int):q+(k:Rat)=Rat.divInt (q.num+k*q.den) q.den:=by
 have h:(k:Rat)=Rat.divInt k 1:=(eG (k:Rat)).symm
 conv=>lhs;rw[←eG q,h,Rat.divInt_add_divInt _ _ (ja q) (by decide),Int.mul_one,Int.mul_one]
theorem Ba(p q:Rat):p+q=Rat.divInt (p.num*q.den+q.num*p.den) (p.den*q.den):=by
 conv=>lhs;rw[←eG p,←eG q,Rat.divInt_add_divInt _ _ (ja p) (ja q)]
theorem bW(q:Rat):(0:Int)<q.den:=by have:=q.den_pos;omega
noncomputable def Dv(N:Int)(r:Rat):Prop:=∃z:Int,r*(N:Rat)=(z:Rat)
theorem Dv.den{N:Int}(hN:0<N){r:Rat}(h:Dv N r):(r.den:Int)≤N:=by
 obtain⟨z,hz⟩:=h
 rw[fJ]at hz
 have e:Rat.divInt (r.num*N) r.den=Rat.divInt z 1:=hz.trans (eG (z:Rat)).symm
 rw[Rat.divInt_eq_divInt_iff (ja r) (by decide),Int.mul_one]at e
 have d:(r.den:Int)∣r.num*N:=⟨z,by rw[e,Int.mul_comm]⟩
 have d1:r.den∣(r.num*N).natAbs:=by simpa using Int.natAbs_dvd_natAbs.mpr d
 rw[Int.natAbs_mul]at d1
 have d2:r.den∣N.natAbs:=Nat.Coprime.dvd_of_dvd_mul_left r.reduced.symm d1
 have:=Nat.le_of_dvd (by omega) d2
 omega
theorem Dv.int(N k:Int):Dv N (k:Rat):=⟨k*N,by simp⟩
theorem Dv.add{N:Int}{a b:Rat}(h:Dv N a)(g:Dv N b):Dv N (a+b):=by
 obtain⟨x,hx⟩:=h
 obtain⟨y,hy⟩:=g
 exact⟨x+y,by rw[Rat.add_mul,hx,hy];simp⟩
theorem Dv.mul_int{N:Int}{a:Rat}(h:Dv N a)(k:Int):Dv N (a*(k:Rat)):=by
 obtain⟨x,hx⟩:=h
 exact⟨x*k,by rw[Rat.mul_assoc,Rat.mul_comm (k:Rat),←Rat.mul_assoc,hx];simp⟩
section
variable (v:WV) {a b:Addr} {ht:Nat→Int×Tok} {tn td:Tok} {q:Rat} (hq:(q.den:Int)<2 ^ 14)
include hq
theorem uU(k:Int)(t:Tok)(hk:-(2 ^ 64)<k∧k<2 ^ 64):aS v.w 150 (aJ a b ht q.num tn q.den td) (.call (.ref 185) ⟨[.ref a,.int k t],[]⟩) [] (ar (q*(k:Rat))):=
 FW v a b ht q.num tn q.den td k t (bW q) (by omega) hk (fJ q k)
theorem rJ(k:Int)(t:Tok)(hk:-(2 ^ 64)<k∧k<2 ^ 64):aS v.w 120 (aJ a b ht q.num tn q.den td) (.call (.ref 178) ⟨[.ref a,.int k t],[]⟩) [] (ar (q*(k:Rat))):=
 xp v a b ht q.num tn q.den td k t (bW q) (by omega) hk (fJ q k)
theorem Ds(k:Int)(t:Tok):aS v.w 150 (aJ a b ht q.num tn q.den td) (.call (.ref 157) ⟨[.ref a,.int k t],[]⟩) [] (ar (q+(k:Rat))):=
 FX v a b ht q.num tn q.den td k t (bW q) hq (hZ q k)
theorem rK(k:Int)(t:Tok):aS v.w 120 (aJ a b ht q.num tn q.den td) (.call (.ref 150) ⟨[.ref a,.int k t],[]⟩) [] (ar (q+(k:Rat))):=
 xu v a b ht q.num tn q.den td k t (bW q) hq (hZ q k)
theorem xk{a2 b2:Addr}{ht2:Nat→Int×Tok}{tn2 td2:Tok}{q2:Rat}(hq2:(q2.den:Int)<2 ^ 14):
  aS v.w 120 [(a,bn b),(b,cu ht q.num tn q.den td),(a2,bn b2),(b2,cu ht2 q2.num tn2 q2.den td2)] (.call (.ref 150) ⟨[.ref a,.ref a2],[]⟩) [] (ar (q+q2)):=
 Ea v a b ht q.num tn q.den td a2 b2 ht2 q2.num tn2 q2.den td2 (bW q) hq (bW q2) hq2 (Ba q q2)
end
inductive bz (w:World) (s:Shared):Value→Rat→Prop
 |int (k:Int) (t:Tok):bz w s (.int k t) (k:Rat)
 |fr (a b:Addr) (q:Rat) (ht:Nat→Int×Tok) (tn td:Tok) (f:Kn (KB w) s (aJ a b ht q.num tn q.den td)):bz w s (.ref a) q
theorem bz.ofInt{w:World}{s:Shared}{k:Int}{t:Tok}{q:Rat}(h:q=(k:Rat)):bz w s (.int k t) q:=h▸.int k t
noncomputable def NF(s:Shared)(W:List Addr):Prop:=∀a∈W,∀o,s.heap.get? a=some o→o.cls≠.ref 237∧o.cls≠.type "dict"
theorem NF.of{B:X.KT}{s:Shared}{kn:List (Addr×Obj)}(k:Kn B s kn){W:List Addr}(h:∀a∈W,(∃o,(a,o)∈kn∧o.cls≠.ref 237∧o.cls≠.type "dict")∨s.heap.objs.size≤a):NF s W:=λa ha o e=>by
 rcases h a ha with⟨o',hm,h1,h2⟩|h
 ·have:=k.obj (a,o') hm
  rw[e]at this;cases this
  exact⟨h1,h2⟩
 ·exact absurd (Heap.lt_size e) (Nat.not_lt.mpr h)
theorem bz.keep{w:World}{s s':Shared}{W:List Addr}{x:Value}{r:Rat}(n:bz w s x r)(F:ah s s' W)(k':Kn (KB w) s' [])(hW:NF s W):bz w s' x r:=by
 cases n with
 |int k t=>exact .int k t
 |fr a b q ht tn td f=>
  have oa:=f.obj (a,bn b) (mN 0 rfl)
  have ob:=f.obj (b,cu ht r.num tn r.den td) (mN 1 rfl)
  refine .fr a b _ ht tn td ⟨k'.base,λp hp=>?_,f.off,f.nd,k'.toks⟩
  simp only[aJ,List.mem_cons,List.not_mem_nil,or_false]at hp
  rcases hp with rfl|rfl
  ·exact F.keep _ _ oa λhm=>(hW _ hm _ oa).1 rfl
  ·exact F.keep _ _ ob λhm=>(hW _ hm _ ob).2 rfl
theorem Kn.frac{w:World}{s:Shared}{kn:List (Addr×Obj)}(k:Kn (KB w) s kn){a b:Addr}{ht:Nat→Int×Tok}{n d:Int}{tn td:Tok}(f:Kn (KB w) s (aJ a b ht n tn d td))
  (h:∀p∈kn,p.2.cls≠.ref 237∧∀ht n tn d td,p.2≠cu ht n tn d td):Kn (KB w) s (kn++aJ a b ht n tn d td):=by
 refine k.app f λp hp q hq e=>?_
 have o1:=k.obj p hp
 have o2:=f.obj q hq
 rw[e,o2]at o1
 have e1:q.2=p.2:=Option.some.inj o1
 simp only[aJ,List.mem_cons,List.not_mem_nil,or_false]at hq
 rcases hq with rfl|rfl
 ·exact(h p hp).1 (by rw[←e1];rfl)
 ·exact(h p hp).2 ht n tn d td e1.symm
structure bq (w:World) (s:Shared) (items:Array Value) (m:Nat) (val:Nat→Rat):Prop where
 sz:items.size=m
 num:∀c (h:c<items.size),bz w s items[c] (val c)
theorem bq.keep{w:World}{s s':Shared}{W:List Addr}{items:Array Value}{m:Nat}{val:Nat→Rat}(n:bq w s items m val)(F:ah s s' W)(k':Kn (KB w) s' [])(hW:NF s W):bq w s' items m val:=
 ⟨n.sz,λc h=>(n.num c h).keep F k' hW⟩
theorem bq.set{w:World}{s:Shared}{items:Array Value}{m:Nat}{val:Nat→Rat}(n:bq w s items m val){c:Nat}{x:Value}{r:Rat}(hx:bz w s x r):bq w s (items.setIfInBounds c x) m (λi=>if i=c then r else val i):=by
 refine⟨by rw[Array.size_setIfInBounds];exact n.sz,λi h=>?_⟩
 have h2:i<items.size:=by simpa using h
 rw[Array.getElem_setIfInBounds h2]
 by_cases e:c=i
 ·subst e
  simp only[if_true]
  exact hx
 ·rw[if_neg e,if_neg (Ne.symm e)]
  exact n.num i h2
noncomputable abbrev oN(o:Obj):Prop:=o.cls≠.ref 237∧o.cls≠.type "dict"
noncomputable def gR:List (Addr×Obj)→Prop
 |[]=>True
 |p::l=>oN p.2∧gR l
theorem gR.mem:∀{l:List (Addr×Obj)},gR l→∀p∈l,oN p.2
 |[],_,_,h=>nomatch h
 |_::_,h,q,hq=>by
  rcases List.mem_cons.mp hq with rfl|hq
  ·exact h.1
  ·exact gR.mem h.2 q hq
theorem NF.kn{B:X.KT}{s:Shared}{kn:List (Addr×Obj)}(k:Kn B s kn)(h:gR kn):NF s (kn.map (·.1)):=NF.of k λa ha=>by
 obtain⟨p,hp,rfl⟩:=List.mem_map.mp ha
 exact .inl ⟨p.2,hp,h.mem p hp⟩
theorem fL{a:Array Value}{n:Nat}:oN (ac a n):=⟨nofun,show Value.type "list"≠.type "dict" by decide⟩
noncomputable abbrev oV(o:Obj):Prop:=o.cls≠.ref 237∧∀ht n tn d td,o≠cu ht n tn d td
theorem sP{o:Obj}(h:o.cls≠.ref 237)(h2:o.cls≠.type "dict"):oV o:=⟨h,λj j j j j e=>h2 (congrArg Obj.cls e)⟩
theorem dB{a:Array Value}{n:Nat}:oV (ac a n):=sP nofun (show Value.type "list"≠Value.type "dict" by decide)
noncomputable def eB:List (Addr×Obj)→Prop
 |[]=>True
 |p::l=>oV p.2∧eB l
theorem eB.mem:∀{l:List (Addr×Obj)},eB l→∀p∈l,oV p.2
 |[],_,_,h=>nomatch h
 |p::l,h,q,hq=>by
  rcases List.mem_cons.mp hq with rfl|hq
  ·exact h.1
  ·exact eB.mem h.2 q hq
theorem Kn.drop7{B:X.KT}{s:Shared}{x1 x2 x3 x4 x5 x6 x7:Addr×Obj}{l:List (Addr×Obj)}(k:Kn B s (x1::x2::x3::x4::x5::x6::x7::l)):Kn B s l:=k.sub (List.drop_sublist 7 (x1::x2::x3::x4::x5::x6::x7::l))
inductive oJ (w:World) (Pre:Shared→Prop) (f:Addr) (i:Int) (r:Rat):Prop
 |fr (C:∀t,Ct w 180 [] Pre (.call (.ref f) ⟨[.int i t],[]⟩) [] (ar r) bP):oJ w Pre f i r
 |int (k:Int) (hr:r=(k:Rat)) (hk:-(2 ^ 64)<k∧k<2 ^ 64) (C:∀t,Ct w 180 [] Pre (.call (.ref f) ⟨[.int i t],[]⟩) [] (aw k) bP):oJ w Pre f i r
structure Du (v:WV) (pf rem:Bool) (l:LP) (n g slot m:Nat) (val:Nat→Rat) (N:Int) (ht:Nat→Int×Tok) (cv:Option Value) (items:Array Value) (s:Shared):Prop where
 kn:Kn (KB v.w) s (l.kn pf rem ht cv items n g slot)
 nums:bq v.w s items m val
 dv:∀c,Dv N (val c)
theorem m3(rem:Bool)(ht:Nat→Int×Tok)(f Pf C M V:Addr)(i:Int)(ti:Tok)(cv:Option Value):(gj rem ht f Pf C M V i ti cv).cls=.type "frame":=by
 cases rem<;>cases cv<;>rfl
theorem lM{rem:Bool}{ht:Nat→Int×Tok}{f Pf C M V:Addr}{i:Int}{ti:Tok}{cv:Option Value}:oN (gj rem ht f Pf C M V i ti cv):=by
 rw[oN,m3];exact⟨nofun,by decide⟩
theorem LP.nk_fo{l:LP}{pf:Bool}:oN (l.fo pf):=by
 cases pf with
 |false=>exact⟨nofun,show Value.type "function"≠.type "dict" by decide⟩
 |true=>exact⟨nofun,show Value.type "functools.partial"≠.type "dict" by decide⟩
theorem nL{o:Obj}(h:oN o):oV o:=sP h.1 h.2
theorem vq{a:Addr}:oN (bT a):=⟨show Value.ref 514≠.ref 237 by decide,nofun⟩
theorem LP.nf{v:WV}{pf rem:Bool}{l:LP}{ht:Nat→Int×Tok}{cv:Option Value}{items:Array Value}{n g slot:Nat}{s:Shared}(k:Kn (KB v.w) s (l.kn pf rem ht cv items n g slot)):NF s [l.I,l.L,l.M]:=
 NF.kn (k.pk [0,1,2] rfl) ⟨⟨nofun,show Value.type "set_iterator"≠.type "dict" by decide⟩,lM,fL,trivial⟩
theorem mz(htv:Nat→Int×Tok)(S:Addr)(w:Int)(tw:Tok)(ht:Nat→Int×Tok)(n d:Int)(tn td:Tok):bU htv S w tw≠cu ht n tn d td:=λe=>by
 have:=congrArg (λo:Obj=>match o.data with|.dict es _=>es.toList.map fun(d:DictEntry)=>(match d.key with|.str s _=>s|_=>iN)|_=>[]) e
 exact absurd (show dq=dR from(List.cons.inj this).1) (by decide+kernel)
theorem LP.frac{v:WV}{pf rem:Bool}{l:LP}{ht:Nat→Int×Tok}{cv:Option Value}{items:Array Value}{n g slot:Nat}{s:Shared}(k:Kn (KB v.w) s (l.kn pf rem ht cv items n g slot))(hso:l.so.cls≠.ref 237∧l.so.cls≠.type "dict")
  {a b:Addr} {ht':Nat→Int×Tok} {N D:Int} {tn td:Tok} (f:Kn (KB v.w) s (aJ a b ht' N tn D td)):Kn (KB v.w) s (l.kn pf rem ht cv items n g slot++aJ a b ht' N tn D td):=
 k.frac f (eB.mem ⟨sP nofun (show Value.type "set_iterator"≠.type "dict" by decide),nL lM,dB,nL vq,⟨nofun,λj j j j j=>mz _ _ _ _ _ _ _ _ _⟩,nL hso,nL LP.nk_fo,trivial⟩)
theorem zj(v:WV)(pf rem:Bool)(l:LP){n g slot slotN m:Nat}{c:Int}{tc:Tok}{val:Nat→Rat}{N:Int}{ht:Nat→Int×Tok}{cv:Option Value}{items:Array Value}{q:Rat}{Pre:Shared→Prop}
  (Sc:oJ v.w Pre l.f (fT rem l.i) q) (hN:0<N) (hN2:N<2 ^ 14) (hq:Dv N q) (hwt:-(2 ^ 64)<l.wt∧l.wt<2 ^ 64)
  (Cn:aS v.w 20 [(l.I,l.it n g slot),(l.S,l.so)] (.call (.builtin "set_iterator.__next__") ⟨[.ref l.I],[]⟩) [l.I] (an l.I (.int c tc) (l.it n (g+1) slotN)))
  (hso:l.so.cls≠.ref 237∧l.so.cls≠.type "dict") (hc0:0≤c) (hc:c.toNat<m) (hm:m<2 ^ 63) {A:Around} {s:Shared} {R:Result→Shared→Prop} (hA:cp A 220) (S:Du v pf rem l n g slot m val N ht cv items s)
  (hPre:∀s1,ah s s1 [l.I,l.L,l.M]→Kn (KB v.w) s1 []→Pre s1)
  (H:∀ht' items' s',ah s s' [l.I,l.L,l.M]→Du v pf rem l n (g+1) slotN m (λx=>if x=c.toNat then val c.toNat+q*(l.wt:Rat) else val x) N ht' (some (.int c tc)) items' s'→codeAny (model pr v.w) A (mi rem v.w l.L l.I) R s'):
  codeAny (model pr v.w) A (mi rem v.w l.L l.I) R s:=by
 have hcs:c.toNat<items.size:=by rw[S.nums.sz];exact hc
 have hc63:c<2 ^ 63:=by omega
 have hx:items[c.toNat]?=some items[c.toNat]:=Array.getElem?_eq_getElem hcs
 have hn:=S.nums.num c.toNat hcs
 have hqd:(q.den:Int)<2 ^ 14:=by have:=hq.den hN;omega
 have hq1:Dv N (q*(l.wt:Rat)):=hq.mul_int _
 have hq1d:((q*(l.wt:Rat)).den:Int)<2 ^ 14:=by have:=hq1.den hN;omega
 have hvd:((val c.toNat).den:Int)<2 ^ 14:=by have:=(S.dv c.toNat).den hN;omega
 have kn:=S.kn
 have fin:∀(ht9:Nat→Int×Tok) (x:Value) s9,ah s s9 [l.I,l.L,l.M]→Kn (KB v.w) s9 (l.kn pf rem ht9 (some (.int c tc)) (items.setIfInBounds c.toNat x) n (g+1) slotN)→bz v.w s9 x (val c.toNat+q*(l.wt:Rat))→
   Du v pf rem l n (g+1) slotN m (λx=>if x=c.toNat then val c.toNat+q*(l.wt:Rat) else val x) N ht9 (some (.int c tc)) (items.setIfInBounds c.toNat x) s9:=λht9 x s9 F K hx9=>
  ⟨K,(S.nums.keep F K.nil (LP.nf kn)).set hx9,λi=>by
   show Dv N (if i=c.toNat then val c.toNat+q*(l.wt:Rat) else val i)
   split
   ·exact(S.dv _).add hq1
   ·exact S.dv i⟩
 have num9:∀{s9:Shared} {z:QX} {q2:Rat},Kn (KB v.w) s9 [(z.a,bn z.b),(z.b,cu z.ht q2.num z.tn q2.den z.td)]→q2=val c.toNat+q*(l.wt:Rat)→bz v.w s9 (.ref z.a) (val c.toNat+q*(l.wt:Rat)):=λK e=>e▸.fr _ _ _ _ _ _ K
 generalize hve:val c.toNat=r at*
 generalize hxe:items[c.toNat]=x0 at hx hn
 have C1:aS v.w 20 [(l.M,ac items l.me)] (.call (.builtin "list.__getitem__") ⟨[.ref l.M,.int c tc],[]⟩) [] (aW (.ok (.ret x0))):=bB _ (by omega) hc63 hx
 have C2:∀x,aS v.w 20 [(l.M,ac items l.me)] (.call (.builtin "list.__setitem__") ⟨[.ref l.M,.int c tc,x],[]⟩) [l.M] (bu l.M (ac (items.setIfInBounds c.toNat x) l.me)):=λj=>ee _ (by omega) hc63 (by simpa using hcs)
 cases Sc with
 |fr Cs=>
  cases hn with
  |int k tko=>
   exact(sm v pf rem l ht cv items n g slot slotN c tc k tko q (q*(l.wt:Rat)) (q*(l.wt:Rat)+(k:Rat))).go hA kn [0,1,2] <| kc (λj=>Cn) λj j j j=>kc (λj=>C1) λj j j j=>dF (λj=>Cs _) (λj s F K=>hPre s F K.nil) λj j j j=>
    kc (λj=>uU v hqd _ _ hwt) λj j j j=>kc (λj=>Ds v hq1d _ _) λj j j j=>kc (λj=>C2 _) λj j j j=>kt λE s9 F K=>H (aq (E.lk 1)) _ s9 F (fin _ _ s9 F (K.sub (List.sublist_append_left _ _)) (num9 K.drop7 (Rat.add_comm _ _)))
  |fr a b _ ht0 tn td f=>
   exact(sn v pf rem l ht cv items n g slot slotN c tc a b ht0 r.num tn r.den td q (q*(l.wt:Rat)) (r+q*(l.wt:Rat))).go hA (LP.frac kn hso f) [0,1,2] <| kc (λj=>Cn) λj j j j=>kc (λj=>C1) λj j j j=>dF (λj=>Cs _) (λj s F K=>hPre s F K.nil) λj j j j=>
    kc (λj=>uU v hqd _ _ hwt) λj j j j=>kc (λj=>xk v hvd hq1d) λj j j j=>kc (λj=>C2 _) λj j j j=>kt λE s9 F K=>H (aq (E.lk 1)) _ s9 F (fin _ _ s9 F (K.sub (List.sublist_append_left _ _)) (num9 K.drop7 rfl))
 |int kv hr hkv Cs=>
  have hmul:IntMulOk l.wt kv:=az hkv.1 hkv.2
  have hqk:q*(l.wt:Rat)=((l.wt*kv:Int):Rat):=by rw[hr,Rat.intCast_mul,Rat.mul_comm]
  cases hn with
  |int k tko=>
   exact(sj v pf rem l ht cv items n g slot slotN c tc k tko kv).go hA kn [0,1,2] <| kc (λj=>Cn) λj j j j=>kc (λj=>C1) λj j j j=>dF (λj=>Cs _) (λj s F K=>hPre s F K.nil) λj j j j=>
    kc (hps:=⟨hmul,trivial⟩) (λj=>C2 _) λj j j j=>kt λE s9 F K=>H (aq (E.lk 1)) _ s9 F (fin _ _ s9 F K (bz.ofInt (by rw[hqk,Rat.intCast_add])))
  |fr a b _ ht0 tn td f=>
   exact(sk v pf rem l ht cv items n g slot slotN c tc a b ht0 r.num tn r.den td kv (r+((l.wt*kv:Int):Rat))).go hA (LP.frac kn hso f) [0,1,2] <| kc (λj=>Cn) λj j j j=>kc (λj=>C1) λj j j j=>dF (λj=>Cs _) (λj s F K=>hPre s F K.nil) λj j j j=>
    kc (hps:=⟨hmul,trivial⟩) (λj=>rK v hvd _ _) λj j j j=>kc (λj=>C2 _) λj j j j=>kt λE s9 F K=>H (aq (E.lk 1)) _ s9 F (fin _ _ s9 F (K.sub (List.sublist_append_left _ _)) (num9 K.drop7 (by rw[hqk])))
theorem db{α:Type}:∀(l:List α) (i:Nat) (h:i<l.length),(l[i]::l.eraseIdx i).Perm l
 |a::l,0,_=>.refl _
 |a::l,i+1,h=>by
  have hi:i<l.length:=by simpa using h
  have:=db l i hi
  show(l[i]::a::l.eraseIdx i).Perm (a::l)
  exact(List.Perm.swap _ _ _).trans (this.cons a)
theorem mU{α:Type}(f:Nat→Nat):∀(n k:Nat) (l:List α) (out:Array α),l.length≤n→(pickOrder.go f n k l out).toList.Perm (out.toList++l)
 |0,k,l,out,h=>by
  have:l=[]:=List.length_eq_zero_iff.mp (by omega)
  subst this
  simp[pickOrder.go]
 |n+1,k,l,out,h=>by
  unfold pickOrder.go
  cases hl:l with
  |nil=>simp
  |cons a t=>
   rw[←hl]
   have hpos:0<l.length:=by rw[hl];simp
   have hi:f k % l.length<l.length:=Nat.mod_lt _ hpos
   rw[List.getElem?_eq_getElem hi]
   have:=mU f n (k+1) (l.eraseIdx (f k % l.length)) (out.push l[f k % l.length]) (by rw[List.length_eraseIdx_of_lt hi];omega)
   refine this.trans ?_
   rw[Array.toList_push,List.append_assoc]
   refine List.Perm.append_left _ ?_
   exact db l _ hi
theorem dL{α:Type}(f:Nat→Nat)(xs:Array α):(pickOrder f xs).toList.Perm xs.toList:=by
 have:=mU f xs.size 0 xs.toList #[] (by simp)
 simpa [pickOrder]using this
structure Wk (b:Bool) (f:Nat→Nat) (es:Array (Int×Value)) (t:SetTable) (P:List Value) (sl:Nat→Nat):Prop where
 perm:P.Perm (es.toList.map (·.2))
 sl0:sl 0=0
 step:∀g (h:g<P.length),nx b f es t (sl g) g=some (P[g],sl (g+1))
 stop:nx b f es t (sl P.length) P.length=none
theorem my(f:Nat→Nat)(es:Array (Int×Value))(t:SetTable):Wk true f es t ((pickOrder f es).toList.map (·.2)) λj=>0 where
 perm:=(dL f es).map _
 sl0:=rfl
 step:=λg h=>by
  have h':g<(pickOrder f es).size:=by simpa using h
  show((pickOrder f es)[g]?).map _=_
  rw[Array.getElem?_eq_getElem h']
  simp
 stop:=by
  show((pickOrder f es)[_]?).map _=_
  rw[List.length_map,Array.length_toList,Array.getElem?_eq_none (Nat.le_refl _)]
  rfl
noncomputable def gh(k:Nat):List Nat:=(List.range 4).filter λc=>k.testBit c
noncomputable def ai(l:List Nat)(tk:Nat→Tok):Array (Int×Value):=(l.map fun(c:Nat)=>((c:Int),Value.int c (tk c))).toArray
noncomputable def ak(l:List Nat)(led:Bool):SetTable:={mask:=7,place:=l.toArray,dummies:=#[],finger:=0,led,moves:=0,plain:=true}
noncomputable def EG(l:List Nat)(g:Nat):Nat:=match g with|0=>0|g+1=>l.getD g 0+1
theorem rq:∀k<16,∀g<5,g≤(gh k).length→SetTable.below (gh k).toArray (EG (gh k) g)=g:=by decide+kernel
theorem BD:∀k<16,(gh k).length<5:=by decide+kernel
theorem pG(f:Nat→Nat)(l:List Nat)(tk:Nat→Tok)(led:Bool)(slot g i:Nat)(hi:SetTable.below l.toArray slot=i):
  nx false f (ai l tk) (ak l led) slot g=(l[i]?).map fun(c:Nat)=>(Value.int c (tk c),c+1):=by
 unfold nx
 show(match(ai l tk)[SetTable.below l.toArray slot]?,l.toArray[SetTable.below l.toArray slot]? with|some (_,x),some j=>some (x,j+1)|_,_=>none)=_
 rw[hi]
 unfold ai
 simp only[List.getElem?_toArray,List.getElem?_map]
 cases l[i]?<;>rfl
theorem pa(f:Nat→Nat)(k:Nat)(hk:k<16)(tk:Nat→Tok)(led:Bool):Wk false f (ai (gh k) tk) (ak (gh k) led) ((gh k).map fun(c:Nat)=>Value.int c (tk c)) (EG (gh k)) where
 perm:=by
  unfold ai
  simp[Function.comp_def]
 sl0:=rfl
 step:=λg h=>by
  have h':g<(gh k).length:=by simpa using h
  have h5:=BD k hk
  rw[pG f _ tk led _ g g (rq k hk g (by omega) (by omega)),List.getElem?_eq_getElem h']
  simp[EG,List.getD_eq_getElem?_getD,List.getElem?_eq_getElem h']
 stop:=by
  have h5:=BD k hk
  rw[List.length_map,pG f _ tk led _ _ (gh k).length (rq k hk _ (by omega) (Nat.le_refl _)),List.getElem?_eq_none (Nat.le_refl _)]
  rfl
theorem bj(v:WV):v.w.params.followText "set-order"=v.b3:=by kernel_rfl
structure bh (v:WV) (S:Addr) (so:Obj) (es:Array (Int×Value)) (ep:Nat) (t:SetTable) (P:List Value) (sl:Nat→Nat):Prop where
 data:so.data=.set es ep t
 fit:t.fits es.size=true
 plain:t.plain=true
 led:v.b3=false→t.led=true
 wk:Wk v.b3 (v.w.params.setOrder S ep) es t P sl
theorem bh.len{v:WV}{S:Addr}{so:Obj}{es:Array (Int×Value)}{ep:Nat}{t:SetTable}{P:List Value}{sl:Nat→Nat}(k:bh v S so es ep t P sl):P.length=es.size:=by
 have:=k.wk.perm.length_eq
 simpa using this
theorem bh.next{v:WV}{I S:Addr}{so:Obj}{es:Array (Int×Value)}{ep:Nat}{t:SetTable}{P:List Value}{sl:Nat→Nat}(k:bh v S so es ep t P sl){g:Nat}(h:g<P.length):
  aS v.w 20 [(I,bm (.ref S) es.size ep (sl g) g),(S,so)] (.call (.builtin "set_iterator.__next__") ⟨[.ref I],[]⟩) [I] (an I P[g] (bm (.ref S) es.size ep (sl (g+1)) (g+1))):=
 Af v.w k.data k.fit k.plain (by rw[bj];exact k.led) (by rw[bj];exact k.wk.step g h)
theorem bh.stop{v:WV}{I S:Addr}{so:Obj}{es:Array (Int×Value)}{ep:Nat}{t:SetTable}{P:List Value}{sl:Nat→Nat}(k:bh v S so es ep t P sl):
  aS v.w 20 [(I,bm (.ref S) es.size ep (sl P.length) P.length),(S,so)] (.call (.builtin "set_iterator.__next__") ⟨[.ref I],[]⟩) [I] (aE I (bm .none es.size ep (sl P.length) P.length)):=
 z7 v.w k.data k.fit k.plain (by rw[bj];exact k.led) (by rw[bj];exact k.wk.stop)
noncomputable def SI(m:Nat)(x:Value):Prop:=∃(c:Nat) (t:Tok),x=.int c t∧c<m
set_option backward.match.sparseCases false in
noncomputable def eX:Value→Nat
 |.int c _=>c.toNat
 |_=>0
noncomputable def fW(d:Rat):List Value→(Nat→Rat)→Nat→Rat
 |[],val=>val
 |x::l,val=>fW d l λi=>if i=eX x then val (eX x)+d else val i
theorem zk(v:WV)(pf rem:Bool)(l:LP){es:Array (Int×Value)}{t:SetTable}{P:List Value}{sl:Nat→Nat}(k:bh v l.S l.so es l.ep t P sl){m:Nat}{N:Int}{q:Rat}{Pre:Shared→Prop}
  (Sc:oJ v.w Pre l.f (fT rem l.i) q) (hN:0<N) (hN2:N<2 ^ 14) (hq:Dv N q) (hwt:-(2 ^ 64)<l.wt∧l.wt<2 ^ 64) (hso:l.so.cls≠.ref 237∧l.so.cls≠.type "dict") (hm:m<2 ^ 63) (hP:∀x∈P,SI m x)
  {A:Around} (hA:cp A 220):∀(rest:List Value) (g:Nat) (val:Nat→Rat) (ht:Nat→Int×Tok) (cv:Option Value) (items:Array Value) (s:Shared) (R:Result→Shared→Prop),P.drop g=rest→g≤P.length→
   Du v pf rem l es.size g (sl g) m val N ht cv items s→(∀s1,ah s s1 [l.I,l.L,l.M]→Kn (KB v.w) s1 []→Pre s1)→
   (∀ht' cv' items' s',ah s s' [l.I,l.L,l.M]→Kn (KB v.w) s' ((l.I,bm .none es.size l.ep (sl P.length) P.length)::(l.L,l.fr rem ht' cv')::(l.M,ac items' l.me)::[(l.V,bT l.VD),(l.VD,bU l.htv l.S l.wt l.twt),(l.S,l.so),(l.f,l.fo pf)])→
    bq v.w s' items' m (fW (q*(l.wt:Rat)) rest val)→(∀c,Dv N (fW (q*(l.wt:Rat)) rest val c))→cv'.isSome=(cv.isSome || !rest.isEmpty)→R (.ok .next) s')→
   codeAny (model pr v.w) A (mi rem v.w l.L l.I) R s:=by
 intro rest
 induction rest with
 |nil=>
  intro g val ht cv items s R hd hg S hPre H
  have hg':g=P.length:=by
   have:=congrArg List.length hd
   rw[List.length_drop]at this
   simp at this
   omega
  subst hg'
  have kn:=S.kn
  exact(zx v pf rem l ht cv items es.size P.length (sl P.length)).go hA kn [0,1,2] <| kc (λj=>k.stop) λj j j j=>kf λE s3 F K j=>H ht cv items s3 F K (S.nums.keep F K.nil (LP.nf kn)) S.dv (by simp)
 |cons x rest ih=>
  intro g val ht cv items s R hd hg S hPre H
  have hg':g<P.length:=by
   have:=congrArg List.length hd
   rw[List.length_drop]at this
   simp at this
   omega
  have hx:P[g]=x:=by
   have:=congrArg (λl=>l[0]?) hd
   simpa [List.getElem?_drop,List.getElem?_eq_getElem hg']using this
  have hd':P.drop (g+1)=rest:=by
   rw[←List.tail_drop,hd];rfl
  obtain⟨c,tc,e,hc⟩:=hP x (hx▸List.getElem_mem hg')
  have Cn:=k.next (I:=l.I) hg'
  rw[hx,e]at Cn
  have next:∀ht' items' s',ah s s' [l.I,l.L,l.M]→Du v pf rem l es.size (g+1) (sl (g+1)) m (λx=>if x=(c:Int).toNat then val (c:Int).toNat+q*(l.wt:Rat) else val x) N ht' (some (.int c tc)) items' s'→codeAny (model pr v.w) A (mi rem v.w l.L l.I) R s':=by
   intro ht' items' s' F S'
   refine ih (g+1) _ ht' _ items' s' R hd' hg' S' (λs1 F1 K1=>hPre s1 (F.trans' F1) K1) λht2 cv2 items2 s2 F2 K2 N2 D2 e2=>?_
   have ev:fW (q*(l.wt:Rat)) (x::rest) val=fW (q*(l.wt:Rat)) rest (λx=>if x=(c:Int).toNat then val (c:Int).toNat+q*(l.wt:Rat) else val x):=by rw[e];rfl
   rw[←ev]at N2 D2
   exact H ht2 cv2 items2 s2 (F.trans' F2) K2 N2 D2 (by simp at e2 ⊢;exact e2)
  exact zj v pf rem l Sc hN hN2 hq hwt Cn hso (by omega) (by simpa using hc) hm hA S hPre next
noncomputable def lm(ht:Nat→Int×Tok)(nm:Str)(k:Int)(tk:Tok):Obj:=bO ht [(nm,.int k tk)] 1
noncomputable def po(v:WV)(t:Tok):Cn:=⟨180,[(292,fC v.w.params)],.call (.ref 292) ⟨[.int 0 t],[]⟩,λzn zu=>.fin {i:=1,u:=3,cnt:=3,N:=25,orc:=(dz 7 68723703809)} (.ok (.ret (.int 0 (zu+2)))) (λj=>[])⟩
theorem nE v t:(po v t).G v:=Cn.g1 (f:=λv=>po v t) (λj j j j j=>by kernel_rfl) v
noncomputable def pj(v:WV)(i:Int)(t:Tok)(q:Rat):Cn:=⟨180,[(292,fC v.w.params)],.call (.ref 292) ⟨[.int i t],[]⟩,λzn zu=>.cut {i:=1,u:=3,K:=1,cnt:=1,N:=30,orc:=(dz 11 144124052892581889),ps:=[i≠(0:Int)]} (.call (.ref 237) ⟨[.int 1 (zu+2),.int i t],[]⟩) (λj=>[]) (λj=>ar q) λx n1 t1=>.fin {js:=[2,3],N:=6} (.ok (.ret (.ref x.a))) (λj=>(ar q).add x)⟩
theorem nD v i t q:(pj v i t q).G v:=Cn.g1 (f:=λv=>pj v i t q) (λj j j j j=>by kernel_rfl) v
noncomputable def mH(v:WV)(t:Tok):Cn:=⟨180,[(306,fB v.w.params)],.call (.ref 306) ⟨[.int 0 t],[]⟩,λzn zu=>.fin {i:=1,u:=3,cnt:=3,N:=25,orc:=(dz 7 68723703809)} (.ok (.ret (.int 0 (zu+2)))) (λj=>[])⟩
theorem lD v t:(mH v t).G v:=Cn.g1 (f:=λv=>mH v t) (λj j j j j=>by kernel_rfl) v
noncomputable def mG(v:WV)(i:Int)(t:Tok)(q:Rat):Cn:=⟨180,[(306,fB v.w.params)],.call (.ref 306) ⟨[.int i t],[]⟩,λzn zu=>.cut {i:=1,u:=7,K:=1,cnt:=3,N:=39,orc:=(dz 12 9367496089747357697),ps:=[IntMulOk (2:Int) i,i≠(0:Int)]} (.call (.ref 237) ⟨[.int 1 (zu+2),.int (2*i-1) (zu+6)],[]⟩) (λj=>[]) (λj=>ar q) λx n1 t1=>.fin {js:=[2,3],N:=6} (.ok (.ret (.ref x.a))) (λj=>(ar q).add x)⟩
theorem lB v i t q:(mG v i t q).G v:=Cn.g1 (f:=λv=>mG v i t q) (λj j j j j=>by kernel_rfl) v
noncomputable def j3(v:WV)(t:Tok):Cn:=⟨180,[(299,dX v.w.params)],.call (.ref 299) ⟨[.int 0 t],[]⟩,λzn zu=>.fin {i:=1,u:=3,cnt:=3,N:=25,orc:=(dz 7 68723703809)} (.ok (.ret (.int 0 (zu+2)))) (λj=>[])⟩
theorem j0 v t:(j3 v t).G v:=Cn.g1 (f:=λv=>j3 v t) (λj j j j j=>by kernel_rfl) v
noncomputable def jZ(v:WV)(t:Tok):Cn:=⟨180,[(299,dX v.w.params)],.call (.ref 299) ⟨[.int 1 t],[]⟩,λzn zu=>.fin {i:=1,u:=4,cnt:=5,N:=34,orc:=(dz 9 1125968630546433)} (.ok (.ret (.int 1 (zu+3)))) (λj=>[])⟩
theorem jY v t:(jZ v t).G v:=Cn.g1 (f:=λv=>jZ v t) (λj j j j j=>by kernel_rfl) v
noncomputable def jX(v:WV)(i:Int)(t:Tok)(q:Rat):Cn:=⟨180,[(299,dX v.w.params)],.call (.ref 299) ⟨[.int i t],[]⟩,λzn zu=>.cut {i:=1,u:=6,K:=1,cnt:=3,N:=43,orc:=(dz 13 2361328491387622031361),ps:=[i≠(1:Int),i≠(0:Int)]} (.call (.ref 237) ⟨[.int 1 (zu+3),.int (i-1) (zu+5)],[]⟩) (λj=>[]) (λj=>ar q) λx n1 t1=>.fin {js:=[2,3],N:=6} (.ok (.ret (.ref x.a))) (λj=>(ar q).add x)⟩
theorem jW v i t q:(jX v i t q).G v:=Cn.g1 (f:=λv=>jX v i t q) (λj j j j j=>by kernel_rfl) v
noncomputable def vh(v:WV)(i:Int)(t:Tok)(q:Rat):Cn:=⟨180,[(320,fz v.w.params)],.call (.ref 320) ⟨[.int i t],[]⟩,λzn zu=>.cut {i:=1,u:=3,K:=1,cnt:=1,N:=28,orc:=(dz 10 4466770214913),ps:=[i=(1:Int)]} (.call (.ref 237) ⟨[.int 1 (zu+2)],[]⟩) (λj=>[]) (λj=>ar q) λx n1 t1=>.fin {js:=[2,3],N:=6} (.ok (.ret (.ref x.a))) (λj=>(ar q).add x)⟩
theorem pp v i t q:(vh v i t q).G v:=Cn.g1 (f:=λv=>vh v i t q) (λj j j j j=>by kernel_rfl) v
noncomputable def vi(v:WV)(i:Int)(t:Tok)(q:Rat):Cn:=⟨180,[(320,fz v.w.params)],.call (.ref 320) ⟨[.int i t],[]⟩,λzn zu=>.cut {i:=1,u:=3,K:=1,cnt:=1,N:=28,orc:=(dz 10 8864816726017),ps:=[i≠(1:Int)]} (.call (.ref 237) ⟨[.int 0 (zu+2)],[]⟩) (λj=>[]) (λj=>ar q) λx n1 t1=>.fin {js:=[2,3],N:=6} (.ok (.ret (.ref x.a))) (λj=>(ar q).add x)⟩
theorem pq v i t q:(vi v i t q).G v:=Cn.g1 (f:=λv=>vi v i t q) (λj j j j j=>by kernel_rfl) v
noncomputable def vj(v:WV)(i:Int)(t:Tok)(q:Rat):Cn:=⟨180,[(313,fA v.w.params)],.call (.ref 313) ⟨[.int i t],[]⟩,λzn zu=>.cut {i:=1,u:=3,K:=1,cnt:=1,N:=28,orc:=(dz 10 4466770214913),ps:=[(1:Int)≤i]} (.call (.ref 237) ⟨[.int 1 (zu+2)],[]⟩) (λj=>[]) (λj=>ar q) λx n1 t1=>.fin {js:=[2,3],N:=6} (.ok (.ret (.ref x.a))) (λj=>(ar q).add x)⟩
theorem pt v i t q:(vj v i t q).G v:=Cn.g1 (f:=λv=>vj v i t q) (λj j j j j=>by kernel_rfl) v
noncomputable def vk(v:WV)(i:Int)(t:Tok)(q:Rat):Cn:=⟨180,[(313,fA v.w.params)],.call (.ref 313) ⟨[.int i t],[]⟩,λzn zu=>.cut {i:=1,u:=3,K:=1,cnt:=1,N:=28,orc:=(dz 10 8864816726017),ps:=[i<(1:Int)]} (.call (.ref 237) ⟨[.int 0 (zu+2)],[]⟩) (λj=>[]) (λj=>ar q) λx n1 t1=>.fin {js:=[2,3],N:=6} (.ok (.ret (.ref x.a))) (λj=>(ar q).add x)⟩
theorem pu v i t q:(vk v i t q).G v:=Cn.g1 (f:=λv=>vk v i t q) (λj j j j j=>by kernel_rfl) v
noncomputable def jV(v:WV)(tb t:Tok):Cn:=⟨120,[],.call (.ref 285) ⟨[.int 0 t],[(aN,.int 2 tb)]⟩,λzn zu=>.fin {i:=1,u:=4,cnt:=3,N:=29,orc:=(dz 9 562984583708672)} (.ok (.ret (.int 0 (zu+3)))) (λj=>[])⟩
theorem jU v tb t:(jV v tb t).G v:=Cn.g1 (f:=λv=>jV v tb t) (λj j j j j=>by kernel_rfl) v
noncomputable def jT(v:WV)(tb t:Tok)(q:Rat):Cn:=⟨120,[],.call (.ref 285) ⟨[.int 1 t],[(aN,.int 2 tb)]⟩,λzn zu=>.cut {i:=1,u:=7,K:=1,cnt:=7,N:=49,orc:=(dz 14 152296319635530641850368)} (.call (.ref 237) ⟨[.int 1 (zu+3),.int 1 (zu+6)],[]⟩) (λj=>[]) (λj=>ar q) λx n1 t1=>.fin {js:=[1,2],N:=6} (.ok (.ret (.ref x.a))) (λj=>(ar q).add x)⟩
theorem jS v tb t q:(jT v tb t q).G v:=Cn.g1 (f:=λv=>jT v tb t q) (λj j j j j=>by kernel_rfl) v
noncomputable def jR(v:WV)(tb t:Tok)(q:Rat):Cn:=⟨120,[],.call (.ref 285) ⟨[.int 2 t],[(aN,.int 2 tb)]⟩,λzn zu=>.cut {i:=1,u:=7,K:=1,cnt:=7,N:=49,orc:=(dz 14 152296319635530641850368)} (.call (.ref 237) ⟨[.int 1 (zu+3),.int 2 (zu+6)],[]⟩) (λj=>[]) (λj=>ar q) λx n1 t1=>.fin {js:=[1,2],N:=6} (.ok (.ret (.ref x.a))) (λj=>(ar q).add x)⟩
theorem jQ v tb t q:(jR v tb t q).G v:=Cn.g1 (f:=λv=>jR v tb t q) (λj j j j j=>by kernel_rfl) v
noncomputable def jP(v:WV)(tb t:Tok)(q:Rat):Cn:=⟨120,[],.call (.ref 285) ⟨[.int 3 t],[(aN,.int 2 tb)]⟩,λzn zu=>.cut {i:=1,u:=7,K:=1,cnt:=7,N:=49,orc:=(dz 14 152296319635530641850368)} (.call (.ref 237) ⟨[.int 1 (zu+3),.int 4 (zu+6)],[]⟩) (λj=>[]) (λj=>ar q) λx n1 t1=>.fin {js:=[1,2],N:=6} (.ok (.ret (.ref x.a))) (λj=>(ar q).add x)⟩
theorem jO v tb t q:(jP v tb t q).G v:=Cn.g1 (f:=λv=>jP v tb t q) (λj j j j j=>by kernel_rfl) v
noncomputable def jN(v:WV)(tb t:Tok)(q:Rat):Cn:=⟨120,[],.call (.ref 285) ⟨[.int 4 t],[(aN,.int 2 tb)]⟩,λzn zu=>.cut {i:=1,u:=7,K:=1,cnt:=7,N:=49,orc:=(dz 14 152296319635530641850368)} (.call (.ref 237) ⟨[.int 1 (zu+3),.int 8 (zu+6)],[]⟩) (λj=>[]) (λj=>ar q) λx n1 t1=>.fin {js:=[1,2],N:=6} (.ok (.ret (.ref x.a))) (λj=>(ar q).add x)⟩
theorem jM v tb t q:(jN v tb t q).G v:=Cn.g1 (f:=λv=>jN v tb t q) (λj j j j j=>by kernel_rfl) v
noncomputable def jL(v:WV)(tb t:Tok):Cn:=⟨120,[],.call (.ref 285) ⟨[.int 0 t],[(aN,.int 3 tb)]⟩,λzn zu=>.fin {i:=1,u:=4,cnt:=3,N:=29,orc:=(dz 9 562984583708672)} (.ok (.ret (.int 0 (zu+3)))) (λj=>[])⟩
theorem jK v tb t:(jL v tb t).G v:=Cn.g1 (f:=λv=>jL v tb t) (λj j j j j=>by kernel_rfl) v
noncomputable def jJ(v:WV)(tb t:Tok)(q:Rat):Cn:=⟨120,[],.call (.ref 285) ⟨[.int 1 t],[(aN,.int 3 tb)]⟩,λzn zu=>.cut {i:=1,u:=7,K:=1,cnt:=7,N:=49,orc:=(dz 14 152296319635530641850368)} (.call (.ref 237) ⟨[.int 1 (zu+3),.int 1 (zu+6)],[]⟩) (λj=>[]) (λj=>ar q) λx n1 t1=>.fin {js:=[1,2],N:=6} (.ok (.ret (.ref x.a))) (λj=>(ar q).add x)⟩
theorem jI v tb t q:(jJ v tb t q).G v:=Cn.g1 (f:=λv=>jJ v tb t q) (λj j j j j=>by kernel_rfl) v
noncomputable def jH(v:WV)(tb t:Tok)(q:Rat):Cn:=⟨120,[],.call (.ref 285) ⟨[.int 2 t],[(aN,.int 3 tb)]⟩,λzn zu=>.cut {i:=1,u:=7,K:=1,cnt:=7,N:=49,orc:=(dz 14 152296319635530641850368)} (.call (.ref 237) ⟨[.int 1 (zu+3),.int 3 (zu+6)],[]⟩) (λj=>[]) (λj=>ar q) λx n1 t1=>.fin {js:=[1,2],N:=6} (.ok (.ret (.ref x.a))) (λj=>(ar q).add x)⟩
theorem jG v tb t q:(jH v tb t q).G v:=Cn.g1 (f:=λv=>jH v tb t q) (λj j j j j=>by kernel_rfl) v
noncomputable def jF(v:WV)(tb t:Tok)(q:Rat):Cn:=⟨120,[],.call (.ref 285) ⟨[.int 3 t],[(aN,.int 3 tb)]⟩,λzn zu=>.cut {i:=1,u:=7,K:=1,cnt:=7,N:=49,orc:=(dz 14 152296319635530641850368)} (.call (.ref 237) ⟨[.int 1 (zu+3),.int 9 (zu+6)],[]⟩) (λj=>[]) (λj=>ar q) λx n1 t1=>.fin {js:=[1,2],N:=6} (.ok (.ret (.ref x.a))) (λj=>(ar q).add x)⟩
theorem jE v tb t q:(jF v tb t q).G v:=Cn.g1 (f:=λv=>jF v tb t q) (λj j j j j=>by kernel_rfl) v
noncomputable def jD(v:WV)(tb t:Tok)(q:Rat):Cn:=⟨120,[],.call (.ref 285) ⟨[.int 4 t],[(aN,.int 3 tb)]⟩,λzn zu=>.cut {i:=1,u:=7,K:=1,cnt:=7,N:=49,orc:=(dz 14 152296319635530641850368)} (.call (.ref 237) ⟨[.int 1 (zu+3),.int 27 (zu+6)],[]⟩) (λj=>[]) (λj=>ar q) λx n1 t1=>.fin {js:=[1,2],N:=6} (.ok (.ret (.ref x.a))) (λj=>(ar q).add x)⟩
theorem jC v tb t q:(jD v tb t q).G v:=Cn.g1 (f:=λv=>jD v tb t q) (λj j j j j=>by kernel_rfl) v
noncomputable def pv(v:WV)(i:Int)(tb t:Tok)(q:Rat):Cn:=⟨120,[],.call (.ref 327) ⟨[.int i t],[(dS,.int 2 tb)]⟩,λzn zu=>.cut {i:=1,u:=3,K:=1,cnt:=1,N:=33,orc:=(dz 13 9295992615476412416),ps:=[i=(2:Int)]} (.call (.ref 237) ⟨[.int 1 (zu+2)],[]⟩) (λj=>[]) (λj=>ar q) λx n1 t1=>.fin {js:=[1,2],N:=6} (.ok (.ret (.ref x.a))) (λj=>(ar q).add x)⟩
theorem nF v i tb t q:(pv v i tb t q).G v:=Cn.g1 (f:=λv=>pv v i tb t q) (λj j j j j=>by kernel_rfl) v
noncomputable def pw(v:WV)(i:Int)(tb t:Tok)(q:Rat):Cn:=⟨120,[],.call (.ref 327) ⟨[.int i t],[(dS,.int 2 tb)]⟩,λzn zu=>.cut {i:=1,u:=3,K:=1,cnt:=1,N:=33,orc:=(dz 13 18519364652331188224),ps:=[i≠(2:Int)]} (.call (.ref 237) ⟨[.int 0 (zu+2)],[]⟩) (λj=>[]) (λj=>ar q) λx n1 t1=>.fin {js:=[1,2],N:=6} (.ok (.ret (.ref x.a))) (λj=>(ar q).add x)⟩
theorem nG v i tb t q:(pw v i tb t q).G v:=Cn.g1 (f:=λv=>pw v i tb t q) (λj j j j j=>by kernel_rfl) v
noncomputable def jy(v:WV)(P a:Addr)(d:Nat)(ht:Nat→Int×Tok)(k:Int)(tb:Tok)(i:Int)(t:Tok)(q:Rat):Cn:=⟨180,[(P,dM 285 a (d+2)),(a,aO #[] 0),(d+2,lm ht aN k tb)],.call (.ref P) ⟨[.int i t],[]⟩,λzn zu=>.cut {K:=6,cnt:=2,N:=17,orc:=(dz 10 9368063403653873793)} (.call (.ref 285) ⟨[.int i t],[(aN,.int k tb)]⟩) (λj=>[]) (λj=>ar q) λx n1 t1=>.fin {js:=[3,4],N:=6} (.ok (.ret (.ref x.a))) (λj=>(ar q).add x)⟩
theorem jx v P a d ht k tb i t q:(jy v P a d ht k tb i t q).G v:=Cn.k1 (f:=λv=>jy v P a d ht k tb i t q) (λj j j j j j=>by kernel_rfl) v
noncomputable def jA(v:WV)(P a:Addr)(d:Nat)(ht:Nat→Int×Tok)(k:Int)(tb:Tok)(i:Int)(t:Tok)(r:Int):Cn:=⟨180,[(P,dM 285 a (d+2)),(a,aO #[] 0),(d+2,lm ht aN k tb)],.call (.ref P) ⟨[.int i t],[]⟩,λzn zu=>.cut {K:=6,cnt:=2,N:=17,orc:=(dz 10 9368063403653873793)} (.call (.ref 285) ⟨[.int i t],[(aN,.int k tb)]⟩) (λj=>[]) (λj=>aw r) λx n1 t1=>.fin {N:=6} (.ok (.ret (.int r x))) (λj=>[])⟩
theorem jz v P a d ht k tb i t r:(jA v P a d ht k tb i t r).G v:=Cn.k1 (f:=λv=>jA v P a d ht k tb i t r) (λj j j j j j=>by kernel_rfl) v
noncomputable def jw(v:WV)(P a:Addr)(d:Nat)(ht:Nat→Int×Tok)(k:Int)(tb:Tok)(i:Int)(t:Tok)(q:Rat):Cn:=⟨180,[(P,dM 327 a (d+2)),(a,aO #[] 0),(d+2,lm ht dS k tb)],.call (.ref P) ⟨[.int i t],[]⟩,λzn zu=>.cut {K:=6,cnt:=2,N:=17,orc:=(dz 10 9368063403653873793)} (.call (.ref 327) ⟨[.int i t],[(dS,.int k tb)]⟩) (λj=>[]) (λj=>ar q) λx n1 t1=>.fin {js:=[3,4],N:=6} (.ok (.ret (.ref x.a))) (λj=>(ar q).add x)⟩
theorem jv v P a d ht k tb i t q:(jw v P a d ht k tb i t q).G v:=Cn.k1 (f:=λv=>jw v P a d ht k tb i t q) (λj j j j j j=>by kernel_rfl) v
theorem zY(v:WV)(t:Tok):Ct v.w 180 [] (λs=>Kn (KB v.w) s [(292,fC v.w.params)]) (.call (.ref 292) ⟨[.int 0 t],[]⟩) [] (aw 0) bP:=
 (nE v t).ctP λA s R j hR=>kr hR λj=>(s.toks+2)
theorem zX(v:WV)(i:Int)(t:Tok)(h0:0<i)(h1:i<2 ^ 29):Ct v.w 180 [] (λs=>Kn (KB v.w) s [(292,fC v.w.params)]) (.call (.ref 292) ⟨[.int i t],[]⟩) [] (ar (Rat.divInt 1 i)) bP:=
 (nD v i t (Rat.divInt 1 i)).ctP λA s R j hR=>kc (hps:=⟨by omega,trivial⟩) (λj=>fH v _ _ _ _ (by omega) (by omega) (rfl)) λx j j j=>kr hR λj=>x
theorem uS(v:WV)(t:Tok):Ct v.w 180 [] (λs=>Kn (KB v.w) s [(306,fB v.w.params)]) (.call (.ref 306) ⟨[.int 0 t],[]⟩) [] (aw 0) bP:=
 (lD v t).ctP λA s R j hR=>kr hR λj=>(s.toks+2)
theorem uR(v:WV)(i:Int)(t:Tok)(h0:0<i)(h1:i<2 ^ 27):Ct v.w 180 [] (λs=>Kn (KB v.w) s [(306,fB v.w.params)]) (.call (.ref 306) ⟨[.int i t],[]⟩) [] (ar (Rat.divInt 1 (2*i-1))) bP:=
 (lB v i t (Rat.divInt 1 (2*i-1))).ctP λA s R j hR=>kc (hps:=⟨az (by omega) (by omega),by omega,trivial⟩) (λj=>fH v _ _ _ _ (by omega) (by omega) (rfl)) λx j j j=>kr hR λj=>x
theorem rI(v:WV)(t:Tok):Ct v.w 180 [] (λs=>Kn (KB v.w) s [(299,dX v.w.params)]) (.call (.ref 299) ⟨[.int 0 t],[]⟩) [] (aw 0) bP:=
 (j0 v t).ctP λA s R j hR=>kr hR λj=>(s.toks+2)
theorem rH(v:WV)(t:Tok):Ct v.w 180 [] (λs=>Kn (KB v.w) s [(299,dX v.w.params)]) (.call (.ref 299) ⟨[.int 1 t],[]⟩) [] (aw 1) bP:=
 (jY v t).ctP λA s R j hR=>kr hR λj=>(s.toks+3)
theorem rG(v:WV)(i:Int)(t:Tok)(h0:1<i)(h1:i<2 ^ 29):Ct v.w 180 [] (λs=>Kn (KB v.w) s [(299,dX v.w.params)]) (.call (.ref 299) ⟨[.int i t],[]⟩) [] (ar (Rat.divInt 1 (i-1))) bP:=
 (jW v i t (Rat.divInt 1 (i-1))).ctP λA s R j hR=>kc (hps:=⟨by omega,by omega,trivial⟩) (λj=>fH v _ _ _ _ (by omega) (by omega) (rfl)) λx j j j=>kr hR λj=>x
theorem CQ(v:WV)(i:Int)(t:Tok)(h0:i=1):Ct v.w 180 [] (λs=>Kn (KB v.w) s [(320,fz v.w.params)]) (.call (.ref 320) ⟨[.int i t],[]⟩) [] (ar ((1:Int):Rat)) bP:=
 (pp v i t ((1:Int):Rat)).ctP λA s R j hR=>kc (hps:=⟨h0,trivial⟩) (λj=>iE v _ _) λx j j j=>kr hR λj=>x
theorem xi(v:WV)(i:Int)(t:Tok)(h0:i≠1):Ct v.w 180 [] (λs=>Kn (KB v.w) s [(320,fz v.w.params)]) (.call (.ref 320) ⟨[.int i t],[]⟩) [] (ar ((0:Int):Rat)) bP:=
 (pq v i t ((0:Int):Rat)).ctP λA s R j hR=>kc (hps:=⟨h0,trivial⟩) (λj=>iE v _ _) λx j j j=>kr hR λj=>x
theorem CR(v:WV)(i:Int)(t:Tok)(h0:1≤i):Ct v.w 180 [] (λs=>Kn (KB v.w) s [(313,fA v.w.params)]) (.call (.ref 313) ⟨[.int i t],[]⟩) [] (ar ((1:Int):Rat)) bP:=
 (pt v i t ((1:Int):Rat)).ctP λA s R j hR=>kc (hps:=⟨h0,trivial⟩) (λj=>iE v _ _) λx j j j=>kr hR λj=>x
theorem CT(v:WV)(i:Int)(t:Tok)(h0:i<1):Ct v.w 180 [] (λs=>Kn (KB v.w) s [(313,fA v.w.params)]) (.call (.ref 313) ⟨[.int i t],[]⟩) [] (ar ((0:Int):Rat)) bP:=
 (pu v i t ((0:Int):Rat)).ctP λA s R j hR=>kc (hps:=⟨h0,trivial⟩) (λj=>iE v _ _) λx j j j=>kr hR λj=>x
theorem zZ(v:WV)(i:Int)(tb t:Tok)(h0:i=2):Ct v.w 120 [] (aK) (.call (.ref 327) ⟨[.int i t],[(dS,.int 2 tb)]⟩) [] (ar ((1:Int):Rat)) bP:=
 (nF v i tb t ((1:Int):Rat)).ct [] λA s R j j j hR=>kc (hps:=⟨h0,trivial⟩) (λj=>iE v _ _) λx j j j=>kr hR λj=>x
theorem mn(v:WV)(i:Int)(tb t:Tok)(h0:i≠2):Ct v.w 120 [] (aK) (.call (.ref 327) ⟨[.int i t],[(dS,.int 2 tb)]⟩) [] (ar ((0:Int):Rat)) bP:=
 (nG v i tb t ((0:Int):Rat)).ct [] λA s R j j j hR=>kc (hps:=⟨h0,trivial⟩) (λj=>iE v _ _) λx j j j=>kr hR λj=>x
theorem rE(v:WV)(tb t:Tok):Ct v.w 120 [] (aK) (.call (.ref 285) ⟨[.int 0 t],[(aN,.int 2 tb)]⟩) [] (aw 0) bP:=
 (jU v tb t).ct [] λA s R j j j hR=>kr hR λj=>(s.toks+3)
theorem rD(v:WV)(tb t:Tok):Ct v.w 120 [] (aK) (.call (.ref 285) ⟨[.int 1 t],[(aN,.int 2 tb)]⟩) [] (ar (Rat.divInt 1 1)) bP:=
 (jS v tb t (Rat.divInt 1 1)).ct [] λA s R j j j hR=>kc (λj=>fH v _ _ _ _ (by decide) (by decide) rfl) λx j j j=>kr hR λj=>x
theorem rC(v:WV)(tb t:Tok):Ct v.w 120 [] (aK) (.call (.ref 285) ⟨[.int 2 t],[(aN,.int 2 tb)]⟩) [] (ar (Rat.divInt 1 2)) bP:=
 (jQ v tb t (Rat.divInt 1 2)).ct [] λA s R j j j hR=>kc (λj=>fH v _ _ _ _ (by decide) (by decide) rfl) λx j j j=>kr hR λj=>x
theorem rB(v:WV)(tb t:Tok):Ct v.w 120 [] (aK) (.call (.ref 285) ⟨[.int 3 t],[(aN,.int 2 tb)]⟩) [] (ar (Rat.divInt 1 4)) bP:=
 (jO v tb t (Rat.divInt 1 4)).ct [] λA s R j j j hR=>kc (λj=>fH v _ _ _ _ (by decide) (by decide) rfl) λx j j j=>kr hR λj=>x
theorem rA(v:WV)(tb t:Tok):Ct v.w 120 [] (aK) (.call (.ref 285) ⟨[.int 4 t],[(aN,.int 2 tb)]⟩) [] (ar (Rat.divInt 1 8)) bP:=
 (jM v tb t (Rat.divInt 1 8)).ct [] λA s R j j j hR=>kc (λj=>fH v _ _ _ _ (by decide) (by decide) rfl) λx j j j=>kr hR λj=>x
theorem rz(v:WV)(tb t:Tok):Ct v.w 120 [] (aK) (.call (.ref 285) ⟨[.int 0 t],[(aN,.int 3 tb)]⟩) [] (aw 0) bP:=
 (jK v tb t).ct [] λA s R j j j hR=>kr hR λj=>(s.toks+3)
theorem ry(v:WV)(tb t:Tok):Ct v.w 120 [] (aK) (.call (.ref 285) ⟨[.int 1 t],[(aN,.int 3 tb)]⟩) [] (ar (Rat.divInt 1 1)) bP:=
 (jI v tb t (Rat.divInt 1 1)).ct [] λA s R j j j hR=>kc (λj=>fH v _ _ _ _ (by decide) (by decide) rfl) λx j j j=>kr hR λj=>x
theorem rx(v:WV)(tb t:Tok):Ct v.w 120 [] (aK) (.call (.ref 285) ⟨[.int 2 t],[(aN,.int 3 tb)]⟩) [] (ar (Rat.divInt 1 3)) bP:=
 (jG v tb t (Rat.divInt 1 3)).ct [] λA s R j j j hR=>kc (λj=>fH v _ _ _ _ (by decide) (by decide) rfl) λx j j j=>kr hR λj=>x
theorem rv(v:WV)(tb t:Tok):Ct v.w 120 [] (aK) (.call (.ref 285) ⟨[.int 3 t],[(aN,.int 3 tb)]⟩) [] (ar (Rat.divInt 1 9)) bP:=
 (jE v tb t (Rat.divInt 1 9)).ct [] λA s R j j j hR=>kc (λj=>fH v _ _ _ _ (by decide) (by decide) rfl) λx j j j=>kr hR λj=>x
theorem ru(v:WV)(tb t:Tok):Ct v.w 120 [] (aK) (.call (.ref 285) ⟨[.int 4 t],[(aN,.int 3 tb)]⟩) [] (ar (Rat.divInt 1 27)) bP:=
 (jC v tb t (Rat.divInt 1 27)).ct [] λA s R j j j hR=>kc (λj=>fH v _ _ _ _ (by decide) (by decide) rfl) λx j j j=>kr hR λj=>x
theorem cM(v:WV)(P a:Addr)(d:Nat)(ht:Nat→Int×Tok)(k:Int)(tb:Tok)(i:Int)(t:Tok){q:Rat}(C:aS v.w 120 [] (.call (.ref 285) ⟨[.int i t],[(aN,.int k tb)]⟩) [] (ar q)):Ct v.w 180 [] (λs=>Kn (KB v.w) s [(P,dM 285 a (d+2)),(a,aO #[] 0),(d+2,lm ht aN k tb)]) (.call (.ref P) ⟨[.int i t],[]⟩) [] (ar q) bP:=
 (jx v P a d ht k tb i t q).ctP λA s R j hR=>kc (λj=>C) λx j j j=>kr hR λj=>x
theorem la(v:WV)(P a:Addr)(d:Nat)(ht:Nat→Int×Tok)(k:Int)(tb:Tok)(i:Int)(t:Tok){r:Int}(C:aS v.w 120 [] (.call (.ref 285) ⟨[.int i t],[(aN,.int k tb)]⟩) [] (aw r)):Ct v.w 180 [] (λs=>Kn (KB v.w) s [(P,dM 285 a (d+2)),(a,aO #[] 0),(d+2,lm ht aN k tb)]) (.call (.ref P) ⟨[.int i t],[]⟩) [] (aw r) bP:=
 (jz v P a d ht k tb i t r).ctP λA s R j hR=>kc (λj=>C) λx j j j=>kr hR λj=>x
theorem fF(v:WV)(P a:Addr)(d:Nat)(ht:Nat→Int×Tok)(k:Int)(tb:Tok)(i:Int)(t:Tok){q:Rat}(C:aS v.w 120 [] (.call (.ref 327) ⟨[.int i t],[(dS,.int k tb)]⟩) [] (ar q)):Ct v.w 180 [] (λs=>Kn (KB v.w) s [(P,dM 327 a (d+2)),(a,aO #[] 0),(d+2,lm ht dS k tb)]) (.call (.ref P) ⟨[.int i t],[]⟩) [] (ar q) bP:=
 (jv v P a d ht k tb i t q).ctP λA s R j hR=>kc (λj=>C) λx j j j=>kr hR λj=>x
noncomputable def gY(j i:Nat):Rat:=match i with
 |0=>0
 |i+1=>match j with
  |0=>Rat.divInt 1 (i+1)
  |1=>Rat.divInt 1 (2*(i+1)-1)
  |2=>match i with|0=>1|i+1=>Rat.divInt 1 (i+1)
  |3=>match i with|0=>1|_+1=>0
  |4=>1
  |5=>Rat.divInt 1 (2 ^ i)
  |6=>Rat.divInt 1 (3 ^ i)
  |_=>match i with|1=>1|_=>0
inductive oH (v:WV):Nat→Addr→List (Addr×Obj)→Prop
 |pav:oH v 0 292 [(292,fC v.w.params)]
 |slav:oH v 1 306 [(306,fB v.w.params)]
 |adams:oH v 2 299 [(299,dX v.w.params)]
 |cc:oH v 3 320 [(320,fz v.w.params)]
 |av:oH v 4 313 [(313,fA v.w.params)]
 |geom2 (P a:Addr) (d:Nat) (ht:Nat→Int×Tok) (tb:Tok):oH v 5 P [(P,dM 285 a (d+2)),(a,aO #[] 0),(d+2,lm ht aN 2 tb)]
 |geom3 (P a:Addr) (d:Nat) (ht:Nat→Int×Tok) (tb:Tok):oH v 6 P [(P,dM 285 a (d+2)),(a,aO #[] 0),(d+2,lm ht aN 3 tb)]
 |atl (P a:Addr) (d:Nat) (ht:Nat→Int×Tok) (tb:Tok):oH v 7 P [(P,dM 327 a (d+2)),(a,aO #[] 0),(d+2,lm ht dS 2 tb)]
theorem qp:(0:Rat)=((0:Int):Rat):=rfl
theorem E5:(1:Rat)=((1:Int):Rat):=rfl
noncomputable def xh(w:World)(Pre:Shared→Prop)(f:Addr)(i:Int)(r:Rat):Bool→Prop
 |false=>∀t,Ct w 180 [] Pre (.call (.ref f) ⟨[.int i t],[]⟩) [] (ar r) bP
 |true=>∃k:Int,r=(k:Rat)∧(-(2 ^ 64)<k∧k<2 ^ 64)∧∀t,Ct w 180 [] Pre (.call (.ref f) ⟨[.int i t],[]⟩) [] (aw k) bP
theorem xh.toC{w:World}{Pre:Shared→Prop}{f:Addr}{i:Int}{r:Rat}:∀{b:Bool},xh w Pre f i r b→oJ w Pre f i r
 |false,h=>.fr h
 |true,⟨k,h1,h2,h3⟩=>.int k h1 h2 h3
noncomputable def iU(j i:Nat):Bool:=match i with
 |0=>(match j with|0|1|2|5|6=>true|_=>false)
 |1=>(match j with|2=>true|_=>false)
 |_=>false
theorem oH.kinds{v:WV}{j:Nat}{f:Addr}{kn:List (Addr×Obj)}(h:oH v j f kn){i:Nat}(hi:i≤4):xh v.w (λs=>Kn (KB v.w) s kn) f (i:Int) (gY j i) (iU j i):=by
 cases h with
 |pav=>
  cases i with
  |zero=>exact⟨0,qp,by omega,λt=>zY v t⟩
  |succ i=>cases i<;>exact λt=>zX v _ t (by omega) (by omega)
 |slav=>
  cases i with
  |zero=>exact⟨0,qp,by omega,λt=>uS v t⟩
  |succ i=>cases i<;>exact λt=>uR v _ t (by omega) (by omega)
 |adams=>
  match i,hi with
  |0,_=>exact⟨0,qp,by omega,λt=>rI v t⟩
  |1,_=>exact⟨1,E5,by omega,λt=>rH v t⟩
  |i+2,hi=>
   refine λt=>?_
   have:=rG v ((i+2:Nat):Int) t (by omega) (by omega)
   rw[show((i+2:Nat):Int)-1=((i+1:Nat):Int) by omega]at this
   exact this
 |cc=>
  match i,hi with
  |0,_=>exact λt=>xi v _ t (by decide)
  |1,_=>exact λt=>CQ v _ t (by decide)
  |i+2,hi=>exact λt=>xi v _ t (by omega)
 |av=>
  cases i with
  |zero=>exact λt=>CT v _ t (by decide)
  |succ i=>cases i<;>exact λt=>CR v _ t (by omega)
 |geom2 _ a d ht tb=>
  match i,hi with
  |0,_=>exact⟨0,qp,by omega,λt=>la v f a d ht 2 tb 0 t (rE v tb t)⟩
  |1,_=>exact λt=>cM v f a d ht 2 tb 1 t (rD v tb t)
  |2,_=>exact λt=>cM v f a d ht 2 tb 2 t (rC v tb t)
  |3,_=>exact λt=>cM v f a d ht 2 tb 3 t (rB v tb t)
  |4,_=>exact λt=>cM v f a d ht 2 tb 4 t (rA v tb t)
  |i+5,hi=>omega
 |geom3 _ a d ht tb=>
  match i,hi with
  |0,_=>exact⟨0,qp,by omega,λt=>la v f a d ht 3 tb 0 t (rz v tb t)⟩
  |1,_=>exact λt=>cM v f a d ht 3 tb 1 t (ry v tb t)
  |2,_=>exact λt=>cM v f a d ht 3 tb 2 t (rx v tb t)
  |3,_=>exact λt=>cM v f a d ht 3 tb 3 t (rv v tb t)
  |4,_=>exact λt=>cM v f a d ht 3 tb 4 t (ru v tb t)
  |i+5,hi=>omega
 |atl _ a d ht tb=>
  match i,hi with
  |0,_=>exact λt=>fF v f a d ht 2 tb 0 t (mn v 0 tb t (by decide))
  |1,_=>exact λt=>fF v f a d ht 2 tb 1 t (mn v 1 tb t (by decide))
  |2,_=>exact λt=>fF v f a d ht 2 tb 2 t (zZ v 2 tb t (by decide))
  |i+3,hi=>exact λt=>fF v f a d ht 2 tb ((i+3:Nat):Int) t (mn v ((i+3:Nat):Int) tb t (by omega))
theorem oH.scores{v:WV}{j:Nat}{f:Addr}{kn:List (Addr×Obj)}(h:oH v j f kn){i:Nat}(hi:i≤4):oJ v.w (λs=>Kn (KB v.w) s kn) f (i:Int) (gY j i):=(h.kinds hi).toC
noncomputable def aj(s:Value)(g:Nat):Obj:={cls:=.type "list_iterator",data:=.fields #[s,.int g 0]}
theorem aP(w:World){I L:Addr}{xs:Array Value}{ep g:Nat}{x:Value}(hx:xs[g]?=some x):
  aS w 20 [(I,aj (.ref L) g),(L,ac xs ep)] (.call (.builtin "list_iterator.__next__") ⟨[.ref I],[]⟩) [I] (an I x (aj (.ref L) (g+1))):=by
 intro A s R hA hk _ hR
 have o1:s.heap.get? I=some (aj (.ref L) g):=hk.obj (I,_) (List.mem_cons_self ..)
 have o2:s.heap.get? L=some (ac xs ep):=hk.obj (L,ac xs ep) (List.mem_cons_of_mem _ (List.mem_cons_self ..))
 refine codeAny_call_builtin slot_listiter_next.plain entry_listiter_next (slot_listiter_next.check _ _ _ _ _ _ _ _ ⟨_,o1,rfl⟩ (args_listiter_next _) ?_)
 show wpAny _ _ (field (.ref I) 0>>=_) _ _ s
 refine wpAny_bind (wpAny_field o1 rfl (by rfl) ?_)
 show wpAny _ _ (field (.ref I) 1>>=_) _ _ s
 refine wpAny_bind (wpAny_field o1 rfl (by rfl) ?_)
 show wpAny _ _ (seqItems? (.ref L)>>=_) _ _ s
 refine wpAny_bind (wpAny_seqItems o2 rfl ?_)
 show wpAny _ _ (match xs[((g:Int)).toNat]? with|some x=>_|none=>_) _ _ s
 rw[Int.toNat_natCast,hx]
 show wpAny _ _ (setField (.ref I) 1 _>>=_) _ _ s
 refine wpAny_bind (wpAny_setField o1 rfl (by simp) ?_)
 have o3:=cF 1 (rawInt ((g:Int)+1)) o1
 have Fr:=mZ (s:=s) (I:=I) (h':=s.heap.update I (Obj.mapFields (·.setIfInBounds 1 (rawInt ((g:Int)+1))))) (by rw[Heap.size_update]) λb o hb e=>by rw[Heap.get?_update_ne _ _ _ _ hb];exact e
 exact wpAny_pure (hR () _ Fr (hk.upd1 Fr o3) (by simp[an]) trivial)
theorem bE(w:World){I L:Addr}{xs:Array Value}{ep g:Nat}(hx:xs[g]?=none):
  aS w 20 [(I,aj (.ref L) g),(L,ac xs ep)] (.call (.builtin "list_iterator.__next__") ⟨[.ref I],[]⟩) [I] (aE I (aj .none g)):=by
 intro A s R hA hk _ hR
 have o1:s.heap.get? I=some (aj (.ref L) g):=hk.obj (I,_) (List.mem_cons_self ..)
 have o2:s.heap.get? L=some (ac xs ep):=hk.obj (L,ac xs ep) (List.mem_cons_of_mem _ (List.mem_cons_self ..))
 refine codeAny_call_builtin slot_listiter_next.plain entry_listiter_next (slot_listiter_next.check _ _ _ _ _ _ _ _ ⟨_,o1,rfl⟩ (args_listiter_next _) ?_)
 show wpAny _ _ (field (.ref I) 0>>=_) _ _ s
 refine wpAny_bind (wpAny_field o1 rfl (by rfl) ?_)
 show wpAny _ _ (field (.ref I) 1>>=_) _ _ s
 refine wpAny_bind (wpAny_field o1 rfl (by rfl) ?_)
 show wpAny _ _ (seqItems? (.ref L)>>=_) _ _ s
 refine wpAny_bind (wpAny_seqItems o2 rfl ?_)
 show wpAny _ _ (match xs[((g:Int)).toNat]? with|some x=>_|none=>_) _ _ s
 rw[Int.toNat_natCast,hx]
 refine wpAny_bind ?_
 refine X.x_rule (wpAny_pure ?_)
 refine wpAny_bind (wpAny_setField o1 rfl (by simp) ?_)
 have o3:=cF 0 .none o1
 show wpAny _ _ (newExc (.type "StopIteration") []>>=_) _ _ _
 refine wpAny_bind ?_
 simp only[newExc,newTuple]
 refine wpAny_bind (wpAny_newObj_type ?_ (by size_fits))
 refine wpAny_bind (m:=firstArgMember _ _) (wpAny_of_eq (a:=Value.none) (by first|rfl|(simp only[firstArgMember];rfl)) ?_)
 refine wpAny_newObj_type ?_ (by size_fits)
 simp only[raiseNew]
 refine wpAny_bind (wpAny_handled ?_)
 rw[show A.in1.handled=none from hA.hd]
 refine wpAny_bind (wpAny_pure (wpAny_throw ?_))
 have n0:(s.heap.update I (Obj.mapFields (·.setIfInBounds 0 .none))).objs.size=s.heap.objs.size:=Heap.size_update ..
 have g1:(Heap.push (Heap.push (s.heap.update I (Obj.mapFields (·.setIfInBounds 0 .none))) (aO #[] 0)) (eO s.heap.objs.size)).get? I=some (aj .none g):=Heap.get?_push_of_some _ (Heap.get?_push_of_some _ o3)
 have g2:(Heap.push (Heap.push (s.heap.update I (Obj.mapFields (·.setIfInBounds 0 .none))) (aO #[] 0)) (eO s.heap.objs.size)).get? s.heap.objs.size=some (aO #[] 0):=by
  refine Heap.get?_push_of_some _ ?_
  have:=Heap.get?_push_size (s.heap.update I (Obj.mapFields (·.setIfInBounds 0 .none))) (o:=aO #[] 0) rfl
  rw[n0]at this
  exact this
 have g3:(Heap.push (Heap.push (s.heap.update I (Obj.mapFields (·.setIfInBounds 0 .none))) (aO #[] 0)) (eO s.heap.objs.size)).get? (s.heap.objs.size+1)=some (eO s.heap.objs.size):=by
  have:=Heap.get?_push_size (Heap.push (s.heap.update I (Obj.mapFields (·.setIfInBounds 0 .none))) (aO #[] 0)) (o:=eO s.heap.objs.size) rfl
  rw[Heap.size_push,n0]at this
  exact this
 have Fr:ah s {s with heap:=Heap.push (Heap.push (s.heap.update I (Obj.mapFields (·.setIfInBounds 0 .none))) (aO #[] 0)) (eO s.heap.objs.size)} [I]:=by
  refine⟨λh=>h,rfl,rfl,?_,Nat.le_refl _,λb o e hb=>?_⟩
  ·show s.heap.objs.size≤(Heap.push (Heap.push _ _) _).objs.size
   rw[Heap.size_push,Heap.size_push,n0];omega
  ·have hb':b≠I:=by simpa using hb
   refine Heap.get?_push_of_some _ (Heap.get?_push_of_some _ ?_)
   rw[Heap.get?_update_ne _ _ _ _ hb'];exact e
 have hI:I<s.heap.objs.size:=Heap.lt_size o1
 have K1:=hk.upd1 Fr g1
 have z:=hR s.heap.objs.size _ Fr ⟨K1.base,λp hp=>by
  simp only[aE,List.cons_append,List.nil_append,List.mem_cons,List.not_mem_nil,or_false]at hp
  rcases hp with rfl|rfl|rfl
  ·exact g1
  ·exact g2
  ·exact g3,λp hp=>by
  simp only[aE,List.cons_append,List.nil_append,List.mem_cons,List.not_mem_nil,or_false]at hp
  rcases hp with rfl|rfl|rfl
  ·exact hk.off (I,aj (.ref L) g) (List.mem_cons_self ..)
  ·exact bM hk (Nat.le_refl _)
  ·exact bM hk (Nat.le_succ _),by
  simp only[aE,List.cons_append,List.nil_append,List.map_cons,List.map_nil,List.nodup_cons,List.mem_cons,List.not_mem_nil,or_false,not_or,List.nodup_nil,and_true,not_false_eq_true]
  exact⟨⟨Nat.ne_of_lt hI,Nat.ne_of_lt (Nat.lt_succ_of_lt hI)⟩,Nat.ne_of_lt (Nat.lt_succ_self _)⟩,K1.toks⟩ (by simp[aE]) trivial
 have e9:(Heap.push (s.heap.update I (Obj.mapFields (·.setIfInBounds 0 .none))) (aO #[] 0)).objs.size=s.heap.objs.size+1:=by rw[Heap.size_push,n0]
 show R (Except.error (Value.ref (Heap.push (s.heap.update I (Obj.mapFields (·.setIfInBounds 0 .none))) (aO #[] 0)).objs.size)) {s with heap:=Heap.push (Heap.push (s.heap.update I (Obj.mapFields (·.setIfInBounds 0 .none))) (aO #[] 0)) (eO (s.heap.update I (Obj.mapFields (·.setIfInBounds 0 .none))).objs.size)}
 rw[e9,n0]
 exact z
theorem c6:plainId "frozenset.intersection.loop"=true:=by decide+kernel
theorem f8:entryFor table "frozenset.intersection.loop"=some Builtin.«frozenset.intersection.loop»:=entryFor_of_fast (by kernel_rfl)
noncomputable abbrev iK(w:World):KeyKind pr w Int:=intKind pr w
structure d9 (w:World) (so:Obj) (es:Array (Int×Value)) (ep:Nat) (t:SetTable) (L:List Int):Prop where
 data:so.data=.set es ep t
 fit:t.fits es.size=true
 els:ElemsOf (iK w) es.toList
 mem:∀k,k∈L↔∃e∈es.toList,(iK w).is k e.2=true
 sz:es.size<scanBound
 room:es.size+1<scanBound
 len:es.size=L.length
 nd:L.Nodup
theorem ip{w:World}{A:Around}{E:Value→Shared→Prop}{s:Shared}{a:Addr}{so:Obj}{es:Array (Int×Value)}{ep:Nat}{t:SetTable}{L:List Int}(k:d9 w so es ep t L)(ho:s.heap.get? a=some so)
  {x:Int} {tx:Tok} {Q:Option Nat→Shared→Prop} (h:∀r:Option Nat,r.isSome=decide (x∈L)→Q r s):wpAny (model pr w) A (setFind a (.int x tx) ((iK w).hash x)) Q E s:=by
 have hkey:(iK w).is x (.int x tx)=true:=by show Value.isInt x (.int x tx)=true;simp[Value.isInt]
 unfold setFind setFindIn
 refine wpAny_bind (wpAny_setState_of ho k.data k.fit ?_)
 dsimp only
 rw[byScan_of rfl k.sz k.els]
 simp only[↓reduceIte]
 refine wpAny_bind (wpAny_rule ?_)
 refine wpAny_bind (wpAny_setScan_of hkey ho k.data k.fit k.els ?_)
 have hk:=k.mem x
 cases hr:List.findIdx? (λe=>(iK w).is x e.2) es.toList with
 |none=>
  dsimp only
  refine wpAny_pure (h none ?_)
  rw[Option.isSome_none,eq_comm,decide_eq_false_iff_not,hk]
  rintro ⟨e,he,hpe⟩
  have:=List.findIdx?_eq_none_iff.mp hr e he
  rw[hpe]at this;exact Bool.noConfusion this
 |some j=>
  dsimp only
  refine wpAny_pure (h (some (0+j)) ?_)
  rw[Option.isSome_some,eq_comm,decide_eq_true_eq,hk]
  obtain⟨hj,hpj,_⟩:=List.findIdx?_eq_some_iff_getElem.mp hr
  exact⟨es.toList[j],List.getElem_mem hj,hpj⟩
noncomputable def ap(L p:List Int):Nat:=(L.filter λk=>decide (k∈p)).length
theorem oA(L:List Int):ap L []=0:=by simp[ap]
theorem kU(L p:List Int):ap L p≤L.length:=List.length_filter_le ..
theorem bx{L p:List Int}{x:Int}(h:x∉L∨x∈p):ap L (p++[x])=ap L p:=by
 unfold ap
 congr 1
 apply List.filter_congr
 intro k hk
 rcases h with h|h
 ·have:k≠x:=λe=>h (e▸hk)
  simp[this]
 ·by_cases e:k=x
  ·subst e;simp[h]
  ·simp[e]
theorem bX{p:List Int}{x:Int}(hp:x∉p):∀{L:List Int},L.Nodup→x∈L→ap L (p++[x])=ap L p+1
 |[],_,h=>nomatch h
 |a::L,nd,h=>by
  obtain⟨na,nd⟩:=List.nodup_cons.mp nd
  unfold ap
  by_cases e:a=x
  ·subst e
   have:=bx (p:=p) (L:=L) (.inl na)
   unfold ap at this
   simp at this
   simp[List.filter_cons,hp,this]
  ·have hx:x∈L:=by
    rcases List.mem_cons.mp h with h|h
    ·exact absurd h.symm e
    ·exact h
   have:=bX hp nd hx
   unfold ap at this
   simp at this
   by_cases ha:a∈p
   ·simp[List.filter_cons,ha,this]
   ·simp[List.filter_cons,ha,e,this]
theorem mc{L p:List Int}(h:L.length≤ap L p)(q:List Int)(hq:∀k∈p,k∈q):ap L q=ap L p:=by
 have e1:ap L p=L.length:=Nat.le_antisymm (kU _ _) h
 have e2:∀k∈L,k∈p:=by
  intro k hk
  have:=List.length_filter_eq_length_iff.mp e1 k hk
  exact of_decide_eq_true this
 rw[e1]
 unfold ap
 rw[List.length_filter_eq_length_iff]
 intro k hk
 exact decide_eq_true (hq k (e2 k hk))
theorem Dt{s:Shared}{it l:Addr}{i:Nat}(h:s.heap.get? it=some (aj (.ref l) i)):s.heap.IsListIter it l i:=⟨_,h,rfl,rfl⟩
theorem j4{w:World}{A:Around}{E:Value→Shared→Prop}{s:Shared}{it l:Addr}{i ep:Nat}{items:Array Value}{x:Value}{Q:Option Value→Shared→Prop}(ho:s.heap.get? it=some (aj (.ref l) i))
  (hol:s.heap.get? l=some (ac items ep)) (hx:items[i]?=some x)
  (hQ:∀h',h'.get? it=some (aj (.ref l) (i+1))→Heap.SameBut it s.heap h'→Q (some x) {s with heap:=h'}):
  wpAny (model pr w) A (pyNext (.ref it)) Q E s:=by
 have hit:=Dt ho
 unfold pyNext
 refine wpAny_bind (wpAny_attempt (wpAny_callSpecial?_slot (name:=Str.ofString "__next__") hit.typeIs slot_listiter_next
  (wpAny_call_entry slot_listiter_next hit.typeIs entry_listiter_next ?_ (args_listiter_next _))))
 show wpAny _ _ (field (.ref it) 0>>=_) _ _ s
 refine wpAny_bind (wpAny_field ho rfl (x:=.ref l) rfl ?_)
 show wpAny _ _ (if(Value.ref l==Value.none)=true then _ else _) _ _ s
 rw[if_neg (show ¬((Value.ref l==Value.none)=true)from Bool.false_ne_true)]
 show wpAny _ _ (field (.ref it) 1>>=_) _ _ s
 refine wpAny_bind (wpAny_field ho rfl (x:=.int i 0) rfl ?_)
 show wpAny _ _ (seqItems? (.ref l)>>=_) _ _ s
 refine wpAny_bind (wpAny_seqItems hol rfl ?_)
 simp only[Int.toNat_natCast,hx]
 refine wpAny_bind (wpAny_setField ho rfl (by simp) (wpAny_pure ⟨x,rfl,wpAny_pure (hQ _ ?_ (Heap.SameBut.update ..))⟩))
 exact cF 1 (rawInt ((i:Int)+1)) ho
theorem lG{w:World}{A:Around}{E:Value→Shared→Prop}{s:Shared}{it l:Addr}{i ep:Nat}{items:Array Value}{Q:Option Value→Shared→Prop}(hh:A.handled=none)(ho:s.heap.get? it=some (aj (.ref l) i))
  (hol:s.heap.get? l=some (ac items ep)) (hx:items[i]?=none)
  (hQ:∀h',h'.get? it=some (aj .none i)→(∀b o,b≠it→s.heap.get? b=some o→h'.get? b=some o)→s.heap.objs.size≤h'.objs.size→Q none {s with heap:=h'}):wpAny (model pr w) A (pyNext (.ref it)) Q E s:=by
 have hit:=Dt ho
 unfold pyNext
 refine wpAny_bind (wpAny_attempt (wpAny_callSpecial?_slot (name:=Str.ofString "__next__") hit.typeIs slot_listiter_next
  (wpAny_call_entry slot_listiter_next hit.typeIs entry_listiter_next ?_ (args_listiter_next _))))
 show wpAny _ _ (field (.ref it) 0>>=_) _ _ s
 refine wpAny_bind (wpAny_field ho rfl (x:=.ref l) rfl ?_)
 show wpAny _ _ (if(Value.ref l==Value.none)=true then _ else _) _ _ s
 rw[if_neg (show ¬((Value.ref l==Value.none)=true)from Bool.false_ne_true)]
 show wpAny _ _ (field (.ref it) 1>>=_) _ _ s
 refine wpAny_bind (wpAny_field ho rfl (x:=.int i 0) rfl ?_)
 show wpAny _ _ (seqItems? (.ref l)>>=_) _ _ s
 refine wpAny_bind (wpAny_seqItems hol rfl ?_)
 simp only[Int.toNat_natCast,hx]
 refine wpAny_bind (wpAny_rule (wpAny_bind (wpAny_setField ho rfl (by simp) ?_)))
 have o3:=cF 0 .none ho
 show wpAny _ _ (newExc (.type "StopIteration") []>>=_) _ _ _
 refine wpAny_bind ?_
 simp only[newExc,newTuple]
 refine wpAny_bind (wpAny_newObj_type ?_ (by size_fits))
 refine wpAny_bind (m:=firstArgMember _ _) (wpAny_of_eq (a:=Value.none) (by first|rfl|(simp only[firstArgMember];rfl)) ?_)
 refine wpAny_newObj_type ?_ (by size_fits)
 simp only[raiseNew]
 refine wpAny_bind (wpAny_handled ?_)
 rw[show A.in1.handled=none from hh]
 refine wpAny_bind (wpAny_pure (wpAny_throw ?_))
 refine wpAny_bind (wpAny_isInstance (T:="StopIteration") (b:=true) ⟨_,Heap.get?_push_size _ rfl,rfl⟩ isSubtype_stop ?_)
 refine wpAny_pure (hQ _ (Heap.get?_push_of_some _ (Heap.get?_push_of_some _ o3)) (λb o hb e=>Heap.get?_push_of_some _ (Heap.get?_push_of_some _ ?_)) ?_)
 ·rw[Heap.get?_update_ne _ _ _ _ hb];exact e
 ·rw[Heap.size_push,Heap.size_push,Heap.size_update];omega
theorem SetOf.congr{w:World}{h h':Heap}{a:Addr}{T T':Int→Bool}{n n':Nat}(x:h.SetOf (iK w) a T n)(hk:∀o,h.get? a=some o→h'.get? a=some o)(e:∀k,T' k=T k)(en:n=n'):h'.SetOf (iK w) a T' n':=by
 obtain⟨o,es,ep,t,h1,h2,h3,h4,h5,h6,h7,h8⟩:=x
 exact⟨o,es,ep,t,hk o h1,h2,h3,h4,λk=>by rw[e k];exact h5 k,h6,h7,en▸h8⟩
noncomputable def qo(S I R:Addr):Code:=.builtin "frozenset.intersection.loop" ⟨[.ref S,.ref I,.ref R],[]⟩
set_option tactic.hygienic true in
theorem qn{w:World}{A:Around}(hA:A.handled=none){S C I Rr:Addr}{so:Obj}{es:Array (Int×Value)}{ep:Nat}{t:SetTable}{L:List Int}(k:d9 w so es ep t L){cs:List (Int×Tok)}{ce:Nat}
  (d1:I≠S) (d2:I≠C) (d3:I≠Rr) (d4:Rr≠S) (d5:Rr≠C) {R:Result→Shared→Prop}:∀(rest:List (Int×Tok)) (g:Nat) (s:Shared),cs.drop g=rest→g≤cs.length→
   s.heap.get? S=some so→s.heap.get? C=some (ac (aa cs) ce)→s.heap.get? I=some (aj (.ref C) g)→s.heap.SetOf (iK w) Rr (λx=>decide (x∈L)&&decide (x∈(cs.take g).map (·.1))) (ap L ((cs.take g).map (·.1)))→
   (∀s',s'.gens=s.gens→s'.drawn=s.drawn→s'.os=s.os→s.heap.objs.size≤s'.heap.objs.size→s.toks≤s'.toks→(∀b o,s.heap.get? b=some o→b≠I→b≠Rr→s'.heap.get? b=some o)→(∃v g',s'.heap.get? I=some (aj v g'))→
    (∃T,s'.heap.SetOf (iK w) Rr T (ap L (cs.map (·.1))))→R (.ok (.ret .none)) s')→
   codeAny (model pr w) A (qo S I Rr) R s:=by
 intro rest
 induction rest with
 |nil=>
  intro g s hd hg h1 h2 h3 h4 H
  have hg':g=cs.length:=by
   have:=congrArg List.length hd
   rw[List.length_drop]at this
   simp at this
   omega
  subst hg'
  refine codeAny_builtin f8 ?_
  rw[Around.under_plainId c6 _]
  show wpAny _ _ (pyNext (.ref I)>>=_) _ _ s
  refine wpAny_bind (lG hA h3 h2 (by simp[aa]) λh' hi hx hz=>?_)
  refine wpAny_pure (H _ rfl rfl rfl hz (Nat.le_refl _) (λb o e n1 j=>hx b o n1 e) ⟨_,_,hi⟩ ⟨_,SetOf.congr h4 (λo e=>hx _ o d3.symm e) (λj=>rfl) ?_⟩)
  rw[List.take_length]
 |cons x rest ih=>
  intro g s hd hg h1 h2 h3 h4 H
  obtain⟨x,tx⟩:=x
  have hg':g<cs.length:=by
   have:=congrArg List.length hd
   rw[List.length_drop]at this
   simp at this
   omega
  have hx:cs[g]=(x,tx):=by
   have:=congrArg (λl=>l[0]?) hd
   simpa [List.getElem?_drop,List.getElem?_eq_getElem hg']using this
  have hd':cs.drop (g+1)=rest:=by
   rw[←List.tail_drop,hd];rfl
  have ht:(cs.take (g+1)).map (·.1)=(cs.take g).map (·.1)++[x]:=by
   rw[List.take_add_one,List.getElem?_eq_getElem hg',hx];simp
  have hx':(aa cs)[g]?=some (.int x tx):=by simp[aa,List.getElem?_eq_getElem hg',hx]
  have hkey:(iK w).is x (.int x tx)=true:=by show Value.isInt x (.int x tx)=true;simp[Value.isInt]
  refine codeAny_builtin f8 ?_
  rw[Around.under_plainId c6 _]
  show wpAny _ _ (pyNext (.ref I)>>=_) _ _ s
  refine wpAny_bind (j4 h3 h2 hx' λh' h3' hs=>?_)
  refine wpAny_bind (wpAny_holding ((iK w).pyHash hkey ?_))
  have h1':h'.get? S=some so:=(hs.2 S d1.symm).trans h1
  have h2':h'.get? C=some (ac (aa cs) ce):=(hs.2 C d2.symm).trans h2
  have h4':h'.SetOf (iK w) Rr _ _:=SetOf.congr h4 (λo e=>(hs.2 Rr d3.symm).trans e) (λj=>rfl) rfl
  refine wpAny_bind (wpAny_holding (ip k (s:={s with heap:=h',toks:=s.toks+1}) h1' λr hr=>?_))
  have hsz:h'.objs.size=s.heap.objs.size:=hs.1
  by_cases hL:x∈L
  ·rw[hr,decide_eq_true hL]
   show wpAny _ _ (holding [Value.int x tx] (setAddHashed Rr (.int x tx) ((iK w).hash x))>>=_) _ _ _
   have hroom:ap L ((cs.take g).map (·.1))+1<scanBound:=by
    have:=kU L ((cs.take g).map (·.1))
    have e5:=k.room
    rw[k.len]at e5
    omega
   refine wpAny_bind (wpAny_holding (wpAny_setAddHashed_of (knd:=iK w) (s:={s with heap:=h',toks:=s.toks+1}) hkey rfl h4' hroom λh2x hs2 hS2=>?_))
   have h1'':h2x.get? S=some so:=(hs2.2 S d4.symm).trans h1'
   have h2'':h2x.get? C=some (ac (aa cs) ce):=(hs2.2 C d5.symm).trans h2'
   have h3'':h2x.get? I=some (aj (.ref C) (g+1)):=(hs2.2 I d3).trans h3'
   have en:(if(decide (x∈L)&&decide (x∈(cs.take g).map (·.1)))=true then ap L ((cs.take g).map (·.1)) else ap L ((cs.take g).map (·.1))+1)=ap L ((cs.take (g+1)).map (·.1)):=by
    rw[ht]
    by_cases hp:x∈(cs.take g).map (·.1)
    ·rw[bx (.inr hp)];simp only[hL,hp,decide_true,Bool.and_self,if_true]
    ·rw[bX hp k.nd hL];simp only[hL,hp,decide_true,decide_false,Bool.and_false,Bool.false_eq_true,if_false]
   have hS3:h2x.SetOf (iK w) Rr (λy=>decide (y∈L)&&decide (y∈(cs.take (g+1)).map (·.1))) (ap L ((cs.take (g+1)).map (·.1))):=by
    refine SetOf.congr hS2 (λj e=>e) (λy=>?_) en
    rw[ht]
    by_cases e:y=x
    ·subst e;simp[hL]
    ·simp[e]
   have hS3c:=hS3
   obtain⟨o9,es9,ep9,t9,ho9,hx9,hd9,_,_,_,hf9,hn9⟩:=hS3c
   refine wpAny_bind (wpAny_bind (wpAny_setEntries_of (s:={s with heap:=h2x,toks:=s.toks+1}) ho9 hd9 hf9 (wpAny_pure ?_)))
   refine wpAny_bind (wpAny_bind (wpAny_setEntries_of (s:={s with heap:=h2x,toks:=s.toks+1}) h1'' k.data k.fit (wpAny_pure ?_)))
   have keepAll:∀b o,s.heap.get? b=some o→b≠I→b≠Rr→h2x.get? b=some o:=λb o e n1 n2=>(hs2.2 b n2).trans ((hs.2 b n1).trans e)
   have hz2:h2x.objs.size=h'.objs.size:=hs2.1
   split
   ·rename_i hge
    refine wpAny_bind (wpAny_rule ?_)
    refine wpAny_pure (H _ rfl rfl rfl (by show s.heap.objs.size≤h2x.objs.size;omega) (Nat.le_succ _) keepAll ⟨_,_,h3''⟩ ⟨_,SetOf.congr hS3 (λj e=>e) (λj=>rfl) ?_⟩)
    have hge':es.size≤es9.size:=hge
    rw[hn9,k.len]at hge'
    refine(mc hge' _ λy hy=>?_).symm
    obtain⟨p,hp,rfl⟩:=List.mem_map.mp hy
    exact List.mem_map_of_mem (List.mem_of_mem_take hp)
   ·refine wpAny_pure ⟨plainId_quiet c6 _,?_⟩
    exact ih (g+1) {s with heap:=h2x,toks:=s.toks+1} hd' hg' h1'' h2'' h3'' hS3 λs' e1 e2 e3 e4 e5 e6 e7 e8=>H s' e1 e2 e3 (by have:h2x.objs.size≤s'.heap.objs.size:=e4;omega) (Nat.le_trans (Nat.le_succ _) e5) (λb o e n1 n2=>e6 b o (keepAll b o e n1 n2) n1 n2) e7 e8
  ·rw[hr,decide_eq_false hL]
   refine wpAny_pure ⟨plainId_quiet c6 _,?_⟩
   refine ih (g+1) {s with heap:=h',toks:=s.toks+1} hd' hg' h1' h2' h3' ?_ λs' e1 e2 e3 e4 e5 e6 e7 e8=>H s' e1 e2 e3 (by rw[←hsz];exact e4) (Nat.le_trans (Nat.le_succ _) e5) (λb o e n1 n2=>e6 b o ((hs.2 b n1).trans e) n1 n2) e7 e8
   refine SetOf.congr h4' (λj e=>e) (λy=>?_) ?_
   ·rw[ht]
    by_cases e:y=x
    ·subst e;simp[hL]
    ·simp[e]
   ·rw[ht,bx (.inl hL)]
noncomputable def ba(es:Array (Int×Value))(ep:Nat)(t:SetTable):Obj:={cls:=.type "set",dict:=none,data:=.set es ep t}
theorem eH:plainId "set.intersection"=true:=by decide+kernel
theorem eR:entryFor table "set.intersection"=some Builtin.«frozenset.intersection»:=
 entryFor_alias (id':="frozenset.intersection") (by kernel_rfl) rfl (by decide+kernel) (by kernel_rfl)
noncomputable def q8:Obj:=⟨.type "dict",none,.dict #[] 0,#[]⟩
noncomputable def ao(SD:Addr)(es:Array (Int×Value))(ep:Nat)(t:SetTable):Obj:=⟨.ref 75,some SD,.set es ep t,#[]⟩
theorem dh{v:WV}{A:Around}{E:Value→Shared→Prop}{s:Shared}(k:Kn (KB v.w) s []){S SD:Addr}{es:Array (Int×Value)}{ep:Nat}{t:SetTable}(h:s.heap.get? S=some (ao SD es ep t)){Q:Bool→Shared→Prop}(hQ:Q true s):
  wpAny (model pr v.w) A (isInstance (.ref S) (.type "set")) Q E s:=by
 have hb:s.heap.get? 75=some (uG v.w.params):=k.base 75 _ (by kernel_rfl)
 unfold isInstance
 refine wpAny_bind (wpAny_bind (wpAny_loadPart h (wpAny_pure ?_)))
 show wpAny _ _ (mroOf (.ref 75)>>=_) _ _ s
 refine wpAny_bind (m:=mroOf (.ref 75)) ?_
 show wpAny _ _ (classData 75>>=_) _ _ s
 refine wpAny_bind (m:=classData 75) ?_
 show wpAny _ _ (load 75>>=_) _ _ s
 refine wpAny_bind (m:=load 75) (wpAny_load hb ?_)
 exact wpAny_pure (wpAny_pure (wpAny_pure hQ))
theorem nQ{v:WV}{A:Around}{E:Value→Shared→Prop}{s:Shared}{C:Addr}{xs:Array Value}{ep:Nat}(h:s.heap.get? C=some (ac xs ep)){Q:Bool→Shared→Prop}(hQ:Q false s):
  wpAny (model pr v.w) A (Builtin.Frozenset.isAnySet (.ref C)) Q E s:=by
 have hT:s.TypeIs (.ref C) "list":=⟨_,h,rfl⟩
 unfold Builtin.Frozenset.isAnySet
 refine wpAny_bind (wpAny_isInstance hT (b:=false) (by rw[isSubtype_type];kernel_rfl) ?_)
 exact wpAny_isInstance hT (b:=false) (by rw[isSubtype_type];kernel_rfl) hQ
structure SX where
 a:Addr
 es:Array (Int×Value)
 ep:Nat
 t:SetTable
noncomputable def br:bS SX:={res:=λx=>.ok (.ret (.ref x.a)),add:=λx=>[(x.a,ba x.es x.ep x.t)]}
theorem gU(v:WV){S SD C:Addr}{es:Array (Int×Value)}{ep:Nat}{t:SetTable}{L:List Int}(k:d9 v.w (ao SD es ep t) es ep t L){cs:List (Int×Tok)}{ce:Nat}:
  Ct v.w 60 [(S,ao SD es ep t),(C,ac (aa cs) ce)] aK (.builtin "set.intersection" ⟨[.ref S,.ref C],[]⟩) [] br (λx j j=>x.es.size=ap L (cs.map (·.1))∧x.t.fits x.es.size=true):=by
 intro A s R hA hk _ hR
 have o1:=hk.obj (S,ao SD es ep t) (by simp)
 have o2:=hk.obj (C,ac (aa cs) ce) (by simp)
 have hne:C≠S:=by
  have:=hk.nd
  simp at this
  exact Ne.symm this
 refine codeAny_builtin eR ?_
 rw[Around.under_plainId eH _]
 unfold Builtin.«frozenset.intersection» Builtin.Frozenset.manyOthers
 simp only[List.isEmpty_nil,Bool.not_true,Bool.false_eq_true,↓reduceIte,bind_assoc,pure_bind]
 refine wpAny_bind (m:=Builtin.Frozenset.addrOf (.ref S)) (wpAny_pure ?_)
 simp only[List.isEmpty_cons,Bool.false_eq_true,↓reduceIte,List.forIn_cons,List.forIn_nil,bind_assoc,pure_bind]
 refine wpAny_bind (wpAny_holding ?_)
 refine wpAny_bind (m:=Builtin.Frozenset.addrOf (.ref S)) (wpAny_pure ?_)
 unfold Builtin.Frozenset.intersection
 rw[if_neg (by simp[hne])]
 unfold Builtin.Frozenset.baseOf
 simp only[bind_assoc,pure_bind]
 refine wpAny_bind (dh hk.nil o1 ?_)
 simp only[↓reduceIte]
 refine wpAny_bind (m:=newSet (.type "set")) ?_
 unfold newSet setsByText
 refine wpAny_bind (wpAny_bind (wpAny_askSetting (wpAny_pure ?_)))
 dsimp only
 simp only[newObj]
 have hsz:¬((#[]:Array (Int×Value)).size>sizeLine):=by simp
 rw[if_neg hsz]
 unfold newObjAsIs
 refine wpAny_bind (wpAny_alloc ?_)
 refine wpAny_pure ?_
 refine wpAny_bind (m:=Builtin.Frozenset.addrOf (.ref s.heap.objs.size)) (wpAny_pure ?_)
 refine wpAny_bind (wpAny_holding ?_)
 rw[show(model pr v.w).w.params.followText "set-order"=v.b3 from bj v]
 generalize hh1:s.heap.push {cls:=Value.type "set",data:=Data.set #[] 0 (SetTable.fresh 0 0 !v.b3)}=h1
 have z1:h1.objs.size=s.heap.objs.size+1:=by rw[←hh1,Heap.size_push]
 have keep1:∀b o,s.heap.get? b=some o→h1.get? b=some o:=λb o e=>by rw[←hh1];exact Heap.get?_push_of_some _ e
 have new1:h1.get? s.heap.objs.size=some (ba #[] 0 (.fresh 0 0 !v.b3)):=by rw[←hh1];exact Heap.get?_push_size _ rfl
 refine wpAny_bind (nQ (s:={s with heap:=h1}) (keep1 _ _ o2) ?_)
 simp only[Bool.false_eq_true,↓reduceIte]
 refine wpAny_bind (wpAny_pyIter_list (s:={s with heap:=h1}) ⟨_,keep1 _ _ o2,rfl,_,rfl⟩ ?_)
 generalize hh2:h1.push {cls:=Value.type "list_iterator",data:=Data.fields #[Value.ref C,Value.int 0 0]}=h2
 have z2:h2.objs.size=s.heap.objs.size+2:=by rw[←hh2,Heap.size_push,z1]
 have keep2:∀b o,h1.get? b=some o→h2.get? b=some o:=λb o e=>by rw[←hh2];exact Heap.get?_push_of_some _ e
 have new2:h2.get? h1.objs.size=some (aj (.ref C) 0):=by rw[←hh2];exact Heap.get?_push_size _ rfl
 rw[z1]at new2
 have lS:=hk.lt (p:=(S,ao SD es ep t)) (by simp)
 have lC:=hk.lt (p:=(C,ac (aa cs) ce)) (by simp)
 have lS:S<s.heap.objs.size:=lS
 have lC:C<s.heap.objs.size:=lC
 refine wpAny_bind (wpAny_runValue ?_)
 show codeAny (model pr v.w) _ (qo S h1.objs.size s.heap.objs.size) _ _
 rw[z1]
 refine qn (w:=v.w) (A:=A.in1) (show A.in1.handled=none from hA.hd) (s:={s with heap:=h2}) k (cs:=cs) (ce:=ce) (C:=C) (Nat.ne_of_gt (Nat.lt_succ_of_lt lS)) (Nat.ne_of_gt (Nat.lt_succ_of_lt lC)) (Nat.succ_ne_self _) (Nat.ne_of_gt lS) (Nat.ne_of_gt lC) cs 0 (by simp) (Nat.zero_le _) (keep2 _ _ (keep1 _ _ o1)) (keep2 _ _ (keep1 _ _ o2)) new2 ?_ ?_
 ·refine⟨ba #[] 0 (.fresh 0 0 !v.b3),#[],0,_,keep2 _ _ new1,⟨rfl,rfl,rfl⟩,rfl,λe he=>by simp at he,λx=>by simp,by decide,by rfl,(oA L).symm⟩
 ·intro s' e1 e2 e3 e4 e5 e6 _ ⟨T,e8⟩
  obtain⟨o9,es9,ep9,t9,ho9,⟨hc,hdd,hs⟩,hd9,_,_,_,hf9,hn9⟩:=e8
  have eo:o9=ba es9 ep9 t9:=by
   obtain⟨c,d,dt,sl⟩:=o9
   simp only at hc hdd hs hd9
   subst hc;subst hdd;subst hs;subst hd9
   rfl
  refine wpAny_pure (wpAny_pure (wpAny_pure ?_))
  have e4:h2.objs.size≤s'.heap.objs.size:=e4
  have Fr:ah s s' []:=⟨λh=>e1▸h,e2,e3,by omega,e5,λb o e j=>by
   have hb:b<s.heap.objs.size:=Heap.lt_size e
   exact e6 b o (keep2 _ _ (keep1 _ _ e)) (Nat.ne_of_lt (Nat.lt_succ_of_lt hb)) (Nat.ne_of_lt hb)⟩
  refine hR ⟨s.heap.objs.size,es9,ep9,t9⟩ s' Fr ?_ (by simp[br]) ⟨hn9,hf9⟩
  refine⟨λx o e=>Fr.keep x o (hk.base x o e) (by simp),λp hp=>?_,λp hp=>?_,by simp[br],Nat.lt_of_lt_of_le hk.toks Fr.toks⟩
  ·simp only[br,List.nil_append,List.mem_singleton]at hp
   subst hp
   exact eo▸ho9
  ·simp only[br,List.nil_append,List.mem_singleton]at hp
   subst hp
   exact bM hk (Nat.le_refl _)
theorem j5:plainId "set.__iter__"=true:=by decide+kernel
theorem kM:entryFor table "set.__iter__"=some Builtin.«frozenset.__iter__»:=
 entryFor_alias (id':="frozenset.__iter__") (by kernel_rfl) rfl (by decide+kernel) (by kernel_rfl)
theorem z9(w:World){S:Addr}{es:Array (Int×Value)}{ep:Nat}{t:SetTable}(hfit:t.fits es.size=true)(hs:(es.size:Int)<2 ^ 63):
  aS w 20 [(S,ba es ep t)] (.builtin "len" ⟨[.ref S],[]⟩) [] (aw es.size):=by
 intro A s R hA hk _ hR
 have o1:s.heap.get? S=some (ba es ep t):=hk.obj (S,ba es ep t) (by simp)
 refine codeAny_builtin entry_len ?_
 rw[Around.under_plainId plain_len _]
 have Fr:ah s {s with toks:=s.toks+1+1} []:=⟨λh=>h,rfl,rfl,Nat.le_refl _,Nat.le_add_right s.toks 2,λb o e j=>e⟩
 refine wpAny_mono (wpAny_len_body_set (E:=λe s'=>R (.error e) s') (Q:=λr s'=>R (.ok (.ret r)) s') o1 ⟨rfl,rfl,rfl⟩ rfl hfit hs
  (hR (s.toks+1) {s with toks:=s.toks+1+1} Fr ⟨hk.base,λp hp=>by simp[aw]at hp,λp hp=>by simp[aw]at hp,by simp[aw],Nat.lt_of_lt_of_le hk.toks (Nat.le_add_right s.toks 2)⟩ (by simp[aw]) trivial)) ?_ ?_
 ·rintro f s' ⟨r,rfl,h⟩
  exact h
 ·exact λe s' h=>h
noncomputable def aD(mk:Obj):bS Addr:={res:=λa=>.ok (.ret (.ref a)),add:=λa=>[(a,mk)]}
set_option tactic.hygienic true in
theorem gt(w:World){S:Addr}{so:Obj}{es:Array (Int×Value)}{ep:Nat}{t:SetTable}(hd:so.data=.set es ep t)(hfit:t.fits es.size=true)(hpl:t.plain=true):
  aS w 20 [(S,so)] (.builtin "set.__iter__" ⟨[.ref S],[]⟩) [] (aD (bm (.ref S) es.size ep 0 0)):=by
 intro A s R hA hk _ hR
 have o1:s.heap.get? S=some so:=hk.obj (S,so) (by simp)
 refine codeAny_builtin kM ?_
 rw[Around.under_plainId j5 _]
 unfold Builtin.«frozenset.__iter__» Builtin.Frozenset.slot0 slotArgs
 simp only[List.isEmpty_nil,Bool.not_true,Bool.false_eq_true,↓reduceIte,bind_assoc,List.length_nil,bne_self_eq_false]
 unfold Builtin.Frozenset.addrOf Builtin.Frozenset.sizeOf
 refine wpAny_bind (wpAny_pure ?_)
 try dsimp only
 refine wpAny_bind (wpAny_pure ?_)
 refine wpAny_bind (wpAny_bind (wpAny_setEntries_of o1 hd hfit (wpAny_pure ?_)))
 unfold setDrawn
 refine wpAny_bind (wpAny_bind (wpAny_setState_of o1 hd hfit ?_))
 dsimp only
 unfold setsByText
 refine wpAny_bind (wpAny_bind (wpAny_askSetting (wpAny_pure ?_)))
 dsimp only
 refine wpAny_pure ?_
 split
 ·rename_i h
  exfalso
  rw[Bool.and_eq_true]at h
  have h2:(!t.plain&&decide (es.size>1))=true:=h.2
  rw[hpl]at h2
  simp at h2
 refine wpAny_bind (wpAny_pure ?_)
 unfold setEpoch
 refine wpAny_bind (wpAny_bind (wpAny_setState_of o1 hd hfit (wpAny_pure ?_)))
 dsimp only
 unfold newFields
 refine wpAny_bind (wpAny_newObj_type ?_ (by size_fits))
 refine wpAny_pure ?_
 have n1:=Heap.get?_push_size s.heap (o:=bm (.ref S) es.size ep 0 0) rfl
 have Fr:ah s {s with heap:=s.heap.push (bm (.ref S) es.size ep 0 0)} []:=⟨λh=>h,rfl,rfl,by rw[Heap.size_push];exact Nat.le_succ _,Nat.le_refl _,λb o e j=>Heap.get?_push_of_some _ e⟩
 refine hR s.heap.objs.size _ Fr ?_ (by simp[aD]) trivial
 refine⟨λx o e=>Fr.keep x o (hk.base x o e) (by simp),λp hp=>?_,λp hp=>?_,by simp[aD],hk.toks⟩
 ·simp only[aD,List.nil_append,List.mem_singleton]at hp
  subst hp
  exact n1
 ·simp only[aD,List.nil_append,List.mem_singleton]at hp
  subst hp
  exact bM hk (Nat.le_refl _)
noncomputable def qA(rem:Bool)(ht:Nat→Int×Tok)(f Pf C M:Addr)(st:Option (Addr×Int×Tok×Option Value)):Obj:=match st with
 |some (V,i,ti,cv)=>gj rem ht f Pf C M V i ti cv
 |none=>match rem with
  |false=>fQ ht [(aA,.ref f),(bL,.ref Pf),(am,.ref C),(dm,.ref M)] 4
  |true=>fQ ht [(aA,.ref f),(bL,.ref Pf),(am,.ref C),(cx,.ref M)] 4
structure Il where
 ht:Nat→Int×Tok
 cv:Option Value
 items:Array Value
noncomputable def nc(l:LP)(rem:Bool)(n ns:Nat)(g:Nat):bS Il:={res:=λj=>.ok .next,upd:=λy=>[(l.I,bm .none n l.ep ns g),(l.L,l.fr rem y.ht y.cv),(l.M,ac y.items l.me)]}
noncomputable def LP.at(l:LP)(I:Addr)(i:Nat)(ti:Tok):LP:={l with I:=I,i:=i,ti:=ti}
noncomputable def ma(st:Option (Addr×Int×Tok×Option Value)):Option Value:=match st with|some (_,_,_,c)=>c|none=>none
noncomputable def ou(v:WV)(pf rem:Bool)(l:LP)(ht:Nat→Int×Tok)(st:Option (Addr×Int×Tok×Option Value))(I2 VL:Addr)(vs:Array Value)(ve g:Nat)(items:Array Value)(cs:List (Int×Tok))(ce:Nat)(SD:Addr)(es:Array (Int×Value))(t:SetTable)(ns ng:Nat):Cn:=⟨300,[(I2,aj (.ref VL) g),(VL,ac vs ve),(l.L,qA rem ht l.f l.Pf l.C l.M st),(l.M,ac items l.me),(l.C,ac (aa cs) ce),(l.f,l.fo pf),(l.V,bT l.VD),(l.VD,bU l.htv l.S l.wt l.twt),(l.S,(ao SD es l.ep t)),(SD,q8)],mh rem v.w l.L I2,λzn zu=>.cut {js:=[0,1],ju:=[0],K:=1,N:=7,orc:=(dz 1 1)} (.call (.builtin "list_iterator.__next__") ⟨[.ref I2],[]⟩) (λj=>[(I2,aj (.ref VL) g),(VL,ac vs ve)]) (λj=>an I2 (.ref l.V) (aj (.ref VL) (g+1))) λj n1 t1=>.cut {ws:=[2],js:=[8,4],u:=2,K:=1,cnt:=2,N:=57,orc:=(dz 34 243287964499479930994284506847276651281964076039776914366291551191427),wa:=[l.L]} (.builtin "set.intersection" ⟨[.ref l.S,.ref l.C],[]⟩) (λj=>[(l.S,(ao SD es l.ep t)),(l.C,ac (aa cs) ce)]) (λj=>br) λx n2 t2=>.cut {js:=[10],K:=1,cnt:=1,N:=8} (.builtin "len" ⟨[.ref x.a],[]⟩) (λj=>[(x.a,ba x.es x.ep x.t)]) (λj=>aw (x.es.size:Nat)) λi n3 t3=>.cut {ws:=[2],js:=[8],u:=2,K:=1,cnt:=2,N:=46,orc:=(dz 25 26307029569957574568515414990033400670117743870339),wa:=[l.L]} (.builtin "set.__iter__" ⟨[.ref l.S],[]⟩) (λj=>[(l.S,(ao SD es l.ep t))]) (λj=>aD (bm (.ref l.S) es.size l.ep 0 0)) λy n4 t4=>.cut {js:=[11,2,3,6,7,8,5],ju:=[11,2,3],K:=1,N:=6,orc:=(dz 1 12)} (mi rem v.w l.L y) (λE=>(({l.at y x.es.size i with so:=(ao SD es l.ep t)}:LP)).kn pf rem (aq (E.lk 2)) (ma st) items es.size 0 0) (λj=>nc ({l.at y x.es.size i with so:=(ao SD es l.ep t)}:LP) rem es.size ns ng) λz n5 t5=>.tail {js:=[0,1,2,3,4,5,6,7,8,9],N:=5} (mh rem v.w l.L I2) (λE=>[(I2,aj (.ref VL) (g+1)),(VL,ac vs ve),(l.L,qA rem z.ht l.f l.Pf l.C l.M (some (l.V,x.es.size,i,z.cv))),(l.M,ac z.items l.me),(l.C,ac (aa cs) ce),(l.f,l.fo pf),(l.V,bT l.VD),(l.VD,bU l.htv l.S l.wt l.twt),(l.S,(ao SD es l.ep t)),(SD,q8)])⟩
theorem Bb v pf rem l ht st I2 VL vs ve g items cs ce SD es t ns ng:(ou v pf rem l ht st I2 VL vs ve g items cs ce SD es t ns ng).G v:=by
 rcases st with _|⟨V0,i0,t0,cv⟩
 ·exact Cn.g2 cm (f:=λrem v=>ou v pf rem l ht none I2 VL vs ve g items cs ce SD es t ns ng) (λj j j j j=>by kernel_rfl) rem v
 ·exact Cn.g3 cm (cz _) (f:=λrem cv v=>ou v pf rem l ht (some (V0,i0,t0,cv)) I2 VL vs ve g items cs ce SD es t ns ng) (λj j j j j=>by kernel_rfl) rem cv v
noncomputable def oe(v:WV)(rem:Bool)(L I2 VL:Addr)(vs:Array Value)(ve g:Nat):Cn:=⟨300,[(I2,aj (.ref VL) g),(VL,ac vs ve)],mh rem v.w L I2,λzn zu=>.cut {js:=[0,1],ju:=[0],K:=1,N:=7,orc:=(dz 1 1)} (.call (.builtin "list_iterator.__next__") ⟨[.ref I2],[]⟩) (λj=>[(I2,aj (.ref VL) g),(VL,ac vs ve)]) (λj=>aE I2 (aj .none g)) λj n1 t1=>.fin {js:=[0,1],cnt:=1,N:=7,orc:=(dz 1 4)} (.ok .next) (λj=>[(I2,aj .none g),(VL,ac vs ve)])⟩
theorem Bg v rem L I2 VL vs ve g:(oe v rem L I2 VL vs ve g).G v:=Cn.k2 cm (f:=λrem v=>oe v rem L I2 VL vs ve g) (λj j j j j j=>by kernel_rfl) rem v
structure VR where
 V:Addr
 VD:Addr
 S:Addr
 SD:Addr
 htv:Nat→Int×Tok
 es:Array (Int×Value)
 ep:Nat
 t:SetTable
 wt:Int
 twt:Tok
 P:List Value
 sl:Nat→Nat
 L:List Int
noncomputable def VR.so(x:VR):Obj:=ao x.SD x.es x.ep x.t
noncomputable def VR.kn(x:VR):List (Addr×Obj):=[(x.V,bT x.VD),(x.VD,bU x.htv x.S x.wt x.twt),(x.S,x.so),(x.SD,q8)]
structure VR.ok (v:WV) (m:Nat) (x:VR):Prop where
 set:bh v x.S x.so x.es x.ep x.t x.P x.sl
 sint:d9 v.w x.so x.es x.ep x.t x.L
 els:∀y∈x.P,SI m y
 wt:-(2 ^ 64)<x.wt∧x.wt<2 ^ 64
noncomputable def LP.vo(l:LP)(x:VR):LP:={l with V:=x.V,VD:=x.VD,S:=x.S,htv:=x.htv,ep:=x.ep,wt:=x.wt,twt:=x.twt,so:=x.so}
theorem Ge(v:WV)(pf rem:Bool)(l:LP){es:Array (Int×Value)}{t:SetTable}{P:List Value}{sl:Nat→Nat}(k:bh v l.S l.so es l.ep t P sl){m:Nat}{N:Int}{q:Rat}{Pre:Shared→Prop}
  (Sc:oJ v.w Pre l.f (fT rem l.i) q) (hN:0<N) (hN2:N<2 ^ 14) (hq:Dv N q) (hwt:-(2 ^ 64)<l.wt∧l.wt<2 ^ 64) (hso:l.so.cls≠.ref 237∧l.so.cls≠.type "dict") (hm:m<2 ^ 63) (hP:∀x∈P,SI m x)
  {val:Nat→Rat} (hv:∀c,Dv N (val c)) (ht:Nat→Int×Tok) (cv:Option Value) (items:Array Value):
  Ct v.w 220 (l.kn pf rem ht cv items es.size 0 0) (λs=>bq v.w s items m val∧∀s1,ah s s1 [l.I,l.L,l.M]→Kn (KB v.w) s1 []→Pre s1) (mi rem v.w l.L l.I) [l.I,l.L,l.M] (nc l rem es.size (sl P.length) P.length)
   (λy j s'=>bq v.w s' y.items m (fW (q*(l.wt:Rat)) P val)∧(∀c,Dv N (fW (q*(l.wt:Rat)) P val c))∧y.cv.isSome=(cv.isSome || !P.isEmpty)):=by
 intro A s R hA hk ⟨hn,hp⟩ hR
 have e0:sl 0=0:=k.wk.sl0
 refine zk v pf rem l k Sc hN hN2 hq hwt hso hm hP hA P 0 val ht cv items s R rfl (Nat.zero_le _) ⟨by rw[e0];exact hk,hn,hv⟩ hp λht' cv' items' s' F K N' D' E'=>?_
 refine hR ⟨ht',cv',items'⟩ s' F ?_ (by simp[nc]) ⟨N',D',E'⟩
 refine K.sub ?_
 simp only[nc,List.append_nil]
 exact List.Sublist.cons_cons _ (List.Sublist.cons_cons _ (List.Sublist.cons_cons _ (List.nil_sublist _)))
theorem Kn.chg{B:X.KT}{s s':Shared}{W:List Addr}{kn kn':List (Addr×Obj)}(k:Kn B s kn)(F:ah s s' W)(hW:∀a∈W,a∈kn.map (·.1))(he:kn'.map (·.1)=kn.map (·.1))(h:∀p∈kn',s'.heap.get? p.1=some p.2):Kn B s' kn':=by
 have off:∀a∈kn.map (·.1),B.get a=none:=λa ha=>by
  obtain⟨p,hp,rfl⟩:=List.mem_map.mp ha
  exact k.off p hp
 exact⟨λx o e=>F.keep x o (k.base x o e) (λhx=>by rw[off x (hW x hx)]at e;cases e),h,λp hp=>off _ (he▸List.mem_map_of_mem hp),he▸k.nd,Nat.lt_of_lt_of_le k.toks F.toks⟩
theorem Kn.rest{B:X.KT}{s s':Shared}{W:List Addr}{kn:List (Addr×Obj)}(k:Kn B s kn)(F:ah s s' W){p:Addr×Obj}(hp:p∈kn)(hW:p.1∉W):s'.heap.get? p.1=some p.2:=F.keep _ _ (k.obj p hp) hW
theorem Kn.step{B:X.KT}{s s':Shared}{W:List Addr}{a a' ex:List (Addr×Obj)}(k:Kn B s (a++ex))(F:ah s s' W)(hW:∀x∈W,x∈a.map (·.1))(K:Kn B s' a')(he:a'.map (·.1)=a.map (·.1)):Kn B s' (a'++ex):=by
 have nd:=k.nd
 rw[List.map_append,List.nodup_append]at nd
 refine k.chg F (λx hx=>by rw[List.map_append];exact List.mem_append_left _ (hW x hx)) (by rw[List.map_append,List.map_append,he]) λp hp=>?_
 rcases List.mem_append.mp hp with hp|hp
 ·exact K.obj p hp
 ·exact k.rest F (List.mem_append_right _ hp) λh=>nd.2.2 p.1 (hW _ h) p.1 (List.mem_map_of_mem hp) rfl
theorem cN{α:Type}{l W:List α}(ix:List Nat)(e:eV l ix=W):∀x∈W,x∈l:=λx h=>by
 subst e
 obtain⟨i,_,e⟩:=c7 h
 exact List.mem_of_getElem? e
theorem gc{x:Value}{g:Nat}:oN (aj x g):=⟨nofun,show Value.type "list_iterator"≠.type "dict" by decide⟩
noncomputable def dN(q:VR→Rat):List VR→(Nat→Rat)→Nat→Rat
 |[],val=>val
 |x::l,val=>dN q l (fW (q x*(x.wt:Rat)) x.P val)
section
variable (v:WV) (pf rem:Bool) (l:LP) (I2 VL:Addr) (vl:List VR) (ve:Nat) (cs:List (Int×Tok)) (ce:Nat)
noncomputable def vsOf:Array Value:=(vl.map λx=>Value.ref x.V).toArray
noncomputable def yl(ht:Nat→Int×Tok)(st:Option (Addr×Int×Tok×Option Value))(src:Value)(g:Nat)(items:Array Value):List (Addr×Obj):=
 (I2,aj src g)::(VL,ac (vsOf vl) ve)::(l.L,qA rem ht l.f l.Pf l.C l.M st)::(l.M,ac items l.me)::(l.C,ac (aa cs) ce)::(l.f,l.fo pf)::vl.flatMap VR.kn
end
theorem VR.sub{vl:List VR}{x:VR}(h:x∈vl):x.kn.Sublist (vl.flatMap VR.kn):=by
 induction vl with
 |nil=>simp at h
 |cons y l ih=>
  rw[List.flatMap_cons]
  rcases List.mem_cons.mp h with rfl|h
  ·exact List.sublist_append_left _ _
  ·exact(ih h).trans (List.sublist_append_right _ _)
theorem xA{vl:List VR}{g:Nat}{x:VR}{rest:List VR}(h:vl.drop g=x::rest):(vsOf vl)[g]?=some (.ref x.V):=by
 have:=congrArg (λl=>l[0]?) h
 simp only[List.getElem?_drop,Nat.add_zero,List.getElem?_cons_zero]at this
 simp[vsOf,this]
theorem xB{vl:List VR}{g:Nat}(h:vl.drop g=[]):(vsOf vl)[g]?=none:=by
 have:=List.drop_eq_nil_iff.mp h
 simp[vsOf,this]
theorem tY(rem:Bool)(ht:Nat→Int×Tok)(f Pf C M:Addr)(st:Option (Addr×Int×Tok×Option Value)):(qA rem ht f Pf C M st).cls=.type "frame":=by
 rcases st with _|⟨V,i,t,c⟩
 ·cases rem<;>rfl
 ·exact m3 ..
theorem EM{rem:Bool}{ht:Nat→Int×Tok}{f Pf C M:Addr}{st:Option (Addr×Int×Tok×Option Value)}:oN (qA rem ht f Pf C M st):=by
 rw[oN,tY];exact⟨nofun,by decide⟩
theorem IG{n:Nat}{I L M z:Addr}(h:n≤z):∀a∈[I,L,M]++[z,L,M],a∈[I,L,M]∨n≤a:=λa ha=>by
 simp only[List.mem_append,List.mem_cons,List.not_mem_nil,or_false]at ha ⊢
 rcases ha with(h1|h1|h1)|h1|h1|h1
 ·exact .inl (.inl h1)
 ·exact .inl (.inr (.inl h1))
 ·exact .inl (.inr (.inr h1))
 ·exact .inr (h1▸h)
 ·exact .inl (.inr (.inl h1))
 ·exact .inl (.inr (.inr h1))
noncomputable def lR(l:List VR):Bool:=l.any λx=> !x.P.isEmpty
structure FJ (st st':Option (Addr×Int×Tok×Option Value)) (rest:List VR):Prop where
 some:st'.isSome=(st.isSome || !rest.isEmpty)
 cand:(ma st').isSome=((ma st).isSome || lR rest)
theorem sM(v:WV)(pf rem:Bool)(l:LP)(I2 VL:Addr)(vl:List VR)(ve:Nat)(cs:List (Int×Tok))(ce m:Nat){N:Int}{q:VR→Rat}{Pre:Shared→Prop}
  (ok:∀x∈vl,x.ok v m) (Sc:∀x∈vl,oJ v.w Pre l.f (fT rem (ap x.L (cs.map (·.1)):Nat)) (q x)) (hN:0<N) (hN2:N<2 ^ 14) (hq:∀x∈vl,Dv N (q x)) (hm:m<2 ^ 63) (hc:∀x∈vl,ap x.L (cs.map (·.1))<2 ^ 63)
  {A:Around} (hA:cp A 300):∀(rest:List VR) (g:Nat) (val:Nat→Rat) (ht:Nat→Int×Tok) (st:Option (Addr×Int×Tok×Option Value)) (items:Array Value) (s:Shared) (R:Result→Shared→Prop),vl.drop g=rest→
   Kn (KB v.w) s (yl pf rem l I2 VL vl ve cs ce ht st (.ref VL) g items)→bq v.w s items m val→(∀c,Dv N (val c))→(∀s1,ah s s1 [I2,l.L,l.M]→Kn (KB v.w) s1 []→Pre s1)→
   (∀ht' st' items' g' s',ah s s' [I2,l.L,l.M]→Kn (KB v.w) s' (yl pf rem l I2 VL vl ve cs ce ht' st' .none g' items')→bq v.w s' items' m (dN q rest val)→(∀c,Dv N (dN q rest val c))→FJ st st' rest→R (.ok .next) s')→
   codeAny (model pr v.w) A (mh rem v.w l.L I2) R s:=by
 intro rest
 induction rest with
 |nil=>
  intro g val ht st items s R hd hk hn hv hp H
  have hk2:Kn (KB v.w) s [(I2,aj (.ref VL) g),(VL,ac (vsOf vl) ve)]:=hk.sub (List.Sublist.cons_cons _ (List.Sublist.cons_cons _ (List.nil_sublist _)))
  have fin:∀s',ah s s' [I2]→Kn (KB v.w) s' [(I2,aj .none g),(VL,ac (vsOf vl) ve)]→R (.ok .next) s':=λs' F K=>
   H ht st items g s' (F.mono λj h=>.inl (List.mem_singleton.mp h▸.head _)) (hk.step (a:=[(I2,aj (.ref VL) g),(VL,ac (vsOf vl) ve)]) F (cN [0] rfl) K rfl) (hn.keep F K.nil (NF.kn (hk.pk [0] rfl) ⟨gc,trivial⟩)) hv ⟨(Bool.or_false _).symm,(Bool.or_false _).symm⟩
  exact(Bg v rem l.L I2 VL (vsOf vl) ve g).go hA hk2 [0] <| kc (λj=>bE v.w (xB hd)) λj j j j=>kf λj s3 F K j=>fin s3 F K
 |cons x rest ih=>
  intro g val ht st items s R hd hk hn hv hp H
  have hx:x∈vl:=List.mem_of_mem_drop (hd▸List.mem_cons_self ..:x∈vl.drop g)
  have hd':vl.drop (g+1)=rest:=by rw[←List.tail_drop,hd];rfl
  have ox:=ok x hx
  have hk2:Kn (KB v.w) s ([(I2,aj (.ref VL) g),(VL,ac (vsOf vl) ve),(l.L,qA rem ht l.f l.Pf l.C l.M st),(l.M,ac items l.me),(l.C,ac (aa cs) ce),(l.f,l.fo pf)]++x.kn):=
   hk.sub (List.Sublist.append_left (VR.sub hx) [(I2,aj (.ref VL) g),(VL,ac (vsOf vl) ve),(l.L,qA rem ht l.f l.Pf l.C l.M st),(l.M,ac items l.me),(l.C,ac (aa cs) ce),(l.f,l.fo pf)])
  have nfs:NF s [I2,l.L,l.M]:=NF.kn (hk.pk [0,2,3] rfl) ⟨gc,EM,fL,trivial⟩
  have next:∀ht' st' items' s',ah s s' [I2,l.L,l.M]→Kn (KB v.w) s' ([(I2,aj (.ref VL) (g+1)),(VL,ac (vsOf vl) ve),(l.L,qA rem ht' l.f l.Pf l.C l.M st'),(l.M,ac items' l.me),(l.C,ac (aa cs) ce),(l.f,l.fo pf)]++x.kn)→
    bq v.w s' items' m (fW (q x*(x.wt:Rat)) x.P val)→(∀c,Dv N (fW (q x*(x.wt:Rat)) x.P val c))→st'.isSome=true→(ma st').isSome=((ma st).isSome || !x.P.isEmpty)→codeAny (model pr v.w) A (mh rem v.w l.L I2) R s':=by
   intro ht' st' items' s' F K N' D' E1 E2
   exact ih (g+1) _ ht' st' items' s' R hd' (hk.step (a:=[(I2,aj (.ref VL) g),(VL,ac (vsOf vl) ve),(l.L,qA rem ht l.f l.Pf l.C l.M st),(l.M,ac items l.me),(l.C,ac (aa cs) ce),(l.f,l.fo pf)]) F (cN [0,2,3] rfl) (K.sub (List.sublist_append_left _ _)) rfl) N' D' (λs1 F1 K1=>hp s1 (F.trans' F1) K1) λht2 st2 items2 g2 s2 F2 K2 N2 D2 O2=>H ht2 st2 items2 g2 s2 (F.trans' F2) K2 N2 D2 ⟨by rw[O2.some,E1];exact(Bool.or_true _).symm,by rw[O2.cand,E2,Bool.or_assoc];rfl⟩
  refine(Bb v pf rem (l.vo x) ht st I2 VL (vsOf vl) ve g items cs ce x.SD x.es x.t (x.sl x.P.length) x.P.length).go (W:=[I2,l.L,l.M]) hA hk2 [0,2,3] ?_
  refine kc (λj=>aP v.w (xA hd)) λj j j j=>kc (λj=>gU v ox.sint) fun(y:SX) _ _ ⟨ey,fy⟩=>kc (λj=>z9 v.w fy (by rw[ey];exact_mod_cast hc x hx)) λti j j j=>oO (λj=>gt v.w rfl ox.set.fit ox.set.plain) λj z j s8 j j a8 j=>?_
  have z0:s.heap.objs.size≤z:=a8 (z,bm (.ref x.S) x.es.size x.ep 0 0) (mN 0 rfl)
  refine dF (λE=>Ge v pf rem ({(l.vo x).at z y.es.size ti with so:=x.so}:LP) ox.set (by show oJ v.w Pre l.f (fT rem (y.es.size:Int)) (q x);rw[ey];exact Sc x hx) hN hN2 (hq x hx) ox.wt (by simp[VR.so,ao]) hm ox.els hv (aq (E.lk 2)) (ma st) items)
   (λE s9 F K=>⟨hn.keep F K.nil nfs,λs2 G K=>hp s2 (F.trans G|>.mono (IG z0)) K⟩) fun(w:Il) s9 s10 ⟨N',D',E'⟩=>?_
  exact Hf λj s11 F L K=>next w.ht (some (x.V,y.es.size,ti,w.cv)) w.items s11 F K (N'.keep (W:=[]) L K.nil λj h=>nomatch h) D' rfl E'
noncomputable def G9(v:WV)(a b:Addr)(ht:Nat→Int×Tok)(n:Int)(tn:Tok)(d:Int)(td:Tok):Cn:=⟨120,aJ a b ht n tn d td,.call (.ref 220) ⟨[.ref a,.ref a],[]⟩,λzn zu=>.fin {i:=6,u:=11,cnt:=18,N:=205,orc:=(dz 108 2984689068020366832791521705762302406626833773247383428480297761476988713883292221498031916959891076517687491669437869987423327649426595790630310820678281966625872793005380011311597974777455624326810706298493834642713097584640),ps:=[n*d≤n*d,IntMulOk n d,IntMulOk n d]} (.ok (.ret (.bool true))) (λj=>[])⟩
theorem yY v a b ht n tn d td:(G9 v a b ht n tn d td).G v:=Cn.g1 (f:=λv=>G9 v a b ht n tn d td) (λj j j j j=>by kernel_rfl) v
noncomputable def Ha(v:WV)(a b:Addr)(ht:Nat→Int×Tok)(n:Int)(tn:Tok)(d:Int)(td:Tok)(a2:Addr):Cn:=⟨120,[(a,bn b),(a2,bn b),(b,cu ht n tn d td)],.call (.ref 220) ⟨[.ref a,.ref a2],[]⟩,λzn zu=>.fin {i:=6,u:=11,cnt:=18,N:=205,orc:=(dz 108 2984869804913724158711326448737620384735177545972931974420032901205192205898298302838947678151735860540854754301442248579130570917828884129094165391360796889644186726709282103361788705923540352416262215743795422029253095522304),ps:=[n*d≤n*d,IntMulOk n d,IntMulOk n d]} (.ok (.ret (.bool true))) (λj=>[])⟩
theorem yZ v a b ht n tn d td a2:(Ha v a b ht n tn d td a2).G v:=Cn.g1 (f:=λv=>Ha v a b ht n tn d td a2) (λj j j j j=>by kernel_rfl) v
noncomputable def Hi(v:WV)(a b:Addr)(ht:Nat→Int×Tok)(n:Int)(tn:Tok)(d:Int)(td:Tok):Cn:=⟨150,aJ a b ht n tn d td,.call (.ref 227) ⟨[.ref a,.ref a],[]⟩,λzn zu=>.cut {js:=[0,1],i:=1,u:=2,K:=1,cnt:=1,N:=32,orc:=(dz 16 152305760306318777827328)} (.call (.ref 220) ⟨[.ref a,.ref a],[]⟩) (λj=>aJ a b ht n tn d td) (λj=>aM (true)) λj n1 t1=>.fin {N:=6} (.ok (.ret (.bool (false)))) (λj=>[])⟩
theorem zl v a b ht n tn d td:(Hi v a b ht n tn d td).G v:=Cn.g1 (f:=λv=>Hi v a b ht n tn d td) (λj j j j j=>by kernel_rfl) v
noncomputable def Hj(v:WV)(a b:Addr)(ht:Nat→Int×Tok)(n:Int)(tn:Tok)(d:Int)(td:Tok)(a2:Addr):Cn:=⟨150,[(a,bn b),(a2,bn b),(b,cu ht n tn d td)],.call (.ref 227) ⟨[.ref a,.ref a2],[]⟩,λzn zu=>.cut {js:=[0,1,2],i:=1,u:=2,K:=1,cnt:=1,N:=32,orc:=(dz 16 153486424547614810767360)} (.call (.ref 220) ⟨[.ref a,.ref a2],[]⟩) (λj=>[(a,bn b),(a2,bn b),(b,cu ht n tn d td)]) (λj=>aM (true)) λj n1 t1=>.fin {N:=6} (.ok (.ret (.bool (false)))) (λj=>[])⟩
theorem zo v a b ht n tn d td a2:(Hj v a b ht n tn d td a2).G v:=Cn.g1 (f:=λv=>Hj v a b ht n tn d td a2) (λj j j j j=>by kernel_rfl) v
noncomputable def Br(v:WV)(I S M:Addr)(items:Array Value)(me c g:Nat)(k:Int)(t:Tok):Cn:=⟨200,[(I,aj (.ref M) g),(S,ac #[] c),(M,ac items me)],.builtin "max.loop" ⟨[.ref I,.none,.ref S],[]⟩,λzn zu=>.cut {js:=[0,2],ju:=[0],K:=5,N:=7,orc:=(dz 2 130)} (.call (.builtin "list_iterator.__next__") ⟨[.ref I],[]⟩) (λj=>[(I,aj (.ref M) g),(M,ac items me)]) (λj=>an I (.int k t) (aj (.ref M) (g+1))) λj n1 t1=>.tail {ws:=[1],js:=[0,1,2],N:=8,orc:=(dz 3 33026),wa:=[S]} (.builtin "max.loop" ⟨[.ref I,.none,.ref S],[]⟩) (λj=>[(I,aj (.ref M) (g+1)),(S,ac #[.int k t,.int k t] (c+1)),(M,ac items me)])⟩
theorem th v I S M items me c g k t:(Br v I S M items me c g k t).G v:=Cn.k1 (f:=λv=>Br v I S M items me c g k t) (λj j j j j j=>by kernel_rfl) v
noncomputable def Bp(v:WV)(I S M:Addr)(items:Array Value)(me c g:Nat)(k:Int)(t:Tok):Cn:=⟨200,[(I,aj (.ref M) g),(S,ac #[.int k t,.int k t] c),(M,ac items me)],.builtin "max.loop" ⟨[.ref I,.none,.ref S],[]⟩,λzn zu=>.cut {js:=[0,2],ju:=[0],K:=5,N:=7,orc:=(dz 2 130)} (.call (.builtin "list_iterator.__next__") ⟨[.ref I],[]⟩) (λj=>[(I,aj (.ref M) g),(M,ac items me)]) (λj=>aE I (aj .none g)) λj n1 t1=>.fin {ws:=[1],js:=[0,1,2],N:=9,orc:=(dz 4 4227333),wa:=[S]} (.ok (.ret (.int k t))) (λj=>[(I,aj .none g),(S,ac #[] (c+1)),(M,ac items me)])⟩
theorem sY v I S M items me c g k t:(Bp v I S M items me c g k t).G v:=Cn.k1 (f:=λv=>Bp v I S M items me c g k t) (λj j j j j j=>by kernel_rfl) v
noncomputable def Bs(v:WV)(I S M:Addr)(items:Array Value)(me c g:Nat)(a:Addr):Cn:=⟨200,[(I,aj (.ref M) g),(S,ac #[] c),(M,ac items me)],.builtin "max.loop" ⟨[.ref I,.none,.ref S],[]⟩,λzn zu=>.cut {js:=[0,2],ju:=[0],K:=5,N:=7,orc:=(dz 2 130)} (.call (.builtin "list_iterator.__next__") ⟨[.ref I],[]⟩) (λj=>[(I,aj (.ref M) g),(M,ac items me)]) (λj=>an I (.ref a) (aj (.ref M) (g+1))) λj n1 t1=>.tail {ws:=[1],js:=[0,1,2],N:=8,orc:=(dz 3 33026),wa:=[S]} (.builtin "max.loop" ⟨[.ref I,.none,.ref S],[]⟩) (λj=>[(I,aj (.ref M) (g+1)),(S,ac #[.ref a,.ref a] (c+1)),(M,ac items me)])⟩
theorem tj v I S M items me c g a:(Bs v I S M items me c g a).G v:=Cn.k1 (f:=λv=>Bs v I S M items me c g a) (λj j j j j j=>by kernel_rfl) v
noncomputable def Bq(v:WV)(I S M:Addr)(items:Array Value)(me c g:Nat)(a:Addr):Cn:=⟨200,[(I,aj (.ref M) g),(S,ac #[.ref a,.ref a] c),(M,ac items me)],.builtin "max.loop" ⟨[.ref I,.none,.ref S],[]⟩,λzn zu=>.cut {js:=[0,2],ju:=[0],K:=5,N:=7,orc:=(dz 2 130)} (.call (.builtin "list_iterator.__next__") ⟨[.ref I],[]⟩) (λj=>[(I,aj (.ref M) g),(M,ac items me)]) (λj=>aE I (aj .none g)) λj n1 t1=>.fin {ws:=[1],js:=[0,1,2],N:=9,orc:=(dz 4 4227333),wa:=[S]} (.ok (.ret (.ref a))) (λj=>[(I,aj .none g),(S,ac #[] (c+1)),(M,ac items me)])⟩
theorem tf v I S M items me c g a:(Bq v I S M items me c g a).G v:=Cn.k1 (f:=λv=>Bq v I S M items me c g a) (λj j j j j j=>by kernel_rfl) v
noncomputable def vx(v:WV)(I S M:Addr)(items:Array Value)(me c g:Nat)(k:Int)(t:Tok)(k2:Int)(tb:Tok):Cn:=⟨200,[(I,aj (.ref M) g),(S,ac #[.int k2 tb,.int k2 tb] c),(M,ac items me)],.builtin "max.loop" ⟨[.ref I,.none,.ref S],[]⟩,λzn zu=>.cut {js:=[0,2],ju:=[0],K:=5,N:=7,orc:=(dz 2 130)} (.call (.builtin "list_iterator.__next__") ⟨[.ref I],[]⟩) (λj=>[(I,aj (.ref M) g),(M,ac items me)]) (λj=>an I (.int k t) (aj (.ref M) (g+1))) λj n1 t1=>.tail {ws:=[1],js:=[0,1,2],N:=10,orc:=(dz 4 4227329),ps:=[k2<k],wa:=[S]} (.builtin "max.loop" ⟨[.ref I,.none,.ref S],[]⟩) (λj=>[(I,aj (.ref M) (g+1)),(S,ac #[.int k t,.int k t] c),(M,ac items me)])⟩
theorem pO v I S M items me c g k t k2 tb:(vx v I S M items me c g k t k2 tb).G v:=Cn.g1 (f:=λv=>vx v I S M items me c g k t k2 tb) (λj j j j j=>by kernel_rfl) v
noncomputable def vC(v:WV)(I S M:Addr)(items:Array Value)(me c g:Nat)(a b:Addr)(k2:Int)(tb:Tok):Cn:=⟨200,[(I,aj (.ref M) g),(S,ac #[.int k2 tb,.int k2 tb] c),(M,ac items me)]++[(a,bn b)],.builtin "max.loop" ⟨[.ref I,.none,.ref S],[]⟩,λzn zu=>.cut {js:=[0,2],ju:=[0],K:=5,N:=7,orc:=(dz 2 130)} (.call (.builtin "list_iterator.__next__") ⟨[.ref I],[]⟩) (λj=>[(I,aj (.ref M) g),(M,ac items me)]) (λj=>an I (.ref a) (aj (.ref M) (g+1))) λj n1 t1=>.cut {K:=5,N:=12,orc:=(dz 6 516)} (.call (.ref 227) ⟨[.ref a,.int k2 tb],[]⟩) (λj=>[]) (λj=>aM true) λj n2 t2=>.tail {ws:=[1],js:=[0,1,2],N:=8,orc:=(dz 3 33026),wa:=[S]} (.builtin "max.loop" ⟨[.ref I,.none,.ref S],[]⟩) (λj=>[(I,aj (.ref M) (g+1)),(S,ac #[.ref a,.ref a] c),(M,ac items me)])⟩
theorem pT v I S M items me c g a b k2 tb:(vC v I S M items me c g a b k2 tb).G v:=Cn.g1 (f:=λv=>vC v I S M items me c g a b k2 tb) (λj j j j j=>by kernel_rfl) v
noncomputable def vz(v:WV)(I S M:Addr)(items:Array Value)(me c g:Nat)(k:Int)(t:Tok)(a2 bb:Addr):Cn:=⟨200,[(I,aj (.ref M) g),(S,ac #[.ref a2,.ref a2] c),(M,ac items me)]++[(a2,bn bb)],.builtin "max.loop" ⟨[.ref I,.none,.ref S],[]⟩,λzn zu=>.cut {js:=[0,2],ju:=[0],K:=5,N:=7,orc:=(dz 2 130)} (.call (.builtin "list_iterator.__next__") ⟨[.ref I],[]⟩) (λj=>[(I,aj (.ref M) g),(M,ac items me)]) (λj=>an I (.int k t) (aj (.ref M) (g+1))) λj n1 t1=>.cut {K:=5,cnt:=2,N:=19,orc:=(dz 8 8454148)} (.call (.ref 213) ⟨[.ref a2,.int k t],[]⟩) (λj=>[]) (λj=>aM true) λj n2 t2=>.tail {ws:=[1],js:=[0,1,2],N:=8,orc:=(dz 3 33026),wa:=[S]} (.builtin "max.loop" ⟨[.ref I,.none,.ref S],[]⟩) (λj=>[(I,aj (.ref M) (g+1)),(S,ac #[.int k t,.int k t] c),(M,ac items me)])⟩
theorem pQ v I S M items me c g k t a2 bb:(vz v I S M items me c g k t a2 bb).G v:=Cn.g1 (f:=λv=>vz v I S M items me c g k t a2 bb) (λj j j j j=>by kernel_rfl) v
noncomputable def vE(v:WV)(I S M:Addr)(items:Array Value)(me c g:Nat)(a b a2 bb:Addr):Cn:=⟨200,[(I,aj (.ref M) g),(S,ac #[.ref a2,.ref a2] c),(M,ac items me)]++[(a,bn b),(a2,bn bb)],.builtin "max.loop" ⟨[.ref I,.none,.ref S],[]⟩,λzn zu=>.cut {js:=[0,2],ju:=[0],K:=5,N:=7,orc:=(dz 2 130)} (.call (.builtin "list_iterator.__next__") ⟨[.ref I],[]⟩) (λj=>[(I,aj (.ref M) g),(M,ac items me)]) (λj=>an I (.ref a) (aj (.ref M) (g+1))) λj n1 t1=>.cut {K:=5,N:=13,orc:=(dz 7 66180)} (.call (.ref 227) ⟨[.ref a,.ref a2],[]⟩) (λj=>[]) (λj=>aM true) λj n2 t2=>.tail {ws:=[1],js:=[0,1,2],N:=8,orc:=(dz 3 33026),wa:=[S]} (.builtin "max.loop" ⟨[.ref I,.none,.ref S],[]⟩) (λj=>[(I,aj (.ref M) (g+1)),(S,ac #[.ref a,.ref a] c),(M,ac items me)])⟩
theorem pV v I S M items me c g a b a2 bb:(vE v I S M items me c g a b a2 bb).G v:=Cn.g1 (f:=λv=>vE v I S M items me c g a b a2 bb) (λj j j j j=>by kernel_rfl) v
noncomputable def vy(v:WV)(I S M:Addr)(items:Array Value)(me c g:Nat)(k:Int)(t:Tok)(k2:Int)(tb:Tok):Cn:=⟨200,[(I,aj (.ref M) g),(S,ac #[.int k2 tb,.int k2 tb] c),(M,ac items me)],.builtin "max.loop" ⟨[.ref I,.none,.ref S],[]⟩,λzn zu=>.cut {js:=[0,2],ju:=[0],K:=5,N:=7,orc:=(dz 2 130)} (.call (.builtin "list_iterator.__next__") ⟨[.ref I],[]⟩) (λj=>[(I,aj (.ref M) g),(M,ac items me)]) (λj=>an I (.int k t) (aj (.ref M) (g+1))) λj n1 t1=>.tail {js:=[0,1,2],N:=7,orc:=(dz 1 2),ps:=[k≤k2]} (.builtin "max.loop" ⟨[.ref I,.none,.ref S],[]⟩) (λj=>[(I,aj (.ref M) (g+1)),(S,ac #[.int k2 tb,.int k2 tb] c),(M,ac items me)])⟩
theorem pP v I S M items me c g k t k2 tb:(vy v I S M items me c g k t k2 tb).G v:=Cn.g1 (f:=λv=>vy v I S M items me c g k t k2 tb) (λj j j j j=>by kernel_rfl) v
noncomputable def vD(v:WV)(I S M:Addr)(items:Array Value)(me c g:Nat)(a b:Addr)(k2:Int)(tb:Tok):Cn:=⟨200,[(I,aj (.ref M) g),(S,ac #[.int k2 tb,.int k2 tb] c),(M,ac items me)]++[(a,bn b)],.builtin "max.loop" ⟨[.ref I,.none,.ref S],[]⟩,λzn zu=>.cut {js:=[0,2],ju:=[0],K:=5,N:=7,orc:=(dz 2 130)} (.call (.builtin "list_iterator.__next__") ⟨[.ref I],[]⟩) (λj=>[(I,aj (.ref M) g),(M,ac items me)]) (λj=>an I (.ref a) (aj (.ref M) (g+1))) λj n1 t1=>.cut {K:=5,N:=12,orc:=(dz 6 516)} (.call (.ref 227) ⟨[.ref a,.int k2 tb],[]⟩) (λj=>[]) (λj=>aM false) λj n2 t2=>.tail {js:=[0,1,2],N:=5} (.builtin "max.loop" ⟨[.ref I,.none,.ref S],[]⟩) (λj=>[(I,aj (.ref M) (g+1)),(S,ac #[.int k2 tb,.int k2 tb] c),(M,ac items me)])⟩
theorem pU v I S M items me c g a b k2 tb:(vD v I S M items me c g a b k2 tb).G v:=Cn.g1 (f:=λv=>vD v I S M items me c g a b k2 tb) (λj j j j j=>by kernel_rfl) v
noncomputable def vA(v:WV)(I S M:Addr)(items:Array Value)(me c g:Nat)(k:Int)(t:Tok)(a2 bb:Addr):Cn:=⟨200,[(I,aj (.ref M) g),(S,ac #[.ref a2,.ref a2] c),(M,ac items me)]++[(a2,bn bb)],.builtin "max.loop" ⟨[.ref I,.none,.ref S],[]⟩,λzn zu=>.cut {js:=[0,2],ju:=[0],K:=5,N:=7,orc:=(dz 2 130)} (.call (.builtin "list_iterator.__next__") ⟨[.ref I],[]⟩) (λj=>[(I,aj (.ref M) g),(M,ac items me)]) (λj=>an I (.int k t) (aj (.ref M) (g+1))) λj n1 t1=>.cut {K:=5,cnt:=2,N:=19,orc:=(dz 8 8454148)} (.call (.ref 213) ⟨[.ref a2,.int k t],[]⟩) (λj=>[]) (λj=>aM false) λj n2 t2=>.tail {js:=[0,1,2],N:=5} (.builtin "max.loop" ⟨[.ref I,.none,.ref S],[]⟩) (λj=>[(I,aj (.ref M) (g+1)),(S,ac #[.ref a2,.ref a2] c),(M,ac items me)])⟩
theorem pR v I S M items me c g k t a2 bb:(vA v I S M items me c g k t a2 bb).G v:=Cn.g1 (f:=λv=>vA v I S M items me c g k t a2 bb) (λj j j j j=>by kernel_rfl) v
noncomputable def vF(v:WV)(I S M:Addr)(items:Array Value)(me c g:Nat)(a b a2 bb:Addr):Cn:=⟨200,[(I,aj (.ref M) g),(S,ac #[.ref a2,.ref a2] c),(M,ac items me)]++[(a,bn b),(a2,bn bb)],.builtin "max.loop" ⟨[.ref I,.none,.ref S],[]⟩,λzn zu=>.cut {js:=[0,2],ju:=[0],K:=5,N:=7,orc:=(dz 2 130)} (.call (.builtin "list_iterator.__next__") ⟨[.ref I],[]⟩) (λj=>[(I,aj (.ref M) g),(M,ac items me)]) (λj=>an I (.ref a) (aj (.ref M) (g+1))) λj n1 t1=>.cut {K:=5,N:=13,orc:=(dz 7 66180)} (.call (.ref 227) ⟨[.ref a,.ref a2],[]⟩) (λj=>[]) (λj=>aM false) λj n2 t2=>.tail {js:=[0,1,2],N:=5} (.builtin "max.loop" ⟨[.ref I,.none,.ref S],[]⟩) (λj=>[(I,aj (.ref M) (g+1)),(S,ac #[.ref a2,.ref a2] c),(M,ac items me)])⟩
theorem pW v I S M items me c g a b a2 bb:(vF v I S M items me c g a b a2 bb).G v:=Cn.g1 (f:=λv=>vF v I S M items me c g a b a2 bb) (λj j j j j=>by kernel_rfl) v
noncomputable def vB(v:WV)(I S M:Addr)(items:Array Value)(me c g:Nat)(a b:Addr):Cn:=⟨200,[(I,aj (.ref M) g),(S,ac #[.ref a,.ref a] c),(M,ac items me)]++[(a,bn b)],.builtin "max.loop" ⟨[.ref I,.none,.ref S],[]⟩,λzn zu=>.cut {js:=[0,2],ju:=[0],K:=5,N:=7,orc:=(dz 2 130)} (.call (.builtin "list_iterator.__next__") ⟨[.ref I],[]⟩) (λj=>[(I,aj (.ref M) g),(M,ac items me)]) (λj=>an I (.ref a) (aj (.ref M) (g+1))) λj n1 t1=>.cut {K:=5,N:=13,orc:=(dz 7 66052)} (.call (.ref 227) ⟨[.ref a,.ref a],[]⟩) (λj=>[]) (λj=>aM false) λj n2 t2=>.tail {js:=[0,1,2],N:=5} (.builtin "max.loop" ⟨[.ref I,.none,.ref S],[]⟩) (λj=>[(I,aj (.ref M) (g+1)),(S,ac #[.ref a,.ref a] c),(M,ac items me)])⟩
theorem pS v I S M items me c g a b:(vB v I S M items me c g a b).G v:=Cn.g1 (f:=λv=>vB v I S M items me c g a b) (λj j j j j=>by kernel_rfl) v
theorem d6{n d:Int}(h0:0<d)(h1:d<2 ^ 14):IntMulOk n d:=az (by omega) (by omega)
section
variable (v:WV) (a b:Addr) (ht:Nat→Int×Tok) (n:Int) (tn:Tok) (d:Int) (td:Tok) (hd:0<d) (hd2:d<2 ^ 14)
include hd hd2
theorem DK:aS v.w 120 (aJ a b ht n tn d td) (.call (.ref 220) ⟨[.ref a,.ref a],[]⟩) [] (aM true):=λA s R hA hk j hR=>by
 refine(yY v a b ht n tn d td).go hA hk [] ?_
 exact kf (hps:=⟨Int.le_refl _,d6 hd hd2,d6 hd hd2,trivial⟩) λj s' F3 K3 j=>hR () s' F3 K3 (by simp[aM,aW]) trivial
theorem DO(a2:Addr):aS v.w 120 [(a,bn b),(a2,bn b),(b,cu ht n tn d td)] (.call (.ref 220) ⟨[.ref a,.ref a2],[]⟩) [] (aM true):=λA s R hA hk j hR=>by
 refine(yZ v a b ht n tn d td a2).go hA hk [] ?_
 exact kf (hps:=⟨Int.le_refl _,d6 hd hd2,d6 hd hd2,trivial⟩) λj s' F3 K3 j=>hR () s' F3 K3 (by simp[aM,aW]) trivial
theorem DP:aS v.w 150 (aJ a b ht n tn d td) (.call (.ref 227) ⟨[.ref a,.ref a],[]⟩) [] (aM false):=λA s R hA hk j hR=>by
 refine(zl v a b ht n tn d td).go hA hk [] ?_
 exact kc (λj=>DK v a b ht n tn d td hd hd2) λx s1 s2 j=>
  kf λj s' F3 K3 j=>hR () s' F3 K3 (by simp[aM,aW]) trivial
theorem DT(a2:Addr):aS v.w 150 [(a,bn b),(a2,bn b),(b,cu ht n tn d td)] (.call (.ref 227) ⟨[.ref a,.ref a2],[]⟩) [] (aM false):=λA s R hA hk j hR=>by
 refine(zo v a b ht n tn d td a2).go hA hk [] ?_
 exact kc (λj=>DO v a b ht n tn d td hd hd2 a2) λx s1 s2 j=>
  kf λj s' F3 K3 j=>hR () s' F3 K3 (by simp[aM,aW]) trivial
end
theorem bz.el{w:World}{s:Shared}{x:Value}{r:Rat}(h:bz w s x r):
  (∃k t,x=.int k t∧r=(k:Rat))∨∃a b ht tn td,x=.ref a∧Kn (KB w) s (aJ a b ht r.num tn r.den td):=by
 cases h with
 |int k t=>exact .inl ⟨k,t,rfl,rfl⟩
 |fr a b q ht tn td f=>exact .inr ⟨a,b,ht,tn,td,rfl,f⟩
theorem m5{ht ht2:Nat→Int×Tok}{n n2 d d2:Int}{tn tn2 td td2:Tok}(h:cu ht n tn d td=cu ht2 n2 tn2 d2 td2):n=n2∧d=d2:=by
 have h1:=congrArg Obj.data h
 unfold cu bO at h1
 simp only[Data.dict.injEq]at h1
 have h2:=congrArg Array.toList h1.1
 simp[om]at h2
 exact⟨h2.1.2.2.1,h2.2.2.2.1⟩
theorem yh(p q:Rat):decide (p<q)=decide (p.num*q.den<q.num*p.den):=decide_eq_decide.mpr (Rat.lt_iff p q)
theorem nu(v:WV){a a2:Addr}{q q2:Rat}(hq:(q.den:Int)<2 ^ 14)(hq2:(q2.den:Int)<2 ^ 14):
  Ct v.w 150 [] (λs=>bz v.w s (.ref a) q∧bz v.w s (.ref a2) q2) (.call (.ref 227) ⟨[.ref a,.ref a2],[]⟩) [] (aM (decide (q2<q))) bP:=by
 intro A s R hA hk ⟨h1,h2⟩ hR
 obtain⟨_,_,e,_⟩|⟨_,b,ht,tn,td,e,f⟩:=h1.el
 ·cases e
 cases e
 obtain⟨_,_,e,_⟩|⟨_,b2,ht2,tn2,td2,e,f2⟩:=h2.el
 ·cases e
 cases e
 have oa:=f.obj (a,bn b) (mN 0 rfl)
 have ob:=f.obj (b,cu ht q.num tn q.den td) (mN 1 rfl)
 have oa2:=f2.obj (a2,bn b2) (mN 0 rfl)
 have ob2:=f2.obj (b2,cu ht2 q2.num tn2 q2.den td2) (mN 1 rfl)
 have hR':∀s',ah s s' []→Kn (KB v.w) s' []→R (.ok (.ret (.bool (decide (q2<q))))) s':=λs' F K=>hR () s' F K (by simp[aM,aW]) trivial
 have same:b=b2→decide (q2<q)=false:=λe=>by
  subst e
  simp only at ob ob2
  rw[ob]at ob2
  obtain⟨h1,h2⟩:=m5 (Option.some.inj ob2)
  have:q=q2:=Rat.ext h1 (by exact_mod_cast h2)
  rw[this]
  exact decide_eq_false (Rat.lt_irrefl)
 have hd:=bW q
 by_cases e:a=a2
 ·subst e
  simp only at oa oa2
  have eb:b=b2:=by
   rw[oa]at oa2
   simpa [bn]using oa2
  exact DP v a b ht q.num tn q.den td hd hq A s R hA f trivial λx s' F K j j=>by
   have:=hR' s' F K.nil
   rw[same eb]at this
   exact this
 ·by_cases eb:b=b2
  ·have e2:=same eb
   subst eb
   have kk:Kn (KB v.w) s [(a,bn b),(a2,bn b),(b,cu ht q.num tn q.den td)]:=by
    refine⟨f.base,λp hp=>?_,λp hp=>?_,?_,f.toks⟩
    ·simp only[List.mem_cons,List.not_mem_nil,or_false]at hp
     rcases hp with rfl|rfl|rfl
     ·exact oa
     ·exact oa2
     ·exact ob
    ·simp only[List.mem_cons,List.not_mem_nil,or_false]at hp
     rcases hp with rfl|rfl|rfl
     ·exact f.off (a,bn b) (mN 0 rfl)
     ·exact f2.off (a2,bn b) (mN 0 rfl)
     ·exact f.off (b,cu ht q.num tn q.den td) (mN 1 rfl)
    ·have n1:=f.nd
     have n2:=f2.nd
     simp[aJ]at n1 n2
     simp[e,n1,n2]
   exact DT v a b ht q.num tn q.den td hd hq a2 A s R hA kk trivial λx s' F K j j=>by
    have:=hR' s' F K.nil
    rw[e2]at this
    exact this
  ·have kk:=f.app f2 (λp hp p2 hp2 e3=>by
    have o1:=f.obj p hp
    have o2:=f2.obj p2 hp2
    simp only[aJ,List.mem_cons,List.not_mem_nil,or_false]at hp hp2
    rcases hp with rfl|rfl<;>rcases hp2 with rfl|rfl
    ·exact e e3
    ·rw[e3,o2]at o1;cases congrArg Obj.cls (Option.some.inj o1)
    ·rw[e3,o2]at o1;cases congrArg Obj.cls (Option.some.inj o1)
    ·exact eb e3)
   exact DQ v a b ht q.num tn q.den td a2 b2 ht2 q2.num tn2 q2.den td2 hd hq (bW q2) hq2 (yh q2 q) A s R hA kk trivial λx s' F K j j=>hR' s' F K.nil
theorem mw(v:WV){a:Addr}{q:Rat}(hq:(q.den:Int)<2 ^ 14)(k:Int)(t:Tok):
  Ct v.w 150 [] (λs=>bz v.w s (.ref a) q) (.call (.ref 227) ⟨[.ref a,.int k t],[]⟩) [] (aM (decide ((k:Rat)<q))) bP:=by
 intro A s R hA hk h1 hR
 obtain⟨_,_,e,_⟩|⟨_,b,ht,tn,td,e,f⟩:=h1.el
 ·cases e
 cases e
 exact DS v a b ht q.num tn q.den td k t (bW q) hq (by rw[yh];simp) A s R hA f trivial λx s' F K j j=>hR () s' F K.nil (by simp[aM,aW]) trivial
theorem mq(v:WV){a:Addr}{q:Rat}(hq:(q.den:Int)<2 ^ 14)(k:Int)(t:Tok):
  Ct v.w 120 [] (λs=>bz v.w s (.ref a) q) (.call (.ref 213) ⟨[.ref a,.int k t],[]⟩) [] (aM (decide (q<(k:Rat)))) bP:=by
 intro A s R hA hk h1 hR
 obtain⟨_,_,e,_⟩|⟨_,b,ht,tn,td,e,f⟩:=h1.el
 ·cases e
 cases e
 exact DJ v a b ht q.num tn q.den td k t (bW q) hq (by rw[yh];simp) A s R hA f trivial λx s' F K j j=>hR () s' F K.nil (by simp[aM,aW]) trivial
noncomputable def kI(I S:Addr)(r:Value):bS (Nat×Nat):={res:=λj=>.ok (.ret r),upd:=λx=>[(I,aj .none x.1),(S,ac #[] x.2)]}
noncomputable def bt(val:Nat→Rat)(i j:Nat):Bool:=decide (val j<val i)
set_option tactic.hygienic true in
theorem gP(val:Nat→Rat):∀k,argBest (bt val) k≤k∧∀i≤k,val i≤val (argBest (bt val) k)
 |0=>⟨Nat.le_refl _,λi h=>by rw[Nat.le_zero.mp h];exact Rat.le_refl⟩
 |k+1=>by
  obtain⟨h1,h2⟩:=gP val k
  unfold argBest
  split
  ·rename_i h
   have h':=of_decide_eq_true h
   refine⟨Nat.le_refl _,λi hi=>?_⟩
   rcases Nat.lt_or_ge i (k+1)with q|q
   ·exact Rat.le_trans (h2 i (by omega)) (Rat.le_of_lt h')
   ·rw[Nat.le_antisymm hi q];exact Rat.le_refl
  ·rename_i h
   have h':¬val (argBest (bt val) k)<val (k+1):=of_decide_eq_false (by simpa [bt]using h)
   refine⟨by omega,λi hi=>?_⟩
   rcases Nat.lt_or_ge i (k+1)with q|q
   ·exact h2 i (by omega)
   ·rw[Nat.le_antisymm hi q];exact Rat.not_lt.mp h'
theorem Kn.with{w:World}{s:Shared}{kn:List (Addr×Obj)}(k:Kn (KB w) s kn){p:Addr×Obj}(o:s.heap.get? p.1=some p.2)(off:(KB w).get p.1=none)(h:∀q∈kn,q.1≠p.1):Kn (KB w) s (kn++[p]):=
 k.app (b:=[p]) ⟨k.base,λq hq=>by rw[List.mem_singleton.mp hq];exact o,λq hq=>by rw[List.mem_singleton.mp hq];exact off,by simp,k.toks⟩ λq hq q2 hq2=>by rw[List.mem_singleton.mp hq2];exact h q hq
theorem Bi{w:World}{s:Shared}{kn:List (Addr×Obj)}(k:Kn (KB w) s kn){a b:Addr}(o:s.heap.get? a=some (bn b))(h:∀q∈kn,q.2.cls≠.ref 237):∀q∈kn,q.1≠a:=λq hq e=>by
 have:=k.obj q hq
 rw[e,o]at this
 exact h q hq (by rw[←Option.some.inj this];rfl)
noncomputable def Ar(I S M:Addr)(items:Array Value)(me:Nat)(src:Value)(g:Nat)(b:Array Value)(c:Nat):List (Addr×Obj):=[(I,aj src g),(S,ac b c),(M,ac items me)]
theorem iR(I S M:Addr)(items:Array Value)(me:Nat)(src:Value)(g:Nat)(b:Array Value)(c:Nat):∀q∈Ar I S M items me src g b c,q.2.cls≠.ref 237∧q.2.cls≠.type "dict":=gR.mem ⟨gc,fL,fL,trivial⟩
theorem EO(v:WV)(I S M:Addr)(items:Array Value)(me m:Nat)(val:Nat→Rat)(hden:∀c,((val c).den:Int)<2 ^ 14){A:Around}(hA:cp A 200):∀(k j:Nat) (s:Shared) (vb:Value) (c:Nat) (R:Result→Shared→Prop),m-(j+1)=k→j+1≤m→
  Kn (KB v.w) s (Ar I S M items me (.ref M) (j+1) #[vb,vb] c)→items[argBest (bt val) j]?=some vb→bq v.w s items m val→
  (∀g c' vb s',ah s s' [I,S]→Kn (KB v.w) s' (Ar I S M items me .none g #[] c')→items[argBest (bt val) (m-1)]?=some vb→R (.ok (.ret vb)) s')→
  codeAny (model pr v.w) A (.builtin "max.loop" ⟨[.ref I,.none,.ref S],[]⟩) R s:=by
 intro k
 induction k with
 |zero=>
  intro j s vb c R hk hj kn hb hn H
  have hjm:j+1=m:=by omega
  have hg:items[j+1]?=none:=Array.getElem?_eq_none (by rw[hn.sz];omega)
  have nb:=hn.num (argBest (bt val) j) (by have:=(gP val j).1;rw[hn.sz];omega)
  have hb':items[argBest (bt val) (m-1)]?=some vb:=by rw[←hjm];exact hb
  have eb:items[argBest (bt val) j]'(by have:=(gP val j).1;rw[hn.sz];omega)=vb:=by
   have:=hb
   rw[Array.getElem?_eq_getElem (by have:=(gP val j).1;rw[hn.sz];omega)]at this
   exact Option.some.inj this
  rw[eb]at nb
  rcases nb.el with⟨k,t,e,_⟩|⟨a,b,ht,tn,td,e,f⟩
  ·subst e
   refine(sY v I S M items me c (j+1) k t).go hA kn [0,1] ?_
   refine kc (λo=>bE v.w hg) λx s1 s2 o=>?_
   exact kf λE s3 F3 K3 o=>H _ _ _ s3 F3 K3 hb'
  ·subst e
   refine(tf v I S M items me c (j+1) a).go hA kn [0,1] ?_
   refine kc (λo=>bE v.w hg) λx s1 s2 o=>?_
   exact kf λE s3 F3 K3 o=>H _ _ _ s3 F3 K3 hb'
 |succ k ih=>
  intro j s vb c R hk hj kn hb hn H
  have lj:j+1<items.size:=by rw[hn.sz];omega
  have lb:argBest (bt val) j<items.size:=by have:=(gP val j).1;rw[hn.sz];omega
  have hg:items[j+1]?=some items[j+1]:=Array.getElem?_eq_getElem lj
  have nx:=hn.num (j+1) lj
  have nb:=hn.num (argBest (bt val) j) lb
  have eb:items[argBest (bt val) j]=vb:=by
   have:=hb
   rw[Array.getElem?_eq_getElem lb]at this
   exact Option.some.inj this
  rw[eb]at nb
  generalize ex:items[j+1]=x at nx hg
  have nf:NF s [I,S]:=NF.kn (kn.pk [0,1] rfl) ⟨gc,fL,trivial⟩
  have next:∀s' c',ah s s' [I,S]→Kn (KB v.w) s' (Ar I S M items me (.ref M) (j+2) (if bt val (j+1) (argBest (bt val) j) then #[x,x] else #[vb,vb]) c')→codeAny (model pr v.w) A (.builtin "max.loop" ⟨[.ref I,.none,.ref S],[]⟩) R s':=by
   intro s' c' F K
   by_cases h:bt val (j+1) (argBest (bt val) j)=true
   ·rw[if_pos h]at K
    refine ih (j+1) s' x c' R (by omega) (by omega) K ?_ (hn.keep F K.nil nf) λg c2 vb s2 F2 K2 h2=>H g c2 vb s2 (F.trans' F2) K2 h2
    unfold argBest
    rw[if_pos h]
    exact hg
   ·rw[if_neg h]at K
    refine ih (j+1) s' vb c' R (by omega) (by omega) K ?_ (hn.keep F K.nil nf) λg c2 vb s2 F2 K2 h2=>H g c2 vb s2 (F.trans' F2) K2 h2
    unfold argBest
    rw[if_neg h]
    exact hb
  have cn:=aP v.w (I:=I) (L:=M) (ep:=me) hg
  rcases nx.el with⟨kx,tx,e,hx⟩|⟨a,b,ht,tn,td,e,f⟩<;>rcases nb.el with⟨kb,tb,e2,hb2⟩|⟨a2,b2,ht2,tn2,td2,e2,f2⟩
  ·subst e;subst e2
   cases hb3:bt val (j+1) (argBest (bt val) j)with
   |true=>
    have hc:kb<kx:=by
     have:=of_decide_eq_true hb3
     rw[hb2,hx]at this
     exact_mod_cast this
    refine(pO v I S M items me c (j+1) kx tx kb tb).go hA kn [0,1] ?_
    refine kc (λo=>cn) λx s1 s2 o=>?_
    exact kt (hps:=⟨hc,trivial⟩) λE s5 F5 K5=>next s5 c F5 (by rw[hb3];exact K5)
   |false=>
    have hc:kx≤kb:=by
     have:=of_decide_eq_false hb3
     rw[hb2,hx]at this
     exact Int.not_lt.mp λh=>this (by exact_mod_cast h)
    refine(pP v I S M items me c (j+1) kx tx kb tb).go hA kn [0,1] ?_
    refine kc (λo=>cn) λx s1 s2 o=>?_
    exact kt (hps:=⟨hc,trivial⟩) λE s5 F5 K5=>next s5 c F5 (by rw[hb3];exact K5)
  ·subst e;subst e2
   have oa:=f2.obj (a2,bn b2) (mN 0 rfl)
   have kk:=kn.with (p:=(a2,bn b2)) oa (f2.off (a2,bn b2) (mN 0 rfl)) (Bi kn oa λq hq=>(iR _ _ _ _ _ _ _ _ _ q hq).1)
   cases hb3:bt val (j+1) (argBest (bt val) j)with
   |true=>
    have hc:decide (val (argBest (bt val) j)<(kx:Rat))=true:=by rw[←hx];exact hb3
    refine(pQ v I S M items me c (j+1) kx tx a2 b2).go hA kk [0,1] ?_
    refine kc (λo=>cn) λx s1 s2 o=>?_
    refine dF (λo=>(hc▸mq v (hden _) kx tx:Ct v.w _ _ _ _ _ (aM true) bP)) (λE s3 F3 K3=>nb.keep F3 K3 nf) λy s3 s4 o=>?_
    exact kt λE s5 F5 K5=>next s5 c F5 (by rw[hb3];exact K5)
   |false=>
    have hc:decide (val (argBest (bt val) j)<(kx:Rat))=false:=by rw[←hx];exact hb3
    refine(pR v I S M items me c (j+1) kx tx a2 b2).go hA kk [0,1] ?_
    refine kc (λo=>cn) λx s1 s2 o=>?_
    refine dF (λo=>(hc▸mq v (hden _) kx tx:Ct v.w _ _ _ _ _ (aM false) bP)) (λE s3 F3 K3=>nb.keep F3 K3 nf) λy s3 s4 o=>?_
    exact kt λE s5 F5 K5=>next s5 c F5 (by rw[hb3];exact K5)
  ·subst e;subst e2
   have oa:=f.obj (a,bn b) (mN 0 rfl)
   have kk:=kn.with (p:=(a,bn b)) oa (f.off (a,bn b) (mN 0 rfl)) (Bi kn oa λq hq=>(iR _ _ _ _ _ _ _ _ _ q hq).1)
   cases hb3:bt val (j+1) (argBest (bt val) j)with
   |true=>
    have hc:decide ((kb:Rat)<val (j+1))=true:=by rw[←hb2];exact hb3
    refine(pT v I S M items me c (j+1) a b kb tb).go hA kk [0,1] ?_
    refine kc (λo=>cn) λx s1 s2 o=>?_
    refine dF (λo=>(hc▸mw v (hden _) kb tb:Ct v.w _ _ _ _ _ (aM true) bP)) (λE s3 F3 K3=>nx.keep F3 K3 nf) λy s3 s4 o=>?_
    exact kt λE s5 F5 K5=>next s5 c F5 (by rw[hb3];exact K5)
   |false=>
    have hc:decide ((kb:Rat)<val (j+1))=false:=by rw[←hb2];exact hb3
    refine(pU v I S M items me c (j+1) a b kb tb).go hA kk [0,1] ?_
    refine kc (λo=>cn) λx s1 s2 o=>?_
    refine dF (λo=>(hc▸mw v (hden _) kb tb:Ct v.w _ _ _ _ _ (aM false) bP)) (λE s3 F3 K3=>nx.keep F3 K3 nf) λy s3 s4 o=>?_
    exact kt λE s5 F5 K5=>next s5 c F5 (by rw[hb3];exact K5)
  ·subst e;subst e2
   have oa:=f.obj (a,bn b) (mN 0 rfl)
   have oa2:=f2.obj (a2,bn b2) (mN 0 rfl)
   have k1:=kn.with (p:=(a,bn b)) oa (f.off (a,bn b) (mN 0 rfl)) (Bi kn oa λq hq=>(iR _ _ _ _ _ _ _ _ _ q hq).1)
   by_cases ea:a=a2
   ·subst ea
    have evv:val (j+1)=val (argBest (bt val) j):=by
     simp only at oa oa2
     have eb:b=b2:=by rw[oa]at oa2;simpa [bn]using oa2
     subst eb
     have o1:=f.obj (b,cu ht (val (j+1)).num tn (val (j+1)).den td) (mN 1 rfl)
     have o2:=f2.obj (b,cu ht2 (val (argBest (bt val) j)).num tn2 (val (argBest (bt val) j)).den td2) (by simp[aJ])
     simp only at o1 o2
     rw[o1]at o2
     obtain⟨h1,h2⟩:=m5 (Option.some.inj o2)
     exact Rat.ext h1 (by exact_mod_cast h2)
    have hb3:bt val (j+1) (argBest (bt val) j)=false:=by
     unfold bt
     rw[evv]
     exact decide_eq_false Rat.lt_irrefl
    have hc:decide (val (argBest (bt val) j)<val (j+1))=false:=hb3
    refine(pS v I S M items me c (j+1) a b).go hA k1 [0,1] ?_
    refine kc (λo=>cn) λx s1 s2 o=>?_
    refine dF (λo=>(hc▸nu v (hden _) (hden _):Ct v.w _ _ _ _ _ (aM false) bP)) (λE s3 F3 K3=>⟨nx.keep F3 K3 nf,nb.keep F3 K3 nf⟩) λy s3 s4 o=>?_
    exact kt λE s5 F5 K5=>next s5 c F5 (by rw[hb3];exact K5)
   ·have kk:=k1.with (p:=(a2,bn b2)) oa2 (f2.off (a2,bn b2) (mN 0 rfl)) (λq hq=>by
     rcases List.mem_append.mp hq with h|h
     ·exact Bi kn oa2 (λq hq=>(iR _ _ _ _ _ _ _ _ _ q hq).1) q h
     ·rw[List.mem_singleton.mp h];exact ea)
    cases hb3:bt val (j+1) (argBest (bt val) j)with
    |true=>
     have hc:decide (val (argBest (bt val) j)<val (j+1))=true:=hb3
     refine(pV v I S M items me c (j+1) a b a2 b2).go hA kk [0,1] ?_
     refine kc (λo=>cn) λx s1 s2 o=>?_
     refine dF (λo=>(hc▸nu v (hden _) (hden _):Ct v.w _ _ _ _ _ (aM true) bP)) (λE s3 F3 K3=>⟨nx.keep F3 K3 nf,nb.keep F3 K3 nf⟩) λy s3 s4 o=>?_
     exact kt λE s5 F5 K5=>next s5 c F5 (by rw[hb3];exact K5)
    |false=>
     have hc:decide (val (argBest (bt val) j)<val (j+1))=false:=hb3
     refine(pW v I S M items me c (j+1) a b a2 b2).go hA kk [0,1] ?_
     refine kc (λo=>cn) λx s1 s2 o=>?_
     refine dF (λo=>(hc▸nu v (hden _) (hden _):Ct v.w _ _ _ _ _ (aM false) bP)) (λE s3 F3 K3=>⟨nx.keep F3 K3 nf,nb.keep F3 K3 nf⟩) λy s3 s4 o=>?_
     exact kt λE s5 F5 K5=>next s5 c F5 (by rw[hb3];exact K5)
theorem iF(v:WV)(I S M:Addr)(items:Array Value)(me c m:Nat)(val:Nat→Rat)(hm:0<m)(hden:∀c,((val c).den:Int)<2 ^ 14){r:Value}(hr:items[argBest (bt val) (m-1)]?=some r):
  Ct v.w 200 [(I,aj (.ref M) 0),(S,ac #[] c),(M,ac items me)] (λs=>bq v.w s items m val) (.builtin "max.loop" ⟨[.ref I,.none,.ref S],[]⟩) [I,S] (kI I S r) bP:=by
 intro A s R hA kn hn hR
 have l0:0<items.size:=by rw[hn.sz];exact hm
 have hg:items[0]?=some items[0]:=Array.getElem?_eq_getElem l0
 have nx:=hn.num 0 l0
 generalize ex:items[0]=x at nx hg
 have nf:NF s [I,S]:=NF.kn (kn.pk [0,1] rfl) ⟨gc,fL,trivial⟩
 have next:∀s' c',ah s s' [I,S]→Kn (KB v.w) s' (Ar I S M items me (.ref M) 1 #[x,x] c')→codeAny (model pr v.w) A (.builtin "max.loop" ⟨[.ref I,.none,.ref S],[]⟩) R s':=by
  intro s' c' F K
  refine EO v I S M items me m val hden hA _ 0 s' x c' R rfl (by omega) K hg (hn.keep F K.nil nf) λg c2 vb s2 F2 K2 h2=>?_
  rw[hr]at h2
  cases h2
  exact hR (g,c2) s2 (F.trans' F2) (K2.sub (by simp[kI,Ar])) (by simp[kI]) trivial
 have cn:=aP v.w (I:=I) (L:=M) (ep:=me) hg
 rcases nx.el with⟨kx,tx,e,hx⟩|⟨a,b,ht,tn,td,e,f⟩
 ·subst e
  refine(th v I S M items me c 0 kx tx).go hA kn [0,1] ?_
  refine kc (λj=>cn) λx s1 s2 j=>?_
  exact kt λE s5 F5 K5=>next s5 (c+1) F5 K5
 ·subst e
  refine(tj v I S M items me c 0 a).go hA kn [0,1] ?_
  refine kc (λj=>cn) λx s1 s2 j=>?_
  exact kt λE s5 F5 K5=>next s5 (c+1) F5 K5
inductive Sz|s2|s3|s4
noncomputable def dG:En Sz:=oq [.s2,.s3,.s4] Sz.ctorIdx (λt=>by cases t<;>rfl)
noncomputable def Sz.n:Sz→Nat|.s2=>2|.s3=>3|.s4=>4
noncomputable def Sz.cl(z:Sz)(t:Nat→Tok):List (Int×Tok):=match z with
 |.s2=>[(0,t 0),(1,t 1)]
 |.s3=>[(0,t 0),(1,t 1),(2,t 2)]
 |.s4=>[(0,t 0),(1,t 1),(2,t 2),(3,t 3)]
noncomputable def xv(z:Sz)(t:Tok):Array Value:=match z with
 |.s2=>#[.int 0 t,.int 0 t]
 |.s3=>#[.int 0 t,.int 0 t,.int 0 t]
 |.s4=>#[.int 0 t,.int 0 t,.int 0 t,.int 0 t]
noncomputable def dJ(d:Addr):Obj:=⟨.ref 477,some d,.plain,#[]⟩
noncomputable def dK(ht:Nat→Int×Tok)(CL NL VL:Addr):Obj:=bO ht [(dn,.ref CL),(iP,.ref NL),(nJ,.ref VL)] 3
noncomputable def Av(b:Bool)(v:Value):Option Value:=match b with|true=>some v|false=>none
structure Ic where
 ht:Nat→Int×Tok
 V:Addr
 i:Int
 ti:Tok
 cv:Value
 items:Array Value
 g:Nat
noncomputable def i5(rem:Bool)(I2 L M f Pf C:Addr)(me:Nat)(b:Bool):bS Ic:={res:=λj=>.ok .next,upd:=λy=>[(I2,aj .none y.g),(L,gj rem y.ht f Pf C M y.V y.i y.ti (Av b y.cv)),(M,ac y.items me)]}
structure Ii where
 ht:Nat→Int×Tok
 cv:Value
 items:Array Value
 g:Nat
noncomputable def gq(rem:Bool)(I L M f Pf C V:Addr)(i:Int)(ti:Tok)(me:Nat)(b:Bool):bS Ii:={res:=λj=>.ok .next,upd:=λy=>[(I,aj .none y.g),(L,gj rem y.ht f Pf C M V i ti (Av b y.cv)),(M,ac y.items me)]}
set_option backward.match.sparseCases false in
noncomputable def vJ(b:List Stmt)(I:Addr)(e:Env):Code:=match(b[2]?:Option Stmt)with
 |some (Stmt.For t _ b o _)=>.forLoop t (.ref I) b o e
 |_=>.block [] default
noncomputable def nj(rem:Bool)(w:World)(L I:Addr):Code:=match rem with
 |false=>vJ (aH (oh w)) I (cR (oh w) 334 L)
 |true=>vJ (aH (nZ w)) I (cR (nZ w) 341 L)
noncomputable def ad(v:WV)(rem:Bool)(z:Sz)(f Pf PD CL NL VL C:Addr)(pht:Nat→Int×Tok)(tc:Nat→Tok)(cle:Nat)(vs:Array Value)(ve:Nat)(cs:List (Int×Tok))(ce:Nat)(b bb:Bool):Cn:=⟨330,[(Pf,dJ PD),(PD,dK pht CL NL VL),(CL,ac (aa (z.cl tc)) cle),(VL,ac vs ve),(C,ac (aa cs) ce)],.call (.ref (ab rem 334 341)) ⟨[.ref f,.ref Pf,.ref C],[]⟩,λzn zu=>.cut {js:=[10,5,8],ju:=[10,5,8],i:=6,u:=12,K:=1,cnt:=22,N:=183,orc:=(dz 90 385895188766029976120874862749913538304192670585860308204702820565183061148510720475055588164837008500881510491296192863911248199691191924074591971297275420751204372733217871724946883969024)} (mh rem v.w zn (zn+5)) (λE=>[(zn+5,aj (.ref VL) 0),(zn,qA rem (aq (E.lk 5)) f Pf C (zn+3) none),(zn+3,ac (xv z (zu+3)) 0)]) (λj=>i5 rem (zn+5) zn (zn+3) f Pf C 0 b) λy n1 t1=>.cut {js:=[11,5,8],ju:=[11,5,8],i:=1,u:=ab rem 0 1,K:=1,cnt:=ab rem 2 3,N:=ab rem 18 35,orc:=match rem with|false=>dz 5 3231793798|true=>dz 17 62430214964317064491903333596921990} (nj rem v.w zn n1) (λE=>[(n1,aj (.ref (ab rem C CL)) 0),(zn,gj rem y.ht f Pf C (zn+3) y.V y.i y.ti (Av b y.cv)),(zn+3,ac y.items 0)]) (λj=>gq rem n1 zn (zn+3) f Pf C y.V y.i y.ti 0 bb) λq n2 t2=>.fin {js:=[8],N:=8,orc:=(dz 1 6)} (.ok (.ret (.ref (zn+3)))) (λj=>[(zn+3,ac q.items 0)])⟩
theorem CO v rem z f Pf PD CL NL VL C pht tc cle vs ve cs ce b bb:(ad v rem z f Pf PD CL NL VL C pht tc cle vs ve cs ce b bb).G v:=by cases rem<;>exact Cn.g4 dG cm cm (f:=λz b bb v=>ad v _ z f Pf PD CL NL VL C pht tc cle vs ve cs ce b bb) (λj j j j j=>by kernel_rfl) z b bb v
noncomputable def Hb(v:WV)(I C L M f Pf V:Addr)(i:Int)(ti:Tok)(ht:Nat→Int×Tok)(cs:List (Int×Tok))(ce:Nat)(items:Array Value)(me g:Nat)(c:Int)(tc:Tok)(cv:Option Value):Cn:=⟨280,[(I,aj (.ref C) g),(C,ac (aa cs) ce),(L,gj false ht f Pf C M V i ti cv),(M,ac items me)],nj false v.w L I,λzn zu=>.cut {js:=[0,1],ju:=[0],K:=1,N:=7,orc:=(dz 1 1)} (.call (.builtin "list_iterator.__next__") ⟨[.ref I],[]⟩) (λj=>[(I,aj (.ref C) g),(C,ac (aa cs) ce)]) (λj=>an I (.int c tc) (aj (.ref C) (g+1))) λj n1 t1=>.cut {ws:=[2],js:=[3],ju:=[3],u:=3,K:=1,cnt:=2,N:=26,orc:=(dz 6 138519036291),wa:=[L]} (.call (.builtin "list.__setitem__") ⟨[.ref M,.int c tc,.int (-1) (t1+2)],[]⟩) (λj=>[(M,ac items me)]) (λj=>bu M (ac (items.setIfInBounds c.toNat (.int (-1) (t1+2))) me)) λj n2 t2=>.tail {js:=[0,1,2,3],N:=5} (nj false v.w L I) (λE=>[(I,aj (.ref C) (g+1)),(C,ac (aa cs) ce),(L,gj false (aq (E.lk 2)) f Pf C M V i ti (some (.int c tc))),(M,ac (items.setIfInBounds c.toNat (.int (-1) (t1+2))) me)])⟩
theorem y5 v I C L M f Pf V i ti ht cs ce items me g c tc cv:(Hb v I C L M f Pf V i ti ht cs ce items me g c tc cv).G v:=Cn.k2 (cz _) (f:=λcv v=>Hb v I C L M f Pf V i ti ht cs ce items me g c tc cv) (λj j j j j j=>by kernel_rfl) cv v
noncomputable def BN(v:WV)(I C L M f Pf V:Addr)(i:Int)(ti:Tok)(ht:Nat→Int×Tok)(cs:List (Int×Tok))(ce:Nat)(items:Array Value)(me g:Nat)(c:Int)(tc:Tok)(cv:Option Value):Cn:=⟨280,[(I,aj (.ref C) g),(C,ac (aa cs) ce),(L,gj false ht f Pf C M V i ti cv),(M,ac items me)],nj false v.w L I,λzn zu=>.cut {js:=[0,1],ju:=[0],K:=1,N:=7,orc:=(dz 1 1)} (.call (.builtin "list_iterator.__next__") ⟨[.ref I],[]⟩) (λj=>[(I,aj (.ref C) g),(C,ac (aa cs) ce)]) (λj=>aE I (aj .none g)) λj n1 t1=>.fin {js:=[0,1,2,3],cnt:=1,N:=7,orc:=(dz 1 6)} (.ok .next) (λE=>[(I,aj .none g),(C,ac (aa cs) ce),(L,gj false ht f Pf C M V i ti cv),(M,ac items me)])⟩
theorem tO v I C L M f Pf V i ti ht cs ce items me g c tc cv:(BN v I C L M f Pf V i ti ht cs ce items me g c tc cv).G v:=Cn.k2 (cz _) (f:=λcv v=>BN v I C L M f Pf V i ti ht cs ce items me g c tc cv) (λj j j j j j=>by kernel_rfl) cv v
noncomputable def BM(v:WV)(I C L M f Pf V:Addr)(i:Int)(ti:Tok)(ht:Nat→Int×Tok)(cs:List (Int×Tok))(ce:Nat)(items:Array Value)(me g:Nat)(c:Int)(tc:Tok)(cv:Option Value)(CL:Addr)(cl:List (Int×Tok))(cle:Nat):Cn:=⟨280,[(I,aj (.ref CL) g),(CL,ac (aa cl) cle),(C,ac (aa cs) ce),(L,gj true ht f Pf C M V i ti cv),(M,ac items me)],nj true v.w L I,λzn zu=>.cut {js:=[0,1],ju:=[0],K:=1,N:=7,orc:=(dz 1 1)} (.call (.builtin "list_iterator.__next__") ⟨[.ref I],[]⟩) (λj=>[(I,aj (.ref CL) g),(CL,ac (aa cl) cle)]) (λj=>aE I (aj .none g)) λj n1 t1=>.fin {js:=[0,1,2,3,4],cnt:=1,N:=7,orc:=(dz 1 7)} (.ok .next) (λE=>[(I,aj .none g),(CL,ac (aa cl) cle),(C,ac (aa cs) ce),(L,gj true ht f Pf C M V i ti cv),(M,ac items me)])⟩
theorem tM v I C L M f Pf V i ti ht cs ce items me g c tc cv CL cl cle:(BM v I C L M f Pf V i ti ht cs ce items me g c tc cv CL cl cle).G v:=Cn.k2 (cz _) (f:=λcv v=>BM v I C L M f Pf V i ti ht cs ce items me g c tc cv CL cl cle) (λj j j j j j=>by kernel_rfl) cv v
noncomputable def BJ(v:WV)(I C L M f Pf V:Addr)(i:Int)(ti:Tok)(ht:Nat→Int×Tok)(cs:List (Int×Tok))(ce:Nat)(items:Array Value)(me g:Nat)(c:Int)(tc:Tok)(cv:Option Value)(CL:Addr)(cl:List (Int×Tok))(cle:Nat):Cn:=⟨280,[(I,aj (.ref CL) g),(CL,ac (aa cl) cle),(C,ac (aa cs) ce),(L,gj true ht f Pf C M V i ti cv),(M,ac items me)],nj true v.w L I,λzn zu=>.cut {js:=[0,1],ju:=[0],K:=1,N:=7,orc:=(dz 1 1)} (.call (.builtin "list_iterator.__next__") ⟨[.ref I],[]⟩) (λj=>[(I,aj (.ref CL) g),(CL,ac (aa cl) cle)]) (λj=>an I (.int c tc) (aj (.ref CL) (g+1))) λj n1 t1=>.cut {ws:=[3],js:=[2],u:=1,K:=1,N:=20,orc:=(dz 6 103892976132),wa:=[L]} (.call (.builtin "list.__contains__") ⟨[.ref C,.int c tc],[]⟩) (λj=>[(C,ac (aa cs) ce)]) (λj=>aM true) λj n2 t2=>.tail {js:=[0,1,2,3,4],N:=5} (nj true v.w L I) (λE=>[(I,aj (.ref CL) (g+1)),(CL,ac (aa cl) cle),(C,ac (aa cs) ce),(L,gj true (aq (E.lk 3)) f Pf C M V i ti (some (.int c tc))),(M,ac items me)])⟩
theorem tK v I C L M f Pf V i ti ht cs ce items me g c tc cv CL cl cle:(BJ v I C L M f Pf V i ti ht cs ce items me g c tc cv CL cl cle).G v:=Cn.k2 (cz _) (f:=λcv v=>BJ v I C L M f Pf V i ti ht cs ce items me g c tc cv CL cl cle) (λj j j j j j=>by kernel_rfl) cv v
noncomputable def vH(v:WV)(I C L M f Pf V:Addr)(i:Int)(ti:Tok)(ht:Nat→Int×Tok)(cs:List (Int×Tok))(ce:Nat)(items:Array Value)(me g:Nat)(c:Int)(tc:Tok)(cv:Option Value)(CL:Addr)(cl:List (Int×Tok))(cle:Nat)(k:Int)(tk:Tok):Cn:=⟨280,[(I,aj (.ref CL) g),(CL,ac (aa cl) cle),(C,ac (aa cs) ce),(L,gj true ht f Pf C M V i ti cv),(M,ac items me)],nj true v.w L I,λzn zu=>.cut {js:=[0,1],ju:=[0],K:=1,N:=7,orc:=(dz 1 1)} (.call (.builtin "list_iterator.__next__") ⟨[.ref I],[]⟩) (λj=>[(I,aj (.ref CL) g),(CL,ac (aa cl) cle)]) (λj=>an I (.int c tc) (aj (.ref CL) (g+1))) λj n1 t1=>.cut {ws:=[3],js:=[2],u:=1,K:=1,N:=20,orc:=(dz 6 103892976132),wa:=[L]} (.call (.builtin "list.__contains__") ⟨[.ref C,.int c tc],[]⟩) (λj=>[(C,ac (aa cs) ce)]) (λj=>aM false) λj n2 t2=>.cut {js:=[5,6,4],ju:=[5,6],i:=2,K:=1,cnt:=4,N:=24,orc:=(dz 7 26561430487040)} (.builtin "max.loop" ⟨[.ref n2,.none,.ref (n2+1)],[]⟩) (λj=>[(n2,aj (.ref M) 0),(n2+1,ac #[] 0),(M,ac items me)]) (λj=>kI n2 (n2+1) (.int k tk)) λx n3 t3=>.cut {js:=[4],ju:=[4],u:=2,K:=1,cnt:=2,N:=19,orc:=(dz 4 10568196)} (.call (.builtin "list.__setitem__") ⟨[.ref M,.int c tc,.int (k+1) (t3+1)],[]⟩) (λj=>[(M,ac items me)]) (λj=>bu M (ac (items.setIfInBounds c.toNat (.int (k+1) (t3+1))) me)) λj n5 t5=>.tail {js:=[0,1,2,3,4],N:=5} (nj true v.w L I) (λE=>[(I,aj (.ref CL) (g+1)),(CL,ac (aa cl) cle),(C,ac (aa cs) ce),(L,gj true (aq (E.lk 3)) f Pf C M V i ti (some (.int c tc))),(M,ac (items.setIfInBounds c.toNat (.int (k+1) (t3+1))) me)])⟩
theorem qa v I C L M f Pf V i ti ht cs ce items me g c tc cv CL cl cle k tk:(vH v I C L M f Pf V i ti ht cs ce items me g c tc cv CL cl cle k tk).G v:=Cn.g2 (cz _) (f:=λcv v=>vH v I C L M f Pf V i ti ht cs ce items me g c tc cv CL cl cle k tk) (λj j j j j=>by kernel_rfl) cv v
noncomputable def vI(v:WV)(I C L M f Pf V:Addr)(i:Int)(ti:Tok)(ht:Nat→Int×Tok)(cs:List (Int×Tok))(ce:Nat)(items:Array Value)(me g:Nat)(c:Int)(tc:Tok)(cv:Option Value)(CL:Addr)(cl:List (Int×Tok))(cle:Nat)(a b:Addr)(q:Rat):Cn:=⟨280,[(I,aj (.ref CL) g),(CL,ac (aa cl) cle),(C,ac (aa cs) ce),(L,gj true ht f Pf C M V i ti cv),(M,ac items me)]++[(a,bn b)],nj true v.w L I,λzn zu=>.cut {js:=[0,1],ju:=[0],K:=1,N:=7,orc:=(dz 1 1)} (.call (.builtin "list_iterator.__next__") ⟨[.ref I],[]⟩) (λj=>[(I,aj (.ref CL) g),(CL,ac (aa cl) cle)]) (λj=>an I (.int c tc) (aj (.ref CL) (g+1))) λj n1 t1=>.cut {ws:=[3],js:=[2],u:=1,K:=1,N:=20,orc:=(dz 6 103892976132),wa:=[L]} (.call (.builtin "list.__contains__") ⟨[.ref C,.int c tc],[]⟩) (λj=>[(C,ac (aa cs) ce)]) (λj=>aM false) λj n2 t2=>.cut {js:=[6,7,4],ju:=[6,7],i:=2,K:=1,cnt:=4,N:=24,orc:=(dz 7 30959476998144)} (.builtin "max.loop" ⟨[.ref n2,.none,.ref (n2+1)],[]⟩) (λj=>[(n2,aj (.ref M) 0),(n2+1,ac #[] 0),(M,ac items me)]) (λj=>kI n2 (n2+1) (.ref a)) λx n3 t3=>.cut {u:=1,K:=1,N:=24,orc:=(dz 16 906694364710971881029638)} (.call (.ref 150) ⟨[.ref a,.int 1 t3],[]⟩) (λj=>[]) (λj=>ar q) λy n4 t4=>.cut {js:=[4],ju:=[4],K:=1,N:=12,orc:=(dz 4 10568196)} (.call (.builtin "list.__setitem__") ⟨[.ref M,.int c tc,.ref y.a],[]⟩) (λj=>[(M,ac items me)]) (λj=>bu M (ac (items.setIfInBounds c.toNat (.ref y.a)) me)) λj n5 t5=>.tail {js:=[0,1,2,3,4,8,9],N:=6} (nj true v.w L I) (λE=>[(I,aj (.ref CL) (g+1)),(CL,ac (aa cl) cle),(C,ac (aa cs) ce),(L,gj true (aq (E.lk 3)) f Pf C M V i ti (some (.int c tc))),(M,ac (items.setIfInBounds c.toNat (.ref y.a)) me),(y.a,bn y.b),(y.b,cu y.ht q.num y.tn q.den y.td)])⟩
theorem qb v I C L M f Pf V i ti ht cs ce items me g c tc cv CL cl cle a b q:(vI v I C L M f Pf V i ti ht cs ce items me g c tc cv CL cl cle a b q).G v:=Cn.g2 (cz _) (f:=λcv v=>vI v I C L M f Pf V i ti ht cs ce items me g c tc cv CL cl cle a b q) (λj j j j j=>by kernel_rfl) cv v
theorem z5(v:WV){a:Addr}{q:Rat}(hq:(q.den:Int)<2 ^ 14)(k:Int)(t:Tok):
  Ct v.w 120 [] (λs=>bz v.w s (.ref a) q) (.call (.ref 150) ⟨[.ref a,.int k t],[]⟩) [] (ar (q+(k:Rat))) bP:=by
 intro A s R hA hk h1 hR
 obtain⟨_,_,e,_⟩|⟨_,b,ht,tn,td,e,f⟩:=h1.el
 ·cases e
 cases e
 exact rK v hq k t A s R hA f trivial hR
noncomputable def jr:List (Int×Tok)→(Nat→Rat)→Nat→Rat
 |[],val=>val
 |p::l,val=>jr l λx=>if x=p.1.toNat then((-1:Int):Rat) else val x
noncomputable def hJ(m:Nat)(cs:List Int):List (Int×Tok)→(Nat→Rat)→Nat→Rat
 |[],val=>val
 |p::l,val=>match decide (p.1∈cs)with
  |true=>hJ m cs l val
  |false=>hJ m cs l λx=>if x=p.1.toNat then val (argBest (bt val) (m-1))+((1:Int):Rat) else val x
theorem l9{o:Option Value}{b:Bool}(h:o.isSome=b):o=Av b (o.getD .none):=by
 cases o<;>subst h<;>rfl
theorem iX{cs:List (Int×Tok)}{g:Nat}{p:Int×Tok}{rest:List (Int×Tok)}(h:cs.drop g=p::rest):(aa cs)[g]?=some (.int p.1 p.2):=by
 have:=congrArg (λl=>l[0]?) h
 simp only[List.getElem?_drop,Nat.add_zero,List.getElem?_cons_zero]at this
 simp[aa,this]
theorem qu{cs:List (Int×Tok)}{g:Nat}(h:cs.drop g=[]):(aa cs)[g]?=none:=by
 have:=List.drop_eq_nil_iff.mp h
 simp[aa,this]
theorem d8{α:Type}{cs rest:List α}{g:Nat}{p:α}(h:cs.drop g=p::rest):cs.drop (g+1)=rest:=by rw[←List.tail_drop,h];rfl
theorem kN{α:Type}{cs rest:List α}{g:Nat}{p:α}(h:cs.drop g=p::rest):p∈cs:=List.mem_of_mem_drop (h▸List.mem_cons_self ..:p∈cs.drop g)
section
variable (v:WV) (I C L M f Pf V:Addr) (i:Int) (ti:Tok) (cs:List (Int×Tok)) (ce me m:Nat)
theorem BI(hm:m<2 ^ 63)(hcs:∀p∈cs,0≤p.1∧p.1<m){A:Around}(hA:cp A 280):∀(rest:List (Int×Tok)) (g:Nat) (val:Nat→Rat) (ht:Nat→Int×Tok) (cv:Option Value) (items:Array Value) (s:Shared) (R:Result→Shared→Prop),cs.drop g=rest→
   Kn (KB v.w) s [(I,aj (.ref C) g),(C,ac (aa cs) ce),(L,gj false ht f Pf C M V i ti cv),(M,ac items me)]→bq v.w s items m val→
   (∀ht' cv' items' g' s',ah s s' [I,L,M]→Kn (KB v.w) s' [(I,aj .none g'),(C,ac (aa cs) ce),(L,gj false ht' f Pf C M V i ti cv'),(M,ac items' me)]→bq v.w s' items' m (jr rest val)→cv'.isSome=(cv.isSome || !rest.isEmpty)→R (.ok .next) s')→
   codeAny (model pr v.w) A (nj false v.w L I) R s:=by
 intro rest
 induction rest with
 |nil=>
  intro g val ht cv items s R hd hk hn H
  have nf:NF s [I,L,M]:=NF.kn (hk.pk [0,2,3] rfl) ⟨gc,lM,fL,trivial⟩
  refine(tO v I C L M f Pf V i ti ht cs ce items me g 0 0 cv).go (W:=[I,L,M]) hA hk [0,2,3] ?_
  refine kc (λj=>bE v.w (qu hd)) λx s1 s2 j=>?_
  exact kf λE s3 F K j=>H _ _ _ _ s3 F K (hn.keep F K.nil nf) (by simp)
 |cons p rest ih=>
  intro g val ht cv items s R hd hk hn H
  have nf:NF s [I,L,M]:=NF.kn (hk.pk [0,2,3] rfl) ⟨gc,lM,fL,trivial⟩
  obtain⟨c,tc⟩:=p
  obtain⟨h0,h1⟩:=hcs _ (kN hd)
  simp only at h0 h1
  refine(y5 v I C L M f Pf V i ti ht cs ce items me g c tc cv).go (W:=[I,L,M]) hA hk [0,2,3] ?_
  refine kc (λj=>aP v.w (iX hd)) λx s1 s2 j=>?_
  refine kc (λj=>ee v.w h0 (by omega) (by rw[hn.sz];omega)) λy s3 s4 j=>?_
  exact kt λE s5 F K5=>ih (g+1) _ _ _ _ s5 R (d8 hd) K5 ((hn.keep F K5.nil nf).set (bz.int _ _)) λht' cv' items' g' s' F' K' N' e'=>H ht' cv' items' g' s' (F.trans' F') K' N' (by simp at e' ⊢;exact e')
theorem BH(CL:Addr)(cl:List (Int×Tok))(cle:Nat){N:Int}(hN:0<N)(hN2:N<2 ^ 14)(hm0:0<m)(hm:m<2 ^ 63)(hcl:∀p∈cl,0≤p.1∧p.1<m){A:Around}(hA:cp A 280):∀(rest:List (Int×Tok)) (g:Nat) (val:Nat→Rat) (ht:Nat→Int×Tok) (cv:Option Value) (items:Array Value) (s:Shared) (R:Result→Shared→Prop),cl.drop g=rest→
   Kn (KB v.w) s [(I,aj (.ref CL) g),(CL,ac (aa cl) cle),(C,ac (aa cs) ce),(L,gj true ht f Pf C M V i ti cv),(M,ac items me)]→bq v.w s items m val→(∀c,Dv N (val c))→
   (∀ht' cv' items' g' s',ah s s' [I,L,M]→Kn (KB v.w) s' [(I,aj .none g'),(CL,ac (aa cl) cle),(C,ac (aa cs) ce),(L,gj true ht' f Pf C M V i ti cv'),(M,ac items' me)]→bq v.w s' items' m (hJ m (cs.map (·.1)) rest val)→cv'.isSome=(cv.isSome || !rest.isEmpty)→R (.ok .next) s')→
   codeAny (model pr v.w) A (nj true v.w L I) R s:=by
 intro rest
 induction rest with
 |nil=>
  intro g val ht cv items s R hd hk hn hv H
  have nf:NF s [I,L,M]:=NF.kn (hk.pk [0,3,4] rfl) ⟨gc,lM,fL,trivial⟩
  refine(tM v I C L M f Pf V i ti ht cs ce items me g 0 0 cv CL cl cle).go (W:=[I,L,M]) hA hk [0,3,4] ?_
  refine kc (λj=>bE v.w (qu hd)) λx s1 s2 j=>?_
  exact kf λE s3 F K j=>H _ _ _ _ s3 F K (hn.keep F K.nil nf) (by simp)
 |cons p rest ih=>
  intro g val ht cv items s R hd hk hn hv H
  have nf:NF s [I,L,M]:=NF.kn (hk.pk [0,3,4] rfl) ⟨gc,lM,fL,trivial⟩
  obtain⟨c,tc⟩:=p
  obtain⟨h0,h1⟩:=hcl _ (kN hd)
  simp only at h0 h1
  have e0:(∀val,hJ m (cs.map (·.1)) ((c,tc)::rest) val=match decide (c∈cs.map (·.1))with
   |true=>hJ m (cs.map (·.1)) rest val
   |false=>hJ m (cs.map (·.1)) rest λx=>if x=c.toNat then val (argBest (bt val) (m-1))+((1:Int):Rat) else val x):=λj=>rfl
  cases hc:decide (c∈cs.map (·.1))with
  |true=>
   refine(tK v I C L M f Pf V i ti ht cs ce items me g c tc cv CL cl cle).go (W:=[I,L,M]) hA hk [0,3,4] ?_
   refine kc (λj=>aP v.w (iX hd)) λx s1 s2 j=>?_
   refine kc (λj=>bG v.w C cs ce c tc hc.symm) λy s3 s4 j=>?_
   exact kt λE s5 F K5=>ih (g+1) _ _ _ _ s5 R (d8 hd) K5 (hn.keep F K5.nil nf) hv λht' cv' items' g' s' F' K' N' e'=>H ht' cv' items' g' s' (F.trans' F') K' (by rw[e0,hc];exact N') (by simp at e' ⊢;exact e')
  |false=>
   have hden:∀c,((val c).den:Int)<2 ^ 14:=λc=>Int.lt_of_le_of_lt ((hv c).den hN) hN2
   have lb:argBest (bt val) (m-1)<items.size:=by have:=(gP val (m-1)).1;rw[hn.sz];omega
   have nb:=hn.num _ lb
   have hr:items[argBest (bt val) (m-1)]?=some items[argBest (bt val) (m-1)]:=Array.getElem?_eq_getElem lb
   have hv2:∀x,Dv N (if x=c.toNat then val (argBest (bt val) (m-1))+((1:Int):Rat) else val x):=λx=>by
    split
    ·exact(hv _).add (Dv.int N 1)
    ·exact hv x
   generalize items[argBest (bt val) (m-1)]=r at nb hr
   rcases nb.el with⟨k,tk,e,hk1⟩|⟨a,b,hta,tn,td,e,fa⟩
   ·subst e
    refine(qa v I C L M f Pf V i ti ht cs ce items me g c tc cv CL cl cle k tk).go (W:=[I,L,M]) hA hk [0,3,4] ?_
    refine kc (λj=>aP v.w (iX hd)) λx s1 s2 j=>?_
    refine kc (λj=>bG v.w C cs ce c tc hc.symm) λy s3 s4 j=>?_
    refine dF (λj=>iF v _ _ M items me 0 m val hm0 hden hr) (λE s5 F5 K5=>hn.keep (W:=[I,L,M]) F5 K5.nil nf) λw s5 s6 j=>?_
    refine kc (λj=>ee v.w h0 (by omega) (by rw[hn.sz];omega)) λy s7 s8 j=>?_
    exact kt λE s9 F K9=>ih (g+1) _ _ _ _ s9 R (d8 hd) K9 ((hn.keep F K9.nil nf).set (bz.ofInt (by rw[hk1,←Rat.intCast_add]))) hv2 λht' cv' items' g' s' F' K' N' e'=>H ht' cv' items' g' s' (F.trans' F') K' (by rw[e0,hc];exact N') (by simp at e' ⊢;exact e')
   ·subst e
    have oa:=fa.obj (a,bn b) (mN 0 rfl)
    have kk:=hk.with (p:=(a,bn b)) oa (fa.off (a,bn b) (mN 0 rfl)) (Bi hk oa λq hq=>(gR.mem (by exact⟨gc,fL,fL,lM,fL,trivial⟩) q hq).1)
    refine(qb v I C L M f Pf V i ti ht cs ce items me g c tc cv CL cl cle a b (val (argBest (bt val) (m-1))+((1:Int):Rat))).go (W:=[I,L,M]) hA kk [0,3,4] ?_
    refine kc (λj=>aP v.w (iX hd)) λx s1 s2 j=>?_
    refine kc (λj=>bG v.w C cs ce c tc hc.symm) λy s3 s4 j=>?_
    refine dF (λj=>iF v _ _ M items me 0 m val hm0 hden hr) (λE s5 F5 K5=>hn.keep (W:=[I,L,M]) F5 K5.nil nf) λw s5 s6 j=>?_
    refine dF (λj=>z5 v (hden _) 1 _) (λE s7 F7 K7=>nb.keep (W:=[I,L,M]) F7 K7.nil nf) λy s7 s8 j=>?_
    refine kc (λj=>ee v.w h0 (by omega) (by rw[hn.sz];omega)) λy2 s9 s10 j=>?_
    exact kt λE s11 F K11=>ih (g+1) _ _ _ _ s11 R (d8 hd) (K11.sub (List.sublist_append_left [_,_,_,_,_] [_,_])) ((hn.keep F K11.nil nf).set (.fr _ _ _ _ _ _ (K11.sub (List.drop_sublist 5 [_,_,_,_,_,_,_])))) hv2 λht' cv' items' g' s' F' K' N' e'=>H ht' cv' items' g' s' (F.trans' F') K' (by rw[e0,hc];exact N') (by simp at e' ⊢;exact e')
end
theorem DE(v:WV)(pf rem:Bool)(l:LP)(I2 VL:Addr)(vl:List VR)(ve:Nat)(cs:List (Int×Tok))(ce m:Nat){N:Int}{q:VR→Rat}{Pre:Shared→Prop}
  (ok:∀x∈vl,x.ok v m) (Sc:∀x∈vl,oJ v.w Pre l.f (fT rem (ap x.L (cs.map (·.1)):Nat)) (q x)) (hN:0<N) (hN2:N<2 ^ 14) (hq:∀x∈vl,Dv N (q x)) (hm:m<2 ^ 63) (hc:∀x∈vl,ap x.L (cs.map (·.1))<2 ^ 63)
  (hne:vl≠[]) {val:Nat→Rat} (hv:∀c,Dv N (val c)) (ht:Nat→Int×Tok) (items:Array Value):
  Ct v.w 300 [(I2,aj (.ref VL) 0),(l.L,qA rem ht l.f l.Pf l.C l.M none),(l.M,ac items l.me)] (λs=>(∃ht2,Kn (KB v.w) s (yl pf rem l I2 VL vl ve cs ce ht2 none (.ref VL) 0 items))∧bq v.w s items m val∧∀s1,ah s s1 [I2,l.L,l.M]→Kn (KB v.w) s1 []→Pre s1)
   (mh rem v.w l.L I2) [I2,l.L,l.M] (i5 rem I2 l.L l.M l.f l.Pf l.C l.me (lR vl)) (λy j s'=>bq v.w s' y.items m (dN q vl val)∧∀c,Dv N (dN q vl val c)):=by
 intro A s R hA _ ⟨⟨ht2,hk⟩,hn,hp⟩ hR
 refine sM v pf rem l I2 VL vl ve cs ce m ok Sc hN hN2 hq hm hc hA vl 0 val ht2 none items s R rfl hk hn hv hp λht' st' items' g' s' F K N' D' O=>?_
 obtain⟨o1,o2⟩:=O
 rcases st' with _|⟨V,i,ti,cv⟩
 ·cases vl with
  |nil=>exact absurd rfl hne
  |cons x l=>simp at o1
 ·have ec:cv=Av (lR vl) (cv.getD .none):=l9 (by simpa [ma]using o2)
  refine hR ⟨ht',V,i,ti,cv.getD .none,items',g'⟩ s' F ?_ (by simp[i5]) ⟨N',D'⟩
  simp only[i5,List.append_nil]
  rw[←ec]
  exact K.sub (List.Sublist.cons_cons _ (List.Sublist.cons _ (List.Sublist.cons_cons _ (List.Sublist.cons_cons _ (List.nil_sublist _)))))
noncomputable def LP.new(l:LP)(n:Addr):LP:={l with L:=n,M:=n+3,me:=0}
structure NY where
 a:Addr
 items:Array Value
noncomputable def dr:bS NY:={res:=λy=>.ok (.ret (.ref y.a)),add:=λy=>[(y.a,ac y.items 0)]}
noncomputable def hF(pf:Bool)(l:LP)(z:Sz)(PD CL NL VL:Addr)(pht:Nat→Int×Tok)(tc:Nat→Tok)(cle:Nat)(vl:List VR)(ve:Nat)(cs:List (Int×Tok))(ce:Nat):List (Addr×Obj):=
 [(l.Pf,dJ PD),(PD,dK pht CL NL VL),(CL,ac (aa (z.cl tc)) cle),(VL,ac (vsOf vl) ve),(l.C,ac (aa cs) ce)]
theorem cl_ok(z:Sz)(tc:Nat→Tok):∀p∈z.cl tc,0≤p.1∧p.1<(z.n:Int):=by cases z<;>exact of_decide_eq_true rfl
theorem oW(v:WV)(z:Sz)(t:Tok)(s:Shared):bq v.w s (xv z t) z.n (λj=>((0:Int):Rat)):=by
 refine⟨by cases z<;>rfl,λc h=>?_⟩
 have:(xv z t)[c]=.int 0 t:=by
  have h2:c<4:=Nat.lt_of_lt_of_le h (by cases z<;>simp[xv])
  cases z<;>match c,h2 with
   |0,_=>rfl
   |1,_=>rfl
   |2,_=>first|rfl|(simp[xv]at h)
   |3,_=>first|rfl|(simp[xv]at h)
 rw[this]
 exact .int 0 t
theorem Kn.fresh{B:X.KT}{s s1:Shared}{kn new:List (Addr×Obj)}{W:List Addr}(k:Kn B s kn)(F:ah s s1 W)(hW:∀a∈W,s.heap.objs.size≤a)(n:Kn B s1 new)(h:∀p∈new,s.heap.objs.size≤p.1):Kn B s1 (new++kn):=by
 refine n.app ⟨n.base,λp hp=>F.keep _ _ (k.obj p hp) λhx=>absurd (k.lt hp) (Nat.not_lt.mpr (hW _ hx)),k.off,k.nd,n.toks⟩ λp hp q hq e=>?_
 have h1:=h p hp
 rw[e]at h1
 exact absurd (k.lt hq) (Nat.not_lt.mpr h1)
noncomputable def p9(rem:Bool)(m:Nat)(cs cl:List (Int×Tok))(val:Nat→Rat):Nat→Rat:=match rem with|false=>jr cs val|true=>hJ m (cs.map (·.1)) cl val
theorem Ah(v:WV)(rem:Bool)(I C L M f Pf V:Addr)(i:Int)(ti:Tok)(cs:List (Int×Tok))(ce me m:Nat)(CL:Addr)(cl:List (Int×Tok))(cle:Nat){N:Int}(hN:0<N)(hN2:N<2 ^ 14)(hm0:0<m)(hm:m<2 ^ 63)(hcs:∀p∈cs,0≤p.1∧p.1<(m:Int))(hcl:∀p∈cl,0≤p.1∧p.1<(m:Int))(ht:Nat→Int×Tok)(cv:Option Value)(items:Array Value){val:Nat→Rat}(hv:∀c,Dv N (val c)){bb:Bool}(hb:(cv.isSome || !(match rem with|false=>cs|true=>cl).isEmpty)=bb):
  Ct v.w 280 [(I,aj (.ref (ab rem C CL)) 0),(L,gj rem ht f Pf C M V i ti cv),(M,ac items me)] (λs=>Kn (KB v.w) s [(I,aj (.ref (ab rem C CL)) 0),(CL,ac (aa cl) cle),(C,ac (aa cs) ce),(L,gj rem ht f Pf C M V i ti cv),(M,ac items me)]∧bq v.w s items m val) (nj rem v.w L I) [I,L,M]
   (gq rem I L M f Pf C V i ti me bb) (λy j s'=>bq v.w s' y.items m (p9 rem m cs cl val)):=by
 intro A s R hA _ ⟨hk,hn⟩ hR
 cases rem with
 |false=>
  refine BI v I C L M f Pf V i ti cs ce me m hm hcs hA cs 0 val ht cv items s R rfl (hk.sub (.cons_cons _ (.cons _ (.refl _)))) hn λht' cv' items' g' s' F K N' e=>hR ⟨ht',cv'.getD .none,items',g'⟩ s' F ?_ (λj h=>nomatch h) N'
  simp only[gq,List.append_nil]
  rw[←l9 (e.trans hb)]
  exact K.sub (.cons_cons _ (.cons _ (.refl _)))
 |true=>
  refine BH v I C L M f Pf V i ti cs ce me m CL cl cle hN hN2 hm0 hm hcl hA cl 0 val ht cv items s R rfl hk hn hv λht' cv' items' g' s' F K N' e=>hR ⟨ht',cv'.getD .none,items',g'⟩ s' F ?_ (λj h=>nomatch h) N'
  simp only[gq,List.append_nil]
  rw[←l9 (e.trans hb)]
  exact K.sub (.cons_cons _ (.cons _ (.cons _ (.refl _))))
theorem D7(v:WV)(rem pf:Bool)(l:LP)(z:Sz)(PD CL NL VL:Addr)(pht:Nat→Int×Tok)(tc:Nat→Tok)(cle:Nat)(vl:List VR)(ve:Nat)(cs:List (Int×Tok))(ce:Nat){N:Int}{q:VR→Rat}{Pre:Shared→Prop}
  (ok:∀x∈vl,x.ok v z.n) (Sc:∀x∈vl,oJ v.w Pre l.f (fT rem (ap x.L (cs.map (·.1)):Nat)) (q x)) (hN:0<N) (hN2:N<2 ^ 14) (hq:∀x∈vl,Dv N (q x)) (hc:∀x∈vl,ap x.L (cs.map (·.1))<2 ^ 63)
  (hne:vl≠[]) (hcs:∀p∈cs,0≤p.1∧p.1<(z.n:Int)):
  Ct v.w 330 (hF pf l z PD CL NL VL pht tc cle vl ve cs ce) (λs=>Kn (KB v.w) s (hF pf l z PD CL NL VL pht tc cle vl ve cs ce++((l.f,l.fo pf)::vl.flatMap VR.kn))∧∀s1,ah s s1 []→Kn (KB v.w) s1 []→Pre s1)
   (.call (.ref (ab rem 334 341)) ⟨[.ref l.f,.ref l.Pf,.ref l.C],[]⟩) [] dr (λy j s'=>bq v.w s' y.items z.n (p9 rem z.n cs (z.cl tc) (dN q vl λj=>((0:Int):Rat)))):=by
 have zm:z.n<2 ^ 63:=by cases z<;>decide
 have z0:0<z.n:=by cases z<;>decide
 refine(CO v rem z l.f l.Pf PD CL NL VL l.C pht tc cle (vsOf vl) ve cs ce (lR vl) (lR vl || !(match rem with|false=>cs|true=>z.cl tc).isEmpty)).ct [] λA s R hA hk ⟨hK,hp⟩ hR=>?_
 have nw:∀n1,s.heap.objs.size≤n1→∀a∈[n1,s.heap.objs.size,s.heap.objs.size+3],s.heap.objs.size≤a:=λn1 h a ha=>by
  simp only[List.mem_cons,List.not_mem_nil,or_false]at ha
  rcases ha with rfl|rfl|rfl
  ·exact h
  ·exact Nat.le_refl _
  ·exact Nat.le_add_right _ 3
 have nw':∀{n1 o1 o2 o3},s.heap.objs.size≤n1→∀p∈[(n1,o1),(s.heap.objs.size,o2),(s.heap.objs.size+3,o3)],s.heap.objs.size≤(p:Addr×Obj).1:=λh p hp=>nw _ h _ (List.mem_map_of_mem (f:=(·.1)) hp)
 refine kX (P:=λy j s2=>bq v.w s2 y.items z.n (dN q vl λj=>((0:Int):Rat))∧∀c,Dv N (dN q vl (λj=>((0:Int):Rat)) c)) (λE A' s' R' hA' j=>DE v pf rem (l.new s.heap.objs.size) (s.heap.objs.size+5) VL vl ve cs ce z.n ok Sc hN hN2 hq zm hc hne (λj=>Dv.int N 0) (aq (E.lk 5)) (xv z (s.toks+3)) A' s' R' hA') ?_ ?_
 ·intro E s1 F _ K1 _ _ _
  refine⟨⟨aq (E.lk 5),?_⟩,oW v z _ s1,λs2 F2 K2=>hp s2 (F.to F2 λa ha=>.inr (nw _ (Nat.le_add_right _ 5) a ha)) K2⟩
  exact((hK.sub (.cons _ (.cons _ (.cons _ (.refl _))))).fresh F (λj h=>nomatch h) K1 (nw' (Nat.le_add_right _ 5))).perm (.cons _ (List.perm_middle (l₁:=[_,_])))
 ·intro E (y:Ic) s1 s2 _ _ _ _ _ _ G2 K2 _ ⟨N2,D2⟩
  refine kX (P:=λy j s2=>bq v.w s2 y.items z.n (p9 rem z.n cs (z.cl tc) (dN q vl λj=>((0:Int):Rat)))) (λE A' s' R' hA' j=>Ah v rem s2.heap.objs.size l.C s.heap.objs.size (s.heap.objs.size+3) l.f l.Pf y.V y.i y.ti cs ce 0 z.n CL (z.cl tc) cle hN hN2 z0 zm hcs (cl_ok z tc) y.ht (Av (lR vl) y.cv) y.items (val:=dN q vl λj=>((0:Int):Rat)) D2 (by cases lR vl<;>rfl) A' s' R' hA') ?_ ?_
  ·intro E s3 F L K3 _ _ _
   exact⟨((hk.sub (kn':=[(CL,ac (aa (z.cl tc)) cle),(l.C,ac (aa cs) ce)]) (.cons _ (.cons _ (.cons_cons _ (.cons _ (.refl _)))))).fresh F (λj h=>nomatch h) K3 (nw' G2.size)).perm (.cons _ ((List.perm_middle (l₁:=[_,_])).trans (.cons _ (List.perm_middle (l₁:=[_,_]))))),N2.keep (W:=[]) L K3.nil λj h=>nomatch h⟩
  ·intro E (w:Ii) s3 s4 _ _ _ _ _ _ _ _ _ N4
   exact Em λE s5 F L K N=>hR ⟨s.heap.objs.size+3,w.items⟩ s5 F K (λp hp=>by rw[List.mem_singleton.mp hp];exact Nat.le_add_right _ 3) (N4.keep (W:=[]) L K.nil λj h=>nomatch h)
theorem C_add(v:WV)(pf:Bool)(l:LP)(z:Sz)(PD CL NL VL:Addr)(pht:Nat→Int×Tok)(tc:Nat→Tok)(cle:Nat)(vl:List VR)(ve:Nat)(cs:List (Int×Tok))(ce:Nat){N:Int}{q:VR→Rat}{Pre:Shared→Prop}
  (ok:∀x∈vl,x.ok v z.n) (Sc:∀x∈vl,oJ v.w Pre l.f (fT false (ap x.L (cs.map (·.1)):Nat)) (q x)) (hN:0<N) (hN2:N<2 ^ 14) (hq:∀x∈vl,Dv N (q x)) (hc:∀x∈vl,ap x.L (cs.map (·.1))<2 ^ 63)
  (hne:vl≠[]) (hcs:∀p∈cs,0≤p.1∧p.1<(z.n:Int)):
  Ct v.w 330 (hF pf l z PD CL NL VL pht tc cle vl ve cs ce) (λs=>Kn (KB v.w) s (hF pf l z PD CL NL VL pht tc cle vl ve cs ce++((l.f,l.fo pf)::vl.flatMap VR.kn))∧∀s1,ah s s1 []→Kn (KB v.w) s1 []→Pre s1)
   (.call (.ref 334) ⟨[.ref l.f,.ref l.Pf,.ref l.C],[]⟩) [] dr (λy j s'=>bq v.w s' y.items z.n (jr cs (dN q vl λj=>((0:Int):Rat)))):=D7 v false pf l z PD CL NL VL pht tc cle vl ve cs ce ok Sc hN hN2 hq hc hne hcs
theorem rO(v:WV)(pf:Bool)(l:LP)(z:Sz)(PD CL NL VL:Addr)(pht:Nat→Int×Tok)(tc:Nat→Tok)(cle:Nat)(vl:List VR)(ve:Nat)(cs:List (Int×Tok))(ce:Nat){N:Int}{q:VR→Rat}{Pre:Shared→Prop}
  (ok:∀x∈vl,x.ok v z.n) (Sc:∀x∈vl,oJ v.w Pre l.f (fT true (ap x.L (cs.map (·.1)):Nat)) (q x)) (hN:0<N) (hN2:N<2 ^ 14) (hq:∀x∈vl,Dv N (q x)) (hc:∀x∈vl,ap x.L (cs.map (·.1))<2 ^ 63)
  (hne:vl≠[]) (hcs:∀p∈cs,0≤p.1∧p.1<(z.n:Int)):
  Ct v.w 330 (hF pf l z PD CL NL VL pht tc cle vl ve cs ce) (λs=>Kn (KB v.w) s (hF pf l z PD CL NL VL pht tc cle vl ve cs ce++((l.f,l.fo pf)::vl.flatMap VR.kn))∧∀s1,ah s s1 []→Kn (KB v.w) s1 []→Pre s1)
   (.call (.ref 341) ⟨[.ref l.f,.ref l.Pf,.ref l.C],[]⟩) [] dr (λy j s'=>bq v.w s' y.items z.n (hJ z.n (cs.map (·.1)) (z.cl tc) (dN q vl λj=>((0:Int):Rat)))):=D7 v true pf l z PD CL NL VL pht tc cle vl ve cs ce ok Sc hN hN2 hq hc hne hcs
theorem l6{v:WV}{A:Around}{E:Value→Shared→Prop}{env:Env}{x:Str}{p1 p2:Pos}{r:Expr}{s:Shared}{m:Str→Option Value}{k n:Int}{t:Tok}(hx1:(x==("__debug__":Str))=false)
  (hk:env.scope.kind=.function) (hl:env.kindOf x=some .local) (hn:s.heap.Ns env.locals m) (hv:m x=some (.int k t)) (hb:behindInMarks .GtE r=false)
  (hr:∀Q:Value→Shared→Prop,(∀tk u,Q (.int n u) {s with toks:=tk})→wpAny (model pr v.w) A (eval r env) Q E s) {b:Bool} (e:b=decide (k≥n)):
  wpAny (model pr v.w) A (eval (.Compare (.Name x p1) [.GtE] [r] p2) env) (λy s₃=>y=.bool b∧Keeps s s₃) E s:=by
 rw[eval_Compare1,markedBehindIn_of_false hb]
 refine wpAny_bind ?_
 rw[arm_eval_Name]
 refine wpAny_bind (wpAny_standAt ?_)
 rw[hx1]
 simp only[Bool.false_eq_true,↓reduceIte]
 refine wpAny_loadName_local hk hl hn hv ?_
 refine wpAny_bind (wpAny_holding (hr _ λtk u=>?_))
 refine wpAny_bind (wpAny_standAt ?_)
 refine wpAny_operateT ?_
 subst e
 exact compareOp_gives (T:="int") rfl rfl F.slot_int_ge F.entry_int_ge (F.args_int_ge_2 _ _) (gives_int_ge k n t u) (by first|trivial|exact λj=>rfl|simp[Made.takes]) ⟨rfl,s.heap,tk,rfl,λj j e=>e⟩
theorem ny{v:WV}{A:Around}{E:Value→Shared→Prop}{env:Env}{s:Shared}:wpAny (model pr v.w) A (forIn ([]:List Expr) true λc r=>if r=true then do let ok ←isTrue c env (eval c env);pure (ForInStep.yield ok) else pure (ForInStep.yield r)) (λok s₃=>ok=true∧Keeps s s₃) E s:=by
 simp only[List.forIn_nil]
 exact wpAny_pure ⟨rfl,s.heap,s.toks,rfl,λj j e=>e⟩
structure uV (s:Shared) (a g C I:Addr) (elt iter:Expr) (x:Str) (px:Pos) (scope:Scope) (pos:Pos) (cenv:Env) (m:Str→Option Value):Prop where
 gen:s.heap.IsGen a g
 st:s.gens[g]?=some (.fresh (.compStart (.GeneratorExp elt [⟨.Name x px,iter,[],0⟩] scope pos) 0 (.ref I) .none cenv))
 ns:s.heap.Ns C m
 lim:s.heap.NoLimit
 loc:cenv.locals=C
 xloc:cenv.kindOf x=some .local
 kind:cenv.scope.kind=.function
 co:cenv.scope.isCoroutine=false
theorem qt{os:List (Int×Tok)}{g:Nat}{c:Int}{t:Tok}(h:os[g]?=some (c,t)):(aa os)[g]?=some (.int c t):=by simp[aa,h]
theorem qv(os:List (Int×Tok)):(aa os)[os.length]?=none:=by simp[aa]
theorem iW(os:List (Int×Tok)):(aa os).size=os.length:=by simp[aa]
theorem tX(os:List (Int×Tok))(k:Int)(t:Tok):(aa os).push (.int k t)=aa (os++[(k,t)]):=by simp[aa]
theorem qw(os:List (Int×Tok))(k:Int)(t:Tok):aa os++#[Value.int k t]=aa (os++[(k,t)]):=by simp[aa]
theorem Kn.ne{B:X.KT}{s:Shared}{kn:List (Addr×Obj)}(k:Kn B s kn)(i j:Nat){x y:Addr}(hi:lK (kn.map (·.1)) i=some x)(hj:lK (kn.map (·.1)) j=some y)(h:Nat.beq i j=false):x≠y:=by
 rintro rfl
 rw[dd]at hi hj
 obtain⟨a,ha⟩:=List.getElem?_eq_some_iff.mp hi
 obtain⟨b,hb⟩:=List.getElem?_eq_some_iff.mp hj
 exact Nat.ne_of_beq_eq_false h ((List.getElem_inj k.nd).mp (ha.trans hb.symm))
theorem ni{α:Type}{x a:α}{l:List α}(h:x≠a)(t:x∉l):x∉a::l:=λm=>(List.mem_cons.mp m).elim h t
theorem Kn.offne{B:X.KT}{s:Shared}{kn:List (Addr×Obj)}(k:Kn B s kn)(i:Nat){p:Addr×Obj}(hi:lK kn i=some p){x:Addr}{o:Obj}(e:B.get x=some o):x≠p.1:=λh=>by
 have:=k.off p (mN i hi)
 rw[←h,e]at this
 cases this
theorem iZ{v:WV}{A:Around}(hA:cp A 20){s:Shared}{a g C I:Addr}{elt iter:Expr}{x:Str}{px:Pos}{scope:Scope}{pos:Pos}{cenv:Env}{m:Str→Option Value}(G:uV s a g C I elt iter x px scope pos cenv m)
  {fp wr:List Addr} {n:Nat} {P:Nat→Value→Prop} {St:Nat→Heap→Prop} (W₀:∀A':Around,A'.handled=none→Walks pr v.w A' I fp wr n P St) (st0:St 0 s.heap)
  (ha:a∉cStatics::C::fp) (hC:C∉cStatics::fp) (hw:cStatics∉wr) {b:Bool}
  (helt:∀(A':Around) E' i y (s₂:Shared) m₂,A'.handled=none→P i y→s₂.heap.Ns C m₂→m₂ x=some y→(∀b∈fp,b∉wr→∀o,s.heap.get? b=some o→s₂.heap.get? b=some o)→wpAny (model pr v.w) A' (eval elt cenv) (λy s₃=>y=.bool b∧Keeps s₂ s₃) E' s₂)
  {R:Result→Shared→Prop}:(b=true→(∀s',Moved (C::wr) (GenOnlyQ g) s s'→R (.ok (.ret (.bool true))) s')→codeAny (model pr v.w) A (.builtin "all.loop" ⟨[.ref a],[]⟩) R s)∧
   (b=false→(∀s',Moved (C::wr) (GenOnlyQ g) s s'→R (.ok (.ret (.bool false))) s')→codeAny (model pr v.w) A (.builtin "any.loop" ⟨[.ref a],[]⟩) R s):=by
 have hh:A.in1.handled=none:=hA.hd
 have hh2:A.in1.in1.handled=none:=hA.hd
 obtain⟨hgen,hst,hns,hlim,rfl,hx,hk,hco⟩:=G
 simp only[List.mem_cons,not_or]at ha hC
 have W₁:∀A':Around,A'.handled=none→Walks pr v.w A' I (cStatics::fp) wr n P St:=λA' h=>(W₀ A' h).mono_fp λq h=>List.mem_cons_of_mem _ h
 have sub:∀b∈wr,b∈cStatics::fp:=(W₁ A.in1 hh).sub
 have hroom:A.in1.depth<recursionLimit:=by have:=hA.dep;show A.depth<_;omega
 have W:=WalksS.genexpQ (prog:=pr) (w:=v.w) (A:=A.in1) hh a g cenv.locals (cStatics::fp) wr (λq=>true) n (λq y=>y=.bool b) ha.2.1 (by simp[ha]) sub hroom (List.mem_cons_self ..) (λe=>hC.1 e.symm) hw
 have hq:QuietGen pr v.w cenv x [] elt (cStatics::fp) wr P (λq=>true) (λq y=>y=.bool b) s.heap:=⟨λA' E' i y s₂ m₂ q q q q q=>ny,λA' E' i y s₂ m₂ h1 h2 q h3 h4 h5=>helt A' E' i y s₂ m₂ h1 h2 h3 h4 λb hb=>h5 b (List.mem_cons_of_mem _ hb)⟩
 have st:GenAt pr v.w A.in1 a g cenv.locals (cStatics::fp) wr (λq=>true) n (λq y=>y=.bool b) 0 s:=
  GenAt.fresh hh W₁ (λq=>true) (λq y=>y=.bool b) hx (by rw[hk];rfl) hco (by simp[hC]) hq hgen hst st0 hns hlim
 have tr:TruthOf pr v.w A.in1 (λj y=>∃i,(passing (λq=>true) n 0)[j]?=some i∧y=.bool b) (λq=>b):=λj y s Q E h hQ=>by
  obtain⟨_,_,rfl⟩:=h
  exact wpAny_truthy_bool hQ
 refine⟨λe h=>?_,λe h=>?_⟩
 ·subst e
  refine codeAny_all_loopS W _ tr _ 0 s rfl (Nat.zero_le _) st λs' hm=>?_
  have e1:((List.range (passing (λq=>true) n 0).length).drop 0).all (λq=>true)=true:=List.all_eq_true.mpr λq q=>rfl
  rw[e1]
  exact h s' hm
 ·subst e
  refine codeAny_any_loopS W _ tr _ 0 s rfl (Nat.zero_le _) st λs' hm=>?_
  have e1:((List.range (passing (λq=>true) n 0).length).drop 0).any (λq=>false)=false:=List.any_eq_false.mpr λq q=>by simp
  rw[e1]
  exact h s' hm
inductive Bm|b0|b1|b2|b3|b4|b5|b6|b7|b8|b9|b10|b11|b12|b13|b14|b15
noncomputable def Fn:En Bm:=oq [.b0,.b1,.b2,.b3,.b4,.b5,.b6,.b7,.b8,.b9,.b10,.b11,.b12,.b13,.b14,.b15] Bm.ctorIdx (λt=>by cases t<;>rfl)
noncomputable def Bm.n:Bm→Nat|.b0=>0|.b1=>1|.b2=>2|.b3=>3|.b4=>4|.b5=>5|.b6=>6|.b7=>7|.b8=>8|.b9=>9|.b10=>10|.b11=>11|.b12=>12|.b13=>13|.b14=>14|.b15=>15
noncomputable def Bm.l(b:Bm):List Nat:=match b with|.b0=>[]|.b1=>[0]|.b2=>[1]|.b3=>[0,1]|.b4=>[2]|.b5=>[0,2]|.b6=>[1,2]|.b7=>[0,1,2]|.b8=>[3]|.b9=>[0,3]|.b10=>[1,3]|.b11=>[0,1,3]|.b12=>[2,3]|.b13=>[0,2,3]|.b14=>[1,2,3]|.b15=>[0,1,2,3]
noncomputable def Bm.xs(b:Bm)(t:Nat→Tok):List (Int×Tok):=b.l.map fun(c:Nat)=>((c:Int),t c)
noncomputable def iu(w:World):FuncData:=m6 (zN w.params)
set_option backward.match.sparseCases false in
noncomputable def Fd(b:List Stmt):Expr:=match(b[3]?:Option Stmt)with
 |some (.If t _ _ _)=>match t with
  |.UnaryOp _ x _=>match x with
   |.Call _ as _ _=>match as with
    |[g]=>g
    |_=>default
   |_=>default
  |_=>default
 |_=>default
set_option backward.match.sparseCases false in
noncomputable def Fc(b:List Stmt):Expr:=match(b[4]?:Option Stmt)with
 |some (.If t _ _ _)=>match t with
  |.BoolOp _ xs _=>match xs with
   |[_,x]=>match x with
    |.Call _ as _ _=>match as with
     |[g]=>g
     |_=>default
    |_=>default
   |_=>default
  |_=>default
 |_=>default
set_option backward.match.sparseCases false in
noncomputable def aX(e:Expr):Scope:=match e with|.GeneratorExp _ _ sc _=>sc|_=>default
noncomputable def kB(e:Expr):Pos:=match e with|.GeneratorExp _ _ _ p=>p|_=>default
noncomputable def gH(e:Expr):Expr:=match e with|.GeneratorExp x _ _ _=>x|_=>default
noncomputable def gZ(e:Expr):Expr×Expr:=match e with
 |.GeneratorExp _ gs _ _=>match gs with
  |[⟨t,i,_,_⟩]=>(t,i)
  |_=>default
 |_=>default
set_option backward.match.sparseCases false in
noncomputable def vp(e:Expr):Str×Pos:=match e with|.Name x p=>(x,p)|_=>default
set_option backward.match.sparseCases false in
noncomputable def HC(e:Expr):Expr:=match e with|.Compare l _ _ _=>l|_=>default
noncomputable def Ft(e:Expr):Expr:=match e with
 |.Compare _ _ rs _=>match rs with
  |[r]=>r
  |_=>default
 |_=>default
noncomputable def HB(e:Expr):Pos:=match e with|.Compare _ _ _ p=>p|_=>default
noncomputable def eK(f:FuncData)(sc:Scope)(cl:List (Str×Addr))(C K:Addr):Env:=
 {scope:=sc,locals:=C,globals:=f.globals,cells:=cl,qual:=f.qualname++Str.mk #[46,60,108,111,99,97,108,115,62,46]++Str.mk #[60,103,101,110,101,120,112,114,62,46],func:=none,code:=.ref K,frame:=some C,builtins:=f.builtins}
noncomputable def cG(w:World):Expr:=Fd (aH (iu w))
noncomputable def dc(w:World):Expr:=Fc (aH (iu w))
noncomputable def f5(w:World)(I C K:Addr):Code:=.compStart (cG w) 0 (.ref I) .none (eK (iu w) (aX (cG w)) [] C K)
noncomputable def mX(w:World)(I C K Z:Addr):Code:=.compStart (dc w) 0 (.ref I) .none (eK (iu w) (aX (dc w)) [(ax,Z)] C K)
noncomputable def dE(x:Array Value):Obj:={cls:=.none,dict:=none,data:=.fields x,slots:=#[]}
noncomputable def vm:Str:=⟨#[60,103,101,110,101,120,112,114,62]⟩
noncomputable def lU(w:World)(g:Nat)(t:Tok):Obj:={cls:=.type "generator",dict:=none,data:=.fields #[.int g 0,.str vm t,.str ((iu w).qualname++Str.mk #[46,60,108,111,99,97,108,115,62,46]++vm) (t+1)],slots:=#[]}
noncomputable def pN:Str:=⟨#[46,48]⟩
noncomputable def ln(ht:Nat→Int×Tok)(I:Addr):Obj:=fQ ht [(pN,.ref I)] 1
noncomputable def fj(b:Bool):bS Unit:={res:=λj=>.ok (.ret (.bool b))}
noncomputable def AU(K:Addr):Array Value:=#[.int 15 0,.int 19 0,.ref K]
noncomputable def iJ(K K2:Addr):Array Value:=#[.int 15 0,.int 19 0,.ref K,.int 17 0,.int 40 0,.ref K2]
set_option backward.match.sparseCases false in
noncomputable def cK(e:Expr):Nat×Pos:=match e with|.Constant _ k p=>(k,p)|_=>default
theorem hH(v:WV):cG v.w=.GeneratorExp (.Compare (.Name cO (vp (HC (gH (cG v.w)))).2) [.GtE] [.Constant (.int 0) (cK (Ft (gH (cG v.w)))).1 (cK (Ft (gH (cG v.w)))).2] (HB (gH (cG v.w)))) [⟨.Name cO (vp (gZ (cG v.w)).1).2,(gZ (cG v.w)).2,[],0⟩] (aX (cG v.w)) (kB (cG v.w)):=by kernel_rfl
theorem tT(v:WV)(C K:Addr):(eK (iu v.w) (aX (cG v.w)) [] C K).kindOf cO=some .local:=by kernel_rfl
theorem vM(v:WV)(C K:Addr):((eK (iu v.w) (aX (cG v.w)) [] C K).scope.kind,(eK (iu v.w) (aX (cG v.w)) [] C K).scope.isCoroutine)=(.function,false):=by kernel_rfl
theorem dD{v:WV}{s:Shared}{kn:List (Addr×Obj)}(hk:Kn (KB v.w) s kn){p:Addr×Obj}(hp:p∈kn):p.1≠cStatics:=λe=>by
 have h:=hk.off p hp
 rw[e]at h
 have h2:(KB v.w).get cStatics=some (CA v.w.params):=by kernel_rfl
 rw[h2]at h;cases h
theorem eJ{v:WV}{s:Shared}{kn:List (Addr×Obj)}(hk:Kn (KB v.w) s kn):s.heap.NoLimit:=qk v.w s.heap hk.base
theorem lW{s:Shared}{C I:Addr}{ht:Nat→Int×Tok}(h:s.heap.get? C=some (ln ht I)):s.heap.Ns C (λn=>nsFind (om ht 0 [(pN,Value.ref I)]).toArray n):=
 ⟨_,_,_,h,rfl,λe he=>by simp[om]at he;subst he;exact⟨_,_,rfl⟩,λj=>rfl⟩
theorem eM{s s':Shared}{W:List Addr}{g:Nat}{a:Addr}{o:Obj}(hm:Moved W (GenOnlyQ g) s s')(ho:s.heap.get? a=some o)(ha:a∉W)(hs:s.heap.objs.size=a+1):ah s s' W:=
 ⟨λh=>hm.gens.bare h,hm.drawn,hm.os,by rw[hs];exact Heap.lt_size (hm.heap a o ha ho),hm.toks,λb o e hb=>hm.heap b o hb e⟩
theorem r5(v:WV)(a C I AL K:Addr)(g:Nat)(t1:Tok)(xs:List (Int×Tok))(hx:∀p∈xs,0≤p.1)(ae:Nat)(ht:Nat→Int×Tok):
  Ct v.w 40 [(a,lU v.w g t1),(I,aj (.ref AL) 0),(AL,ac (aa xs) ae),(C,ln ht I)] (λs=>s.gens[g]?=some (.fresh (f5 v.w I C K))∧s.heap.objs.size=a+1)
   (.builtin "all.loop" ⟨[.ref a],[]⟩) [C,I] (fj true) bP:=by
 intro A s R hA hk ⟨hg,hsz⟩ hR
 have oa:=hk.obj (a,lU v.w g t1) (mN 0 rfl)
 have oI:=hk.obj (I,aj (.ref AL) 0) (mN 1 rfl)
 have oL:=hk.obj (AL,ac (aa xs) ae) (mN 2 rfl)
 have oC:=hk.obj (C,ln ht I) (mN 3 rfl)
 have cI:=dD hk (p:=(I,aj (.ref AL) 0)) (mN 1 rfl)
 have cL:=dD hk (p:=(AL,ac (aa xs) ae)) (mN 2 rfl)
 have cC:=dD hk (p:=(C,ln ht I)) (mN 3 rfl)
 have ca:=dD hk (p:=(a,lU v.w g t1)) (mN 0 rfl)
 have aI:=hk.ne 0 1 rfl rfl rfl
 have aL:=hk.ne 0 2 rfl rfl rfl
 have aC:=hk.ne 0 3 rfl rfl rfl
 have IL:=hk.ne 1 2 rfl rfl rfl
 have IC:=hk.ne 1 3 rfl rfl rfl
 have LC:=hk.ne 2 3 rfl rfl rfl
 have kk:=vM v C K
 simp only[Prod.mk.injEq]at kk
 have hsz':(aa xs).size=xs.length:=iW xs
 have G:uV s a g C I _ (gZ (cG v.w)).2 cO (vp (gZ (cG v.w)).1).2 (aX (cG v.w)) (kB (cG v.w)) (eK (iu v.w) (aX (cG v.w)) [] C K) _:=
  ⟨⟨_,_,_,oa,rfl,rfl,rfl⟩,by rw[hg];unfold f5;exact congrArg (λe=>some (GenState.fresh (.compStart e 0 (.ref I) .none (eK (iu v.w) (aX (cG v.w)) [] C K)))) (hH v),lW oC,eJ hk,rfl,tT v C K,kk.1,kk.2⟩
 refine(iZ (hA.le (by omega)) G (n:=(aa xs).size) (λA' h'=>Walks.list h' I AL (Ne.symm IL) (aa xs)) ⟨⟨_,oI,rfl,rfl⟩,⟨_,oL,rfl,_,rfl⟩⟩ ?_ ?_ ?_ (b:=true) ?_).1 rfl λs' hm=>?_
 ·exact ni ca (ni aC (ni aI (ni aL nofun)))
 ·exact ni cC (ni (Ne.symm IC) (ni (Ne.symm LC) nofun))
 ·exact ni (Ne.symm cI) nofun
 ·intro A' E' i y s₂ m₂ h' hP hn hv _
  unfold aa at hP
  rw[List.getElem?_toArray,List.getElem?_map]at hP
  cases e:xs[i]? with
  |none=>rw[e]at hP;cases hP
  |some p=>
   rw[e]at hP
   have hy:y=.int p.1 p.2:=(Option.some.inj hP).symm
   subst hy
   refine l6 (by decide+kernel) kk.1 (tT v C K) hn hv rfl (n:=0) (λQ hQ=>?_) (by simp[hx p (List.mem_of_getElem? e)])
   rw[eval_Constant]
   exact wpAny_mkInt (hQ _ _)
 ·exact hR () s' (eM hm oa (ni aC (ni aI nofun)) hsz) ⟨λx o e=>hm.heap x o (ni (hk.offne 3 rfl e) (ni (hk.offne 1 rfl e) nofun)) (hk.base x o e),(λj h=>nomatch h),(λj h=>nomatch h),List.nodup_nil,Nat.lt_of_lt_of_le hk.toks hm.toks⟩ (λj h=>nomatch h) trivial
noncomputable def B0(w:World)(D:Nat)(p:Dp)(c:Code)(t:Sem PySem.Fin)(zn zu:Nat)(kn:List (Addr×Obj)):aU:=yc (PW w D) p.sg.N p.sg.orc p.sg.cnt c .top t zn 0 zu 0 kn.length (cy kn 0 .nil) (bY kn 0 .nil) [] [] []
noncomputable def Ef(w:World)(D:Nat)(p:Dp)(c:Code)(t:Sem PySem.Fin)(zn zu:Nat)(kn:List (Addr×Obj)):Bool×Tr:=(cY kn 0 .nil .nil,p.lhs w D (eU.kn kn) (B0 w D p c t zn zu kn) zn zu)
noncomputable def Ee(w:World)(D:Nat)(p:Dp)(c:Code)(t:Sem PySem.Fin)(zn zu:Nat)(kn:List (Addr×Obj)):Bool×Tr:=(true,p.rhs w D (eU.kn kn) (B0 w D p c t zn zu kn) zn zu)
theorem Dp.runT{w:World}{D:Nat}{A:Around}{R:Result→Shared→Prop}(hA:cp A D){c:Code}{t:Sem PySem.Fin}{kn:List (Addr×Obj)}{s:Shared}(k:Kn (KB w) s kn)(p:Dp)(wi:List Nat)
  (h:Ef w D p c t s.heap.objs.size s.toks kn=Ee w D p c t s.heap.objs.size s.toks kn) (H:p.ok2 w D A R s (eV (kn.map (·.1)) wi) wi kn.length s):fG (model pr w) A R c .top t s:=by
 have ok:cY kn 0 .nil .nil=true:=congrArg Prod.fst h
 have G:=Dp.sound2 hA p _ _ s _ _ (Dp.holds_of _ _ _ _ _ (congrArg Prod.snd h)) (pd k ok) rfl rfl k.toks (ky ok) H
 exact dZ (ia w D) hA.hd (Nat.lt_of_le_of_lt (Nat.le_add_right _ 5) hA.dep) (by have:=hA.un;show A.units+20*D<cLine;omega) _ _ _ _ _ _ _ _ _ _ _ _ _ _ _ _ _ G (Rp.start k ok)
noncomputable def Cn.GT(x:Cn)(t:Sem PySem.Fin)(v:WV):Prop:=∀zn zu,Ef v.w x.D (x.p zn zu) x.c t zn zu x.k=Ee v.w x.D (x.p zn zu) x.c t zn zu x.k
theorem Cn.gtq{T:Type}(E:En T){f:T→Cn}{g:T→Sem PySem.Fin}{v:WV}(h:∀zn zu,(E.e λa=>Ef v.w (f a).D ((f a).p zn zu) (f a).c (g a) zn zu (f a).k)=E.e' λa=>Ee v.w (f a).D ((f a).p zn zu) (f a).c (g a) zn zu (f a).k)(a:T):(f a).GT (g a) v:=λzn zu=>E.ok (h zn zu) a
theorem Cn.GT.go{x:Cn}{t:Sem PySem.Fin}{v:WV}(h:x.GT t v){A:Around}{s:Shared}{R:Result→Shared→Prop}{W:List Addr}(hA:cp A x.D)(hk:Kn (KB v.w) s x.k)(wi:List Nat)(H:(x.p s.heap.objs.size s.toks).ok2 v.w x.D A R s W wi x.k.length s)(hW:eV (x.k.map (·.1)) wi=W:=by rfl):fG (model pr v.w) A R x.c .top t s:=by
 subst hW;exact Dp.runT hA hk _ wi (h _ _) H
noncomputable def Cn.GTB(x:Cn)(m:Nat)(t:Sem PySem.Fin)(v:WV):Prop:=Nat.ble m 557=true∧∀zn zu,Ef v.w x.D (x.p (zn+m) zu) x.c t (zn+m) zu x.k=Ee v.w x.D (x.p (zn+m) zu) x.c t (zn+m) zu x.k
theorem Cn.GTB.go{x:Cn}{m:Nat}{t:Sem PySem.Fin}{v:WV}(h:x.GTB m t v){A:Around}{s:Shared}{R:Result→Shared→Prop}{W:List Addr}(hA:cp A x.D)(hk:Kn (KB v.w) s x.k)(wi:List Nat)(H:(x.p s.heap.objs.size s.toks).ok2 v.w x.D A R s W wi x.k.length s)(hW:eV (x.k.map (·.1)) wi=W:=by rfl):fG (model pr v.w) A R x.c .top t s:=by
 obtain⟨z,e⟩:=Kn.big m (Nat.le_of_ble_eq_true h.1) hk
 have g:=h.2 z s.toks
 rw[←e]at g
 subst hW;exact Dp.runT hA hk _ wi g H
noncomputable def tz(X S:Addr):{t:Sem Unit→Sem Unit // X≠S→@setMerge X S=t}:=⟨_,λh=>by
 funext each
 unfold setMerge
 rw[if_neg (show ¬((X==S)=true) by simpa using h)]⟩
theorem ya{α β:Type}(a:α)(f:α→Sem β):(pure a>>=f)=f a:=rfl
noncomputable def qq(X S:Addr):{t:Sem PySem.Fin // X≠S→Builtin.«set.__init__» ⟨[.ref X,.ref S],[]⟩=t}:=⟨_,λh=>by
 unfold Builtin.«set.__init__» Builtin.Frozenset.updateFrom Builtin.Frozenset.merge
 simp only[Builtin.Frozenset.addrOf,ya,(tz X S).2 h]
 exact rfl⟩
noncomputable def oE(b:Bm):Nat:=match b with|.b0=>0|_=>1
noncomputable def si(v:WV)(b:Bm)(X XD S SD:Addr)(ep:Nat)(t:Nat→Tok):Cn:=⟨40,[(X,ao XD #[] 0 (ak [] (!v.b3))),(S,ao SD (ai b.l t) ep (ak b.l (!v.b3)))],.builtin "set.__init__" ⟨[.ref X,.ref S],[]⟩,λzn zu=>.fin {ws:=[0],js:=[0],N:=(match b with|.b0=>12|.b1|.b2|.b3|.b4|.b5|.b6|.b7|.b8|.b9|.b10|.b11|.b12|.b13|.b14|.b15=>16),orc:=(match b with|.b0=>(dz 7 8864816709633)|.b1|.b2|.b3|.b4|.b5|.b6|.b7|.b8|.b9|.b10|.b11|.b12|.b13|.b14|.b15=>(dz 11 1189887622163074138113)),wa:=[X]} (.ok (.ret .none)) (λE=>[(X,ao XD (ai b.l t) (oE b) (ak b.l (!v.b3)))])⟩
theorem A1 v b X XD S SD ep t:(si v b X XD S SD ep t).GT ((qq X S).1) v:=by
 obtain⟨w0,b1,b2,b3⟩:=v;intro zn zu;cases b3<;>cases b<;>kernel_rfl
noncomputable def sl(v:WV)(b:Bm)(X XD AL:Addr)(t:Nat→Tok)(ae:Nat):Cn:=⟨100,[(X,ao XD #[] 0 (ak [] (!v.b3))),(AL,ac (aa (b.xs t)) ae)],.builtin "set.__init__" ⟨[.ref X,.ref AL],[]⟩,λzn zu=>.fin {ws:=[0],js:=[0],i:=3,u:=(match b with|.b0=>0|.b1|.b2|.b4|.b8=>1|.b3|.b5|.b6|.b9|.b10|.b12=>2|.b7|.b11|.b13|.b14=>3|.b15=>4),cnt:=(match b with|.b0=>5|.b1|.b2|.b4|.b8=>10|.b3|.b5|.b6|.b9|.b10|.b12=>15|.b7|.b11|.b13|.b14=>20|.b15=>25),N:=(match b with|.b0=>37|.b1|.b2|.b4|.b8=>57|.b3|.b5|.b6|.b9|.b10|.b12=>77|.b7|.b11|.b13|.b14=>97|.b15=>117),orc:=(match b with|.b0=>(dz 18 3338769215806941781108721123403513857)|.b1|.b2|.b4|.b8=>(dz 28 3941722959690917757685013458535670087236393106289652154369)|.b3|.b5|.b6|.b9|.b10|.b12=>(dz 38 4653565097400531901080285809450022474173148114537037194582808990668471582867457)|.b7|.b11|.b13|.b14=>(dz 48 5493959960454071948052603479186513818048476612823877857064175722731221254844177469915525791438880769)|.b15=>(dz 58 6486123093869037712936602237851135711122070376274599116777082467250505597095702970568364634171886311384690751957654061057)),wa:=[X]} (.ok (.ret .none)) (λE=>[(X,ao XD (ai b.l t) b.l.length (ak b.l (!v.b3)))])⟩
theorem AZ v b X XD AL t ae:(sl v b X XD AL t ae).G v:=Cn.g2 Fn (f:=λb v=>sl v b X XD AL t ae) (λj j j j j=>by kernel_rfl) b v
noncomputable def lc(v:WV)(b:Bm)(X XD:Addr)(ep:Nat)(t:Nat→Tok):Cn:=⟨40,[(X,ao XD (ai b.l t) ep (ak b.l (!v.b3)))],.builtin "len" ⟨[.ref X],[]⟩,λzn zu=>.fin {u:=2,cnt:=2,N:=18,orc:=(dz 7 4398314946561)} (.ok (.ret (.int b.l.length (zu+1)))) (λE=>[])⟩
theorem BF v b X XD ep t:(lc v b X XD ep t).G v:=by
 obtain⟨w0,b1,b2,b3⟩:=v;intro zn zu;cases b<;>kernel_rfl
theorem DB(v:WV)(b:Bm)(X XD S SD:Addr)(ep:Nat)(t:Nat→Tok):aS v.w 40 [(X,ao XD #[] 0 (ak [] (!v.b3))),(S,ao SD (ai b.l t) ep (ak b.l (!v.b3)))] (.builtin "set.__init__" ⟨[.ref X,.ref S],[]⟩) [X] (bu X (ao XD (ai b.l t) (oE b) (ak b.l (!v.b3)))):=by
 intro A s R hA hk _ hR
 have hne:X≠S:=by
  have:=hk.nd
  simp only[List.map_cons,List.map_nil,List.nodup_cons,List.mem_cons,List.not_mem_nil,or_false]at this
  exact this.1
 refine codeAny_builtin F.entry_set_init ?_
 rw[(qq X S).2 hne]
 refine(A1 v b X XD S SD ep t).go hA hk [0] ?_
 exact kf λj s' F K j=>hR () s' F K (λj h=>nomatch h) trivial
theorem DA(v:WV)(b:Bm)(X XD AL:Addr)(t:Nat→Tok)(ae:Nat):aS v.w 100 [(X,ao XD #[] 0 (ak [] (!v.b3))),(AL,ac (aa (b.xs t)) ae)] (.builtin "set.__init__" ⟨[.ref X,.ref AL],[]⟩) [X] (bu X (ao XD (ai b.l t) b.l.length (ak b.l (!v.b3)))):=by
 exact(AZ v b X XD AL t ae).ct [0] λj j j j j j hR=>kr hR λj=>()
theorem fY(v:WV)(b:Bm)(X XD:Addr)(ep:Nat)(t:Nat→Tok):aS v.w 40 [(X,ao XD (ai b.l t) ep (ak b.l (!v.b3)))] (.builtin "len" ⟨[.ref X],[]⟩) [] (aw b.l.length):=by
 exact(BF v b X XD ep t).ct [] λj j j j j j hR=>kr hR λj=>_
noncomputable def pH:Str:=⟨#[95,95,99,108,97,115,115,95,95]⟩
set_option backward.match.sparseCases false in
noncomputable def cj(w:World)(Z L I:Addr):Code:=match((aH (iu w))[2]?:Option Stmt)with
 |some (Stmt.For t _ b o _)=>.forLoop t (.ref I) b o {cR (iu w) 57 L with cells:=[(ax,Z),(pH,43)]}
 |_=>.block [] default
noncomputable def af(v:Value):Obj:=⟨.type "cell",none,.cell (some v),#[]⟩
noncomputable def cZ(ht:Nat→Int×Tok)(X:Addr)(a:Value)(cv:Option Value):Obj:=match cv with
 |none=>fQ ht [(iN,.ref X),(dn,a)] 2
 |some c=>fQ ht [(iN,.ref X),(dn,a),(cO,c)] 3
structure I7 where
 ht:Nat→Int×Tok
 cv:Value
noncomputable def r7(b:Bool)(x:Value):Option Value:=match b with|true=>some x|false=>none
noncomputable def ci(I L X:Addr)(a:Value)(o:Obj)(nz:Bool):bS I7:={res:=λj=>.ok .next,upd:=λy=>[(I,o),(L,cZ y.ht X a (r7 nz y.cv))]}
noncomputable def Fp(v:WV)(S SD:Addr)(es:Array (Int×Value))(ep:Nat)(t:SetTable)(es2:Array (Int×Value))(ep2:Nat)(t2:SetTable)(N:Int)(sl:Nat)(k:Int)(tk:Tok)(nz:Bool)(K K2:Addr):Cn:=⟨250,[(S,ao SD es ep t),(52,(dE (AU K)))],.call (.ref 75) ⟨[.ref S],[(ax,.int k tk)]⟩,λzn zu=>.cut {js:=[3,0],ju:=[3],i:=6,u:=3,K:=6,cnt:=17,N:=116,orc:=(dz 69 6193181259831547302431864458137254059703390736930724530706141258946994553399219718183020621232542817581662632233500701333363492287037573169152),big:=true} (.builtin "set.__init__" ⟨[.ref (zn+1),.ref S],[]⟩) (λE=>[((zn+1),ao zn #[] 0 (ak [] (!v.b3))),(S,ao SD es ep t)]) (λj=>bu (zn+1) (ao zn es2 ep2 t2)) λj n1 u1=>.cut {js:=[0],K:=6,cnt:=1,N:=14,orc:=(dz 3 81920),big:=true} (.builtin "len" ⟨[.ref S],[]⟩) (λE=>[(S,ao SD es ep t)]) (λj=>aw N) λj n2 u2=>.cut {js:=[3],K:=6,cnt:=1,N:=13,orc:=(dz 3 81920),big:=true} (.builtin "len" ⟨[.ref (zn+1)],[]⟩) (λE=>[((zn+1),ao zn es2 ep2 t2)]) (λj=>aw N) λj n3 u3=>.cut {js:=[0],K:=6,cnt:=1,N:=25,orc:=(dz 12 1180591625115457831554),ps:=[N=N],big:=true} (.builtin "set.__iter__" ⟨[.ref S],[]⟩) (λE=>[(S,ao SD es ep t)]) (λj=>aD (bm (.ref S) es.size ep 0 0)) λI1 n4 u4=>.cut {js:=[8,0,4],ju:=[8,4],K:=6,N:=6,orc:=(dz 1 9),big:=true} (cj v.w (zn+3) (zn+2) I1) (λE=>[(I1,bm (.ref S) es.size ep 0 0),(S,ao SD es ep t),((zn+2),cZ (aq (E.lk 4)) (zn+1) (.ref S) none)]) (λj=>ci I1 (zn+2) (zn+1) (.ref S) (bm .none es.size ep sl es.size) nz) λy n5 u5=>.cut {js:=[0],K:=6,cnt:=1,N:=24,orc:=(dz 13 151115728014778602438656),big:=true} (.builtin "set.__iter__" ⟨[.ref S],[]⟩) (λE=>[(S,ao SD es ep t)]) (λj=>aD (bm (.ref S) es.size ep 0 0)) λI2 n6 u6=>.gen {i:=1,u:=1,K:=5,N:=16,orc:=(dz 8 6240828003450890),big:=true} (f5 v.w I2 n6 K) (λE=>[]) λg n7 u7=>.cut {js:=[11,9,0,10],i:=1,u:=2,K:=6,cnt:=4,N:=19,orc:=(dz 4 25363980),big:=true,fo:=[10,9],fa:=[n6,I2]} (.builtin "all.loop" ⟨[.ref n7],[]⟩) (λE=>[(n7,lU v.w g u7),(I2,bm (.ref S) es.size ep 0 0),(S,ao SD es ep t),(n6,ln (aq (E.lk 10)) I2)]) (λj=>fj true) λj n8 u8=>.cut {ws:=[9,10],js:=[0],K:=6,cnt:=1,N:=29,orc:=(dz 14 19342813185891661112147974),big:=true} (.builtin "set.__iter__" ⟨[.ref S],[]⟩) (λE=>[(S,ao SD es ep t)]) (λj=>aD (bm (.ref S) es.size ep 0 0)) λI3 n9 u9=>.gen {ws:=[1,9,10],i:=4,u:=7,K:=5,N:=28,orc:=(dz 11 20226854885687876911117),wa:=[52],big:=true} (mX v.w I3 (n9+3) (n9+2) (zn+3)) (λE=>[]) λg2 n10 u10=>.cut {ws:=[9,10],js:=[17,12,0,16,5],i:=1,u:=2,K:=6,cnt:=4,N:=19,orc:=(dz 4 38045970),big:=true,fo:=[16,12],fa:=[(n9+3),I3]} (.builtin "any.loop" ⟨[.ref n10],[]⟩) (λE=>[(n10,lU v.w g2 u10),(I3,bm (.ref S) es.size ep 0 0),(S,ao SD es ep t),((n9+3),ln (aq (E.lk 16)) I3),((zn+3),af (.int k tk))]) (λj=>fj false) λj n11 u11=>.fin {ws:=[9,10,12,16],js:=[1,3,2],N:=8,big:=true} (.ok (.ret (.ref (zn+1)))) (λE=>[(52,(dE (iJ K (n9+2)))),((zn+1),ao zn es2 ep2 t2),(zn,q8)])⟩
theorem uy v S SD es ep t es2 ep2 t2 N sl k tk nz K K2:(Fp v S SD es ep t es2 ep2 t2 N sl k tk nz K K2).GB 76 v:=by
 obtain⟨w0,b1,b2,b3⟩:=v;refine⟨rfl,λzn zu=>?_⟩;cases b1<;>cases nz<;>kernel_rfl
noncomputable def Fo(v:WV)(S SD:Addr)(es:Array (Int×Value))(ep:Nat)(t:SetTable)(es2:Array (Int×Value))(ep2:Nat)(t2:SetTable)(N:Int)(sl:Nat)(k:Int)(tk:Tok)(nz:Bool)(K K2:Addr):Cn:=⟨250,[(S,ao SD es ep t),(52,(dE (iJ K K2)))],.call (.ref 75) ⟨[.ref S],[(ax,.int k tk)]⟩,λzn zu=>.cut {js:=[3,0],ju:=[3],i:=6,u:=3,K:=6,cnt:=17,N:=116,orc:=(dz 69 6193181259831547302431864458137254059703390736930724530706141258946994553399219718183020621232542817581662632233500701333363492287037573169152),big:=true} (.builtin "set.__init__" ⟨[.ref (zn+1),.ref S],[]⟩) (λE=>[((zn+1),ao zn #[] 0 (ak [] (!v.b3))),(S,ao SD es ep t)]) (λj=>bu (zn+1) (ao zn es2 ep2 t2)) λj n1 u1=>.cut {js:=[0],K:=6,cnt:=1,N:=14,orc:=(dz 3 81920),big:=true} (.builtin "len" ⟨[.ref S],[]⟩) (λE=>[(S,ao SD es ep t)]) (λj=>aw N) λj n2 u2=>.cut {js:=[3],K:=6,cnt:=1,N:=13,orc:=(dz 3 81920),big:=true} (.builtin "len" ⟨[.ref (zn+1)],[]⟩) (λE=>[((zn+1),ao zn es2 ep2 t2)]) (λj=>aw N) λj n3 u3=>.cut {js:=[0],K:=6,cnt:=1,N:=25,orc:=(dz 12 1180591625115457831554),ps:=[N=N],big:=true} (.builtin "set.__iter__" ⟨[.ref S],[]⟩) (λE=>[(S,ao SD es ep t)]) (λj=>aD (bm (.ref S) es.size ep 0 0)) λI1 n4 u4=>.cut {js:=[8,0,4],ju:=[8,4],K:=6,N:=6,orc:=(dz 1 9),big:=true} (cj v.w (zn+3) (zn+2) I1) (λE=>[(I1,bm (.ref S) es.size ep 0 0),(S,ao SD es ep t),((zn+2),cZ (aq (E.lk 4)) (zn+1) (.ref S) none)]) (λj=>ci I1 (zn+2) (zn+1) (.ref S) (bm .none es.size ep sl es.size) nz) λy n5 u5=>.cut {js:=[0],K:=6,cnt:=1,N:=24,orc:=(dz 13 151115728014778602438656),big:=true} (.builtin "set.__iter__" ⟨[.ref S],[]⟩) (λE=>[(S,ao SD es ep t)]) (λj=>aD (bm (.ref S) es.size ep 0 0)) λI2 n6 u6=>.gen {i:=1,u:=1,K:=5,N:=16,orc:=(dz 8 6240828003450890),big:=true} (f5 v.w I2 n6 K) (λE=>[]) λg n7 u7=>.cut {js:=[11,9,0,10],i:=1,u:=2,K:=6,cnt:=4,N:=19,orc:=(dz 4 25363980),big:=true,fo:=[10,9],fa:=[n6,I2]} (.builtin "all.loop" ⟨[.ref n7],[]⟩) (λE=>[(n7,lU v.w g u7),(I2,bm (.ref S) es.size ep 0 0),(S,ao SD es ep t),(n6,ln (aq (E.lk 10)) I2)]) (λj=>fj true) λj n8 u8=>.cut {ws:=[9,10],js:=[0],K:=6,cnt:=1,N:=29,orc:=(dz 14 19342813185891661112147974),big:=true} (.builtin "set.__iter__" ⟨[.ref S],[]⟩) (λE=>[(S,ao SD es ep t)]) (λj=>aD (bm (.ref S) es.size ep 0 0)) λI3 n9 u9=>.gen {ws:=[9,10],i:=1,u:=1,K:=5,N:=16,orc:=(dz 8 7942872003248141),big:=true} (mX v.w I3 n9 K2 (zn+3)) (λE=>[]) λg2 n10 u10=>.cut {ws:=[9,10],js:=[14,12,0,13,5],i:=1,u:=2,K:=6,cnt:=4,N:=19,orc:=(dz 4 31704975),big:=true,fo:=[13,12],fa:=[n9,I3]} (.builtin "any.loop" ⟨[.ref n10],[]⟩) (λE=>[(n10,lU v.w g2 u10),(I3,bm (.ref S) es.size ep 0 0),(S,ao SD es ep t),(n9,ln (aq (E.lk 13)) I3),((zn+3),af (.int k tk))]) (λj=>fj false) λj n11 u11=>.fin {ws:=[9,10,12,13],js:=[1,3,2],N:=8,big:=true} (.ok (.ret (.ref (zn+1)))) (λE=>[(52,(dE (iJ K K2))),((zn+1),ao zn es2 ep2 t2),(zn,q8)])⟩
theorem uw v S SD es ep t es2 ep2 t2 N sl k tk nz K K2:(Fo v S SD es ep t es2 ep2 t2 N sl k tk nz K K2).GB 76 v:=by
 obtain⟨w0,b1,b2,b3⟩:=v;refine⟨rfl,λzn zu=>?_⟩;cases b1<;>cases nz<;>kernel_rfl
noncomputable def Fs(v:WV)(AL:Addr)(xs:List (Int×Tok))(ae:Nat)(es2:Array (Int×Value))(ep2:Nat)(t2:SetTable)(N:Int)(nz:Bool)(K K2:Addr):Cn:=⟨250,[(AL,ac (aa xs) ae),(52,(dE #[]))],.call (.ref 75) ⟨[.ref AL],[(ax,.none)]⟩,λzn zu=>.cut {js:=[3,0],ju:=[3],i:=6,u:=3,K:=6,cnt:=17,N:=116,orc:=(dz 69 6193181259831547302431864458137254059703390736930724530706141258946994553399219718183020621232542817581662632233500701333363492287037573169152),big:=true} (.builtin "set.__init__" ⟨[.ref (zn+1),.ref AL],[]⟩) (λE=>[((zn+1),ao zn #[] 0 (ak [] (!v.b3))),(AL,ac (aa xs) ae)]) (λj=>bu (zn+1) (ao zn es2 ep2 t2)) λj n1 u1=>.cut {js:=[0],K:=6,cnt:=1,N:=14,orc:=(dz 3 81920),big:=true} (.builtin "len" ⟨[.ref AL],[]⟩) (λE=>[(AL,ac (aa xs) ae)]) (λj=>aw N) λj n2 u2=>.cut {js:=[3],K:=6,cnt:=1,N:=13,orc:=(dz 3 81920),big:=true} (.builtin "len" ⟨[.ref (zn+1)],[]⟩) (λE=>[((zn+1),ao zn es2 ep2 t2)]) (λj=>aw N) λj n3 u3=>.cut {js:=[8,0,4],ju:=[8,4],i:=1,K:=6,cnt:=2,N:=22,orc:=(dz 6 309508194946),ps:=[N=N],big:=true} (cj v.w (zn+3) (zn+2) n3) (λE=>[(n3,aj (.ref AL) 0),(AL,ac (aa xs) ae),((zn+2),cZ (aq (E.lk 4)) (zn+1) (.ref AL) none)]) (λj=>ci n3 (zn+2) (zn+1) (.ref AL) (aj .none xs.length) nz) λy n5 u5=>.gen {ws:=[1],i:=5,u:=6,K:=5,cnt:=2,N:=42,orc:=(dz 17 73260063527380070883898786156986368),wa:=[52],big:=true} (f5 v.w n5 (n5+4) (n5+3)) (λE=>[]) λg n7 u7=>.cut {js:=[14,9,0,13],i:=1,u:=2,K:=6,cnt:=4,N:=19,orc:=(dz 4 31704975),big:=true,fo:=[13,9],fa:=[(n5+4),n5]} (.builtin "all.loop" ⟨[.ref n7],[]⟩) (λE=>[(n7,lU v.w g u7),(n5,aj (.ref AL) 0),(AL,ac (aa xs) ae),((n5+4),ln (aq (E.lk 13)) n5)]) (λj=>fj true) λj n8 u8=>.fin {ws:=[9,13],js:=[1,3,2],N:=12,orc:=(dz 1 6),big:=true} (.ok (.ret (.ref (zn+1)))) (λE=>[(52,(dE (AU (n5+3)))),((zn+1),ao zn es2 ep2 t2),(zn,q8)])⟩
theorem uB v AL xs ae es2 ep2 t2 N nz K K2:(Fs v AL xs ae es2 ep2 t2 N nz K K2).GB 76 v:=by
 obtain⟨w0,b1,b2,b3⟩:=v;refine⟨rfl,λzn zu=>?_⟩;cases b1<;>cases nz<;>kernel_rfl
noncomputable def Fq(v:WV)(AL:Addr)(xs:List (Int×Tok))(ae:Nat)(es2:Array (Int×Value))(ep2:Nat)(t2:SetTable)(N:Int)(nz:Bool)(K K2:Addr):Cn:=⟨250,[(AL,ac (aa xs) ae),(52,(dE (iJ K K2)))],.call (.ref 75) ⟨[.ref AL],[(ax,.none)]⟩,λzn zu=>.cut {js:=[3,0],ju:=[3],i:=6,u:=3,K:=6,cnt:=17,N:=116,orc:=(dz 69 6193181259831547302431864458137254059703390736930724530706141258946994553399219718183020621232542817581662632233500701333363492287037573169152),big:=true} (.builtin "set.__init__" ⟨[.ref (zn+1),.ref AL],[]⟩) (λE=>[((zn+1),ao zn #[] 0 (ak [] (!v.b3))),(AL,ac (aa xs) ae)]) (λj=>bu (zn+1) (ao zn es2 ep2 t2)) λj n1 u1=>.cut {js:=[0],K:=6,cnt:=1,N:=14,orc:=(dz 3 81920),big:=true} (.builtin "len" ⟨[.ref AL],[]⟩) (λE=>[(AL,ac (aa xs) ae)]) (λj=>aw N) λj n2 u2=>.cut {js:=[3],K:=6,cnt:=1,N:=13,orc:=(dz 3 81920),big:=true} (.builtin "len" ⟨[.ref (zn+1)],[]⟩) (λE=>[((zn+1),ao zn es2 ep2 t2)]) (λj=>aw N) λj n3 u3=>.cut {js:=[8,0,4],ju:=[8,4],i:=1,K:=6,cnt:=2,N:=22,orc:=(dz 6 309508194946),ps:=[N=N],big:=true} (cj v.w (zn+3) (zn+2) n3) (λE=>[(n3,aj (.ref AL) 0),(AL,ac (aa xs) ae),((zn+2),cZ (aq (E.lk 4)) (zn+1) (.ref AL) none)]) (λj=>ci n3 (zn+2) (zn+1) (.ref AL) (aj .none xs.length) nz) λy n5 u5=>.gen {i:=2,u:=1,K:=5,cnt:=2,N:=31,orc:=(dz 14 27447451826977328871334035456),big:=true} (f5 v.w n5 (n5+1) K) (λE=>[]) λg n7 u7=>.cut {js:=[11,9,0,10],i:=1,u:=2,K:=6,cnt:=4,N:=19,orc:=(dz 4 25363980),big:=true,fo:=[10,9],fa:=[(n5+1),n5]} (.builtin "all.loop" ⟨[.ref n7],[]⟩) (λE=>[(n7,lU v.w g u7),(n5,aj (.ref AL) 0),(AL,ac (aa xs) ae),((n5+1),ln (aq (E.lk 10)) n5)]) (λj=>fj true) λj n8 u8=>.fin {ws:=[9,10],js:=[1,3,2],N:=12,orc:=(dz 1 6),big:=true} (.ok (.ret (.ref (zn+1)))) (λE=>[(52,(dE (iJ K K2))),((zn+1),ao zn es2 ep2 t2),(zn,q8)])⟩
theorem uA v AL xs ae es2 ep2 t2 N nz K K2:(Fq v AL xs ae es2 ep2 t2 N nz K K2).GB 76 v:=by
 obtain⟨w0,b1,b2,b3⟩:=v;refine⟨rfl,λzn zu=>?_⟩;cases b1<;>cases nz<;>kernel_rfl
noncomputable def Hl(v:WV)(S:Addr)(so:Obj)(n ep g slot slotN:Nat)(I L X Z:Addr)(ht:Nat→Int×Tok)(cv:Option Value)(c:Int)(tc:Tok):Cn:=⟨60,[(I,bm (.ref S) n ep slot g),(L,cZ ht X (.ref S) cv),(S,so)],cj v.w Z L I,λzn zu=>.cut {js:=[0,2],ju:=[0],K:=1,N:=7,orc:=(dz 1 1)} (.call (.builtin "set_iterator.__next__") ⟨[.ref I],[]⟩) (λj=>[(I,bm (.ref S) n ep slot g),(S,so)]) (λj=>an I (.int c tc) (bm (.ref S) n ep slotN (g+1))) λj n1 u1=>.tail {ws:=[1],js:=[0,1,2],u:=1,cnt:=3,N:=29,orc:=(dz 7 536871170),wa:=[L]} (cj v.w Z L I) (λE=>[(I,bm (.ref S) n ep slotN (g+1)),(L,cZ (aq (E.lk 1)) X (.ref S) (some (.int c tc))),(S,so)])⟩
theorem zp v S so n ep g slot slotN I L X Z ht cv c tc:(Hl v S so n ep g slot slotN I L X Z ht cv c tc).G v:=Cn.k2 (cz _) (f:=λcv v=>Hl v S so n ep g slot slotN I L X Z ht cv c tc) (λj j j j j j=>by kernel_rfl) cv v
noncomputable def Hp(v:WV)(S:Addr)(so:Obj)(n ep g slot slotN:Nat)(I L X Z:Addr)(ht:Nat→Int×Tok)(cv:Option Value):Cn:=⟨60,[(I,bm (.ref S) n ep slot g),(L,cZ ht X (.ref S) cv),(S,so)],cj v.w Z L I,λzn zu=>.cut {js:=[0,2],ju:=[0],K:=1,N:=7,orc:=(dz 1 1)} (.call (.builtin "set_iterator.__next__") ⟨[.ref I],[]⟩) (λj=>[(I,bm (.ref S) n ep slot g),(S,so)]) (λj=>aE I (bm .none n ep slot g)) λx n1 u1=>.fin {js:=[0,1],cnt:=1,N:=7,orc:=(dz 1 5)} (.ok .next) (λE=>[(I,bm .none n ep slot g),(L,cZ ht X (.ref S) cv)])⟩
theorem zt v S so n ep g slot slotN I L X Z ht cv:(Hp v S so n ep g slot slotN I L X Z ht cv).G v:=Cn.k2 (cz _) (f:=λcv v=>Hp v S so n ep g slot slotN I L X Z ht cv) (λj j j j j j=>by kernel_rfl) cv v
noncomputable def Hm(v:WV)(AL:Addr)(items:Array Value)(ae g:Nat)(I L X Z:Addr)(ht:Nat→Int×Tok)(cv:Option Value)(c:Int)(tc:Tok):Cn:=⟨60,[(I,aj (.ref AL) g),(L,cZ ht X (.ref AL) cv),(AL,ac items ae)],cj v.w Z L I,λzn zu=>.cut {js:=[0,2],ju:=[0],K:=1,N:=7,orc:=(dz 1 1)} (.call (.builtin "list_iterator.__next__") ⟨[.ref I],[]⟩) (λj=>[(I,aj (.ref AL) g),(AL,ac items ae)]) (λj=>an I (.int c tc) (aj (.ref AL) (g+1))) λj n1 u1=>.tail {ws:=[1],js:=[0,1,2],u:=1,cnt:=3,N:=29,orc:=(dz 7 536871170),wa:=[L]} (cj v.w Z L I) (λE=>[(I,aj (.ref AL) (g+1)),(L,cZ (aq (E.lk 1)) X (.ref AL) (some (.int c tc))),(AL,ac items ae)])⟩
theorem zq v AL items ae g I L X Z ht cv c tc:(Hm v AL items ae g I L X Z ht cv c tc).G v:=Cn.k2 (cz _) (f:=λcv v=>Hm v AL items ae g I L X Z ht cv c tc) (λj j j j j j=>by kernel_rfl) cv v
noncomputable def Hq(v:WV)(AL:Addr)(items:Array Value)(ae g:Nat)(I L X Z:Addr)(ht:Nat→Int×Tok)(cv:Option Value):Cn:=⟨60,[(I,aj (.ref AL) g),(L,cZ ht X (.ref AL) cv),(AL,ac items ae)],cj v.w Z L I,λzn zu=>.cut {js:=[0,2],ju:=[0],K:=1,N:=7,orc:=(dz 1 1)} (.call (.builtin "list_iterator.__next__") ⟨[.ref I],[]⟩) (λj=>[(I,aj (.ref AL) g),(AL,ac items ae)]) (λj=>aE I (aj .none g)) λx n1 u1=>.fin {js:=[0,1],cnt:=1,N:=7,orc:=(dz 1 5)} (.ok .next) (λE=>[(I,aj .none g),(L,cZ ht X (.ref AL) cv)])⟩
theorem zv v AL items ae g I L X Z ht cv:(Hq v AL items ae g I L X Z ht cv).G v:=Cn.k2 (cz _) (f:=λcv v=>Hq v AL items ae g I L X Z ht cv) (λj j j j j j=>by kernel_rfl) cv v
structure HP (v:WV) (id:String) (I src:Addr) (so:Obj) (io:Nat→Obj) (ie:Obj) (P:List Value):Prop where
 next:∀g (h:g<P.length),aS v.w 20 [(I,io g),(src,so)] (.call (.builtin id) ⟨[.ref I],[]⟩) [I] (an I P[g] (io (g+1)))
 stop:aS v.w 20 [(I,io P.length),(src,so)] (.call (.builtin id) ⟨[.ref I],[]⟩) [I] (aE I ie)
theorem bh.wlk{v:WV}{I S:Addr}{so:Obj}{es:Array (Int×Value)}{ep:Nat}{t:SetTable}{P:List Value}{sl:Nat→Nat}(k:bh v S so es ep t P sl):
  HP v "set_iterator.__next__" I S so (λg=>bm (.ref S) es.size ep (sl g) g) (bm .none es.size ep (sl P.length) P.length) P:=⟨λg h=>k.next h,k.stop⟩
theorem ke(v:WV)(I AL:Addr)(P:List Value)(ae:Nat):HP v "list_iterator.__next__" I AL (ac P.toArray ae) (λg=>aj (.ref AL) g) (aj .none P.length) P:=
 ⟨λg h=>aP v.w (by simp[h]),bE v.w (by simp)⟩
theorem bQ{α:Type}{P:List α}{g:Nat}{x:α}{rest:List α}(hd:P.drop g=x::rest):∃h:g<P.length,P[g]=x∧P.drop (g+1)=rest:=by
 have hg:g<P.length:=by
  have:=congrArg List.length hd
  rw[List.length_drop]at this
  simp at this
  omega
 refine⟨hg,?_,?_⟩
 ·have:=congrArg (λl=>l[0]?) hd
  simpa [List.getElem?_drop,List.getElem?_eq_getElem hg]using this
 ·rw[←List.tail_drop,hd];rfl
theorem cq{α:Type}{P:List α}{g:Nat}(hd:P.drop g=[])(hg:g≤P.length):g=P.length:=by
 have:=congrArg List.length hd
 rw[List.length_drop]at this
 simp at this
 omega
theorem ui(v:WV){S:Addr}{so:Obj}{es:Array (Int×Value)}{ep:Nat}{t:SetTable}{P:List Value}{sl:Nat→Nat}(k:bh v S so es ep t P sl)(I L X Z:Addr)(hP:∀x∈P,∃(c:Int) (t:Tok),x=.int c t){A:Around}(hA:cp A 60):∀(rest:List Value) (g:Nat) (ht:Nat→Int×Tok) (cv:Option Value) (s:Shared) (R:Result→Shared→Prop),P.drop g=rest→g≤P.length→
  Kn (KB v.w) s [(I,bm (.ref S) es.size ep (sl g) g),(L,cZ ht X (.ref S) cv),(S,so)]→
  (∀ht' cv' s',ah s s' [I,L]→Kn (KB v.w) s' [(I,bm .none es.size ep (sl P.length) P.length),(L,cZ ht' X (.ref S) cv')]→cv'.isSome=(cv.isSome || !rest.isEmpty)→R (.ok .next) s')→codeAny (model pr v.w) A (cj v.w Z L I) R s:=by
 intro rest
 induction rest with
 |nil=>
  intro g ht cv s R hd hg K H
  have hg':=cq hd hg
  subst hg'
  refine(zt v S so es.size ep P.length (sl P.length) (sl (P.length+1)) I L X Z ht cv).go (W:=[I,L]) hA K [0,1] ?_
  refine kc (λj=>(k.wlk (I:=I)).stop) λx s1 s2 j=>?_
  exact kf λE s3 F3 K3 j=>H ht cv s3 F3 K3 (by simp)
 |cons x rest ih=>
  intro g ht cv s R hd hg K H
  obtain⟨hg',hx,hd'⟩:=bQ hd
  obtain⟨c,tc,e⟩:=hP x (hx▸List.getElem_mem hg')
  have Cn:=(k.wlk (I:=I)).next g hg'
  rw[hx,e]at Cn
  refine(zp v S so es.size ep g (sl g) (sl (g+1)) I L X Z ht cv c tc).go (W:=[I,L]) hA K [0,1] ?_
  refine kc (λj=>Cn) λy s1 s2 j=>?_
  exact kt λE s3 F K3=>ih (g+1) _ _ s3 R hd' hg' K3 λht2 cv2 s4 F4 K4 e4=>H ht2 cv2 s4 (F.trans' F4) K4 (by simp at e4 ⊢;exact e4)
theorem li(v:WV){S:Addr}{so:Obj}{es:Array (Int×Value)}{ep:Nat}{t:SetTable}{P:List Value}{sl:Nat→Nat}(k:bh v S so es ep t P sl)(I L X Z:Addr)(ht:Nat→Int×Tok)(hP:∀x∈P,∃(c:Int) (t:Tok),x=.int c t):
  aS v.w 60 [(I,bm (.ref S) es.size ep 0 0),(S,so),(L,cZ ht X (.ref S) none)] (cj v.w Z L I) [I,L] (ci I L X (.ref S) (bm .none es.size ep (sl P.length) P.length) (!P.isEmpty)):=by
 intro A s R hA hk _ hR
 have hk2:Kn (KB v.w) s [(I,bm (.ref S) es.size ep (sl 0) 0),(L,cZ ht X (.ref S) none),(S,so)]:=by
  rw[k.wk.sl0]
  exact hk.perm (.cons _ (.swap _ _ _))
 refine ui v k I L X Z hP hA P 0 ht none s R rfl (Nat.zero_le _) hk2 λht' cv' s' F K e=>?_
 cases cv' with
 |none=>
  have e':P.isEmpty=true:=by simpa using e
  refine hR ⟨ht',.none⟩ s' F ?_ (by simp[ci]) trivial
  simp only[ci,e',r7,List.append_nil]
  exact K
 |some c=>
  have e':P.isEmpty=false:=by simpa using e
  refine hR ⟨ht',c⟩ s' F ?_ (by simp[ci]) trivial
  simp only[ci,e',r7,List.append_nil]
  exact K
theorem uj(v:WV)(AL:Addr)(P:List Value)(ae:Nat)(I L X Z:Addr)(hP:∀x∈P,∃(c:Int) (t:Tok),x=.int c t){A:Around}(hA:cp A 60):∀(rest:List Value) (g:Nat) (ht:Nat→Int×Tok) (cv:Option Value) (s:Shared) (R:Result→Shared→Prop),P.drop g=rest→g≤P.length→
  Kn (KB v.w) s [(I,aj (.ref AL) g),(L,cZ ht X (.ref AL) cv),(AL,ac P.toArray ae)]→
  (∀ht' cv' s',ah s s' [I,L]→Kn (KB v.w) s' [(I,aj .none P.length),(L,cZ ht' X (.ref AL) cv')]→cv'.isSome=(cv.isSome || !rest.isEmpty)→R (.ok .next) s')→codeAny (model pr v.w) A (cj v.w Z L I) R s:=by
 intro rest
 induction rest with
 |nil=>
  intro g ht cv s R hd hg K H
  have hg':=cq hd hg
  subst hg'
  refine(zv v AL P.toArray ae P.length I L X Z ht cv).go (W:=[I,L]) hA K [0,1] ?_
  refine kc (λj=>(ke v I AL P ae).stop) λx s1 s2 j=>?_
  exact kf λE s3 F3 K3 j=>H ht cv s3 F3 K3 (by simp)
 |cons x rest ih=>
  intro g ht cv s R hd hg K H
  obtain⟨hg',hx,hd'⟩:=bQ hd
  obtain⟨c,tc,e⟩:=hP x (hx▸List.getElem_mem hg')
  have Cn:=(ke v I AL P ae).next g hg'
  rw[hx,e]at Cn
  refine(zq v AL P.toArray ae g I L X Z ht cv c tc).go (W:=[I,L]) hA K [0,1] ?_
  refine kc (λj=>Cn) λy s1 s2 j=>?_
  exact kt λE s3 F K3=>ih (g+1) _ _ s3 R hd' hg' K3 λht2 cv2 s4 F4 K4 e4=>H ht2 cv2 s4 (F.trans' F4) K4 (by simp at e4 ⊢;exact e4)
theorem rT(v:WV)(AL:Addr)(P:List Value)(ae:Nat)(I L X Z:Addr)(ht:Nat→Int×Tok)(hP:∀x∈P,∃(c:Int) (t:Tok),x=.int c t):
  aS v.w 60 [(I,aj (.ref AL) 0),(AL,ac P.toArray ae),(L,cZ ht X (.ref AL) none)] (cj v.w Z L I) [I,L] (ci I L X (.ref AL) (aj .none P.length) (!P.isEmpty)):=by
 intro A s R hA hk _ hR
 have hk2:Kn (KB v.w) s [(I,aj (.ref AL) 0),(L,cZ ht X (.ref AL) none),(AL,ac P.toArray ae)]:=by
  skip
  exact hk.perm (.cons _ (.swap _ _ _))
 refine uj v AL P ae I L X Z hP hA P 0 ht none s R rfl (Nat.zero_le _) hk2 λht' cv' s' F K e=>?_
 cases cv' with
 |none=>
  have e':P.isEmpty=true:=by simpa using e
  refine hR ⟨ht',.none⟩ s' F ?_ (by simp[ci]) trivial
  simp only[ci,e',r7,List.append_nil]
  exact K
 |some c=>
  have e':P.isEmpty=false:=by simpa using e
  refine hR ⟨ht',c⟩ s' F ?_ (by simp[ci]) trivial
  simp only[ci,e',r7,List.append_nil]
  exact K
theorem c5:Slot "set_iterator" "__iter__" "set_iterator.__iter__":=
 .of (owner:="set_iterator") (n:="__iter__") (by rw[typeLookup_type,builtinLookup_eq_fast];kernel_rfl) (by decide+kernel) (by decide+kernel) (by decide+kernel)
  (by first|exact .inl (by decide+kernel)|exact .inr (by decide+kernel)) (by rw[isSubtype_type];kernel_rfl)
theorem eQ:entryFor table "set_iterator.__iter__"=some Builtin.«dict_keyiterator.__iter__»:=
 entryFor_alias (id':="dict_keyiterator.__iter__") (by kernel_rfl) rfl (by decide+kernel) (by kernel_rfl)
theorem fE(a:Value):argsOk "set_iterator.__iter__" ⟨[a],[]⟩:=by unfold argsOk;kernel_rfl
section
variable {v:WV} {A:Around} {E:Value→Shared→Prop} {s:Shared} {I S:Addr} {so:Obj} {es:Array (Int×Value)} {ep:Nat} {t:SetTable} {P:List Value} {sl:Nat→Nat}
theorem lF(k:bh v S so es ep t P sl){g:Nat}(h:g<P.length){Q:Option Value→Shared→Prop}(o1:s.heap.get? I=some (bm (.ref S) es.size ep (sl g) g))(o2:s.heap.get? S=some so)
  (hQ:∀h',h'.get? I=some (bm (.ref S) es.size ep (sl (g+1)) (g+1))→(∀b o,b≠I→s.heap.get? b=some o→h'.get? b=some o)→Q (some P[g]) {s with heap:=h'}):
  wpAny (model pr v.w) A (pyNext (.ref I)) Q E s:=by
 have hT:s.TypeIs (.ref I) "set_iterator":=⟨_,o1,rfl⟩
 unfold pyNext
 refine wpAny_bind (wpAny_attempt (wpAny_callSpecial?_slot (name:=Str.ofString "__next__") hT aF
  (wpAny_call_entry aF hT bD ?_ (bN _))))
 show wpAny _ _ (fieldsOf (.ref I)>>=_) _ _ s
 refine wpAny_bind (wpAny_fieldsOf o1 rfl ?_)
 show wpAny _ _ (setEntries S>>=_) _ _ s
 refine wpAny_bind (wpAny_setEntries_of o2 k.data k.fit ?_)
 show wpAny _ _ (if((es.size:Int)!=(es.size:Int))=true then _ else _) _ _ _
 rw[if_neg (by simp)]
 show wpAny _ _ (setNext S ((sl g:Int).toNat) ((g:Int).toNat) ((ep:Int).toNat)>>=_) _ _ _
 simp only[Int.toNat_natCast]
 refine wpAny_bind (cE o2 k.data k.fit k.plain (by rw[bj];exact k.led) ?_)
 rw[bj,k.wk.step g h]
 refine wpAny_bind (wpAny_setField o1 rfl (by simp) ?_)
 have o3:=cF 0 (rawInt (sl (g+1))) o1
 refine wpAny_bind (wpAny_setField (s:={s with heap:=_}) o3 rfl (by simp) ?_)
 have o4:=cF 1 (rawInt ((g:Int)+1)) o3
 exact wpAny_pure ⟨_,rfl,wpAny_pure (hQ _ o4 λb o hb e=>by rw[Heap.get?_update_ne _ _ _ _ hb,Heap.get?_update_ne _ _ _ _ hb];exact e)⟩
theorem gX(hh:A.handled=none)(k:bh v S so es ep t P sl){Q:Option Value→Shared→Prop}(o1:s.heap.get? I=some (bm (.ref S) es.size ep (sl P.length) P.length))(o2:s.heap.get? S=some so)
  (hQ:∀h',(∀b o,b≠I→s.heap.get? b=some o→h'.get? b=some o)→Q none {s with heap:=h'}):
  wpAny (model pr v.w) A (pyNext (.ref I)) Q E s:=by
 have hT:s.TypeIs (.ref I) "set_iterator":=⟨_,o1,rfl⟩
 unfold pyNext
 refine wpAny_bind (wpAny_attempt (wpAny_callSpecial?_slot (name:=Str.ofString "__next__") hT aF
  (wpAny_call_entry aF hT bD ?_ (bN _))))
 show wpAny _ _ (fieldsOf (.ref I)>>=_) _ _ s
 refine wpAny_bind (wpAny_fieldsOf o1 rfl ?_)
 show wpAny _ _ (setEntries S>>=_) _ _ s
 refine wpAny_bind (wpAny_setEntries_of o2 k.data k.fit ?_)
 show wpAny _ _ (if((es.size:Int)!=(es.size:Int))=true then _ else _) _ _ _
 rw[if_neg (by simp)]
 show wpAny _ _ (setNext S ((sl P.length:Int).toNat) ((P.length:Int).toNat) ((ep:Int).toNat)>>=_) _ _ _
 simp only[Int.toNat_natCast]
 refine wpAny_bind (cE o2 k.data k.fit k.plain (by rw[bj];exact k.led) ?_)
 rw[bj,k.wk.stop]
 refine wpAny_bind (wpAny_setField o1 rfl (by simp) ?_)
 have o3:=cF 2 .none o1
 show wpAny _ _ (newExc (.type "StopIteration") []>>=_) _ _ _
 refine wpAny_bind ?_
 simp only[newExc,newTuple]
 refine wpAny_bind (wpAny_newObj_type ?_ (by size_fits))
 refine wpAny_bind (m:=firstArgMember _ _) (wpAny_of_eq (a:=Value.none) (by first|rfl|(simp only[firstArgMember];rfl)) ?_)
 refine wpAny_newObj_type ?_ (by size_fits)
 simp only[raiseNew]
 refine wpAny_bind (wpAny_handled ?_)
 rw[show A.in1.handled=none from hh]
 refine wpAny_bind (wpAny_pure (wpAny_throw ?_))
 refine wpAny_bind (wpAny_isInstance (T:="StopIteration") (b:=true) ⟨_,Heap.get?_push_size _ rfl,rfl⟩ isSubtype_stop ?_)
 refine wpAny_pure (hQ _ (λb o hb e=>Heap.get?_push_of_some _ (Heap.get?_push_of_some _ ?_)))
 rw[Heap.get?_update_ne _ _ _ _ hb];exact e
theorem lH{o:Value}{n slot g:Nat}{Q:Value→Shared→Prop}(o1:s.heap.get? I=some (bm o n ep slot g))(h:Q (.ref I) s):
  wpAny (model pr v.w) A (pyIter (.ref I)) Q E s:=by
 have hT:s.TypeIs (.ref I) "set_iterator":=⟨_,o1,rfl⟩
 refine wpAny_pyIter_slot hT c5 (wpAny_call_entry c5 hT eQ ?_ (fE _))
 show wpAny _ _ (ret (.ref I)) _ _ s
 exact wpAny_pure ⟨_,rfl,"set_iterator",_,hT,aF.lookup,h⟩
theorem Walks.set(hh:A.handled=none)(k:bh v S so es ep t P sl)(hne:S≠I):
  Walks pr v.w A I [I,S] [I] P.length (λi y=>P[i]?=some y) (λi h=>h.get? I=some (bm (.ref S) es.size ep (sl i) i)∧h.get? S=some so) where
 sub:=λb hb=>by simp at hb;simp[hb]
 frame:=λj j j st hk=>⟨hk I (by simp) _ st.1,hk S (by simp) _ st.2⟩
 item:=λi s Q E hi st hQ=>lF k hi st.1 st.2 λh' h1 h2=>hQ _ h' s.toks (by simp[hi]) ⟨h1,h2 S so hne st.2⟩ λb o hb e=>h2 b o (λh=>hb (by simp[h])) e
 done:=λs Q E st hQ=>gX hh k st.1 st.2 λh' h2=>hQ h' s.toks λb o hb e=>h2 b o (λh=>hb (by simp[h])) e
 self:=λj j j j st hQ=>lH st.1 hQ
end
theorem r4(v:WV)(a C I K:Addr)(g:Nat)(t1:Tok){S:Addr}{so:Obj}{es:Array (Int×Value)}{ep:Nat}{t:SetTable}{P:List Value}{sl:Nat→Nat}(k:bh v S so es ep t P sl)(hP:∀x∈P,∃(c:Int) (t:Tok),x=.int c t∧0≤c)(ht:Nat→Int×Tok):
  Ct v.w 40 [(a,lU v.w g t1),(I,bm (.ref S) es.size ep 0 0),(S,so),(C,ln ht I)] (λs=>s.gens[g]?=some (.fresh (f5 v.w I C K))∧s.heap.objs.size=a+1)
   (.builtin "all.loop" ⟨[.ref a],[]⟩) [C,I] (fj true) bP:=by
 intro A s R hA hk ⟨hg,hsz⟩ hR
 have oa:=hk.obj (a,lU v.w g t1) (mN 0 rfl)
 have oI:=hk.obj (I,bm (.ref S) es.size ep 0 0) (mN 1 rfl)
 have oL:=hk.obj (S,so) (mN 2 rfl)
 have oC:=hk.obj (C,ln ht I) (mN 3 rfl)
 have cI:=dD hk (p:=(I,bm (.ref S) es.size ep 0 0)) (mN 1 rfl)
 have cL:=dD hk (p:=(S,so)) (mN 2 rfl)
 have cC:=dD hk (p:=(C,ln ht I)) (mN 3 rfl)
 have ca:=dD hk (p:=(a,lU v.w g t1)) (mN 0 rfl)
 have aI:=hk.ne 0 1 rfl rfl rfl
 have aL:=hk.ne 0 2 rfl rfl rfl
 have aC:=hk.ne 0 3 rfl rfl rfl
 have IL:=hk.ne 1 2 rfl rfl rfl
 have IC:=hk.ne 1 3 rfl rfl rfl
 have LC:=hk.ne 2 3 rfl rfl rfl
 have kk:=vM v C K
 simp only[Prod.mk.injEq]at kk
 have G:uV s a g C I _ (gZ (cG v.w)).2 cO (vp (gZ (cG v.w)).1).2 (aX (cG v.w)) (kB (cG v.w)) (eK (iu v.w) (aX (cG v.w)) [] C K) _:=
  ⟨⟨_,_,_,oa,rfl,rfl,rfl⟩,by rw[hg];unfold f5;exact congrArg (λe=>some (GenState.fresh (.compStart e 0 (.ref I) .none (eK (iu v.w) (aX (cG v.w)) [] C K)))) (hH v),lW oC,eJ hk,rfl,tT v C K,kk.1,kk.2⟩
 refine(iZ (hA.le (by omega)) G (n:=P.length) (λA' h'=>Walks.set h' k (Ne.symm IL)) ⟨by rw[k.wk.sl0];exact oI,oL⟩ ?_ ?_ ?_ (b:=true) ?_).1 rfl λs' hm=>?_
 ·exact ni ca (ni aC (ni aI (ni aL nofun)))
 ·exact ni cC (ni (Ne.symm IC) (ni (Ne.symm LC) nofun))
 ·exact ni (Ne.symm cI) nofun
 ·intro A' E' i y s₂ m₂ h' hP' hn hv _
  obtain⟨c,tc,rfl,hc⟩:=hP y (List.mem_of_getElem? hP')
  refine l6 (by decide+kernel) kk.1 (tT v C K) hn hv rfl (n:=0) (λQ hQ=>?_) (by simp[hc])
  rw[eval_Constant]
  exact wpAny_mkInt (hQ _ _)
 ·exact hR () s' (eM hm oa (ni aC (ni aI nofun)) hsz) ⟨λx o e=>hm.heap x o (ni (hk.offne 3 rfl e) (ni (hk.offne 1 rfl e) nofun)) (hk.base x o e),(λj h=>nomatch h),(λj h=>nomatch h),List.nodup_nil,Nat.lt_of_lt_of_le hk.toks hm.toks⟩ (λj h=>nomatch h) trivial
theorem nv(v:WV):dc v.w=.GeneratorExp (.Compare (.Name cO (vp (HC (gH (dc v.w)))).2) [.GtE] [.Name ax (vp (Ft (gH (dc v.w)))).2] (HB (gH (dc v.w)))) [⟨.Name cO (vp (gZ (dc v.w)).1).2,(gZ (dc v.w)).2,[],0⟩] (aX (dc v.w)) (kB (dc v.w)):=by kernel_rfl
theorem BW(v:WV)(C K Z:Addr):(eK (iu v.w) (aX (dc v.w)) [(ax,Z)] C K).kindOf cO=some .local:=by kernel_rfl
theorem BV(v:WV)(C K Z:Addr):((eK (iu v.w) (aX (dc v.w)) [(ax,Z)] C K).scope.kind,(eK (iu v.w) (aX (dc v.w)) [(ax,Z)] C K).scope.isCoroutine)=(.function,false):=by kernel_rfl
theorem BU(v:WV)(C K Z:Addr):(eK (iu v.w) (aX (dc v.w)) [(ax,Z)] C K).kindOf ax=some .free:=by kernel_rfl
theorem rZ(v:WV)(a C I K Z:Addr)(g:Nat)(t1:Tok)(n:Int)(tn:Tok){S:Addr}{so:Obj}{es:Array (Int×Value)}{ep:Nat}{t:SetTable}{P:List Value}{sl:Nat→Nat}(k:bh v S so es ep t P sl)(hP:∀x∈P,∃(c:Int) (t:Tok),x=.int c t∧c<n)(ht:Nat→Int×Tok):
  Ct v.w 40 [(a,lU v.w g t1),(I,bm (.ref S) es.size ep 0 0),(S,so),(C,ln ht I),(Z,af (.int n tn))] (λs=>s.gens[g]?=some (.fresh (mX v.w I C K Z))∧s.heap.objs.size=a+1)
   (.builtin "any.loop" ⟨[.ref a],[]⟩) [C,I] (fj false) bP:=by
 intro A s R hA hk ⟨hg,hsz⟩ hR
 have oa:=hk.obj (a,lU v.w g t1) (mN 0 rfl)
 have oI:=hk.obj (I,bm (.ref S) es.size ep 0 0) (mN 1 rfl)
 have oL:=hk.obj (S,so) (mN 2 rfl)
 have oC:=hk.obj (C,ln ht I) (mN 3 rfl)
 have oZ:=hk.obj (Z,af (.int n tn)) (mN 4 rfl)
 have cI:=dD hk (p:=(I,bm (.ref S) es.size ep 0 0)) (mN 1 rfl)
 have cL:=dD hk (p:=(S,so)) (mN 2 rfl)
 have cC:=dD hk (p:=(C,ln ht I)) (mN 3 rfl)
 have ca:=dD hk (p:=(a,lU v.w g t1)) (mN 0 rfl)
 have aI:=hk.ne 0 1 rfl rfl rfl
 have aL:=hk.ne 0 2 rfl rfl rfl
 have aC:=hk.ne 0 3 rfl rfl rfl
 have aZ:=hk.ne 0 4 rfl rfl rfl
 have IL:=hk.ne 1 2 rfl rfl rfl
 have IC:=hk.ne 1 3 rfl rfl rfl
 have IZ:=hk.ne 1 4 rfl rfl rfl
 have LC:=hk.ne 2 3 rfl rfl rfl
 have LZ:=hk.ne 2 4 rfl rfl rfl
 have CZ:=hk.ne 3 4 rfl rfl rfl
 have kk:=BV v C K Z
 simp only[Prod.mk.injEq]at kk
 have G:uV s a g C I _ (gZ (dc v.w)).2 cO (vp (gZ (dc v.w)).1).2 (aX (dc v.w)) (kB (dc v.w)) (eK (iu v.w) (aX (dc v.w)) [(ax,Z)] C K) _:=
  ⟨⟨_,_,_,oa,rfl,rfl,rfl⟩,by rw[hg];unfold mX;exact congrArg (λe=>some (GenState.fresh (.compStart e 0 (.ref I) .none (eK (iu v.w) (aX (dc v.w)) [(ax,Z)] C K)))) (nv v),lW oC,eJ hk,rfl,BW v C K Z,kk.1,kk.2⟩
 refine(iZ (hA.le (by omega)) G (n:=P.length) (fp:=[I,S,Z]) (λA' h'=>(Walks.set h' k (Ne.symm IL)).mono_fp (by simp)) ⟨by rw[k.wk.sl0];exact oI,oL⟩ ?_ ?_ ?_ (b:=false) ?_).2 rfl λs' hm=>?_
 ·exact ni ca (ni aC (ni aI (ni aL (ni aZ nofun))))
 ·exact ni cC (ni (Ne.symm IC) (ni (Ne.symm LC) (ni CZ nofun)))
 ·exact ni (Ne.symm cI) nofun
 ·intro A' E' i y s₂ m₂ h' hP' hn hv hkeep
  obtain⟨c,tc,rfl,hc⟩:=hP y (List.mem_of_getElem? hP')
  refine l6 (by decide+kernel) kk.1 (BW v C K Z) hn hv rfl (n:=n) (λQ hQ=>?_) (by rw[eq_comm,decide_eq_false_iff_not];omega)
  rw[arm_eval_Name]
  refine wpAny_bind (wpAny_standAt ?_)
  rw[show(ax==("__debug__":Str))=false by decide+kernel]
  simp only[Bool.false_eq_true,↓reduceIte]
  refine wpAny_loadName_free (c:=Z) (v:=.int n tn) kk.1 (BU v C K Z) ?_ ?_ (hQ s₂.toks tn)
  ·kernel_rfl
  ·exact⟨_,hkeep Z (by simp) (by simp[Ne.symm IZ]) _ oZ,rfl⟩
 ·exact hR () s' (eM hm oa (ni aC (ni aI nofun)) hsz) ⟨λx o e=>hm.heap x o (ni (hk.offne 3 rfl e) (ni (hk.offne 1 rfl e) nofun)) (hk.base x o e),(λj h=>nomatch h),(λj h=>nomatch h),List.nodup_nil,Nat.lt_of_lt_of_le hk.toks hm.toks⟩ (λj h=>nomatch h) trivial
theorem fX(w:World){L:Addr}{items:Array Value}{ep:Nat}(h:(items.size:Int)<2 ^ 63):aS w 20 [(L,ac items ep)] (.builtin "len" ⟨[.ref L],[]⟩) [] (aw items.size):=by
 intro A s R hA hk _ hR
 have o1:s.heap.get? L=some (ac items ep):=hk.obj (L,ac items ep) (by simp)
 refine codeAny_builtin entry_len ?_
 rw[Around.under_plainId plain_len _]
 have Fr:ah s {s with toks:=s.toks+1+1} []:=⟨λh=>h,rfl,rfl,Nat.le_refl _,Nat.le_add_right s.toks 2,λb o e j=>e⟩
 refine wpAny_mono (wpAny_len_body_list (E:=λe s'=>R (.error e) s') (Q:=λr s'=>R (.ok (.ret r)) s') ⟨_,o1,rfl,_,rfl⟩ h
  (hR (s.toks+1) {s with toks:=s.toks+1+1} Fr ⟨hk.base,λp hp=>by simp[aw]at hp,λp hp=>by simp[aw]at hp,by simp[aw],Nat.lt_of_lt_of_le hk.toks (Nat.le_add_right s.toks 2)⟩ (by simp[aw]) trivial)) ?_ ?_
 ·rintro f s' ⟨r,rfl,h⟩
  exact h
 ·exact λe s' h=>h
noncomputable def eA(T:Addr→Array Value)(es:Array (Int×Value))(ep:Nat)(t:SetTable):bS (Addr×Addr):={res:=λy=>.ok (.ret (.ref (y.1+1))),upd:=λy=>[(52,dE (T y.2))],add:=λy=>[(y.1+1,ao y.1 es ep t),(y.1,q8)]}
theorem Bm.xs_mem{b:Bm}{t:Nat→Tok}{p:Int×Tok}(h:p∈b.xs t):∃c∈b.l,p=((c:Int),t c):=by
 unfold Bm.xs at h
 obtain⟨c,hc,rfl⟩:=List.mem_map.mp h
 exact⟨c,hc,rfl⟩
theorem Bm.l_le(b:Bm):b.l.length≤4:=by cases b<;>exact Nat.le_of_ble_eq_true rfl
theorem Bm.l_lt(b:Bm):∀c∈b.l,c<4:=by cases b<;>decide
theorem Bm.arr_size(b:Bm)(t:Nat→Tok):(aa (b.xs t)).size=b.l.length:=by simp[aa,Bm.xs]
theorem nt(v:WV)(b:Bm)(AL:Addr)(t:Nat→Tok)(ae:Nat):aS v.w 20 [(AL,ac (aa (b.xs t)) ae)] (.builtin "len" ⟨[.ref AL],[]⟩) [] (aw b.l.length):=by
 have h:=fX v.w (L:=AL) (items:=aa (b.xs t)) (ep:=ae) (by have:=b.l_le;rw[b.arr_size];omega)
 rw[b.arr_size]at h
 exact h
noncomputable abbrev xP(xs:List (Int×Tok)):List Value:=xs.map λp=>Value.int p.1 p.2
theorem rS(v:WV)(AL:Addr)(xs:List (Int×Tok))(ae:Nat)(I L X Z:Addr)(ht:Nat→Int×Tok):
  aS v.w 60 [(I,aj (.ref AL) 0),(AL,ac (aa xs) ae),(L,cZ ht X (.ref AL) none)] (cj v.w Z L I) [I,L] (ci I L X (.ref AL) (aj .none xs.length) (!(xP xs).isEmpty)):=by
 have:=rT v AL (xP xs) ae I L X Z ht (λx hx=>by obtain⟨p,_,rfl⟩:=List.mem_map.mp hx;exact⟨_,_,rfl⟩)
 rw[List.length_map]at this
 exact this
theorem Ao(v:WV)(b:Bm)(AL:Addr)(t:Nat→Tok)(ae:Nat):aS v.w 250 [(AL,ac (aa (b.xs t)) ae),(52,dE #[])] (.call (.ref 75) ⟨[.ref AL],[(ax,.none)]⟩) [52] (eA AU (ai b.l t) b.l.length (ak b.l (!v.b3))):=by
 refine(uB v AL (b.xs t) ae (ai b.l t) b.l.length (ak b.l (!v.b3)) b.l.length (!(xP (b.xs t)).isEmpty) 0 0).ct [1] λA s R j j j hR=>?_
 refine kc (λE=>DA v b _ _ AL t ae) λj j j j=>kc (λE=>nt v b AL t ae) λj j j j=>kc (λE=>fY v b _ _ _ t) λj j j j=>kc (hps:=⟨rfl,trivial⟩) (λE=>rS v AL (b.xs t) ae _ _ _ _ _) λj j s8 j=>kg λj s9 j j g9=>?_
 refine At (λE=>r5 v _ _ _ AL (s8.heap.objs.size+3) _ _ (b.xs t) (λp hp=>by obtain⟨c,_,rfl⟩:=Bm.xs_mem hp;simp) ae _) (λj g z=>⟨d7 (g.trans g9),z⟩) λj j j j=>kr hR λj=>(s.heap.objs.size,s8.heap.objs.size+3)
theorem rX(v:WV)(b:Bm)(AL:Addr)(t:Nat→Tok)(ae:Nat)(K K2:Addr):aS v.w 250 [(AL,ac (aa (b.xs t)) ae),(52,dE (iJ K K2))] (.call (.ref 75) ⟨[.ref AL],[(ax,.none)]⟩) [52] (eA (λj=>iJ K K2) (ai b.l t) b.l.length (ak b.l (!v.b3))):=by
 refine(uA v AL (b.xs t) ae (ai b.l t) b.l.length (ak b.l (!v.b3)) b.l.length (!(xP (b.xs t)).isEmpty) K K2).ct [1] λA s R j j j hR=>?_
 refine kc (λE=>DA v b _ _ AL t ae) λj j j j=>kc (λE=>nt v b AL t ae) λj j j j=>kc (λE=>fY v b _ _ _ t) λj j j j=>kc (hps:=⟨rfl,trivial⟩) (λE=>rS v AL (b.xs t) ae _ _ _ _ _) λj j s8 j=>kg λj s9 j j g9=>?_
 refine At (λE=>r5 v _ _ _ AL K _ _ (b.xs t) (λp hp=>by obtain⟨c,_,rfl⟩:=Bm.xs_mem hp;simp) ae _) (λj g z=>⟨d7 (g.trans g9),z⟩) λj j j j=>kr hR λj=>(s.heap.objs.size,K)
theorem fD(b:Bm)(t:Nat→Tok)(led:Bool):(ak b.l led).fits (ai b.l t).size=true:=by cases b<;>rfl
theorem gQ(v:WV)(b:Bm)(S SD:Addr)(ep:Nat)(t:Nat→Tok):∃P sl,bh v S (ao SD (ai b.l t) ep (ak b.l (!v.b3))) (ai b.l t) ep (ak b.l (!v.b3)) P sl∧∀x∈P,∃c∈b.l,x=Value.int (c:Int) (t c):=by
 have key:∀P:List Value,P.Perm ((ai b.l t).toList.map (·.2))→∀x∈P,∃c∈b.l,x=Value.int (c:Int) (t c):=λP h x hx=>by
  have:=h.mem_iff.mp hx
  simp only[ai,List.map_map,List.mem_map,Function.comp]at this
  obtain⟨c,hc,rfl⟩:=this
  exact⟨c,hc,rfl⟩
 cases hb:v.b3 with
 |true=>
  have w:=my (v.w.params.setOrder S ep) (ai b.l t) (ak b.l (!true))
  exact⟨_,_,⟨rfl,fD ..,rfl,(λh=>absurd (hb.symm.trans h) (by decide)),(by rw[hb];exact w)⟩,key _ w.perm⟩
 |false=>
  have e:b.l=gh b.n:=by cases b<;>decide+kernel
  have hn:b.n<16:=by cases b<;>decide
  have w:=pa (v.w.params.setOrder S ep) _ hn t (!false)
  rw[←e]at w
  exact⟨_,_,⟨rfl,fD ..,rfl,λj=>rfl,(by rw[hb];exact w)⟩,key _ w.perm⟩
theorem eE(b:Bm)(t:Nat→Tok):(ai b.l t).size=b.l.length:=by simp[ai]
theorem An(v:WV)(b:Bm)(S SD:Addr)(ep:Nat)(t:Nat→Tok)(n:Int)(tn:Tok)(K:Addr)(hn:∀c∈b.l,(c:Int)<n):aS v.w 250 [(S,ao SD (ai b.l t) ep (ak b.l (!v.b3))),(52,dE (AU K))] (.call (.ref 75) ⟨[.ref S],[(ax,.int n tn)]⟩) [52] (eA (iJ K) (ai b.l t) (oE b) (ak b.l (!v.b3))):=by
 obtain⟨P,sl,k,hP⟩:=gQ v b S SD ep t
 have eP:P.length=(ai b.l t).size:=k.len
 have C1:=gt v.w (S:=S) k.data k.fit k.plain
 have C2:=λI L X Z ht=>li v k I L X Z ht (λx hx=>by obtain⟨c,_,rfl⟩:=hP x hx;exact⟨_,_,rfl⟩)
 rw[eP]at C2
 have C3:=λa C I g t1 ht=>r4 v a C I K g t1 k (λx hx=>by obtain⟨c,_,rfl⟩:=hP x hx;exact⟨_,_,rfl,by omega⟩) ht
 have C4:=λa C I K Z g t1 ht=>rZ v a C I K Z g t1 n tn k (λx hx=>by obtain⟨c,hc,rfl⟩:=hP x hx;exact⟨_,_,rfl,hn c hc⟩) ht
 refine(uy v S SD (ai b.l t) ep (ak b.l (!v.b3)) (ai b.l t) (oE b) (ak b.l (!v.b3)) b.l.length (sl (ai b.l t).size) n tn (!P.isEmpty) K 0).ct [1] λA s R j j j hR=>?_
 refine kc (λE=>DB v b _ _ S SD ep t) λj j j j=>kc (λE=>fY v b S SD ep t) λj j j j=>kc (λE=>fY v b _ _ _ t) λj j j j=>kc (hps:=⟨rfl,trivial⟩) (λE=>C1) λj j j j=>kc (λE=>C2 _ _ _ _ _) λj j j j=>kc (λE=>C1) λj j j j=>kg λj s13 j j g13=>?_
 refine At (λE=>C3 _ _ _ _ _ _) (λj g z=>⟨d7 (g.trans g13),z⟩) λj j j j=>kc (λE=>C1) λj j s18 j=>kg λj s19 j j g19=>?_
 exact At (λE=>C4 _ _ _ (s18.heap.objs.size+2) _ _ _ _) (λj g z=>⟨d7 (g.trans g19),z⟩) λj j j j=>kr hR λj=>(s.heap.objs.size,s18.heap.objs.size+2)
theorem rW(v:WV)(b:Bm)(S SD:Addr)(ep:Nat)(t:Nat→Tok)(n:Int)(tn:Tok)(K K2:Addr)(hn:∀c∈b.l,(c:Int)<n):aS v.w 250 [(S,ao SD (ai b.l t) ep (ak b.l (!v.b3))),(52,dE (iJ K K2))] (.call (.ref 75) ⟨[.ref S],[(ax,.int n tn)]⟩) [52] (eA (λj=>iJ K K2) (ai b.l t) (oE b) (ak b.l (!v.b3))):=by
 obtain⟨P,sl,k,hP⟩:=gQ v b S SD ep t
 have eP:P.length=(ai b.l t).size:=k.len
 have C1:=gt v.w (S:=S) k.data k.fit k.plain
 have C2:=λI L X Z ht=>li v k I L X Z ht (λx hx=>by obtain⟨c,_,rfl⟩:=hP x hx;exact⟨_,_,rfl⟩)
 rw[eP]at C2
 have C3:=λa C I g t1 ht=>r4 v a C I K g t1 k (λx hx=>by obtain⟨c,_,rfl⟩:=hP x hx;exact⟨_,_,rfl,by omega⟩) ht
 have C4:=λa C I K Z g t1 ht=>rZ v a C I K Z g t1 n tn k (λx hx=>by obtain⟨c,hc,rfl⟩:=hP x hx;exact⟨_,_,rfl,hn c hc⟩) ht
 refine(uw v S SD (ai b.l t) ep (ak b.l (!v.b3)) (ai b.l t) (oE b) (ak b.l (!v.b3)) b.l.length (sl (ai b.l t).size) n tn (!P.isEmpty) K K2).ct [1] λA s R j j j hR=>?_
 refine kc (λE=>DB v b _ _ S SD ep t) λj j j j=>kc (λE=>fY v b S SD ep t) λj j j j=>kc (λE=>fY v b _ _ _ t) λj j j j=>kc (hps:=⟨rfl,trivial⟩) (λE=>C1) λj j j j=>kc (λE=>C2 _ _ _ _ _) λj j j j=>kc (λE=>C1) λj j j j=>kg λj s13 j j g13=>?_
 refine At (λE=>C3 _ _ _ _ _ _) (λj g z=>⟨d7 (g.trans g13),z⟩) λj j j j=>kc (λE=>C1) λj j s18 j=>kg λj s19 j j g19=>?_
 exact At (λE=>C4 _ _ _ K2 _ _ _ _) (λj g z=>⟨d7 (g.trans g19),z⟩) λj j j j=>kr hR λj=>(s.heap.objs.size,K2)
noncomputable def Iq(v:WV)(AL:Addr)(xs:List (Int×Tok))(ae:Nat)(w:Int)(tw:Tok)(T:Array Value)(T2:Addr→Array Value)(es2:Array (Int×Value))(ep2:Nat)(t2:SetTable):Cn:=⟨300,[(AL,ac (aa xs) ae),(52,dE T)],.call (.ref 514) ⟨[.ref AL],[(dg,.int w tw)]⟩,λzn zu=>.cut {js:=[0,1],ju:=[1],i:=3,u:=4,K:=6,cnt:=6,N:=79,orc:=(dz 50 5510846573206704309493661153402346774594221759624123915425271396590638374742321457050631801552240640)} (.call (.ref 75) ⟨[.ref AL],[(ax,.none)]⟩) (λE=>[(AL,ac (aa xs) ae),(52,dE T)]) (λj=>eA T2 es2 ep2 t2) λy n1 u1=>.fin {ws:=[2],js:=[1,3,2,5,6],u:=6,cnt:=5,N:=87,orc:=(dz 51 4640755514469652592348179468505961514834607690124225377485029098937628183598881392515345584353476773675525),ps:=[(0:Int)<w],wa:=[zn+0]} (.ok (.ret (.ref (zn+1)))) (λE=>[(52,dE (T2 y.2)),(zn+1,bT zn),(zn,bU (aq (E.lk 2)) (y.1+1) w tw),(y.1+1,ao y.1 es2 ep2 t2),(y.1,q8)])⟩
theorem xz v AL xs ae w tw T T2 es2 ep2 t2:(Iq v AL xs ae w tw T T2 es2 ep2 t2).GB 0 v:=by
 obtain⟨w0,b1,b2,b3⟩:=v;refine⟨rfl,λzn zu=>?_⟩;cases b1<;>kernel_rfl
noncomputable def Ip(v:WV)(PF PD CL NL VL V VD S SD:Addr)(htp htv:Nat→Int×Tok)(cl:Array Value)(ce:Nat)(vs:Array Value)(ve:Nat)(es:Array (Int×Value))(ep:Nat)(t:SetTable)(w:Int)(tw:Tok)(N:Int)(T:Array Value)(T2:Addr→Array Value)(es2:Array (Int×Value))(ep2:Nat)(t2:SetTable):Cn:=⟨340,[(PF,dJ PD),(PD,dK htp CL NL VL),(CL,ac cl ce),(VL,ac vs ve),(V,bT VD),(VD,bU htv S w tw),(S,ao SD es ep t),(52,dE T)],.call (.ref 390) ⟨[.ref PF,.ref V],[]⟩,λzn zu=>.cut {js:=[2],i:=3,u:=10,K:=8,cnt:=16,N:=198,orc:=(dz 117 54626054261225723911486625560871164881378679902039909829000186406255385034840927162405543250646715539280232835072699730003858517408838749051240579630810600731099948696401866246968103291847614249624771537157541686366955058908341184376114996461568)} (.builtin "len" ⟨[.ref CL],[]⟩) (λE=>[(CL,ac cl ce)]) (λj=>aw N) λq n1 u1=>.cut {js:=[6,7],ju:=[7],i:=3,u:=4,K:=8,cnt:=7,N:=87,orc:=(dz 52 252811188715172201538883604144563338753867804156092317594929695315874192188268707014795121266887571275776)} (.call (.ref 75) ⟨[.ref S],[(ax,.int N q)]⟩) (λE=>[(S,ao SD es ep t),(52,dE T)]) (λj=>eA T2 es2 ep2 t2) λy n2 u2=>.cut {ws:=[11,9],js:=[3],ju:=[3],u:=7,K:=1,cnt:=5,N:=102,orc:=(dz 54 48476859388707440545423340041401105683687857164220071998005309036895861346254686831146887730606549614793032992398),ps:=[(0:Int)<w],wa:=[n1+0,zn+1]} (.call (.builtin "list.append") ⟨[.ref VL,.ref (n1+1)],[]⟩) (λE=>[(VL,ac vs ve)]) (λj=>bu VL (ac (vs.push (.ref (n1+1))) (ve+1))) λj n3 u3=>.fin {js:=[3,7,12,11,14,15],N:=6} (.ok (.ret .none)) (λE=>[(VL,ac (vs.push (.ref (n1+1))) (ve+1)),(52,dE (T2 y.2)),(n1+1,bT n1),(n1,bU (aq (E.lk 11)) (y.1+1) w tw),(y.1+1,ao y.1 es2 ep2 t2),(y.1,q8)])⟩
theorem xy v PF PD CL NL VL V VD S SD htp htv cl ce vs ve es ep t w tw N T T2 es2 ep2 t2:(Ip v PF PD CL NL VL V VD S SD htp htv cl ce vs ve es ep t w tw N T T2 es2 ep2 t2).GB 0 v:=by
 obtain⟨w0,b1,b2,b3⟩:=v;refine⟨rfl,λzn zu=>?_⟩;cases b1<;>kernel_rfl
theorem ll(w:World){L:Addr}{items:Array Value}{ep:Nat}{x:Value}(hsz:items.size≤sizeLine):
  aS w 20 [(L,ac items ep)] (.call (.builtin "list.append") ⟨[.ref L,x],[]⟩) [L] (bu L (ac (items.push x) (ep+1))):=by
 intro A s R hA hkn _ hR
 have ho:s.heap.get? L=some (ac items ep):=hkn.obj (L,ac items ep) (List.mem_cons_self ..)
 refine cA slot_list_append ⟨_,ho,rfl⟩ entry_list_append (args_list_append _ _) (list_append L items ep x hsz) ⟨ho,?_⟩
 have Fr:=mZ (s:=s) (I:=L) (h':=s.heap.update L (Obj.mapSeq λx_1=>x_1.push x)) (Heap.size_update ..) λb o hb e=>by rw[Heap.get?_update_ne _ _ _ _ hb];exact e
 refine hR () _ Fr (hkn.upd1 Fr ?_) (by simp[bu]) trivial
 refine(Heap.get?_update_self (Obj.mapSeq λx_1=>x_1.push x) ho rfl).trans ?_
 simp[Obj.mapSeq,ac]
structure lq where
 V:Addr
 VD:Addr
 S:Addr
 SD:Addr
 K:Addr
 ht:Nat→Int×Tok
noncomputable def AE(y:lq)(w:Int)(tw:Tok)(es:Array (Int×Value))(ep:Nat)(t:SetTable):List (Addr×Obj):=[(y.V,bT y.VD),(y.VD,bU y.ht y.S w tw),(y.S,ao y.SD es ep t),(y.SD,q8)]
noncomputable def vY(T:Addr→Array Value)(w:Int)(tw:Tok)(es:Array (Int×Value))(ep:Nat)(t:SetTable):bS lq:={res:=λy=>.ok (.ret (.ref y.V)),upd:=λy=>[(52,dE (T y.K))],add:=λy=>AE y w tw es ep t}
noncomputable def v0(VL:Addr)(vs:Array Value)(ve:Nat)(T:Addr→Array Value)(w:Int)(tw:Tok)(es:Array (Int×Value))(ep:Nat)(t:SetTable):bS lq:={res:=λy=>.ok (.ret .none),upd:=λy=>[(VL,ac (vs.push (.ref y.V)) (ve+1)),(52,dE (T y.K))],add:=λy=>AE y w tw es ep t}
theorem Dx(v:WV){AL:Addr}{xs:List (Int×Tok)}{ae:Nat}{w:Int}{tw:Tok}{T:Array Value}{T2:Addr→Array Value}{es2:Array (Int×Value)}{ep2:Nat}{t2:SetTable}(hw:0<w)
  (C:aS v.w 250 [(AL,ac (aa xs) ae),(52,dE T)] (.call (.ref 75) ⟨[.ref AL],[(ax,.none)]⟩) [52] (eA T2 es2 ep2 t2)):
  aS v.w 300 [(AL,ac (aa xs) ae),(52,dE T)] (.call (.ref 514) ⟨[.ref AL],[(dg,.int w tw)]⟩) [52] (vY T2 w tw es2 ep2 t2):=by
 exact(xz v AL xs ae w tw T T2 es2 ep2 t2).ct [1] λA s R j j j hR=>kc (λE=>C) fun(y:Addr×Addr) _ _ _=>kr hR (hps:=⟨hw,trivial⟩) λE=>⟨s.heap.objs.size+1,s.heap.objs.size,y.1+1,y.1,y.2,aq (E.lk 2)⟩
theorem Dw(v:WV){PF PD CL NL VL V VD S SD:Addr}{htp htv:Nat→Int×Tok}{cl:Array Value}{ce:Nat}{vs:Array Value}{ve:Nat}{es:Array (Int×Value)}{ep:Nat}{t:SetTable}{w:Int}{tw:Tok}{N:Int}{T:Array Value}{T2:Addr→Array Value}{es2:Array (Int×Value)}{ep2:Nat}{t2:SetTable}
  (hw:0<w) (hN:(cl.size:Int)=N) (hN2:N<2 ^ 63) (hvs:vs.size≤sizeLine)
  (C:∀q,aS v.w 250 [(S,ao SD es ep t),(52,dE T)] (.call (.ref 75) ⟨[.ref S],[(ax,.int N q)]⟩) [52] (eA T2 es2 ep2 t2)):
  aS v.w 340 [(PF,dJ PD),(PD,dK htp CL NL VL),(CL,ac cl ce),(VL,ac vs ve),(V,bT VD),(VD,bU htv S w tw),(S,ao SD es ep t),(52,dE T)] (.call (.ref 390) ⟨[.ref PF,.ref V],[]⟩) [VL,52] (v0 VL vs ve T2 w tw es2 ep2 t2):=by
 have C0:=fX v.w (L:=CL) (items:=cl) (ep:=ce) (by omega)
 rw[hN]at C0
 exact(xy v PF PD CL NL VL V VD S SD htp htv cl ce vs ve es ep t w tw N T T2 es2 ep2 t2).ct [3,7] λA s R j j j hR=>kc (λE=>C0) λq j s2 j=>kc (λE=>C q) fun(y:Addr×Addr) _ _ _=>kc (hps:=⟨hw,trivial⟩) (λE=>ll v.w hvs) λj j j j=>
  kr hR λE=>⟨s2.heap.objs.size+1,s2.heap.objs.size,y.1+1,y.1,y.2,aq (E.lk 11)⟩
inductive Nm|npav|nslav|nadams|ncc|nav|ngeom2|ngeom3|natleast2
noncomputable def Ci:En Nm:=oq [.npav,.nslav,.nadams,.ncc,.nav,.ngeom2,.ngeom3,.natleast2] Nm.ctorIdx (λt=>by cases t<;>rfl)
noncomputable def Nm.s:Nm→Str|.npav=>⟨#[112,97,118]⟩|.nslav=>⟨#[115,108,97,118]⟩|.nadams=>⟨#[97,100,97,109,115]⟩|.ncc=>⟨#[99,99]⟩|.nav=>⟨#[97,118]⟩|.ngeom2=>⟨#[103,101,111,109,50]⟩|.ngeom3=>⟨#[103,101,111,109,51]⟩|.natleast2=>⟨#[97,116,108,101,97,115,116,50]⟩
noncomputable def Nm.j:Nm→Nat|.npav=>0|.nslav=>1|.nadams=>2|.ncc=>3|.nav=>4|.ngeom2=>5|.ngeom3=>6|.natleast2=>7
noncomputable def Nm.f:Nm→Addr|.npav=>292|.nslav=>306|.nadams=>299|.ncc=>320|.nav=>313|.ngeom2=>0|.ngeom3=>0|.natleast2=>0
noncomputable def Nm.isP:Nm→Bool|.ngeom2|.ngeom3|.natleast2=>true|_=>false
noncomputable def Nm.ff:Nm→Addr|.natleast2=>327|_=>285
noncomputable def Nm.pn:Nm→Str|.natleast2=>dS|_=>aN
noncomputable def Nm.pk:Nm→Int|.ngeom3=>3|_=>2
noncomputable def Nm.gi:Nm→Nat|.natleast2=>7|.ngeom2|.ngeom3=>6|_=>1
noncomputable def gm(v:WV)(x:Nm)(ko:Option (Int×Tok))(tn:Tok):Cn:=⟨120,[],.call (.ref 271) ⟨.str x.s tn::(match ko with|none=>[]|some k=>[.int k.1 k.2]),[]⟩,λzn zu=>.fin {js:=match x with|.ngeom2|.ngeom3=>[5,4,3]|.natleast2=>[6,5,4]|_=>[],i:=x.gi,u:=match x with|.npav=>3|.nslav=>5|.nadams=>4|.ncc=>6|.nav=>7|.natleast2=>18|_=>15,cnt:=match x with|.npav=>3|.nslav=>7|.nadams=>5|.ncc=>9|.nav=>11|.natleast2=>33|_=>29,N:=match x with|.npav=>31|.nslav=>49|.nadams=>40|.ncc=>58|.nav=>67|.natleast2=>173|_=>153,orc:=match x with|.npav=>dz 10 72062026714710016|.nslav=>dz 12 1189887054780980789248|.nadams=>dz 11 9295434063569485824|.ncc=>dz 13 152305614506609627627520|.nav=>dz 14 19495118728340676422926336|.natleast2=>dz 44 28743058785087060240268696538696549538474240006954840052333985126139571390059762222110867456|_=>dz 39 717028379606320710357316228536715449192813613845802022942715133879499060917829632} (.ok (.ret (.ref (match x with|.ngeom2|.ngeom3=>zn+5|.natleast2=>zn+6|x=>x.f)))) (λE=>match x with|.ngeom2=>[(zn+5,dM 285 (zn+4) (zn+3)),(zn+4,aO #[] 0),(zn+3,lm (aq (E.lk 3)) aN 2 (zu+12))]|.ngeom3=>[(zn+5,dM 285 (zn+4) (zn+3)),(zn+4,aO #[] 0),(zn+3,lm (aq (E.lk 3)) aN 3 (zu+12))]|.natleast2=>[(zn+6,dM 327 (zn+5) (zn+4)),(zn+5,aO #[] 0),(zn+4,lm (aq (E.lk 4)) dS 2 (zu+15))]|_=>[])⟩
theorem mV v x ko tn:(gm v x ko tn).G v:=Cn.g3 Ci (cz _) (f:=λx ko v=>gm v x ko tn) (λj j j j j=>by kernel_rfl) x ko v
theorem mr(w:World)(a:Value):Ct w 20 [] aK (.call (.builtin "list.__new__") ⟨[.type "list",a],[]⟩) [] (aD (ac #[] 0)) (λy s s'=>y=s.heap.objs.size∧s'.heap.objs.size=s.heap.objs.size+1):=by
 intro A s R hA hk _ hR
 refine codeAny_mono (code_list_new a (Q₁:=λy s'=>R (.ok (.ret y)) s') (E:=λe s'=>R (.error e) s') ?_) λr s' h=>?_
 ·have n1:=Heap.get?_push_size s.heap (o:=ac #[] 0) rfl
  have Fr:ah s {s with heap:=s.heap.push (ac #[] 0)} []:=⟨λh=>h,rfl,rfl,by rw[Heap.size_push];exact Nat.le_succ _,Nat.le_refl _,λb o e j=>Heap.get?_push_of_some _ e⟩
  refine hR s.heap.objs.size _ Fr ⟨λx o e=>Fr.keep x o (hk.base x o e) (by simp),λp hp=>?_,λp hp=>?_,by simp[aD],hk.toks⟩ (by simp[aD]) ⟨rfl,Heap.size_push ..⟩
  ·simp only[aD,List.nil_append,List.mem_singleton]at hp
   subst hp
   exact n1
  ·simp only[aD,List.nil_append,List.mem_singleton]at hp
   subst hp
   exact bM hk (Nat.le_refl _)
 ·unfold wants at h
  split at h
  ·exact h
  ·exact h.elim
  ·exact h
noncomputable def ye(b:Int)(t u w:Tok):Obj:={cls:=.type "range",dict:=none,data:=.fields #[.int 0 t,.int b u,.int 1 w],slots:=#[]}
structure Eu where
 tc:Nat→Tok
 ep:Nat
theorem qm{z:Sz}{acc:Array Value}(h:ItemsOf (λi v=>∃t,v=Value.int (0+i*1) t) acc z.n):∃tc,acc=aa (z.cl tc):=by
 obtain⟨hs,hv⟩:=h
 have hg:∀j,j<z.n→∃t,acc[j]?=some (.int j t):=λj hj=>by
  have hj':j<acc.size:=hs▸hj
  obtain⟨t,e⟩:=hv j acc[j] (Array.getElem?_eq_getElem hj')
  exact⟨t,by rw[Array.getElem?_eq_getElem hj',e];simp⟩
 let tc:Nat→Tok:=λj=>match acc[j]? with|some (.int _ t)=>t|_=>0
 refine⟨tc,?_⟩
 have hc:∀j,j<z.n→acc[j]?=some (.int j (tc j)):=λj hj=>by
  obtain⟨t,e⟩:=hg j hj
  have:tc j=t:=by show(match acc[j]? with|some (.int _ t)=>t|_=>0)=t;rw[e]
  rw[this,e]
 apply Array.ext_getElem?
 intro j
 by_cases hj:j<z.n
 ·rw[hc j hj]
  cases z with
  |s2=>match j,hj with|0,_=>rfl|1,_=>rfl|j+2,h=>exact absurd h (by simp[Sz.n])
  |s3=>match j,hj with|0,_=>rfl|1,_=>rfl|2,_=>rfl|j+3,h=>exact absurd h (by simp[Sz.n])
  |s4=>match j,hj with|0,_=>rfl|1,_=>rfl|2,_=>rfl|3,_=>rfl|j+4,h=>exact absurd h (by simp[Sz.n])
 ·have h1:acc[j]?=none:=by rw[Array.getElem?_eq_none];omega
  have h2:(aa (z.cl tc)).size=z.n:=by cases z<;>rfl
  rw[h1,Array.getElem?_eq_none];omega
theorem rQ(v:WV)(z:Sz)(S r:Addr)(t u w:Tok):Ct v.w 20 [(S,ac #[] 0),(r,ye z.n t u w)] (λs=>s.heap.objs.size=S+1) (.builtin "list.__init__" ⟨[.ref S,.ref r],[]⟩) [S] {res:=λj=>.ok (.ret .none),upd:=fun(y:Eu)=>[(S,ac (aa (z.cl y.tc)) y.ep)]} bP:=by
 intro A s R hA hk hsz hR
 have oS:=hk.obj (S,ac #[] 0) (by simp)
 have oR:=hk.obj (r,ye z.n t u w) (by simp)
 refine codeAny_mono (codeAny_toks_of (n:=s.toks) (Nat.le_refl _) (R:=λr s'=>s.toks≤s'.toks→R r s') (codeAny_builtin F.entry_list_init ?_)) λr s' h=>h.2 h.1
 rw[Around.under_plainId (show plainId "list.__init__"=true by decide+kernel) _]
 have hn:Builtin.Range.rangeSize 0 z.n 1=z.n:=by cases z<;>decide+kernel
 have hs:Builtin.Range.small 0 z.n 1=true:=by cases z<;>decide+kernel
 refine wpAny_list_init_range (R:=λr s'=>s.toks≤s'.toks→R r s') (n:=z.n) hA.hd oR hs hn (by cases z<;>decide) S oS λh' tk acc c' hk' hS' hi ht=>?_
 obtain⟨tc,rfl⟩:=qm hi
 have Fr:ah s {s with heap:=h',toks:=tk} [S]:=⟨λh=>h,rfl,rfl,by rw[hsz];exact Heap.lt_size hS',ht,λb o e hb=>hk' b o (by simpa using hb) e⟩
 exact hR ⟨tc,c'⟩ _ Fr (hk.upd1 Fr hS') (by simp) trivial
noncomputable def B8(z:Sz)(S:Addr):bS Eu:={res:=λj=>.ok (.ret .none),upd:=fun(y:Eu)=>[(S,ac (aa (z.cl y.tc)) y.ep)]}
noncomputable def IB(v:WV)(z:Sz)(tm:Tok):Cn:=⟨120,[],.call (.ref 477) ⟨[.int z.n tm],[]⟩,λzn zu=>.cut {i:=5,u:=5,K:=11,cnt:=16,N:=103,orc:=(dz 54 24238438814587146320223953010043087823411167620681659837567545354424304106239710713087510287687785276544800260096)} (.call (.builtin "list.__new__") ⟨[.type "list",.ref (zn+4)],[]⟩) (λE=>[]) (λj=>aD (ac #[] 0)) λCL n1 u1=>.cut {js:=[5,4],ju:=[5],K:=11,cnt:=1,N:=9,orc:=(dz 3 99078)} (.builtin "list.__init__" ⟨[.ref CL,.ref (zn+4)],[]⟩) (λE=>[(CL,ac #[] 0),(zn+4,ye z.n (zu+3) tm (zu+4))]) (λj=>B8 z CL) λy n2 u2=>.fin {ws:=[0],js:=[1,0,5,12],i:=7,u:=(match z,v.b2 with|.s2,true|.s2,false=>14|.s3,true|.s3,false=>17|.s4,true|.s4,false=>20),cnt:=(match z,v.b2 with|.s2,true=>48|.s2,false=>50|.s3,true=>63|.s3,false=>65|.s4,true=>78|.s4,false=>80),N:=(match z,v.b2 with|.s2,true=>265|.s2,false=>275|.s3,true=>318|.s3,false=>328|.s4,true=>371|.s4,false=>381),orc:=(match z,v.b2 with|.s2,true=>(dz 114 52196409682664573420413694376284175676624566912500217859233189267120783893518064489110180644512387125060553202858031773177538070526732901477138009232848408017408337249165265895350640686513224165602744989261280519851125598634430478828962051)|.s2,false=>(dz 118 14011367034728880061154229758542478283338824159959508081142604971253873431533977085371698375552056535564158626621456262295401000919203706598218615083351872585027062947681463770424887322515572230969019381636581001425554491647255254428757015073390851)|.s3,true=>(dz 132 4440379457898022889834251364390438996315978931174377498506605621676377438562176428661712510357107319026050628122891709739701850722651669136289996558829609235472874349416910225526765971506190202830677034196544039584507609412184905566113588741731604702689401749460573730088419587)|.s3,false=>(dz 136 1191955284593888575931095029418769654016262124476186639327759999066861862148549813980258267458614826023695376239254860142596507602778930333761131374507856981425972401616431630500340263766547173919585280463276892890394540477968988934001866357275703599913574524448195794801912073062187267)|.s4,true=>(dz 150 377745707990163212706473475291966151274748283241146333338020496047157498915960128991103983458210567114803332542760668012289847935969761382609737352698047789950202275698830397624261111373740542045940188385967073571300849209398271439480587294215135435851784915318553869373051350328342077486710533544442861660963602691)|.s4,false=>(dz 154 101400341376382305517287201491903666954002036697054273952319533993764920725325262903545817743021210527480836921435599416743638934862701698952035316311733288805074765169453256452929848094676828829789127418112975395097691970712064479468747853470446042825077821967396635037764700352396769356067876551470364767449688328667922691)),wa:=[zn+0]} (.ok (.ret (.ref (zn+1)))) (λE=>[(zn+1,dJ zn),(zn,dK (aq (E.lk 0)) CL (n2+2) (n2+6)),(CL,ac (aa (z.cl y.tc)) y.ep),(n2+6,ac #[] 0)])⟩
theorem yi v z tm:(IB v z tm).GB 0 v:=by
 obtain⟨w0,b1,b2,b3⟩:=v;refine⟨rfl,λzn zu=>?_⟩;cases b1<;>cases b2<;>cases z<;>kernel_rfl
structure uT where
 Pf:Addr
 PD:Addr
 CL:Addr
 NL:Addr
 VL:Addr
 ht:Nat→Int×Tok
 tc:Nat→Tok
 ep:Nat
noncomputable def qS(z:Sz):bS uT:={res:=λy=>.ok (.ret (.ref y.Pf)),add:=λy=>[(y.Pf,dJ y.PD),(y.PD,dK y.ht y.CL y.NL y.VL),(y.CL,ac (aa (z.cl y.tc)) y.ep),(y.VL,ac #[] 0)]}
theorem DD(v:WV)(z:Sz)(tm:Tok):aS v.w 120 [] (.call (.ref 477) ⟨[.int z.n tm],[]⟩) [] (qS z):=by
 refine(yi v z tm).ct [] λA s R j j j hR=>kc (λE=>mr v.w _) fun(CL:Addr) s1 s2 p1=>?_
 exact kX (λE A' s' R' hA j=>rQ v z CL _ _ _ _ A' s' R' hA) (λE s' j j j zz j j=>by rw[p1.1,←p1.2];exact zz) λE (y:Eu) s3 s4 _ _ _ _ _ _ _ _ _ _=>kr hR λE=>⟨s.heap.objs.size+1,s.heap.objs.size,CL,s4.heap.objs.size+2,s4.heap.objs.size+6,aq (E.lk 0),y.tc,y.ep⟩
noncomputable def ra(w:World)(l:List (Str×Tok×Value))(ep:Nat):Obj:=⟨.type "dict",none,.dict (l.map λx=>⟨hashStr w x.1,.str x.1 x.2.1,x.2.2⟩).toArray ep,#[]⟩
theorem up{w:World}{s:Shared}{d:Addr}{l:List (Str×Tok×Value)}{ep:Nat}(h:s.heap.get? d=some (ra w l ep)):s.heap.MapOf (strKind pr w) d (λk=>findBy Value.isStrOf (l.map λx=>(⟨hashStr w x.1,.str x.1 x.2.1,x.2.2⟩:DictEntry)).toArray k):=by
 refine⟨_,_,ep,h,⟨rfl,rfl,rfl⟩,rfl,λe he=>?_,λk=>rfl⟩
 simp only[List.mem_toArray,List.mem_map]at he
 obtain⟨x,_,rfl⟩:=he
 refine⟨x.1,?_,rfl⟩
 show Value.isStrOf x.1 (.str x.1 x.2.1)=true
 simp[Value.isStrOf]
theorem Am(v:WV){d:Addr}{l:List (Str×Tok×Value)}{ep:Nat}{nm:Str}{tn:Tok}{val:Value}(hv:findBy Value.isStrOf (l.map λx=>(⟨hashStr v.w x.1,.str x.1 x.2.1,x.2.2⟩:DictEntry)).toArray nm=some val):
  aS v.w 20 [(d,ra v.w l ep)] (.call (.builtin "dict.__getitem__") ⟨[.ref d,.str nm tn],[]⟩) [] (aW (.ok (.ret val))):=by
 intro A s R hA hk _ hR
 have o1:s.heap.get? d=some (ra v.w l ep):=hk.obj (d,ra v.w l ep) (by simp)
 have hT:s.TypeIs (.ref d) "dict":=⟨_,o1,rfl⟩
 refine codeAny_call_builtin slot_dict_getitem.plain entry_dict_getitem (slot_dict_getitem.check _ _ _ _ _ _ _ _ hT (args_dict_getitem _ _) ?_)
 show wpAny _ _ (dictGet d (.str nm tn)>>=_) _ _ s
 refine wpAny_bind (wpAny_dictGet_of (knd:=strKind pr v.w) (k:=nm) ?_ (up o1) ?_)
 ·show Value.isStrOf nm (.str nm tn)=true
  simp[Value.isStrOf]
 ·rw[hv]
  have Fr:ah s {s with toks:=s.toks+1} []:=⟨λh=>h,rfl,rfl,Nat.le_refl _,Nat.le_succ _,λb o e j=>e⟩
  exact wpAny_pure (hR () _ Fr ⟨hk.base,by simp[aW],by simp[aW],by simp[aW],Nat.lt_of_lt_of_le hk.toks (Nat.le_succ _)⟩ (by simp[aW]) trivial)
noncomputable def gA(x:Nm)(i:Nat):Int:=match x,i with
 |.npav,1=>1260
 |.npav,2=>630
 |.npav,3=>420
 |.npav,4=>315
 |.nslav,1=>1260
 |.nslav,2=>420
 |.nslav,3=>252
 |.nslav,4=>180
 |.nadams,1=>1260
 |.nadams,2=>1260
 |.nadams,3=>630
 |.nadams,4=>420
 |.ncc,1=>1260
 |.ncc,2=>0
 |.ncc,3=>0
 |.ncc,4=>0
 |.nav,1=>1260
 |.nav,2=>1260
 |.nav,3=>1260
 |.nav,4=>1260
 |.ngeom2,1=>1296
 |.ngeom2,2=>648
 |.ngeom2,3=>324
 |.ngeom2,4=>162
 |.ngeom3,1=>1296
 |.ngeom3,2=>432
 |.ngeom3,3=>144
 |.ngeom3,4=>48
 |.natleast2,1=>0
 |.natleast2,2=>1260
 |.natleast2,3=>0
 |.natleast2,4=>0
 |_,_=>0
inductive I4|i1|i2|i3|i4
noncomputable def Cj:En I4:=oq [.i1,.i2,.i3,.i4] I4.ctorIdx (λt=>by cases t<;>rfl)
noncomputable def I4.n:I4→Nat|.i1=>1|.i2=>2|.i3=>3|.i4=>4
noncomputable def I4.k:I4→Nat|.i1=>0|.i2=>1|.i3=>2|.i4=>3
inductive N6|npav|nslav|nadams|ncc|nav|natleast2
noncomputable def Fk:En N6:=oq [.npav,.nslav,.nadams,.ncc,.nav,.natleast2] N6.ctorIdx (λt=>by cases t<;>rfl)
inductive N2|ngeom2|ngeom3
noncomputable def Fl:En N2:=oq [.ngeom2,.ngeom3] N2.ctorIdx (λt=>by cases t<;>rfl)
noncomputable def N6.nm:N6→Nm|.npav=>.npav|.nslav=>.nslav|.nadams=>.nadams|.ncc=>.ncc|.nav=>.nav|.natleast2=>.natleast2
noncomputable def N2.nm:N2→Nm|.ngeom2=>.ngeom2|.ngeom3=>.ngeom3
noncomputable def N6.o:N6→Nat|.npav=>3|.nslav=>8|.nadams=>13|.ncc=>18|.nav=>27|.natleast2=>31
noncomputable def N2.o:N2→Nat|.ngeom2=>40|.ngeom3=>41
noncomputable def N6.r:N6→Nat|.npav=>2|.nslav=>3|.nadams=>4|.ncc=>5|.nav=>6|.natleast2=>7
noncomputable def vn(h:Nat→Int×Tok)(z:Nat):List (Str×Tok×Value):=[(⟨#[112,97,118]⟩,(h 0).2,.ref (z+2)),(⟨#[115,108,97,118]⟩,(h 1).2,.ref (z+3)),(⟨#[97,100,97,109,115]⟩,(h 2).2,.ref (z+4)),(⟨#[99,99]⟩,(h 3).2,.ref (z+5)),(⟨#[97,118]⟩,(h 4).2,.ref (z+6)),(⟨#[97,116,108,101,97,115,116,50]⟩,(h 5).2,.ref (z+7))]
noncomputable def G7(v:WV)(x:N2)(i:I4)(tn ti:Tok):Cn:=⟨150,[],.call (.ref 535) ⟨[.str x.nm.s tn,.int i.n ti],[]⟩,λzn zu=>.fin {i:=13,u:=(match x,i with|.ngeom2,.i1|.ngeom2,.i2|.ngeom2,.i3|.ngeom2,.i4=>46|.ngeom3,.i1|.ngeom3,.i2|.ngeom3,.i3|.ngeom3,.i4=>47),cnt:=(match x,i with|.ngeom2,.i1|.ngeom2,.i2|.ngeom2,.i3|.ngeom2,.i4=>32|.ngeom3,.i1|.ngeom3,.i2|.ngeom3,.i3|.ngeom3,.i4=>34),N:=(match x,i with|.ngeom2,.i1|.ngeom2,.i2|.ngeom2,.i3|.ngeom2,.i4=>252|.ngeom3,.i1|.ngeom3,.i2|.ngeom3,.i3|.ngeom3,.i4=>261),orc:=(match x,i with|.ngeom2,.i1|.ngeom2,.i2|.ngeom2,.i3|.ngeom2,.i4=>(dz 77 184207493944851444020230366334650190259493662348116284263496984088143920871833745181066698813046665211703227840321881109721323912859697543067926334441984054280192)|.ngeom3,.i1|.ngeom3,.i2|.ngeom3,.i3|.ngeom3,.i4=>(dz 78 23578559224940981637918971367259223434591019640292487503547157522088907397689112981930380752015691264664718364961660292397912773767660342669102209808701758803820544))} (.ok (.ret (.int (gA x.nm i.n) (zu+(x.o+i.k))))) (λE=>[])⟩
theorem yX v x i tn ti:(G7 v x i tn ti).GB 0 v:=⟨rfl,Cn.g3 Fl Cj (f:=λx i v=>G7 v x i tn ti) (λj j j j j=>by kernel_rfl) x i v⟩
noncomputable def G5(v:WV)(x:N6)(i:I4)(tn ti:Tok):Cn:=⟨150,[],.call (.ref 535) ⟨[.str x.nm.s tn,.int i.n ti],[]⟩,λzn zu=>.cut {js:=[1],i:=12,u:=41,K:=1,cnt:=29,N:=244,orc:=(dz 77 28339607697124825091281353992025090712958855718334784809038462401378363309054321045625060863129444767491434290900143951258866498287621123072588161990636179832832)} (.call (.builtin "dict.__getitem__") ⟨[.ref (zn+1),.str x.nm.s tn],[]⟩) (λE=>[(zn+1,ra v.w (vn (aq (E.lk 1)) zn) 6)]) (λj=>aW (.ok (.ret (.ref (zn+x.r))))) λj n1 u1=>.fin {u:=2,cnt:=5,N:=24,orc:=(match x,i with|.npav,.i1|.npav,.i2|.npav,.i3|.npav,.i4=>(dz 6 103890862465)|.nslav,.i1|.nslav,.i2|.nslav,.i3|.nslav,.i4=>(dz 6 138521149953)|.nadams,.i1|.nadams,.i2|.nadams,.i3|.nadams,.i4=>(dz 6 173151437441)|.ncc,.i1|.ncc,.i2|.ncc,.i3|.ncc,.i4=>(dz 6 207781724929)|.nav,.i1|.nav,.i2|.nav,.i3|.nav,.i4=>(dz 6 242412012417)|.natleast2,.i1|.natleast2,.i2|.natleast2,.i3|.natleast2,.i4=>(dz 6 277042299905))} (.ok (.ret (.int (gA x.nm i.n) (zu+(x.o+i.k))))) (λE=>[])⟩
theorem yW v x i tn ti:(G5 v x i tn ti).GB 0 v:=⟨rfl,Cn.g3 Fk Cj (f:=λx i v=>G5 v x i tn ti) (λj j j j j=>by kernel_rfl) x i v⟩
theorem xq(v:WV)(x:N2)(i:I4)(tn ti:Tok):aS v.w 150 [] (.call (.ref 535) ⟨[.str x.nm.s tn,.int i.n ti],[]⟩) [] (aw (gA x.nm i.n)):=by
 exact(yX v x i tn ti).ct [] λA s R j j j hR=>kr hR λj=>_
theorem nH(v:WV)(x:N6)(h:Nat→Int×Tok)(z:Nat):findBy Value.isStrOf ((vn h z).map λx=>(⟨hashStr v.w x.1,.str x.1 x.2.1,x.2.2⟩:DictEntry)).toArray x.nm.s=some (.ref (z+x.r)):=by
 cases x<;>rfl
theorem iG(v:WV)(x:N6)(i:I4)(tn ti:Tok):aS v.w 150 [] (.call (.ref 535) ⟨[.str x.nm.s tn,.int i.n ti],[]⟩) [] (aw (gA x.nm i.n)):=by
 exact(yW v x i tn ti).ct [] λA s R j j j hR=>kc (λE=>Am v (nH v x _ _)) λj j j j=>kr hR λj=>_
theorem hG(v:WV)(x:Nm)(i:I4)(tn ti:Tok):aS v.w 150 [] (.call (.ref 535) ⟨[.str x.s tn,.int i.n ti],[]⟩) [] (aw (gA x i.n)):=by
 cases x with
 |npav=>exact iG v .npav i tn ti
 |nslav=>exact iG v .nslav i tn ti
 |nadams=>exact iG v .nadams i tn ti
 |ncc=>exact iG v .ncc i tn ti
 |nav=>exact iG v .nav i tn ti
 |ngeom2=>exact xq v .ngeom2 i tn ti
 |ngeom3=>exact xq v .ngeom3 i tn ti
 |natleast2=>exact iG v .natleast2 i tn ti
noncomputable def B9(w:World):FuncData:=m6 (rg w.params)
set_option backward.match.sparseCases false in
noncomputable def kY(w:World)(L I:Addr):Code:=match((aH (B9 w))[1]?:Option Stmt)with
 |some (Stmt.For t _ b o _)=>.forLoop t (.ref I) b o (cR (B9 w) 545 L)
 |_=>.block [] default
inductive Ot|t220|t221|t210|t330|t331|t332|t320|t321|t310|t440|t441|t442|t443|t430|t431|t432|t420|t421|t410
noncomputable def Fj:En Ot:=oq [.t220,.t221,.t210,.t330,.t331,.t332,.t320,.t321,.t310,.t440,.t441,.t442,.t443,.t430,.t431,.t432,.t420,.t421,.t410] Ot.ctorIdx (λt=>by cases t<;>rfl)
noncomputable def Ot.z:Ot→Nat|.t220=>2|.t221=>2|.t210=>2|.t330=>3|.t331=>3|.t332=>3|.t320=>3|.t321=>3|.t310=>3|.t440=>4|.t441=>4|.t442=>4|.t443=>4|.t430=>4|.t431=>4|.t432=>4|.t420=>4|.t421=>4|.t410=>4
noncomputable def Ot.k:Ot→Nat|.t220=>2|.t221=>2|.t210=>1|.t330=>3|.t331=>3|.t332=>3|.t320=>2|.t321=>2|.t310=>1|.t440=>4|.t441=>4|.t442=>4|.t443=>4|.t430=>3|.t431=>3|.t432=>3|.t420=>2|.t421=>2|.t410=>1
noncomputable def Ot.i:Ot→Nat|.t220=>0|.t221=>1|.t210=>0|.t330=>0|.t331=>1|.t332=>2|.t320=>0|.t321=>1|.t310=>0|.t440=>0|.t441=>1|.t442=>2|.t443=>3|.t430=>0|.t431=>1|.t432=>2|.t420=>0|.t421=>1|.t410=>0
noncomputable def kl:Nat→(Nat→Int×Tok)→List (Int×Tok)
 |0,_=>[]
 |k+1,a=>a 0::kl k λi=>a (i+1)
noncomputable def ay(x l:Int):Obj:={cls:=.type "range_iterator",dict:=none,data:=.fields #[.int x 0,.int l 0,.int 1 0],slots:=#[]}
noncomputable def gJ(ht:Nat→Int×Tok)(N:Int)(tN:Tok)(m:Int)(tm:Tok)(F Lf:Addr)(cv:Option (Int×Tok)):Obj:=match cv with
 |none=>fQ ht [(bH,.int N tN),(Bn,.int m tm),(mM,.ref F),(pL,.ref Lf)] 4
 |some c=>fQ ht [(bH,.int N tN),(Bn,.int m tm),(mM,.ref F),(pL,.ref Lf),(yy,.int c.1 c.2)] 5
structure Ie where
 ht:Nat→Int×Tok
 N:Int
 tN:Tok
 cv:Int×Tok
 le:Nat
 fe:Nat
 ys:List (Int×Tok)
noncomputable def m8(z:Sz)(L I F Lf:Addr)(tm:Tok):bS Ie:={res:=λj=>.ok .next,upd:=λy=>[(I,ay z.n 0),(L,gJ y.ht y.N y.tN z.n tm F Lf (some y.cv)),(Lf,ac #[] y.le),(F,ac (aa y.ys) y.fe)]}
noncomputable def Aw(z:Sz)(zu:Nat):List (Int×Tok):=z.cl λc=>zu+4+2*c
noncomputable def GL(v:WV)(o:Ot)(L I F Lf:Addr)(ht:Nat→Int×Tok)(N:Int)(tN tm:Tok)(cv:Option (Int×Tok))(a:Nat→Int×Tok)(le:Nat)(fs:Array Value)(fe:Nat):Cn:=⟨100,[(I,ay ((o.z-o.k:Nat):Int) o.k),(L,gJ ht N tN o.z tm F Lf cv),(Lf,ac (aa (kl o.k a)) le),(F,ac fs fe)],kY v.w L I,λzn zu=>.cut {ws:=[0,1,2],js:=[3],ju:=[3],u:=5,K:=1,cnt:=8,N:=77,orc:=(match o,cv.isSome with|.t220,false|.t220,true|.t210,false|.t210,true|.t330,false|.t330,true|.t320,false|.t320,true|.t310,false|.t310,true|.t440,false|.t440,true|.t430,false|.t430,true|.t420,false|.t420,true|.t410,false|.t410,true=>(dz 34 10434136209321167300305782652890933584862409970136056469418927278014593)|.t221,false|.t221,true|.t331,false|.t331,true|.t321,false|.t321,true|.t441,false|.t441,true|.t431,false|.t431,true|.t421,false|.t421,true=>(dz 34 10434136209421600928071969545112306215633732632793694156530351830220929)|.t332,false|.t332,true|.t442,false|.t442,true|.t432,false|.t432,true=>(dz 34 10434136209522034555838156437333678846405055295451331843641776382427265)|.t443,false|.t443,true=>(dz 34 10434136209622468183604343329555051477176377958108969530753200934633601)),ps:=(match o,cv.isSome with|.t220,false|.t220,true=>[N.fmod ↑(aa (kl Ot.t220.k a)).size=Int.ofNat (nat_lit 0)∧↑(aa (kl Ot.t220.k a)).size≠(0:Int)]|.t221,false|.t221,true=>[N.fmod ↑(aa (kl Ot.t221.k a)).size=Int.ofNat (nat_lit 1)∧↑(aa (kl Ot.t221.k a)).size≠(0:Int)]|.t210,false|.t210,true=>[N.fmod ↑(aa (kl Ot.t210.k a)).size=Int.ofNat (nat_lit 0)∧↑(aa (kl Ot.t210.k a)).size≠(0:Int)]|.t330,false|.t330,true=>[N.fmod ↑(aa (kl Ot.t330.k a)).size=Int.ofNat (nat_lit 0)∧↑(aa (kl Ot.t330.k a)).size≠(0:Int)]|.t331,false|.t331,true=>[N.fmod ↑(aa (kl Ot.t331.k a)).size=Int.ofNat (nat_lit 1)∧↑(aa (kl Ot.t331.k a)).size≠(0:Int)]|.t332,false|.t332,true=>[N.fmod ↑(aa (kl Ot.t332.k a)).size=Int.ofNat (nat_lit 2)∧↑(aa (kl Ot.t332.k a)).size≠(0:Int)]|.t320,false|.t320,true=>[N.fmod ↑(aa (kl Ot.t320.k a)).size=Int.ofNat (nat_lit 0)∧↑(aa (kl Ot.t320.k a)).size≠(0:Int)]|.t321,false|.t321,true=>[N.fmod ↑(aa (kl Ot.t321.k a)).size=Int.ofNat (nat_lit 1)∧↑(aa (kl Ot.t321.k a)).size≠(0:Int)]|.t310,false|.t310,true=>[N.fmod ↑(aa (kl Ot.t310.k a)).size=Int.ofNat (nat_lit 0)∧↑(aa (kl Ot.t310.k a)).size≠(0:Int)]|.t440,false|.t440,true=>[N.fmod ↑(aa (kl Ot.t440.k a)).size=Int.ofNat (nat_lit 0)∧↑(aa (kl Ot.t440.k a)).size≠(0:Int)]|.t441,false|.t441,true=>[N.fmod ↑(aa (kl Ot.t441.k a)).size=Int.ofNat (nat_lit 1)∧↑(aa (kl Ot.t441.k a)).size≠(0:Int)]|.t442,false|.t442,true=>[N.fmod ↑(aa (kl Ot.t442.k a)).size=Int.ofNat (nat_lit 2)∧↑(aa (kl Ot.t442.k a)).size≠(0:Int)]|.t443,false|.t443,true=>[N.fmod ↑(aa (kl Ot.t443.k a)).size=Int.ofNat (nat_lit 3)∧↑(aa (kl Ot.t443.k a)).size≠(0:Int)]|.t430,false|.t430,true=>[N.fmod ↑(aa (kl Ot.t430.k a)).size=Int.ofNat (nat_lit 0)∧↑(aa (kl Ot.t430.k a)).size≠(0:Int)]|.t431,false|.t431,true=>[N.fmod ↑(aa (kl Ot.t431.k a)).size=Int.ofNat (nat_lit 1)∧↑(aa (kl Ot.t431.k a)).size≠(0:Int)]|.t432,false|.t432,true=>[N.fmod ↑(aa (kl Ot.t432.k a)).size=Int.ofNat (nat_lit 2)∧↑(aa (kl Ot.t432.k a)).size≠(0:Int)]|.t420,false|.t420,true=>[N.fmod ↑(aa (kl Ot.t420.k a)).size=Int.ofNat (nat_lit 0)∧↑(aa (kl Ot.t420.k a)).size≠(0:Int)]|.t421,false|.t421,true=>[N.fmod ↑(aa (kl Ot.t421.k a)).size=Int.ofNat (nat_lit 1)∧↑(aa (kl Ot.t421.k a)).size≠(0:Int)]|.t410,false|.t410,true=>[N.fmod ↑(aa (kl Ot.t410.k a)).size=Int.ofNat (nat_lit 0)∧↑(aa (kl Ot.t410.k a)).size≠(0:Int)]),wa:=[I,L,Lf]} (.call (.builtin "list.append") ⟨[.ref F,.int (a o.i).1 (a o.i).2],[]⟩) (λE=>[(F,ac fs fe)]) (λj=>bu F (ac (fs.push (.int (a o.i).1 (a o.i).2)) (fe+1))) λj n1 u1=>.tail {ws:=[1],js:=[0,1,2,3],u:=3,N:=19,orc:=(dz 4 4227202),ps:=[(4:Int)≠(0:Int)∧Builtin.divisionGoesByPylong N (4:Int)=false],wa:=[L]} (kY v.w L I) (λE=>[(I,ay ((o.z-o.k:Nat)+1:Int) (o.k-1:Nat)),(L,gJ (aq (E.lk 1)) (N.fdiv 4) (u1+1) o.z tm F Lf (some ((o.z-o.k:Nat),zu))),(Lf,ac (aa ((kl o.k a).eraseIdx o.i)) (le+1)),(F,ac (fs.push (.int (a o.i).1 (a o.i).2)) (fe+1))])⟩
theorem yu v o L I F Lf ht N tN tm cv a le fs fe:(GL v o L I F Lf ht N tN tm cv a le fs fe).G v:=Cn.k3 (cz _) Fj (f:=λcv o v=>GL v o L I F Lf ht N tN tm cv a le fs fe) (λj j j j j j=>by kernel_rfl) cv o v
noncomputable def GN(v:WV)(z:Sz)(L I F Lf:Addr)(ht:Nat→Int×Tok)(N:Int)(tN tm:Tok)(cv:Option (Int×Tok))(ls:Array Value)(le:Nat)(fs:Array Value)(fe:Nat):Cn:=⟨100,[(I,ay z.n 0),(L,gJ ht N tN z.n tm F Lf cv),(Lf,ac ls le),(F,ac fs fe)],kY v.w L I,λzn zu=>.fin {js:=[0,1,2,3],i:=2,cnt:=3,N:=20,orc:=(dz 6 206428979329)} (.ok .next) (λE=>[(I,ay z.n 0),(L,gJ ht N tN z.n tm F Lf cv),(Lf,ac ls le),(F,ac fs fe)])⟩
theorem yw v z L I F Lf ht N tN tm cv ls le fs fe:(GN v z L I F Lf ht N tN tm cv ls le fs fe).G v:=Cn.k3 (cz _) dG (f:=λcv z v=>GN v z L I F Lf ht N tN tm cv ls le fs fe) (λj j j j j j=>by kernel_rfl) cv z v
noncomputable def GM(v:WV)(z:Sz)(N:Int)(tN tm:Tok):Cn:=⟨150,[],.call (.ref 545) ⟨[.int N tN,.int z.n tm],[]⟩,λzn zu=>.cut {js:=[13,0,3,7],ju:=[13,0,3,7],i:=14,u:=(match z,v.b2 with|.s2,true|.s2,false=>12|.s3,true|.s3,false=>14|.s4,true|.s4,false=>16),K:=1,cnt:=(match z,v.b2 with|.s2,true=>39|.s2,false=>41|.s3,true=>44|.s3,false=>46|.s4,true=>49|.s4,false=>51),N:=(match z,v.b2 with|.s2,true=>243|.s2,false=>253|.s3,true=>274|.s3,false=>284|.s4,true=>305|.s4,false=>315),orc:=(match z,v.b2 with|.s2,true=>(dz 107 326248593136852381601554961790667926669392697468113504630309719101988410068261425913983836736092237739015304305560150431400845586777462264047342401406211004016240636748844697382774707699873205397062952830157499764921967067136)|.s2,false=>(dz 111 87576689868049439459899416477340521440072989987923094075195300868374169363388746992430467990882471495532982202241802316481682703872195653372340763109611292095317386731406483815127135209628194070445519151325714744186416171860363329536)|.s3,true=>(dz 123 1693979545245885746378364355730426404102576377290759984293151228030781031026157836767816306330300975604439624010639939728620713711640941130179522401242489175366975495528253359190057518020344558771104763194656180548012484287651114414727846530334850974425825280)|.s3,false=>(dz 127 454724171682751972452976584364643224859715360612873200970284887573402688099656826840742336314010029003622626095764681072864817536229788540548895457639742548364698034482952651357714880516019408910840306731929548588624064059467499570089990255164196523707178523941683200)|.s4,true=>(dz 139 8795644671202468461310391804459707424714683599620919813652639938372116990239911077287880533319004264864263777005568854782396810372211445133518456704149533462129014924691936209736266052487228057627022117187642919318034542760239270297730158722472152926540165871360109942651716485943790634287104)|.s4,false=>(dz 143 2361062888128204689737473381568804396179871761959963037317281427460731121960398079431223454235010103304783425084772190072910468565210109002835007809794637107093860852140485555983466217536728997825103959949350364612307811509596327191478450921619189818140489947031691717013503259830008724421164725714944))} (kY v.w zn (zn+13)) (λE=>[(zn+13,ay 0 z.n),(zn,gJ (aq (E.lk 0)) N tN z.n tm (zn+7) (zn+3) none),(zn+3,ac (aa (Aw z zu)) z.n),(zn+7,ac #[] 0)]) (λj=>m8 z zn (zn+13) (zn+7) (zn+3) tm) λy n1 u1=>.fin {js:=[7],N:=8,orc:=(dz 1 1)} (.ok (.ret (.ref (zn+7)))) (λE=>[(zn+7,ac (aa y.ys) y.fe)])⟩
theorem yv v z N tN tm:(GM v z N tN tm).G v:=Cn.h2 dG (f:=λz v=>GM v z N tN tm) (λj j j j=>by kernel_rfl) z v
theorem qg:∀(k:Nat) (a:Nat→Int×Tok),(kl k a).length=k
 |0,_=>rfl
 |k+1,a=>by simp[kl,qg k]
theorem ku:∀(l:List (Int×Tok)),∃a,kl l.length a=l
 |[]=>⟨λj=>(0,0),rfl⟩
 |x::l=>by
  obtain⟨a,h⟩:=ku l
  exact⟨λi=>match i with|0=>x|i+1=>a i,by simp[kl,h]⟩
theorem qh:∀(k:Nat) (a:Nat→Int×Tok) (i:Nat) (h:i<(kl k a).length),(kl k a)[i]=a i
 |0,_,_,h=>absurd h (by simp[kl])
 |k+1,a,0,_=>rfl
 |k+1,a,i+1,h=>by
  have:=qh k (λi=>a (i+1)) i (by simpa [kl]using h)
  simpa [kl]using this
noncomputable def CJ:List Ot:=[.t220,.t221,.t210,.t330,.t331,.t332,.t320,.t321,.t310,.t440,.t441,.t442,.t443,.t430,.t431,.t432,.t420,.t421,.t410]
theorem Bd:(List.range 5).all (λz=>(List.range 5).all λk=>(List.range 5).all λi=> !(decide (2≤z)&&decide (i<k)&&decide (k≤z)) || CJ.any λo=>decide (o.z=z)&&decide (o.k=k)&&decide (o.i=i))=true:=by decide+kernel
theorem Bc{z k i:Nat}(h1:2≤z)(h2:z<5)(h3:i<k)(h4:k≤z):∃o:Ot,o.z=z∧o.k=k∧o.i=i:=by
 have:=List.all_eq_true.mp (List.all_eq_true.mp (List.all_eq_true.mp Bd z (List.mem_range.mpr h2)) k (List.mem_range.mpr (by omega))) i (List.mem_range.mpr (by omega))
 simp only[decide_eq_true h1,decide_eq_true h3,decide_eq_true h4,Bool.and_self,Bool.not_true,Bool.false_or]at this
 obtain⟨o,_,h⟩:=List.any_eq_true.mp this
 simp only[Bool.and_eq_true,decide_eq_true_eq]at h
 exact⟨o,h.1.1,h.1.2,h.2⟩
theorem Sz.lt5(z:Sz):2≤z.n∧z.n<5:=by cases z<;>simp[Sz.n]
theorem pD(v:WV)(o:Ot)(L I F Lf:Addr)(ht:Nat→Int×Tok)(N:Int)(tN tm:Tok)(cv:Option (Int×Tok))(a:Nat→Int×Tok)(le:Nat)(fs:Array Value)(fe:Nat){A:Around}(hA:cp A 100){s:Shared}{R:Result→Shared→Prop}
  (hk:Kn (KB v.w) s [(I,ay ((o.z-o.k:Nat):Int) o.k),(L,gJ ht N tN o.z tm F Lf cv),(Lf,ac (aa (kl o.k a)) le),(F,ac fs fe)]) (hN:N.fmod (o.k:Int)=(o.i:Int)) (hz:fs.size≤4)
  (H:∀ht' tN' c' s',ah s s' [I,L,Lf,F]→Kn (KB v.w) s' [(I,ay ((o.z-o.k:Nat)+1:Int) (o.k-1:Nat)),(L,gJ ht' (N.fdiv 4) tN' o.z tm F Lf (some c')),(Lf,ac (aa ((kl o.k a).eraseIdx o.i)) (le+1)),(F,ac (fs.push (.int (a o.i).1 (a o.i).2)) (fe+1))]→codeAny (model pr v.w) A (kY v.w L I) R s'):codeAny (model pr v.w) A (kY v.w L I) R s:=by
 refine(yu v o L I F Lf ht N tN tm cv a le fs fe).go (W:=[I,L,Lf,F]) hA hk [0,1,2,3] ?_
 have hk0:(o.k:Int)≠0:=by cases o<;>decide
 have hs:fs.size≤sizeLine:=Nat.le_trans hz (by decide)
 refine kc (hps:=(by cases o<;>cases cv<;>exact⟨⟨hN,hk0⟩,trivial⟩)) (λE=>ll v.w hs) λj s1 s2 j=>?_
 refine kt (hps:=⟨⟨by decide,PyProof.noPylong_small (by decide)⟩,trivial⟩) λE s3 F3 K3=>?_
 exact H _ _ _ s3 F3 K3
theorem sN(v:WV)(z:Sz)(L I F Lf:Addr)(tm:Tok){A:Around}(hA:cp A 100):∀(k:Nat),k≤z.n→∀(ls:List (Int×Tok)) (ht:Nat→Int×Tok) (N:Int) (tN:Tok) (cv:Option (Int×Tok)) (le:Nat) (fs:List (Int×Tok)) (fe:Nat) (s:Shared) (R:Result→Shared→Prop),ls.length=k→fs.length+k≤4→
  Kn (KB v.w) s [(I,ay ((z.n-k:Nat):Int) k),(L,gJ ht N tN z.n tm F Lf cv),(Lf,ac (aa ls) le),(F,ac (aa fs) fe)]→
  (∀ht' N' tN' cv' le' fe' ys s',ah s s' [I,L,Lf,F]→Kn (KB v.w) s' [(I,ay z.n 0),(L,gJ ht' N' tN' z.n tm F Lf cv'),(Lf,ac #[] le'),(F,ac (aa (fs++ys)) fe')]→ys.Perm ls→cv'.isSome=(cv.isSome || !ls.isEmpty)→R (.ok .next) s')→
  codeAny (model pr v.w) A (kY v.w L I) R s:=by
 have hz:=z.lt5
 intro k
 induction k with
 |zero=>
  intro _ ls ht N tN cv le fs fe s R hl hf hk H
  have:ls=[]:=List.length_eq_zero_iff.mp hl
  subst this
  refine(yw v z L I F Lf ht N tN tm cv #[] le (aa fs) fe).go (W:=[I,L,Lf,F]) hA hk [0,1,2,3] ?_
  exact kf λE s' F0 K j=>H ht N tN cv le fe [] s' F0 (by rw[List.append_nil];exact K) .nil (by simp)
 |succ k ih=>
  intro hkz ls ht N tN cv le fs fe s R hl hf hk H
  have h0:0≤N.fmod ((k+1:Nat):Int):=by rw[Int.fmod_eq_emod_of_nonneg _ (by omega)];exact Int.emod_nonneg _ (by omega)
  have h1:N.fmod ((k+1:Nat):Int)<((k+1:Nat):Int):=by rw[Int.fmod_eq_emod_of_nonneg _ (by omega)];exact Int.emod_lt_of_pos _ (by omega)
  obtain⟨i,hi⟩:=Int.eq_ofNat_of_zero_le h0
  obtain⟨o,e1,e2,e3⟩:=Bc (z:=z.n) (k:=k+1) (i:=i) hz.1 hz.2 (by omega) hkz
  obtain⟨a,ea⟩:=ku ls
  rw[hl]at ea
  have hi2:i<ls.length:=by rw[hl];omega
  have hai:a i=ls[i]:=by
   have:=qh (k+1) a i (by rw[qg];omega)
   simp only[ea]at this
   exact this.symm
  refine pD v o L I F Lf ht N tN tm cv a le (aa fs) fe hA (by rw[e1,e2,ea];exact hk) (by rw[e2,e3];exact hi) (by simp[aa];omega) λht' tN' c' s' F0 K0=>?_
  rw[e1,e2,e3,ea,hai]at K0
  have hp:(aa fs).push (.int ls[i].1 ls[i].2)=aa (fs++[ls[i]]):=tX ..
  rw[hp]at K0
  have hz1:((z.n-(k+1):Nat)+1:Int)=((z.n-k:Nat):Int):=by omega
  have hz2:((k+1-1:Nat):Int)=(k:Int):=by omega
  rw[hz1,hz2]at K0
  refine ih (by omega) (ls.eraseIdx i) ht' (N.fdiv 4) tN' (some c') (le+1) (fs++[ls[i]]) (fe+1) s' R (by rw[List.length_eraseIdx_of_lt hi2];omega) (by simp;omega) K0 λht2 N2 tN2 cv2 le2 fe2 ys s2 F2 K2 hy e=>?_
  refine H ht2 N2 tN2 cv2 le2 fe2 (ls[i]::ys) s2 (F0.trans' F2) (by rw[List.append_cons];exact K2) ((List.Perm.cons _ hy).trans (db ls i hi2)) ?_
  have:ls.isEmpty=false:=by cases ls with|nil=>simp at hl|cons=>rfl
  simp[e,this]
structure Id where
 F:Addr
 fe:Nat
 ys:List (Int×Tok)
noncomputable def qT:bS Id:={res:=λy=>.ok (.ret (.ref y.F)),add:=λy=>[(y.F,ac (aa y.ys) y.fe)]}
theorem uC(z:Sz)(u:Nat):(Aw z u).length=z.n:=by cases z<;>rfl
theorem DF(v:WV)(z:Sz)(N:Int)(tN tm:Tok):Ct v.w 150 [] aK (.call (.ref 545) ⟨[.int N tN,.int z.n tm],[]⟩) [] qT (λy j j=>∃t,y.ys.Perm (z.cl t)):=by
 refine(yv v z N tN tm).ct [] λA s R hA hk j hR=>?_
 have C:∀ht ht0,Ct v.w 100 [(s.heap.objs.size+13,ay 0 z.n),(s.heap.objs.size,gJ ht N tN z.n tm (s.heap.objs.size+7) (s.heap.objs.size+3) none),(s.heap.objs.size+3,ac (aa (Aw z ht0)) z.n),(s.heap.objs.size+7,ac #[] 0)] aK (kY v.w s.heap.objs.size (s.heap.objs.size+13))
   [s.heap.objs.size+13,s.heap.objs.size,s.heap.objs.size+3,s.heap.objs.size+7] (m8 z s.heap.objs.size (s.heap.objs.size+13) (s.heap.objs.size+7) (s.heap.objs.size+3) tm) (λy j j=>y.ys.Perm (Aw z ht0)):=by
  intro ht ht0 A s1 R hA hk _ hR
  refine sN v z _ _ _ _ tm hA z.n (Nat.le_refl _) (Aw z ht0) ht N tN none z.n [] 0 s1 R (uC z ht0) (by have:=z.lt5;simp;omega) (by rw[Nat.sub_self];exact hk) λht' N' tN' cv' le' fe' ys s' F K hy e=>?_
  cases cv' with
  |none=>
   exfalso
   have:(Aw z ht0).isEmpty=false:=by cases z<;>rfl
   simp[this]at e
  |some c'=>exact hR ⟨ht',N',tN',c',le',fe',ys⟩ s' F (by simpa [m8]using K) (by simp[m8]) hy
 exact kc (λE=>C _ _) fun(y:Ie) _ _ p1=>kr hR (λE=>⟨s.heap.objs.size+7,y.fe,y.ys⟩) λj j j=>⟨_,p1⟩
local macro_rules | `(tactic|sizeOf_list_dec)=> `(tactic|(refine fU.mem ?_;(repeat' (first|refine fU.app ?_ ?_|exact trivial|refine⟨.inr (Nat.le_add_right _ _),?_⟩|refine⟨.inl (mN 0 rfl),?_⟩|refine⟨.inl (mN 1 rfl),?_⟩|refine⟨.inl (mN 2 rfl),?_⟩|refine⟨.inl (mN 3 rfl),?_⟩|refine⟨.inl (mN 4 rfl),?_⟩|refine⟨.inl (mN 5 rfl),?_⟩|refine⟨.inl (mN 6 rfl),?_⟩|refine⟨.inl (mN 7 rfl),?_⟩));done))
noncomputable def md(env:Env)(sc:Scope)(cl:List (Str×Addr))(C:Addr):Env:=
 {scope:={sc with names:=sc.names.map λx=>match(x.2==.free&&env.scope.kind==.function&&env.kindOf x.1==some .cell)with|true=>(x.1,.cell)|false=>x},locals:=C,globals:=env.globals,cells:=cl,qual:=env.qual,func:=none,code:=env.code,frame:=env.frame,builtins:=env.builtins}
set_option backward.match.sparseCases false in
noncomputable def iT(e:Expr):Scope:=match e with|.ListComp _ _ sc _=>sc|_=>default
noncomputable def hE(st:Bool)(e:Expr)(env:Env)(cl:List (Str×Addr))(I D C:Addr):Code:=match st with
 |true=>.compStart e 0 (.ref I) (.ref D) (md env (iT e) cl C)
 |false=>.compLoop e 0 (.ref I) (.ref D) (md env (iT e) cl C)
noncomputable def Cd(w:World):FuncData:=m6 (rj w.params)
noncomputable def q6(f:FuncData)(a L:Addr)(cl:List (Str×Addr)):Env:={cR f a L with cells:=cl}
set_option backward.match.sparseCases false in
noncomputable def rt(s:Option Stmt):Expr:=match s with|some (.Assign _ x _)=>x|_=>default
set_option backward.match.sparseCases false in
noncomputable def Fy(e:Expr):Expr:=match e with|.BinOp l _ _ _=>l|_=>default
noncomputable def EB(w:World):Expr:=Fy (rt ((aH (Cd w))[0]?))
noncomputable def aB(ht:Nat→Int×Tok)(n:Str)(cv:Option Value):Obj:=match cv with
 |none=>bO ht [] 0
 |some c=>bO ht [(n,c)] 1
noncomputable def Cb(w:World):FuncData:=m6 (ri w.params)
set_option backward.match.sparseCases false in
noncomputable def EI(s:Option Stmt):Expr:=match s with|some (.Return x _)=>(match x with|some e=>e|none=>default)|_=>default
noncomputable def BG(e:Expr):Expr:=match e with|.ListComp x _ _ _=>x|_=>default
noncomputable def Gk(w:World):Expr:=EI ((aH (Cb w))[0]?)
noncomputable def Io(w:World):Expr:=BG (Gk w)
noncomputable def Cf(w:World)(L M C Nb:Addr):Env:=md (q6 (Cb w) 528 L [(Bn,M)]) (iT (Gk w)) [(bH,Nb),(Bn,M)] C
noncomputable def sa(st:Bool)(w:World)(L M Co Nb I D C:Addr):Code:=hE st (Io w) (Cf w L M Co Nb) [(bH,Nb)] I D C
noncomputable abbrev Zb:=Qm
noncomputable def Fi:En Zb:=zw
noncomputable def Zb.z:Zb→Sz|.e0=>.s2|.e1=>.s2|.e2=>.s2|.e3=>.s2|.e4=>.s3|.e5=>.s3|.e6=>.s3|.e7=>.s3|.e8=>.s3|.e9=>.s3|.e10=>.s3|.e11=>.s3|.e12=>.s4|.e13=>.s4|.e14=>.s4|.e15=>.s4|.e16=>.s4|.e17=>.s4|.e18=>.s4|.e19=>.s4|.e20=>.s4|.e21=>.s4|.e22=>.s4|.e23=>.s4|.e24=>.s4|.e25=>.s4|.e26=>.s4|.e27|.e28|.e29|.e30|.e31=>.s4
noncomputable def Zb.b:Zb→Bm|.e0=>.b0|.e1=>.b1|.e2=>.b2|.e3=>.b3|.e4=>.b0|.e5=>.b1|.e6=>.b2|.e7=>.b3|.e8=>.b4|.e9=>.b5|.e10=>.b6|.e11=>.b7|.e12=>.b0|.e13=>.b1|.e14=>.b2|.e15=>.b3|.e16=>.b4|.e17=>.b5|.e18=>.b6|.e19=>.b7|.e20=>.b8|.e21=>.b9|.e22=>.b10|.e23=>.b11|.e24=>.b12|.e25=>.b13|.e26=>.b14|.e27|.e28|.e29|.e30|.e31=>.b15
structure Ay where
 ht:Nat→Int×Tok
 c:Int
 tc:Tok
 t:Nat→Tok
noncomputable def gL(z:Sz)(b:Bm)(I D C:Addr):bS Ay:={res:=λj=>.ok .next,upd:=λy=>[(I,ay z.n 0),(D,ac (aa (b.xs y.t)) b.l.length),(C,bO y.ht [(cQ,.int y.c y.tc)] 1)]}
noncomputable def HG(v:WV)(z:Sz)(L M Co Nb I D C:Addr)(N:Int)(tN:Tok)(ht:Nat→Int×Tok):Cn:=⟨80,[(I,ay 0 z.n),(D,ac #[] 0),(C,bO ht [] 0),(Nb,af (.int N tN))],sa true v.w L M Co Nb I D C,λzn zu=>.tail {js:=[0,1,2,3],cnt:=(match v.b2 with|true=>0|false=>2),N:=(match v.b2 with|true=>6|false=>16),orc:=(match v.b2 with|true=>([])|false=>(dz 4 2113665))} (sa false v.w L M Co Nb I D C) (λE=>[(I,ay 0 z.n),(D,ac #[] 0),(C,bO ht [] 0),(Nb,af (.int N tN))])⟩
theorem zP v z L M Co Nb I D C N tN ht:(HG v z L M Co Nb I D C N tN ht).G v:=Cn.h1 (f:=λv=>HG v z L M Co Nb I D C N tN ht) (λj j j j=>by kernel_rfl) v
noncomputable def HH(v:WV)(q:Zb)(L M Co Nb I D C:Addr)(N:Int)(tN:Tok)(ht:Nat→Int×Tok):Cn:=⟨60,[(I,ay 0 q.z.n),(D,ac #[] 0),(C,bO ht [] 0),(Nb,af (.int N tN))],sa false v.w L M Co Nb I D C,λzn zu=>.fin {ws:=[0,2,1],js:=[0,1,2],i:=(match q with|.e0|.e1|.e2|.e3=>4|.e4|.e5|.e6|.e7|.e8|.e9|.e10|.e11=>5|.e12|.e13|.e14|.e15|.e16|.e17|.e18|.e19|.e20|.e21|.e22|.e23|.e24|.e25|.e26|.e27|.e28|.e29|.e30|.e31=>6),u:=(match q with|.e0|.e1|.e2|.e3=>24|.e4|.e5|.e6|.e7|.e8|.e9|.e10|.e11=>36|.e12|.e13|.e14|.e15|.e16|.e17|.e18|.e19|.e20|.e21|.e22|.e23|.e24|.e25|.e26|.e27|.e28|.e29|.e30|.e31=>48),cnt:=(match q with|.e0=>14|.e1|.e2=>16|.e3=>18|.e4=>20|.e5|.e6|.e8=>22|.e7|.e9|.e10=>24|.e11|.e12=>26|.e13|.e14|.e16|.e20=>28|.e15|.e17|.e18|.e21|.e22|.e24=>30|.e19|.e23|.e25|.e26=>32|.e27|.e28|.e29|.e30|.e31=>34),N:=(match q with|.e0=>127|.e1|.e2=>136|.e3=>145|.e4=>181|.e5|.e6|.e8=>190|.e7|.e9|.e10=>199|.e11=>208|.e12=>235|.e13|.e14|.e16|.e20=>244|.e15|.e17|.e18|.e21|.e22|.e24=>253|.e19|.e23|.e25|.e26=>262|.e27|.e28|.e29|.e30|.e31=>271),orc:=(match q with|.e0=>(dz 48 8757614122458213729486731555451442216527459765647737383307282982963769380521461466885443320262180993)|.e1=>(dz 53 300909329975566136757789623172761238688153523035302850541611550842125828256306720310004527470741967617688354945)|.e2=>(dz 53 300909329975566204012472678673799782548458677790646117288376166284899944156365618990719578437556785171277037697)|.e3=>(dz 58 10339165850450634602531473047979893744780332450545812867703646681116025007269085261389996804068532562787101279248139174017)|.e4=>(dz 69 1757519853130701406494872180430555894195767985987242139496008845056598631281920263042978771042796438447439613917598948055686886655329391182102657)|.e5=>(dz 74 60387922330136686035493424053195590117366877771351930098947423296358579122833680686794490112408660156136618252239742484445292618832787632717969071783559297)|.e6=>(dz 74 60387922330136686035493424053195590117366877771351930098947490551041634623872224547099644867751926902901233695013858384504191299547838599532786625372242049)|.e7=>(dz 79 2074913211850601453858113212252278590764092333292687243851660127503942715551299722500491090881670168711546929905102457224319269570385519878665274644600062946354151553)|.e8=>(dz 74 60387922330136698033397264018690393183201719348508375135268086644170319199034080699305902349285998916323176102073369079229314830367540177549945588015972481)|.e9=>(dz 79 2074913211850601866102950117889222171769861769382511180704608066633647280109858331143549283919623474370395855402031400901172431765830850679171596815704926185393766529)|.e10=>(dz 79 2074913211850601866102950117889222171769861769382511180704608066633647347364541386644587827779928629125739122148796016343946547665889749359886647782519743738982449281)|.e11=>(dz 84 71293475095493237222629933803628430229037205903508637083845103061514433361022856365415967165715789978473300811654625087778655655375364977057300560842772957824683235372135628929)|.e12=>(dz 90 348360678905453531487860321393477485026666221191101693139490950338498445259654430335936196749235178969924315979164147280950304926782293236232602190797093124857205962572788459221847558340737)|.e13=>(dz 95 11969581784890239950304530411208279567214888863389471505954729582334487617096496052434850068644692853508255237805441839899271067694060991692008229267988735697136272733359510442271677814362872662212737)|.e14=>(dz 95 11969581784890239950304530411208279567214888863389471505954729582334487617096496052434850068644692853508322492488497340937814927999215747035274976032604178471252172792258191157322644629180426250895489)|.e15=>(dz 100 411271698503207100289204986854215940684903851780259134630395462501202909186771368171206257723938486798265311752474413884087016683657810777317719843417750209976179865045630582570406095647678983087683660897337473)|.e16=>(dz 95 11969581784890239950304530411208279567214888863389471505954741580238327582591299118269691645801137889828918585617181916099671080205473228569346989454546585530762867517381721977024222646339388894625921)|.e17=>(dz 100 411271698503207100289204986854215940684903851780259134630395874746039814823714949176975693813762423651213250882178978442645625326716003815271025502266675706905123541898792778015736896154001154192546899936952449)|.e18=>(dz 100 411271698503207100289204986854215940684903851780259134630395874746039814823714949176975693813762423651213250882179045697328680827754547675576180257609942453669738984672908678074635576869052121007364453525635201)|.e19=>(dz 105 14131187958733173174857020483031739079708303074405154893142490636540426481454013695531301768936152994365262586086417203892129589744223931054980097304284463703628192992211481234753327516665252372795718383204316220517007489)|.e20=>(dz 95 11969581784890242090671408619812676822318324124569064913553377527162789994808128153828043111878112117352658955653816696069181303478020916505574212484512106437996271778182463587550198983854081422934145)|.e21=>(dz 100 411271698503207173831650933634783556784595240132415711176102589036044277566535361725346418985556485458007874505397256057567243615462007129563102754575475229338497311009882697933780397978764852821181910239690881)|.e22=>(dz 100 411271698503207173831650933634783556784595240132415711176102589036044277566535361725346418985556485458007874505397323312250299116500550989868257509918741976103112753783998597992679078693815819635999463828373633)|.e23=>(dz 105 14131187958733175701756222157194094275427163783727937511823538533205906698849726741103144030509428811222747218489229432896427446972700483739716746828859139238602262410422570810459374241806663641099617730171393217975566465)|.e24=>(dz 100 411271698503207173831650933634783556784595240132415711176102589036044289564439201690841222051391327035164319541717919405378983691662407142074514991452813989525055160843509292717802609513517397653158426472104065)|.e25=>(dz 105 14131187958733175701756222157194094275427163783727937511823538533205907111094563646740087611515198247312571155342177372026132011531259092382774939866812444897451187907351514487312536437251994441605939901276256457015181441)|.e26=>(dz 105 14131187958733175701756222157194094275427163783727937511823538533205907111094563646740087611515198247312571155342177372026132078785942147883813483727117599652794454654116129930086652337310893122320990868091074010603864193)|.e27|.e28|.e29|.e30|.e31=>(dz 110 485543921091103897834118591437273648298403879049176868598509690584921448609319917009113386429060235833312104014940700018267700286096935277671796162974386230838185101996670158686471882877530083477859736040953701759313426894429372545)),ps:=(match q with|.e0=>[(N.fdiv (2:Int)).fmod (2:Int)≠(1:Int),(2:Int)≠(0:Int),(2:Int)≠(0:Int)∧Builtin.divisionGoesByPylong N (2:Int)=false,(N.fdiv (1:Int)).fmod (2:Int)≠(1:Int),(2:Int)≠(0:Int),(1:Int)≠(0:Int)∧Builtin.divisionGoesByPylong N (1:Int)=false]|.e1=>[(N.fdiv (2:Int)).fmod (2:Int)≠(1:Int),(2:Int)≠(0:Int),(2:Int)≠(0:Int)∧Builtin.divisionGoesByPylong N (2:Int)=false,(N.fdiv (1:Int)).fmod (2:Int)=(1:Int),(2:Int)≠(0:Int),(1:Int)≠(0:Int)∧Builtin.divisionGoesByPylong N (1:Int)=false]|.e2=>[(N.fdiv (2:Int)).fmod (2:Int)=(1:Int),(2:Int)≠(0:Int),(2:Int)≠(0:Int)∧Builtin.divisionGoesByPylong N (2:Int)=false,(N.fdiv (1:Int)).fmod (2:Int)≠(1:Int),(2:Int)≠(0:Int),(1:Int)≠(0:Int)∧Builtin.divisionGoesByPylong N (1:Int)=false]|.e3=>[(N.fdiv (2:Int)).fmod (2:Int)=(1:Int),(2:Int)≠(0:Int),(2:Int)≠(0:Int)∧Builtin.divisionGoesByPylong N (2:Int)=false,(N.fdiv (1:Int)).fmod (2:Int)=(1:Int),(2:Int)≠(0:Int),(1:Int)≠(0:Int)∧Builtin.divisionGoesByPylong N (1:Int)=false]|.e4=>[(N.fdiv (4:Int)).fmod (2:Int)≠(1:Int),(2:Int)≠(0:Int),(4:Int)≠(0:Int)∧Builtin.divisionGoesByPylong N (4:Int)=false,(N.fdiv (2:Int)).fmod (2:Int)≠(1:Int),(2:Int)≠(0:Int),(2:Int)≠(0:Int)∧Builtin.divisionGoesByPylong N (2:Int)=false,(N.fdiv (1:Int)).fmod (2:Int)≠(1:Int),(2:Int)≠(0:Int),(1:Int)≠(0:Int)∧Builtin.divisionGoesByPylong N (1:Int)=false]|.e5=>[(N.fdiv (4:Int)).fmod (2:Int)≠(1:Int),(2:Int)≠(0:Int),(4:Int)≠(0:Int)∧Builtin.divisionGoesByPylong N (4:Int)=false,(N.fdiv (2:Int)).fmod (2:Int)≠(1:Int),(2:Int)≠(0:Int),(2:Int)≠(0:Int)∧Builtin.divisionGoesByPylong N (2:Int)=false,(N.fdiv (1:Int)).fmod (2:Int)=(1:Int),(2:Int)≠(0:Int),(1:Int)≠(0:Int)∧Builtin.divisionGoesByPylong N (1:Int)=false]|.e6=>[(N.fdiv (4:Int)).fmod (2:Int)≠(1:Int),(2:Int)≠(0:Int),(4:Int)≠(0:Int)∧Builtin.divisionGoesByPylong N (4:Int)=false,(N.fdiv (2:Int)).fmod (2:Int)=(1:Int),(2:Int)≠(0:Int),(2:Int)≠(0:Int)∧Builtin.divisionGoesByPylong N (2:Int)=false,(N.fdiv (1:Int)).fmod (2:Int)≠(1:Int),(2:Int)≠(0:Int),(1:Int)≠(0:Int)∧Builtin.divisionGoesByPylong N (1:Int)=false]|.e7=>[(N.fdiv (4:Int)).fmod (2:Int)≠(1:Int),(2:Int)≠(0:Int),(4:Int)≠(0:Int)∧Builtin.divisionGoesByPylong N (4:Int)=false,(N.fdiv (2:Int)).fmod (2:Int)=(1:Int),(2:Int)≠(0:Int),(2:Int)≠(0:Int)∧Builtin.divisionGoesByPylong N (2:Int)=false,(N.fdiv (1:Int)).fmod (2:Int)=(1:Int),(2:Int)≠(0:Int),(1:Int)≠(0:Int)∧Builtin.divisionGoesByPylong N (1:Int)=false]|.e8=>[(N.fdiv (4:Int)).fmod (2:Int)=(1:Int),(2:Int)≠(0:Int),(4:Int)≠(0:Int)∧Builtin.divisionGoesByPylong N (4:Int)=false,(N.fdiv (2:Int)).fmod (2:Int)≠(1:Int),(2:Int)≠(0:Int),(2:Int)≠(0:Int)∧Builtin.divisionGoesByPylong N (2:Int)=false,(N.fdiv (1:Int)).fmod (2:Int)≠(1:Int),(2:Int)≠(0:Int),(1:Int)≠(0:Int)∧Builtin.divisionGoesByPylong N (1:Int)=false]|.e9=>[(N.fdiv (4:Int)).fmod (2:Int)=(1:Int),(2:Int)≠(0:Int),(4:Int)≠(0:Int)∧Builtin.divisionGoesByPylong N (4:Int)=false,(N.fdiv (2:Int)).fmod (2:Int)≠(1:Int),(2:Int)≠(0:Int),(2:Int)≠(0:Int)∧Builtin.divisionGoesByPylong N (2:Int)=false,(N.fdiv (1:Int)).fmod (2:Int)=(1:Int),(2:Int)≠(0:Int),(1:Int)≠(0:Int)∧Builtin.divisionGoesByPylong N (1:Int)=false]|.e10=>[(N.fdiv (4:Int)).fmod (2:Int)=(1:Int),(2:Int)≠(0:Int),(4:Int)≠(0:Int)∧Builtin.divisionGoesByPylong N (4:Int)=false,(N.fdiv (2:Int)).fmod (2:Int)=(1:Int),(2:Int)≠(0:Int),(2:Int)≠(0:Int)∧Builtin.divisionGoesByPylong N (2:Int)=false,(N.fdiv (1:Int)).fmod (2:Int)≠(1:Int),(2:Int)≠(0:Int),(1:Int)≠(0:Int)∧Builtin.divisionGoesByPylong N (1:Int)=false]|.e11=>[(N.fdiv (4:Int)).fmod (2:Int)=(1:Int),(2:Int)≠(0:Int),(4:Int)≠(0:Int)∧Builtin.divisionGoesByPylong N (4:Int)=false,(N.fdiv (2:Int)).fmod (2:Int)=(1:Int),(2:Int)≠(0:Int),(2:Int)≠(0:Int)∧Builtin.divisionGoesByPylong N (2:Int)=false,(N.fdiv (1:Int)).fmod (2:Int)=(1:Int),(2:Int)≠(0:Int),(1:Int)≠(0:Int)∧Builtin.divisionGoesByPylong N (1:Int)=false]|.e12=>[(N.fdiv (8:Int)).fmod (2:Int)≠(1:Int),(2:Int)≠(0:Int),(8:Int)≠(0:Int)∧Builtin.divisionGoesByPylong N (8:Int)=false,(N.fdiv (4:Int)).fmod (2:Int)≠(1:Int),(2:Int)≠(0:Int),(4:Int)≠(0:Int)∧Builtin.divisionGoesByPylong N (4:Int)=false,(N.fdiv (2:Int)).fmod (2:Int)≠(1:Int),(2:Int)≠(0:Int),(2:Int)≠(0:Int)∧Builtin.divisionGoesByPylong N (2:Int)=false,(N.fdiv (1:Int)).fmod (2:Int)≠(1:Int),(2:Int)≠(0:Int),(1:Int)≠(0:Int)∧Builtin.divisionGoesByPylong N (1:Int)=false]|.e13=>[(N.fdiv (8:Int)).fmod (2:Int)≠(1:Int),(2:Int)≠(0:Int),(8:Int)≠(0:Int)∧Builtin.divisionGoesByPylong N (8:Int)=false,(N.fdiv (4:Int)).fmod (2:Int)≠(1:Int),(2:Int)≠(0:Int),(4:Int)≠(0:Int)∧Builtin.divisionGoesByPylong N (4:Int)=false,(N.fdiv (2:Int)).fmod (2:Int)≠(1:Int),(2:Int)≠(0:Int),(2:Int)≠(0:Int)∧Builtin.divisionGoesByPylong N (2:Int)=false,(N.fdiv (1:Int)).fmod (2:Int)=(1:Int),(2:Int)≠(0:Int),(1:Int)≠(0:Int)∧Builtin.divisionGoesByPylong N (1:Int)=false]|.e14=>[(N.fdiv (8:Int)).fmod (2:Int)≠(1:Int),(2:Int)≠(0:Int),(8:Int)≠(0:Int)∧Builtin.divisionGoesByPylong N (8:Int)=false,(N.fdiv (4:Int)).fmod (2:Int)≠(1:Int),(2:Int)≠(0:Int),(4:Int)≠(0:Int)∧Builtin.divisionGoesByPylong N (4:Int)=false,(N.fdiv (2:Int)).fmod (2:Int)=(1:Int),(2:Int)≠(0:Int),(2:Int)≠(0:Int)∧Builtin.divisionGoesByPylong N (2:Int)=false,(N.fdiv (1:Int)).fmod (2:Int)≠(1:Int),(2:Int)≠(0:Int),(1:Int)≠(0:Int)∧Builtin.divisionGoesByPylong N (1:Int)=false]|.e15=>[(N.fdiv (8:Int)).fmod (2:Int)≠(1:Int),(2:Int)≠(0:Int),(8:Int)≠(0:Int)∧Builtin.divisionGoesByPylong N (8:Int)=false,(N.fdiv (4:Int)).fmod (2:Int)≠(1:Int),(2:Int)≠(0:Int),(4:Int)≠(0:Int)∧Builtin.divisionGoesByPylong N (4:Int)=false,(N.fdiv (2:Int)).fmod (2:Int)=(1:Int),(2:Int)≠(0:Int),(2:Int)≠(0:Int)∧Builtin.divisionGoesByPylong N (2:Int)=false,(N.fdiv (1:Int)).fmod (2:Int)=(1:Int),(2:Int)≠(0:Int),(1:Int)≠(0:Int)∧Builtin.divisionGoesByPylong N (1:Int)=false]|.e16=>[(N.fdiv (8:Int)).fmod (2:Int)≠(1:Int),(2:Int)≠(0:Int),(8:Int)≠(0:Int)∧Builtin.divisionGoesByPylong N (8:Int)=false,(N.fdiv (4:Int)).fmod (2:Int)=(1:Int),(2:Int)≠(0:Int),(4:Int)≠(0:Int)∧Builtin.divisionGoesByPylong N (4:Int)=false,(N.fdiv (2:Int)).fmod (2:Int)≠(1:Int),(2:Int)≠(0:Int),(2:Int)≠(0:Int)∧Builtin.divisionGoesByPylong N (2:Int)=false,(N.fdiv (1:Int)).fmod (2:Int)≠(1:Int),(2:Int)≠(0:Int),(1:Int)≠(0:Int)∧Builtin.divisionGoesByPylong N (1:Int)=false]|.e17=>[(N.fdiv (8:Int)).fmod (2:Int)≠(1:Int),(2:Int)≠(0:Int),(8:Int)≠(0:Int)∧Builtin.divisionGoesByPylong N (8:Int)=false,(N.fdiv (4:Int)).fmod (2:Int)=(1:Int),(2:Int)≠(0:Int),(4:Int)≠(0:Int)∧Builtin.divisionGoesByPylong N (4:Int)=false,(N.fdiv (2:Int)).fmod (2:Int)≠(1:Int),(2:Int)≠(0:Int),(2:Int)≠(0:Int)∧Builtin.divisionGoesByPylong N (2:Int)=false,(N.fdiv (1:Int)).fmod (2:Int)=(1:Int),(2:Int)≠(0:Int),(1:Int)≠(0:Int)∧Builtin.divisionGoesByPylong N (1:Int)=false]|.e18=>[(N.fdiv (8:Int)).fmod (2:Int)≠(1:Int),(2:Int)≠(0:Int),(8:Int)≠(0:Int)∧Builtin.divisionGoesByPylong N (8:Int)=false,(N.fdiv (4:Int)).fmod (2:Int)=(1:Int),(2:Int)≠(0:Int),(4:Int)≠(0:Int)∧Builtin.divisionGoesByPylong N (4:Int)=false,(N.fdiv (2:Int)).fmod (2:Int)=(1:Int),(2:Int)≠(0:Int),(2:Int)≠(0:Int)∧Builtin.divisionGoesByPylong N (2:Int)=false,(N.fdiv (1:Int)).fmod (2:Int)≠(1:Int),(2:Int)≠(0:Int),(1:Int)≠(0:Int)∧Builtin.divisionGoesByPylong N (1:Int)=false]|.e19=>[(N.fdiv (8:Int)).fmod (2:Int)≠(1:Int),(2:Int)≠(0:Int),(8:Int)≠(0:Int)∧Builtin.divisionGoesByPylong N (8:Int)=false,(N.fdiv (4:Int)).fmod (2:Int)=(1:Int),(2:Int)≠(0:Int),(4:Int)≠(0:Int)∧Builtin.divisionGoesByPylong N (4:Int)=false,(N.fdiv (2:Int)).fmod (2:Int)=(1:Int),(2:Int)≠(0:Int),(2:Int)≠(0:Int)∧Builtin.divisionGoesByPylong N (2:Int)=false,(N.fdiv (1:Int)).fmod (2:Int)=(1:Int),(2:Int)≠(0:Int),(1:Int)≠(0:Int)∧Builtin.divisionGoesByPylong N (1:Int)=false]|.e20=>[(N.fdiv (8:Int)).fmod (2:Int)=(1:Int),(2:Int)≠(0:Int),(8:Int)≠(0:Int)∧Builtin.divisionGoesByPylong N (8:Int)=false,(N.fdiv (4:Int)).fmod (2:Int)≠(1:Int),(2:Int)≠(0:Int),(4:Int)≠(0:Int)∧Builtin.divisionGoesByPylong N (4:Int)=false,(N.fdiv (2:Int)).fmod (2:Int)≠(1:Int),(2:Int)≠(0:Int),(2:Int)≠(0:Int)∧Builtin.divisionGoesByPylong N (2:Int)=false,(N.fdiv (1:Int)).fmod (2:Int)≠(1:Int),(2:Int)≠(0:Int),(1:Int)≠(0:Int)∧Builtin.divisionGoesByPylong N (1:Int)=false]|.e21=>[(N.fdiv (8:Int)).fmod (2:Int)=(1:Int),(2:Int)≠(0:Int),(8:Int)≠(0:Int)∧Builtin.divisionGoesByPylong N (8:Int)=false,(N.fdiv (4:Int)).fmod (2:Int)≠(1:Int),(2:Int)≠(0:Int),(4:Int)≠(0:Int)∧Builtin.divisionGoesByPylong N (4:Int)=false,(N.fdiv (2:Int)).fmod (2:Int)≠(1:Int),(2:Int)≠(0:Int),(2:Int)≠(0:Int)∧Builtin.divisionGoesByPylong N (2:Int)=false,(N.fdiv (1:Int)).fmod (2:Int)=(1:Int),(2:Int)≠(0:Int),(1:Int)≠(0:Int)∧Builtin.divisionGoesByPylong N (1:Int)=false]|.e22=>[(N.fdiv (8:Int)).fmod (2:Int)=(1:Int),(2:Int)≠(0:Int),(8:Int)≠(0:Int)∧Builtin.divisionGoesByPylong N (8:Int)=false,(N.fdiv (4:Int)).fmod (2:Int)≠(1:Int),(2:Int)≠(0:Int),(4:Int)≠(0:Int)∧Builtin.divisionGoesByPylong N (4:Int)=false,(N.fdiv (2:Int)).fmod (2:Int)=(1:Int),(2:Int)≠(0:Int),(2:Int)≠(0:Int)∧Builtin.divisionGoesByPylong N (2:Int)=false,(N.fdiv (1:Int)).fmod (2:Int)≠(1:Int),(2:Int)≠(0:Int),(1:Int)≠(0:Int)∧Builtin.divisionGoesByPylong N (1:Int)=false]|.e23=>[(N.fdiv (8:Int)).fmod (2:Int)=(1:Int),(2:Int)≠(0:Int),(8:Int)≠(0:Int)∧Builtin.divisionGoesByPylong N (8:Int)=false,(N.fdiv (4:Int)).fmod (2:Int)≠(1:Int),(2:Int)≠(0:Int),(4:Int)≠(0:Int)∧Builtin.divisionGoesByPylong N (4:Int)=false,(N.fdiv (2:Int)).fmod (2:Int)=(1:Int),(2:Int)≠(0:Int),(2:Int)≠(0:Int)∧Builtin.divisionGoesByPylong N (2:Int)=false,(N.fdiv (1:Int)).fmod (2:Int)=(1:Int),(2:Int)≠(0:Int),(1:Int)≠(0:Int)∧Builtin.divisionGoesByPylong N (1:Int)=false]|.e24=>[(N.fdiv (8:Int)).fmod (2:Int)=(1:Int),(2:Int)≠(0:Int),(8:Int)≠(0:Int)∧Builtin.divisionGoesByPylong N (8:Int)=false,(N.fdiv (4:Int)).fmod (2:Int)=(1:Int),(2:Int)≠(0:Int),(4:Int)≠(0:Int)∧Builtin.divisionGoesByPylong N (4:Int)=false,(N.fdiv (2:Int)).fmod (2:Int)≠(1:Int),(2:Int)≠(0:Int),(2:Int)≠(0:Int)∧Builtin.divisionGoesByPylong N (2:Int)=false,(N.fdiv (1:Int)).fmod (2:Int)≠(1:Int),(2:Int)≠(0:Int),(1:Int)≠(0:Int)∧Builtin.divisionGoesByPylong N (1:Int)=false]|.e25=>[(N.fdiv (8:Int)).fmod (2:Int)=(1:Int),(2:Int)≠(0:Int),(8:Int)≠(0:Int)∧Builtin.divisionGoesByPylong N (8:Int)=false,(N.fdiv (4:Int)).fmod (2:Int)=(1:Int),(2:Int)≠(0:Int),(4:Int)≠(0:Int)∧Builtin.divisionGoesByPylong N (4:Int)=false,(N.fdiv (2:Int)).fmod (2:Int)≠(1:Int),(2:Int)≠(0:Int),(2:Int)≠(0:Int)∧Builtin.divisionGoesByPylong N (2:Int)=false,(N.fdiv (1:Int)).fmod (2:Int)=(1:Int),(2:Int)≠(0:Int),(1:Int)≠(0:Int)∧Builtin.divisionGoesByPylong N (1:Int)=false]|.e26=>[(N.fdiv (8:Int)).fmod (2:Int)=(1:Int),(2:Int)≠(0:Int),(8:Int)≠(0:Int)∧Builtin.divisionGoesByPylong N (8:Int)=false,(N.fdiv (4:Int)).fmod (2:Int)=(1:Int),(2:Int)≠(0:Int),(4:Int)≠(0:Int)∧Builtin.divisionGoesByPylong N (4:Int)=false,(N.fdiv (2:Int)).fmod (2:Int)=(1:Int),(2:Int)≠(0:Int),(2:Int)≠(0:Int)∧Builtin.divisionGoesByPylong N (2:Int)=false,(N.fdiv (1:Int)).fmod (2:Int)≠(1:Int),(2:Int)≠(0:Int),(1:Int)≠(0:Int)∧Builtin.divisionGoesByPylong N (1:Int)=false]|.e27|.e28|.e29|.e30|.e31=>[(N.fdiv (8:Int)).fmod (2:Int)=(1:Int),(2:Int)≠(0:Int),(8:Int)≠(0:Int)∧Builtin.divisionGoesByPylong N (8:Int)=false,(N.fdiv (4:Int)).fmod (2:Int)=(1:Int),(2:Int)≠(0:Int),(4:Int)≠(0:Int)∧Builtin.divisionGoesByPylong N (4:Int)=false,(N.fdiv (2:Int)).fmod (2:Int)=(1:Int),(2:Int)≠(0:Int),(2:Int)≠(0:Int)∧Builtin.divisionGoesByPylong N (2:Int)=false,(N.fdiv (1:Int)).fmod (2:Int)=(1:Int),(2:Int)≠(0:Int),(1:Int)≠(0:Int)∧Builtin.divisionGoesByPylong N (1:Int)=false]),wa:=[I,C,D]} (.ok .next) (λE=>[(I,ay q.z.n 0),(D,ac (aa (q.b.xs λc=>zu+12*c)) q.b.l.length),(C,bO (aq (E.lk 2)) [(cQ,.int (q.z.n-1:Nat) (zu+12*(q.z.n-1)))] 1)])⟩
theorem zQ v q L M Co Nb I D C N tN ht:(HH v q L M Co Nb I D C N tN ht).G v:=Cn.g2 Fi (f:=λq v=>HH v q L M Co Nb I D C N tN ht) (λj j j j j=>by kernel_rfl) q v
noncomputable def HN(v:WV)(z:Sz)(DL:Addr)(a:Nat→Int×Tok)(de:Nat)(tm:Tok)(p1 p2:Bm):Cn:=⟨150,[(DL,ac (aa (kl 2 a)) de)],.call (.ref 528) ⟨[.ref DL,.int z.n tm],[]⟩,λzn zu=>.cut {js:=[8,9,10,6],ju:=[8,9,10],i:=10,u:=3,K:=2,cnt:=(match z,v.b2 with|.s2,true|.s3,true|.s4,true=>15|.s2,false|.s3,false|.s4,false=>17),N:=(match z,v.b2 with|.s2,true|.s3,true|.s4,true=>91|.s2,false|.s3,false|.s4,false=>101),orc:=(match z,v.b2 with|.s2,true|.s3,true|.s4,true=>(dz 35 4003230258976221187697574616920614208269589817086580843505932062896979968)|.s2,false|.s3,false|.s4,false=>(dz 39 1074608940041280027676460032387110390796926313482593878431301751690262891756290048))} (sa true v.w zn (zn+1) (zn+4) (zn+5) (zn+7) (zn+8) (zn+9)) (λE=>[(zn+7,ay 0 z.n),(zn+8,ac #[] 0),(zn+9,bO (λj=>(0,0)) [] 0),(zn+5,af (.int (a 0).1 (a 0).2))]) (λj=>gL z p1 (zn+7) (zn+8) (zn+9)) λy1 n1 u1=>.cut {ws:=[10,4,3,6],js:=[12,13,14,6],ju:=[12,13,14],i:=4,u:=2,K:=2,cnt:=13,N:=73,orc:=(dz 30 168336249927729186030001302519761606064474662282972114528159115),wa:=[zn+9,zn+3,zn+2,zn+5]} (sa true v.w zn (zn+1) (zn+4) (zn+5) (n1+1) (n1+2) (n1+3)) (λE=>[(n1+1,ay 0 z.n),(n1+2,ac #[] 0),(n1+3,bO (λj=>(0,0)) [] 0),(zn+5,af (.int (a 1).1 (a 1).2))]) (λj=>gL z p2 (n1+1) (n1+2) (n1+3)) λy2 n2 u2=>.fin {ws:=[14,4,3],js:=[4,9,13],i:=2,cnt:=5,N:=36,orc:=(dz 15 5397496098411991262012423522191),wa:=[n1+3,zn+3,zn+2]} (.ok (.ret (.ref (zn+3)))) (λE=>[(zn+3,ac #[.ref (zn+8),.ref (n1+2)] 2),(zn+8,ac (aa (p1.xs y1.t)) p1.l.length),(n1+2,ac (aa (p2.xs y2.t)) p2.l.length)])⟩
theorem zV v z DL a de tm p1 p2:(HN v z DL a de tm p1 p2).G v:=Cn.h2 dG (f:=λz v=>HN v z DL a de tm p1 p2) (λj j j j=>by kernel_rfl) z v
noncomputable def HM(v:WV)(z:Sz)(DL:Addr)(a:Nat→Int×Tok)(de:Nat)(tm:Tok)(p1 p2 p3:Bm):Cn:=⟨150,[(DL,ac (aa (kl 3 a)) de)],.call (.ref 528) ⟨[.ref DL,.int z.n tm],[]⟩,λzn zu=>.cut {js:=[8,9,10,6],ju:=[8,9,10],i:=10,u:=3,K:=2,cnt:=(match z,v.b2 with|.s2,true|.s3,true|.s4,true=>15|.s2,false|.s3,false|.s4,false=>17),N:=(match z,v.b2 with|.s2,true|.s3,true|.s4,true=>91|.s2,false|.s3,false|.s4,false=>101),orc:=(match z,v.b2 with|.s2,true|.s3,true|.s4,true=>(dz 35 4003230258976221187697574616920614208269589817086580843505932062896979968)|.s2,false|.s3,false|.s4,false=>(dz 39 1074608940041280027676460032387110390796926313482593878431301751690262891756290048))} (sa true v.w zn (zn+1) (zn+4) (zn+5) (zn+7) (zn+8) (zn+9)) (λE=>[(zn+7,ay 0 z.n),(zn+8,ac #[] 0),(zn+9,bO (λj=>(0,0)) [] 0),(zn+5,af (.int (a 0).1 (a 0).2))]) (λj=>gL z p1 (zn+7) (zn+8) (zn+9)) λy1 n1 u1=>.cut {ws:=[10,4,3,6],js:=[12,13,14,6],ju:=[12,13,14],i:=4,u:=2,K:=2,cnt:=13,N:=73,orc:=(dz 30 168336249927729186030001302519761606064474662282972114528159115),wa:=[zn+9,zn+3,zn+2,zn+5]} (sa true v.w zn (zn+1) (zn+4) (zn+5) (n1+1) (n1+2) (n1+3)) (λE=>[(n1+1,ay 0 z.n),(n1+2,ac #[] 0),(n1+3,bO (λj=>(0,0)) [] 0),(zn+5,af (.int (a 1).1 (a 1).2))]) (λj=>gL z p2 (n1+1) (n1+2) (n1+3)) λy2 n2 u2=>.cut {ws:=[14,4,3,6],js:=[16,17,18,6],ju:=[16,17,18],i:=4,u:=2,K:=2,cnt:=13,N:=73,orc:=(dz 30 220163165118948273971889752709418583543274820948992336473606031),wa:=[n1+3,zn+3,zn+2,zn+5]} (sa true v.w zn (zn+1) (zn+4) (zn+5) (n2+1) (n2+2) (n2+3)) (λE=>[(n2+1,ay 0 z.n),(n2+2,ac #[] 0),(n2+3,bO (λj=>(0,0)) [] 0),(zn+5,af (.int (a 2).1 (a 2).2))]) (λj=>gL z p3 (n2+1) (n2+2) (n2+3)) λy3 n3 u3=>.fin {ws:=[18,4,3],js:=[4,9,13,17],i:=2,cnt:=5,N:=36,orc:=(dz 15 6665146698640220663509126793619),wa:=[n2+3,zn+3,zn+2]} (.ok (.ret (.ref (zn+3)))) (λE=>[(zn+3,ac #[.ref (zn+8),.ref (n1+2),.ref (n2+2)] 3),(zn+8,ac (aa (p1.xs y1.t)) p1.l.length),(n1+2,ac (aa (p2.xs y2.t)) p2.l.length),(n2+2,ac (aa (p3.xs y3.t)) p3.l.length)])⟩
theorem zU v z DL a de tm p1 p2 p3:(HM v z DL a de tm p1 p2 p3).G v:=Cn.h2 dG (f:=λz v=>HM v z DL a de tm p1 p2 p3) (λj j j j=>by kernel_rfl) z v
noncomputable def CI:List Zb:=nn
noncomputable def Be(z:Sz)(f:Nat→Bool)(q:Zb):Bool:=Nat.beq q.z.n z.n&&(List.range 4).all λc=>decide (c<z.n)==false || (f c==q.b.l.contains c)
noncomputable def GF(b0 b1 b2 b3:Bool)(c:Nat):Bool:=match c with|0=>b0|1=>b1|2=>b2|_=>b3
theorem yk(f:Nat→Bool){c:Nat}(h:c<4):GF (f 0) (f 1) (f 2) (f 3) c=f c:=by
 match c,h with
 |0,_=>rfl
 |1,_=>rfl
 |2,_=>rfl
 |3,_=>rfl
 |c+4,h=>omega
theorem xw(z:Sz)(b0 b1 b2 b3:Bool):CI.any (Be z (GF b0 b1 b2 b3))=true:=by
 cases z<;>cases b0<;>cases b1<;>cases b2<;>cases b3<;>decide+kernel
theorem Sz.inj{a b:Sz}(h:a.n=b.n):a=b:=by cases a<;>cases b<;>first|rfl|exact absurd h (by decide)
theorem AA(z:Sz)(f:Nat→Bool):∃q:Zb,q.z=z∧∀c<z.n,f c=decide (c∈q.b.l):=by
 obtain⟨q,_,h⟩:=List.any_eq_true.mp (xw z (f 0) (f 1) (f 2) (f 3))
 unfold Be at h
 rw[Bool.and_eq_true,List.all_eq_true]at h
 refine⟨q,Sz.inj (Nat.eq_of_beq_eq_true h.1),λc hc=>?_⟩
 have hz:=z.lt5.2
 have hc4:c<4:=by omega
 have h2:=h.2 c (List.mem_range.mpr hc4)
 rw[yk f hc4]at h2
 have h4:(decide (c<z.n)==false)=false:=by simp[hc]
 rw[h4,Bool.false_or,beq_iff_eq]at h2
 rw[h2,List.contains_eq_mem]
theorem Az(q:Zb):∀c∈q.b.l,c<q.z.n:=by cases q<;>decide
theorem zO(v:WV)(q:Zb)(L M Co Nb I D C:Addr)(N:Int)(tN:Tok)(ht:Nat→Int×Tok)(h:∀c<q.z.n,decide ((N.fdiv ((2 ^ c:Nat):Int)).fmod 2=1)=decide (c∈q.b.l)):
  aS v.w 60 [(I,ay 0 q.z.n),(D,ac #[] 0),(C,bO ht [] 0),(Nb,af (.int N tN))] (sa false v.w L M Co Nb I D C) [I,D,C] (gL q.z q.b I D C):=by
 have h0:∀c<q.z.n,c∈q.b.l→(N.fdiv ((2 ^ c:Nat):Int)).fmod 2=1:=λc hc hm=>of_decide_eq_true ((h c hc).trans (decide_eq_true hm))
 have h1:∀c<q.z.n,c∉q.b.l→(N.fdiv ((2 ^ c:Nat):Int)).fmod 2≠1:=λc hc hm=>of_decide_eq_false ((h c hc).trans (decide_eq_false hm))
 refine(zQ v q L M Co Nb I D C N tN ht).ct [0,1,2] λA s R hA hk j hR=>kr hR (hps:=?_) λE=>⟨_,_,_,λc=>s.toks+12*c⟩
 cases q<;>(repeat' (first|exact True.intro|apply And.intro))<;>first
  |exact(show(2:Int)≠0 by decide)
  |exact(show(1:Int)≠0 by decide)
  |exact(show(4:Int)≠0 by decide)
  |exact(show(8:Int)≠0 by decide)
  |exact PyProof.noPylong_small (by decide)
  |exact h0 0 (by decide) (by decide)
  |exact h0 1 (by decide) (by decide)
  |exact h0 2 (by decide) (by decide)
  |exact h0 3 (by decide) (by decide)
  |exact h1 0 (by decide) (by decide)
  |exact h1 1 (by decide) (by decide)
  |exact h1 2 (by decide) (by decide)
  |exact h1 3 (by decide) (by decide)
theorem rY(v:WV)(z:Sz)(N:Int):∃b:Bm,(∀c∈b.l,c<z.n)∧∀(L M Co Nb I D C:Addr) (tN:Tok) (ht:Nat→Int×Tok),
  aS v.w 80 [(I,ay 0 z.n),(D,ac #[] 0),(C,bO ht [] 0),(Nb,af (.int N tN))] (sa true v.w L M Co Nb I D C) [I,D,C] (gL z b I D C):=by
 obtain⟨q,rfl,h⟩:=AA z λc=>decide ((N.fdiv ((2 ^ c:Nat):Int)).fmod 2=1)
 refine⟨q.b,Az q,λL M Co Nb I D C tN ht=>?_⟩
 exact(zP v q.z L M Co Nb I D C N tN ht).ct [0,1,2] λA s R hA hk j hR=>kT hR hA [0,1,2] λE=>zO v q L M Co Nb I D C N tN ht h
structure Gj where
 R:Addr
 D1:Addr
 D2:Addr
 t1:Nat→Tok
 t2:Nat→Tok
noncomputable def lZ(p1 p2:Bm):bS Gj:={res:=λy=>.ok (.ret (.ref y.R)),add:=λy=>[(y.R,ac #[.ref y.D1,.ref y.D2] 2),(y.D1,ac (aa (p1.xs y.t1)) p1.l.length),(y.D2,ac (aa (p2.xs y.t2)) p2.l.length)]}
theorem D6(v:WV)(z:Sz)(a:Nat→Int×Tok):∃p1 p2:Bm,(∀c∈p1.l,c<z.n)∧(∀c∈p2.l,c<z.n)∧∀(DL:Addr) (de:Nat) (tm:Tok),aS v.w 150 [(DL,ac (aa (kl 2 a)) de)] (.call (.ref 528) ⟨[.ref DL,.int z.n tm],[]⟩) [] (lZ p1 p2):=by
 obtain⟨p1,h1,C1⟩:=rY v z (a 0).1
 obtain⟨p2,h2,C2⟩:=rY v z (a 1).1
 refine⟨p1,p2,h1,h2,λDL de tm=>?_⟩
 exact(zV v z DL a de tm p1 p2).ct [] λA s R j j j hR=>kc (λj=>C1 _ _ _ _ _ _ _ _ _) fun(y1:Ay) _ s2 _=>kc (λj=>C2 _ _ _ _ _ _ _ _ _) fun(y2:Ay) _ s4 _=>
  kr hR λj=>⟨s.heap.objs.size+3,s.heap.objs.size+8,s2.heap.objs.size+2,y1.t,y2.t⟩
structure Gi where
 R:Addr
 D1:Addr
 D2:Addr
 D3:Addr
 t1:Nat→Tok
 t2:Nat→Tok
 t3:Nat→Tok
noncomputable def lY(p1 p2 p3:Bm):bS Gi:={res:=λy=>.ok (.ret (.ref y.R)),add:=λy=>[(y.R,ac #[.ref y.D1,.ref y.D2,.ref y.D3] 3),(y.D1,ac (aa (p1.xs y.t1)) p1.l.length),(y.D2,ac (aa (p2.xs y.t2)) p2.l.length),(y.D3,ac (aa (p3.xs y.t3)) p3.l.length)]}
theorem D5(v:WV)(z:Sz)(a:Nat→Int×Tok):∃p1 p2 p3:Bm,(∀c∈p1.l,c<z.n)∧(∀c∈p2.l,c<z.n)∧(∀c∈p3.l,c<z.n)∧∀(DL:Addr) (de:Nat) (tm:Tok),aS v.w 150 [(DL,ac (aa (kl 3 a)) de)] (.call (.ref 528) ⟨[.ref DL,.int z.n tm],[]⟩) [] (lY p1 p2 p3):=by
 obtain⟨p1,h1,C1⟩:=rY v z (a 0).1
 obtain⟨p2,h2,C2⟩:=rY v z (a 1).1
 obtain⟨p3,h3,C3⟩:=rY v z (a 2).1
 refine⟨p1,p2,p3,h1,h2,h3,λDL de tm=>?_⟩
 exact(zU v z DL a de tm p1 p2 p3).ct [] λA s R j j j hR=>kc (λj=>C1 _ _ _ _ _ _ _ _ _) fun(y1:Ay) _ s2 _=>kc (λj=>C2 _ _ _ _ _ _ _ _ _) fun(y2:Ay) _ s4 _=>kc (λj=>C3 _ _ _ _ _ _ _ _ _) fun(y3:Ay) _ _ _=>
  kr hR λj=>⟨s.heap.objs.size+3,s.heap.objs.size+8,s2.heap.objs.size+2,s4.heap.objs.size+2,y1.t,y2.t,y3.t⟩
noncomputable def fM(Q:Int×Tok→List (Int×Tok)→Prop):List (Int×Tok)→List (Int×Tok)→Prop
 |[],ys=>ys=[]
 |x::xs,ys=>∃e r,ys=e++r∧Q x e∧fM Q xs r
theorem eu{p:Int×Tok→Bool}:∀{xs ys:List (Int×Tok)},fM (λx e=>e=bif p x then [x] else []) xs ys→ys=xs.filter p
 |[],ys,h=>h
 |x::xs,ys,h=>by
  obtain⟨e,r,rfl,he,hr⟩:=h
  rw[eu hr,he]
  cases hp:p x<;>simp[hp,List.filter_cons]
structure sd where
 ht:Nat→Int×Tok
 cv:Value
 ys:List (Int×Tok)
noncomputable def bV(I D C:Addr)(nm:Str)(n:Nat)(nz:Bool):bS sd:={res:=λj=>.ok .next,upd:=λy=>[(I,aj .none n),(D,ac (aa y.ys) y.ys.length),(C,aB y.ht nm (r7 nz y.cv))]}
theorem oz{v:WV}{code:Code}{I D C SL:Addr}{xs:List (Int×Tok)}{se:Nat}{nm:Str}{ex:List (Addr×Obj)}{Q:Int×Tok→List (Int×Tok)→Prop}{d:Nat}{A:Around}(hA:cp A d)
  (turn:∀(x:Int×Tok) (g:Nat) (acc:List (Int×Tok)) (ht:Nat→Int×Tok) (cv:Option Value) (s:Shared) (R:Result→Shared→Prop),xs[g]?=some x→acc.length≤g→
   Kn (KB v.w) s ((I,aj (.ref SL) g)::(D,ac (aa acc) acc.length)::(C,aB ht nm cv)::(SL,ac (aa xs) se)::ex)→
   (∀e ht' cv' s',Q x e→e.length≤1→ah s s' [I,D,C]→Kn (KB v.w) s' ((I,aj (.ref SL) (g+1))::(D,ac (aa (acc++e)) (acc++e).length)::(C,aB ht' nm (some cv'))::(SL,ac (aa xs) se)::ex)→codeAny (model pr v.w) A code R s')→
   codeAny (model pr v.w) A code R s)
  (stop:∀(acc:List (Int×Tok)) (ht:Nat→Int×Tok) (cv:Option Value) (s:Shared) (R:Result→Shared→Prop),
   Kn (KB v.w) s ((I,aj (.ref SL) xs.length)::(D,ac (aa acc) acc.length)::(C,aB ht nm cv)::(SL,ac (aa xs) se)::ex)→
   (∀s',ah s s' [I,D,C]→Kn (KB v.w) s' [(I,aj .none xs.length),(D,ac (aa acc) acc.length),(C,aB ht nm cv)]→R (.ok .next) s')→codeAny (model pr v.w) A code R s):
  ∀(rest:List (Int×Tok)) (g:Nat) (acc:List (Int×Tok)) (ht:Nat→Int×Tok) (cv:Option Value) (s:Shared) (R:Result→Shared→Prop),xs.drop g=rest→g≤xs.length→acc.length≤g→
   Kn (KB v.w) s ((I,aj (.ref SL) g)::(D,ac (aa acc) acc.length)::(C,aB ht nm cv)::(SL,ac (aa xs) se)::ex)→
   (∀ys ht' cv' s',ah s s' [I,D,C]→Kn (KB v.w) s' [(I,aj .none xs.length),(D,ac (aa (acc++ys)) (acc++ys).length),(C,aB ht' nm cv')]→fM Q rest ys→cv'.isSome=(cv.isSome || !rest.isEmpty)→R (.ok .next) s')→
   codeAny (model pr v.w) A code R s:=by
 intro rest
 induction rest with
 |nil=>
  intro g acc ht cv s R hd hg ha hk H
  have hg':=cq hd hg
  subst hg'
  exact stop acc ht cv s R hk λs' F K=>H [] ht cv s' F (by rw[List.append_nil];exact K) rfl (by simp)
 |cons x rest ih=>
  intro g acc ht cv s R hd hg ha hk H
  obtain⟨hg',hx,hd'⟩:=bQ hd
  refine turn x g acc ht cv s R (by rw[List.getElem?_eq_getElem hg',hx]) ha hk λe ht' cv' s' hq he F K=>?_
  refine ih (g+1) (acc++e) ht' (some cv') s' R hd' hg' (by rw[List.length_append];omega) K λys ht2 cv2 s2 F2 K2 hi hc=>?_
  refine H (e++ys) ht2 cv2 s2 ((F.trans F2).mono (by first|sizeOf_list_dec|simp)) (by rw[←List.append_assoc];exact K2) ⟨e,ys,rfl,hq,hi⟩ ?_
  simp at hc ⊢
  exact hc
theorem v2{v:WV}{code:Code}{I D C SL:Addr}{xs:List (Int×Tok)}{se:Nat}{nm:Str}{ex:List (Addr×Obj)}{Q:Int×Tok→List (Int×Tok)→Prop}{d:Nat}
  (turn:∀(A:Around) (x:Int×Tok) (g:Nat) (acc:List (Int×Tok)) (ht:Nat→Int×Tok) (cv:Option Value) (s:Shared) (R:Result→Shared→Prop),cp A d→xs[g]?=some x→acc.length≤g→
   Kn (KB v.w) s ((I,aj (.ref SL) g)::(D,ac (aa acc) acc.length)::(C,aB ht nm cv)::(SL,ac (aa xs) se)::ex)→
   (∀e ht' cv' s',Q x e→e.length≤1→ah s s' [I,D,C]→Kn (KB v.w) s' ((I,aj (.ref SL) (g+1))::(D,ac (aa (acc++e)) (acc++e).length)::(C,aB ht' nm (some cv'))::(SL,ac (aa xs) se)::ex)→codeAny (model pr v.w) A code R s')→
   codeAny (model pr v.w) A code R s)
  (stop:∀(A:Around) (acc:List (Int×Tok)) (ht:Nat→Int×Tok) (cv:Option Value) (s:Shared) (R:Result→Shared→Prop),cp A d→
   Kn (KB v.w) s ((I,aj (.ref SL) xs.length)::(D,ac (aa acc) acc.length)::(C,aB ht nm cv)::(SL,ac (aa xs) se)::ex)→
   (∀s',ah s s' [I,D,C]→Kn (KB v.w) s' [(I,aj .none xs.length),(D,ac (aa acc) acc.length),(C,aB ht nm cv)]→R (.ok .next) s')→codeAny (model pr v.w) A code R s) (ht:Nat→Int×Tok):
  Ct v.w d ((I,aj (.ref SL) 0)::(D,ac #[] 0)::(C,bO ht [] 0)::(SL,ac (aa xs) se)::ex) aK code [I,D,C] (bV I D C nm xs.length (!xs.isEmpty)) (λy j j=>fM Q xs y.ys):=by
 intro A s R hA hk _ hR
 refine oz hA (λx g acc ht cv s R=>turn A x g acc ht cv s R hA) (λacc ht cv s R=>stop A acc ht cv s R hA) xs 0 [] ht none s R rfl (Nat.zero_le _) (Nat.le_refl _) hk λys ht' cv' s' F K hi hc=>?_
 cases cv' with
 |none=>
  have e':xs.isEmpty=true:=by simpa using hc
  refine hR ⟨ht',.none,ys⟩ s' F ?_ (by simp[bV]) hi
  simp only[bV,e',r7,List.append_nil]
  exact K
 |some c=>
  have e':xs.isEmpty=false:=by simpa using hc
  refine hR ⟨ht',c,ys⟩ s' F ?_ (by simp[bV]) hi
  simp only[bV,e',r7,List.append_nil]
  exact K
inductive K4|k0|k1|k2|k3
noncomputable def ot:En K4:=oq [.k0,.k1,.k2,.k3] K4.ctorIdx (λt=>by cases t<;>rfl)
noncomputable def K4.n:K4→Nat|.k0=>0|.k1=>1|.k2=>2|.k3=>3
theorem K4.of{n:Nat}(h:n<4):∃k:K4,k.n=n:=by
 match n,h with
 |0,_=>exact⟨.k0,rfl⟩
 |1,_=>exact⟨.k1,rfl⟩
 |2,_=>exact⟨.k2,rfl⟩
 |3,_=>exact⟨.k3,rfl⟩
 |n+4,h=>omega
noncomputable def ul(w:World):FuncData:=m6 (rh w.params)
noncomputable def nY(w:World):FuncData:=m6 (nk w.params)
set_option backward.match.sparseCases false in
noncomputable def qN(s:Option Stmt):List Stmt:=match s with|some (.For _ _ b _ _)=>b|_=>[]
set_option backward.match.sparseCases false in
noncomputable def Eo(s:Option Stmt):Expr:=match s with|some (.If t _ _ _)=>t|_=>default
set_option backward.match.sparseCases false in
noncomputable def FF(e:Expr):Expr:=match e with|.Call _ as _ _=>(match as with|x::_=>x|_=>default)|_=>default
noncomputable def Ey(w:World):Expr:=FF (rt ((qN ((aH (ul w))[1]?))[0]?))
noncomputable def fS(st:Bool)(w:World)(L Zc I D C:Addr):Code:=hE st (Ey w) (cR (ul w) 540 L) [(am,Zc)] I D C
noncomputable def A3(v:WV)(L Zc CM:Addr)(cs:List (Int×Tok))(ce:Nat)(I D C SL:Addr)(xs:List (Int×Tok))(se:Nat)(ht:Nat→Int×Tok):Cn:=⟨60,[(I,aj (.ref SL) 0),(D,ac #[] 0),(C,bO ht [] 0),(SL,ac (aa xs) se),(Zc,af (.ref CM)),(CM,ac (aa cs) ce)],fS true v.w L Zc I D C,λzn zu=>.tail {js:=[0,1,2,3,4,5],cnt:=(match v.b2 with|true=>0|false=>2),N:=(match v.b2 with|true=>6|false=>16),orc:=(match v.b2 with|true=>([])|false=>(dz 4 2113665))} (fS false v.w L Zc I D C) (λE=>[(I,aj (.ref SL) 0),(D,ac #[] 0),(C,bO ht [] 0),(SL,ac (aa xs) se),(Zc,af (.ref CM)),(CM,ac (aa cs) ce)])⟩
theorem sF v L Zc CM cs ce I D C SL xs se ht:(A3 v L Zc CM cs ce I D C SL xs se ht).G v:=Cn.h1 (f:=λv=>A3 v L Zc CM cs ce I D C SL xs se ht) (λj j j j=>by kernel_rfl) v
noncomputable def A5(v:WV)(L Zc CM:Addr)(cs:List (Int×Tok))(ce:Nat)(I D C SL:Addr)(xs:List (Int×Tok))(se:Nat)(g:Nat)(k:K4)(a:Nat→Int×Tok)(ht:Nat→Int×Tok)(cv:Option Value)(c:Int)(tc:Tok):Cn:=⟨60,[(I,aj (.ref SL) g),(D,ac (aa (kl k.n a)) k.n),(C,aB ht cQ cv),(SL,ac (aa xs) se),(Zc,af (.ref CM)),(CM,ac (aa cs) ce)],fS false v.w L Zc I D C,λzn zu=>.cut {js:=[0,3],ju:=[0],K:=1,N:=7,orc:=(dz 1 1)} (.call (.builtin "list_iterator.__next__") ⟨[.ref I],[]⟩) (λj=>[(I,aj (.ref SL) g),(SL,ac (aa xs) se)]) (λj=>an I (.int c tc) (aj (.ref SL) (g+1))) λj n1 u1=>.cut {ws:=[2],js:=[5],u:=1,K:=1,N:=19,orc:=(dz 6 207779578243),wa:=[C]} (.call (.builtin "list.__contains__") ⟨[.ref CM,.int c tc],[]⟩) (λj=>[(CM,ac (aa cs) ce)]) (λj=>aM true) λj n2 u2=>.tail {ws:=[1],js:=[0,1,2,3,4,5],cnt:=2,N:=14,orc:=(dz 5 541098243),wa:=[D]} (fS false v.w L Zc I D C) (λE=>[(I,aj (.ref SL) (g+1)),(D,ac ((aa (kl k.n a)).push (.int c tc)) (k.n+1)),(C,aB (aq (E.lk 2)) cQ (some (.int c tc))),(SL,ac (aa xs) se),(Zc,af (.ref CM)),(CM,ac (aa cs) ce)])⟩
theorem sH v L Zc CM cs ce I D C SL xs se g k a ht cv c tc:(A5 v L Zc CM cs ce I D C SL xs se g k a ht cv c tc).G v:=Cn.k3 (cz _) ot (f:=λcv k v=>A5 v L Zc CM cs ce I D C SL xs se g k a ht cv c tc) (λj j j j j j=>by kernel_rfl) cv k v
noncomputable def A4(v:WV)(L Zc CM:Addr)(cs:List (Int×Tok))(ce:Nat)(I D C SL:Addr)(xs:List (Int×Tok))(se:Nat)(g:Nat)(k:K4)(a:Nat→Int×Tok)(ht:Nat→Int×Tok)(cv:Option Value)(c:Int)(tc:Tok):Cn:=⟨60,[(I,aj (.ref SL) g),(D,ac (aa (kl k.n a)) k.n),(C,aB ht cQ cv),(SL,ac (aa xs) se),(Zc,af (.ref CM)),(CM,ac (aa cs) ce)],fS false v.w L Zc I D C,λzn zu=>.cut {js:=[0,3],ju:=[0],K:=1,N:=7,orc:=(dz 1 1)} (.call (.builtin "list_iterator.__next__") ⟨[.ref I],[]⟩) (λj=>[(I,aj (.ref SL) g),(SL,ac (aa xs) se)]) (λj=>an I (.int c tc) (aj (.ref SL) (g+1))) λj n1 u1=>.cut {ws:=[2],js:=[5],u:=1,K:=1,N:=19,orc:=(dz 6 207779578243),wa:=[C]} (.call (.builtin "list.__contains__") ⟨[.ref CM,.int c tc],[]⟩) (λj=>[(CM,ac (aa cs) ce)]) (λj=>aM false) λj n2 u2=>.tail {js:=[0,1,2,3,4,5],N:=5} (fS false v.w L Zc I D C) (λE=>[(I,aj (.ref SL) (g+1)),(D,ac (aa (kl k.n a)) (k.n)),(C,aB (aq (E.lk 2)) cQ (some (.int c tc))),(SL,ac (aa xs) se),(Zc,af (.ref CM)),(CM,ac (aa cs) ce)])⟩
theorem sG v L Zc CM cs ce I D C SL xs se g k a ht cv c tc:(A4 v L Zc CM cs ce I D C SL xs se g k a ht cv c tc).G v:=Cn.k3 (cz _) ot (f:=λcv k v=>A4 v L Zc CM cs ce I D C SL xs se g k a ht cv c tc) (λj j j j j j=>by kernel_rfl) cv k v
noncomputable def A6(v:WV)(L Zc CM:Addr)(cs:List (Int×Tok))(ce:Nat)(I D C SL:Addr)(xs:List (Int×Tok))(se:Nat)(g:Nat)(acc:Array Value)(ae:Nat)(ht:Nat→Int×Tok)(cv:Option Value):Cn:=⟨60,[(I,aj (.ref SL) g),(D,ac acc ae),(C,aB ht cQ cv),(SL,ac (aa xs) se),(Zc,af (.ref CM)),(CM,ac (aa cs) ce)],fS false v.w L Zc I D C,λzn zu=>.cut {js:=[0,3],ju:=[0],K:=1,N:=7,orc:=(dz 1 1)} (.call (.builtin "list_iterator.__next__") ⟨[.ref I],[]⟩) (λj=>[(I,aj (.ref SL) g),(SL,ac (aa xs) se)]) (λj=>aE I (aj .none g)) λj n1 u1=>.fin {js:=[0,1,2],N:=6,orc:=(dz 1 8)} (.ok .next) (λE=>[(I,aj .none g),(D,ac acc ae),(C,aB ht cQ cv)])⟩
theorem sI v L Zc CM cs ce I D C SL xs se g acc ae ht cv:(A6 v L Zc CM cs ce I D C SL xs se g acc ae ht cv).G v:=Cn.k2 (cz _) (f:=λcv v=>A6 v L Zc CM cs ce I D C SL xs se g acc ae ht cv) (λj j j j j j=>by kernel_rfl) cv v
theorem rc{v:WV}{code:Code}{I D C SL:Addr}{xs:List (Int×Tok)}{se:Nat}{nm:Str}{ex:List (Addr×Obj)}(p:Int×Tok→Bool)(hlen:xs.length≤4)
  (turn:∀(b:Bool) (A:Around) (x:Int×Tok) (g:Nat) (k:K4) (a ht:Nat→Int×Tok) (cv:Option Value) (s:Shared) (R:Result→Shared→Prop),cp A 60→(aa xs)[g]?=some (.int x.1 x.2)→p x=b→
   Kn (KB v.w) s ((I,aj (.ref SL) g)::(D,ac (aa (kl k.n a)) k.n)::(C,aB ht nm cv)::(SL,ac (aa xs) se)::ex)→
   (∀ht' s',ah s s' [I,D,C]→Kn (KB v.w) s' ((I,aj (.ref SL) (g+1))::(D,match b with|true=>ac ((aa (kl k.n a)).push (.int x.1 x.2)) (k.n+1)|false=>ac (aa (kl k.n a)) k.n)::(C,aB ht' nm (some (.int x.1 x.2)))::(SL,ac (aa xs) se)::ex)→codeAny (model pr v.w) A code R s')→codeAny (model pr v.w) A code R s)
  (stop:∀(A:Around) (acc:Array Value) (ae:Nat) (ht:Nat→Int×Tok) (cv:Option Value) (s:Shared) (R:Result→Shared→Prop),cp A 60→(aa xs)[xs.length]?=none→
   Kn (KB v.w) s ((I,aj (.ref SL) xs.length)::(D,ac acc ae)::(C,aB ht nm cv)::(SL,ac (aa xs) se)::ex)→
   (∀s',ah s s' [I,D,C]→Kn (KB v.w) s' [(I,aj .none xs.length),(D,ac acc ae),(C,aB ht nm cv)]→R (.ok .next) s')→codeAny (model pr v.w) A code R s) (ht:Nat→Int×Tok):
  Ct v.w 60 ((I,aj (.ref SL) 0)::(D,ac #[] 0)::(C,bO ht [] 0)::(SL,ac (aa xs) se)::ex) aK code [I,D,C] (bV I D C nm xs.length (!xs.isEmpty)) (λy j j=>y.ys=xs.filter p):=by
 intro A s R hA hk _ hR
 refine v2 (Q:=λx e=>e=bif p x then [x] else []) (λA x g acc ht cv s R hA hx hg hk H=>?_) (λA acc ht cv s R hA hk H=>stop A _ _ ht cv s R hA (by simp[aa]) hk H) ht A s R hA hk trivial λy s2 F2 K2 ha hq=>hR y s2 F2 K2 ha (eu hq)
 have hgl:g<xs.length:=(List.getElem?_eq_some_iff.mp hx).1
 obtain⟨a,ea⟩:=ku acc
 obtain⟨k,hkn⟩:=K4.of (n:=acc.length) (by omega)
 have hka:kl k.n a=acc:=by rw[hkn];exact ea
 rw[←hka,←show k.n=(kl k.n a).length by rw[hka,hkn]]at hk
 refine turn _ A x g k a ht cv s R hA (by simp[aa,hx]) rfl hk λht' s' F K=>?_
 rw[hka]at K
 cases hp:p x with
 |true=>
  rw[hp]at K
  exact H [x] ht' _ s' (by rw[hp];rfl) (Nat.le_refl _) F (by rw[List.length_append,←hkn,show aa (acc++[x])=(aa acc).push (.int x.1 x.2) by simp[aa]];exact K)
 |false=>
  rw[hp]at K
  exact H [] ht' _ s' (by rw[hp];rfl) (Nat.zero_le _) F (by rw[List.append_nil,←hkn];exact K)
theorem lh(v:WV)(L Zc CM:Addr)(cs:List (Int×Tok))(ce:Nat)(I D C SL:Addr)(xs:List (Int×Tok))(se:Nat)(ht:Nat→Int×Tok)(hlen:xs.length≤4):
  Ct v.w 60 ((I,aj (.ref SL) 0)::(D,ac #[] 0)::(C,bO ht [] 0)::(SL,ac (aa xs) se)::[(Zc,af (.ref CM)),(CM,ac (aa cs) ce)]) aK (fS true v.w L Zc I D C) [I,D,C] (bV I D C cQ xs.length (!xs.isEmpty)) (λy j j=>y.ys=xs.filter (λx=>decide (x.1∈cs.map (·.1)))):=
 (sF v L Zc CM cs ce I D C SL xs se ht).ct [0,1,2] λA s R hA j j hR=>kT hR hA [0,1,2] λj=>rc (λx=>decide (x.1∈cs.map (·.1))) hlen (λb A x g k a ht cv s R hA hx hp hk H=>match b,hp,H with
  |true,hp,H=>(sH v L Zc CM cs ce I D C SL xs se g k a ht cv x.1 x.2).go hA hk [0,1,2] <| kc (λj=>aP v.w hx) λj j j j=>kc (λj=>bG v.w CM cs ce x.1 x.2 hp.symm) λj j j j=>kt λj s' F K=>H _ s' F K
  |false,hp,H=>(sG v L Zc CM cs ce I D C SL xs se g k a ht cv x.1 x.2).go hA hk [0,1,2] <| kc (λj=>aP v.w hx) λj j j j=>kc (λj=>bG v.w CM cs ce x.1 x.2 hp.symm) λj j j j=>kt λj s' F K=>H _ s' F K)
  (λA acc ae ht cv s R hA hn hk H=>(sI v L Zc CM cs ce I D C SL xs se xs.length acc ae ht cv).go hA hk [0,1,2] <| kc (λj=>bE v.w hn) λj j j j=>kf λj s' F K j=>H s' F K) ht
noncomputable def mj(st:Bool)(w:World)(L I D C:Addr):Code:=hE st (EB w) (cR (Cd w) 523 L) [] I D C
noncomputable def dV(r:Int)(k:Nat)(N:Int):Int:=(r.fdiv (1+Int.fdiv k N)).fmod 1000003+11*k
noncomputable def Hw(v:WV)(L I D C SL:Addr)(xs:List (Int×Tok))(se:Nat)(g:Nat)(k:Fin 63)(a:Nat→Int×Tok)(ht:Nat→Int×Tok)(cv:Option Value)(c:Int)(tc:Tok):Cn:=⟨60,[(I,aj (.ref SL) g),(D,ac (aa (kl k.val a)) k.val),(C,aB ht bH cv),(SL,ac (aa xs) se)],mj false v.w L I D C,λzn zu=>.cut {js:=[0,3],ju:=[0],K:=1,N:=7,orc:=(dz 1 1)} (.call (.builtin "list_iterator.__next__") ⟨[.ref I],[]⟩) (λj=>[(I,aj (.ref SL) g),(SL,ac (aa xs) se)]) (λj=>an I (.int c tc) (aj (.ref SL) (g+1))) λj n1 u1=>.cut {ws:=[2],u:=1,K:=6,cnt:=2,N:=20,orc:=(dz 5 805306755),wa:=[C]} (.call (.builtin "int.__abs__") ⟨[.int c tc],[]⟩) (λj=>[]) (λj=>aw c.natAbs) λt n2 u2=>.tail {ws:=[1],js:=[0,1,2,3],cnt:=2,N:=14,orc:=(dz 4 4227330),wa:=[D]} (mj false v.w L I D C) (λE=>[(I,aj (.ref SL) (g+1)),(D,ac ((aa (kl k.val a)).push (.int c.natAbs t)) (k.val+1)),(C,aB (aq (E.lk 2)) bH (some (.int c tc))),(SL,ac (aa xs) se)])⟩
theorem zE v L I D C SL xs se g k a ht cv c tc:(Hw v L I D C SL xs se g k a ht cv c tc).G v:=Cn.k3 (cz _) (IV 63) (f:=λcv k v=>Hw v L I D C SL xs se g k a ht cv c tc) (λj j j j j j=>by kernel_rfl) cv k v
noncomputable def Hz(v:WV)(L I D C SL:Addr)(xs:List (Int×Tok))(se:Nat)(g:Nat)(acc:Array Value)(ae:Nat)(ht:Nat→Int×Tok)(cv:Option Value):Cn:=⟨60,[(I,aj (.ref SL) g),(D,ac acc ae),(C,aB ht bH cv),(SL,ac (aa xs) se)],mj false v.w L I D C,λzn zu=>.cut {js:=[0,3],ju:=[0],K:=1,N:=7,orc:=(dz 1 1)} (.call (.builtin "list_iterator.__next__") ⟨[.ref I],[]⟩) (λj=>[(I,aj (.ref SL) g),(SL,ac (aa xs) se)]) (λj=>aE I (aj .none g)) λj n1 u1=>.fin {js:=[0,1,2],N:=6,orc:=(dz 1 6)} (.ok .next) (λE=>[(I,aj .none g),(D,ac acc ae),(C,aB ht bH cv)])⟩
theorem zI v L I D C SL xs se g acc ae ht cv:(Hz v L I D C SL xs se g acc ae ht cv).G v:=Cn.k2 (cz _) (f:=λcv v=>Hz v L I D C SL xs se g acc ae ht cv) (λj j j j j j=>by kernel_rfl) cv v
noncomputable def Hx(v:WV)(L I D C SL:Addr)(xs:List (Int×Tok))(se:Nat)(ht:Nat→Int×Tok):Cn:=⟨40,[(I,aj (.ref SL) 0),(D,ac #[] 0),(C,bO ht [] 0),(SL,ac (aa xs) se)],mj true v.w L I D C,λzn zu=>.tail {js:=[0,1,2,3],cnt:=(match v.b2 with|true=>0|false=>2),N:=(match v.b2 with|true=>6|false=>16),orc:=(match v.b2 with|true=>([])|false=>(dz 4 2113665))} (mj false v.w L I D C) (λE=>[(I,aj (.ref SL) 0),(D,ac #[] 0),(C,bO ht [] 0),(SL,ac (aa xs) se)])⟩
theorem zF v L I D C SL xs se ht:(Hx v L I D C SL xs se ht).G v:=Cn.h1 (f:=λv=>Hx v L I D C SL xs se ht) (λj j j j=>by kernel_rfl) v
noncomputable def Hy(v:WV)(SC:Addr)(xs:List (Int×Tok))(se:Nat)(t6:Tok)(nz:Bool)(rw:List (Int×Tok)→Nat→Array Value)(N:Int)(r:List (Int×Tok)→Nat→Nat→Int×Tok):Cn:=⟨150,[(SC,ac (aa xs) se)],.call (.ref 523) ⟨[.ref SC,.int 6 t6],[]⟩,λzn zu=>.cut {js:=[3,4,5,0],ju:=[3,4,5],i:=5,u:=2,K:=1,cnt:=3,N:=34,orc:=(dz 12 605652797983632058777600)} (mj true v.w zn (zn+2) (zn+3) (zn+4)) (λE=>[(zn+2,aj (.ref SC) 0),(zn+3,ac #[] 0),(zn+4,bO (λj=>(0,0)) [] 0),(SC,ac (aa xs) se)]) (λj=>bV (zn+2) (zn+3) (zn+4) bH xs.length nz) λy n1 u1=>.cut {ws:=[5],js:=[4,6],i:=1,u:=1,K:=1,N:=(match v.b2,nz with|true,true|false,true=>18|true,false|false,false=>14),orc:=(match v.b2,nz with|true,true|false,true=>(dz 6 173688324870)|true,false|false,false=>(dz 4 10601094)),wa:=[zn+4]} (.call (.builtin "list.__add__") ⟨[.ref (zn+3),.ref n1],[]⟩) (λE=>[(zn+3,ac (aa y.ys) y.ys.length),(n1,ac #[.int 5 u1] 0)]) (λj=>aD (ac (rw y.ys u1) 0)) λRw n2 u2=>.cut {ws:=[2],js:=[7],i:=4,u:=4,K:=2,cnt:=(match v.b2,nz with|true,true|true,false=>13|false,true|false,false=>15),N:=(match v.b2,nz with|true,true|true,false=>86|false,true|false,false=>96),orc:=(match v.b2,nz with|true,true|true,false=>(dz 32 631874957642927707893989534426973802366602752161058856509980541315)|false,true|false,false=>(dz 36 169617642389859984443557880333132411424073327537013635523869638434087764355)),wa:=[zn+1]} (.builtin "len" ⟨[.ref Rw],[]⟩) (λE=>[(Rw,ac (rw y.ys u1) 0)]) (λj=>aw N) λq0 n3 u3=>.cut {js:=[7],u:=1,K:=2,N:=12,orc:=(dz 4 16909313),ps:=[N≠(0:Int)]} (.call (.builtin "list.__getitem__") ⟨[.ref Rw,.int (Int.fmod 0 N) u3],[]⟩) (λE=>[(Rw,ac (rw y.ys u1) 0)]) (λj=>aW (.ok (.ret (.int (r y.ys u1 0).1 (r y.ys u1 0).2)))) λj n4 u4=>.cut {js:=[7],u:=1,K:=2,cnt:=1,N:=15,orc:=(dz 4 6291468)} (.builtin "len" ⟨[.ref Rw],[]⟩) (λE=>[(Rw,ac (rw y.ys u1) 0)]) (λj=>aw N) λp0 n5 u5=>.cut {ws:=[10,9,11],js:=[7],u:=10,K:=2,cnt:=12,N:=71,orc:=(dz 25 1122435402654758199314936345606550538125809788403841),ps:=[(1000003:Int)≠(0:Int),(1:Int)+Int.fdiv (0:Int) N≠(0:Int)∧Builtin.divisionGoesByPylong (r y.ys u1 (0:Nat)).fst ((1:Int)+Int.fdiv (0:Int) N)=false,N≠(0:Int)∧Builtin.divisionGoesByPylong (0:Int) N=false],wa:=[n2+2,n2+1,n2+3]} (.builtin "len" ⟨[.ref Rw],[]⟩) (λE=>[(Rw,ac (rw y.ys u1) 0)]) (λj=>aw N) λq1 n6 u6=>.cut {js:=[7],u:=1,K:=2,N:=12,orc:=(dz 4 16909313),ps:=[N≠(0:Int)]} (.call (.builtin "list.__getitem__") ⟨[.ref Rw,.int (Int.fmod 1 N) u6],[]⟩) (λE=>[(Rw,ac (rw y.ys u1) 0)]) (λj=>aW (.ok (.ret (.int (r y.ys u1 1).1 (r y.ys u1 1).2)))) λj n7 u7=>.cut {js:=[7],u:=1,K:=2,cnt:=1,N:=15,orc:=(dz 4 6291468)} (.builtin "len" ⟨[.ref Rw],[]⟩) (λE=>[(Rw,ac (rw y.ys u1) 0)]) (λj=>aw N) λp1 n8 u8=>.cut {ws:=[10,9,11],js:=[7],u:=10,K:=2,cnt:=12,N:=71,orc:=(dz 25 1122435402654758199314936345606550538125809788403841),ps:=[(1000003:Int)≠(0:Int),(1:Int)+((0:Int)+(1:Int)).fdiv N≠(0:Int)∧Builtin.divisionGoesByPylong (r y.ys u1 (1:Nat)).fst ((1:Int)+((0:Int)+(1:Int)).fdiv N)=false,N≠(0:Int)∧Builtin.divisionGoesByPylong ((0:Int)+(1:Int)) N=false],wa:=[n2+2,n2+1,n2+3]} (.builtin "len" ⟨[.ref Rw],[]⟩) (λE=>[(Rw,ac (rw y.ys u1) 0)]) (λj=>aw N) λq2 n9 u9=>.cut {js:=[7],u:=1,K:=2,N:=12,orc:=(dz 4 16909313),ps:=[N≠(0:Int)]} (.call (.builtin "list.__getitem__") ⟨[.ref Rw,.int (Int.fmod 2 N) u9],[]⟩) (λE=>[(Rw,ac (rw y.ys u1) 0)]) (λj=>aW (.ok (.ret (.int (r y.ys u1 2).1 (r y.ys u1 2).2)))) λj n10 u10=>.cut {js:=[7],u:=1,K:=2,cnt:=1,N:=15,orc:=(dz 4 6291468)} (.builtin "len" ⟨[.ref Rw],[]⟩) (λE=>[(Rw,ac (rw y.ys u1) 0)]) (λj=>aw N) λp2 n11 u11=>.cut {ws:=[10,9,11],js:=[7],u:=10,K:=2,cnt:=12,N:=71,orc:=(dz 25 1122435402654758199314936345606550538125809788403841),ps:=[(1000003:Int)≠(0:Int),(1:Int)+((0:Int)+(1:Int)+(1:Int)).fdiv N≠(0:Int)∧Builtin.divisionGoesByPylong (r y.ys u1 (2:Nat)).fst ((1:Int)+((0:Int)+(1:Int)+(1:Int)).fdiv N)=false,N≠(0:Int)∧Builtin.divisionGoesByPylong ((0:Int)+(1:Int)+(1:Int)) N=false],wa:=[n2+2,n2+1,n2+3]} (.builtin "len" ⟨[.ref Rw],[]⟩) (λE=>[(Rw,ac (rw y.ys u1) 0)]) (λj=>aw N) λq3 n12 u12=>.cut {js:=[7],u:=1,K:=2,N:=12,orc:=(dz 4 16909313),ps:=[N≠(0:Int)]} (.call (.builtin "list.__getitem__") ⟨[.ref Rw,.int (Int.fmod 3 N) u12],[]⟩) (λE=>[(Rw,ac (rw y.ys u1) 0)]) (λj=>aW (.ok (.ret (.int (r y.ys u1 3).1 (r y.ys u1 3).2)))) λj n13 u13=>.cut {js:=[7],u:=1,K:=2,cnt:=1,N:=15,orc:=(dz 4 6291468)} (.builtin "len" ⟨[.ref Rw],[]⟩) (λE=>[(Rw,ac (rw y.ys u1) 0)]) (λj=>aw N) λp3 n14 u14=>.cut {ws:=[10,9,11],js:=[7],u:=10,K:=2,cnt:=12,N:=71,orc:=(dz 25 1122435402654758199314936345606550538125809788403841),ps:=[(1000003:Int)≠(0:Int),(1:Int)+((0:Int)+(1:Int)+(1:Int)+(1:Int)).fdiv N≠(0:Int)∧Builtin.divisionGoesByPylong (r y.ys u1 (3:Nat)).fst ((1:Int)+((0:Int)+(1:Int)+(1:Int)+(1:Int)).fdiv N)=false,N≠(0:Int)∧Builtin.divisionGoesByPylong ((0:Int)+(1:Int)+(1:Int)+(1:Int)) N=false],wa:=[n2+2,n2+1,n2+3]} (.builtin "len" ⟨[.ref Rw],[]⟩) (λE=>[(Rw,ac (rw y.ys u1) 0)]) (λj=>aw N) λq4 n15 u15=>.cut {js:=[7],u:=1,K:=2,N:=12,orc:=(dz 4 16909313),ps:=[N≠(0:Int)]} (.call (.builtin "list.__getitem__") ⟨[.ref Rw,.int (Int.fmod 4 N) u15],[]⟩) (λE=>[(Rw,ac (rw y.ys u1) 0)]) (λj=>aW (.ok (.ret (.int (r y.ys u1 4).1 (r y.ys u1 4).2)))) λj n16 u16=>.cut {js:=[7],u:=1,K:=2,cnt:=1,N:=15,orc:=(dz 4 6291468)} (.builtin "len" ⟨[.ref Rw],[]⟩) (λE=>[(Rw,ac (rw y.ys u1) 0)]) (λj=>aw N) λp4 n17 u17=>.cut {ws:=[10,9,11],js:=[7],u:=10,K:=2,cnt:=12,N:=71,orc:=(dz 25 1122435402654758199314936345606550538125809788403841),ps:=[(1000003:Int)≠(0:Int),(1:Int)+((0:Int)+(1:Int)+(1:Int)+(1:Int)+(1:Int)).fdiv N≠(0:Int)∧Builtin.divisionGoesByPylong (r y.ys u1 (4:Nat)).fst ((1:Int)+((0:Int)+(1:Int)+(1:Int)+(1:Int)+(1:Int)).fdiv N)=false,N≠(0:Int)∧Builtin.divisionGoesByPylong ((0:Int)+(1:Int)+(1:Int)+(1:Int)+(1:Int)) N=false],wa:=[n2+2,n2+1,n2+3]} (.builtin "len" ⟨[.ref Rw],[]⟩) (λE=>[(Rw,ac (rw y.ys u1) 0)]) (λj=>aw N) λq5 n18 u18=>.cut {js:=[7],u:=1,K:=2,N:=12,orc:=(dz 4 16909313),ps:=[N≠(0:Int)]} (.call (.builtin "list.__getitem__") ⟨[.ref Rw,.int (Int.fmod 5 N) u18],[]⟩) (λE=>[(Rw,ac (rw y.ys u1) 0)]) (λj=>aW (.ok (.ret (.int (r y.ys u1 5).1 (r y.ys u1 5).2)))) λj n19 u19=>.cut {js:=[7],u:=1,K:=2,cnt:=1,N:=15,orc:=(dz 4 6291468)} (.builtin "len" ⟨[.ref Rw],[]⟩) (λE=>[(Rw,ac (rw y.ys u1) 0)]) (λj=>aw N) λp5 n20 u20=>.fin {ws:=[10,11],js:=[10],i:=2,u:=8,cnt:=11,N:=59,orc:=(dz 18 8038166776573253580927555025588207745),ps:=[(1000003:Int)≠(0:Int),(1:Int)+((0:Int)+(1:Int)+(1:Int)+(1:Int)+(1:Int)+(1:Int)).fdiv N≠(0:Int)∧Builtin.divisionGoesByPylong (r y.ys u1 (5:Nat)).fst ((1:Int)+((0:Int)+(1:Int)+(1:Int)+(1:Int)+(1:Int)+(1:Int)).fdiv N)=false,N≠(0:Int)∧Builtin.divisionGoesByPylong ((0:Int)+(1:Int)+(1:Int)+(1:Int)+(1:Int)+(1:Int)) N=false],wa:=[n2+2,n2+3]} (.ok (.ret (.ref (n2+2)))) (λE=>[(n2+2,ac #[.int (dV (r y.ys u1 0).1 0 N) (u5+7),.int (dV (r y.ys u1 1).1 1 N) (u8+7),.int (dV (r y.ys u1 2).1 2 N) (u11+7),.int (dV (r y.ys u1 3).1 3 N) (u14+7),.int (dV (r y.ys u1 4).1 4 N) (u17+7),.int (dV (r y.ys u1 5).1 5 N) (u20+7)] 6)])⟩
theorem zH v SC xs se t6 nz rw N r:(Hy v SC xs se t6 nz rw N r).G v:=Cn.h2 cm (f:=λnz v=>Hy v SC xs se t6 nz rw N r) (λj j j j=>by kernel_rfl) nz v
theorem D9(w:World)(c:Int)(tc:Tok):aS w 20 [] (.call (.builtin "int.__abs__") ⟨[.int c tc],[]⟩) [] (aw c.natAbs):=by
 intro A s R hA hk _ hR
 have K:∀t,Kn (KB w) {s with toks:=t} []→Kn (KB w) {s with toks:=t} ((aw c.natAbs).upd 0++(aw c.natAbs).add 0):=λt h=>h
 by_cases h:c<0
 ·refine aR F.slot_int_abs (typeIs_int s c tc) F.entry_int_abs (F.args_int_abs_1 _) (AutoIntG0.int___abs___int_0 c tc h) ?_
  have e:-c=(c.natAbs:Int):=by omega
  rw[e]
  have Fr:ah s {s with toks:=s.toks+1} []:=⟨λh=>h,rfl,rfl,Nat.le_refl _,Nat.le_succ _,λb o e j=>e⟩
  exact hR s.toks {s with toks:=s.toks+1} Fr ⟨hk.base,by simp[aw],by simp[aw],by simp[aw],Nat.lt_of_lt_of_le hk.toks (Nat.le_succ _)⟩ (by simp[aw]) trivial
 ·refine aR F.slot_int_abs (typeIs_int s c tc) F.entry_int_abs (F.args_int_abs_1 _) (AutoIntG1.int___abs___int_1 c tc h) ?_
  have e:c=(c.natAbs:Int):=by omega
  have:=hR tc s (ah.refl s) ⟨hk.base,by simp[aw],by simp[aw],by simp[aw],hk.toks⟩ (by simp[aw]) trivial
  simp only[aw,←e]at this
  exact this
theorem mu(w:World){l b:Addr}{items items2:Array Value}{n n2:Nat}(h:items.size+items2.size≤sizeLine):
  aS w 20 [(l,ac items n),(b,ac items2 n2)] (.call (.builtin "list.__add__") ⟨[.ref l,.ref b],[]⟩) [] (aD (ac (items++items2) 0)):=by
 intro A s R hA hk _ hR
 have o1:s.heap.get? l=some (ac items n):=hk.obj (l,ac items n) (by simp)
 have o2:s.heap.get? b=some (ac items2 n2):=hk.obj (b,ac items2 n2) (by simp)
 refine cA F.slot_list_add ⟨_,o1,rfl⟩ F.entry_list_add (F.args_list_add_2 _ _) (AutoSeq1.list___add___list_list_0 l items n b items2 n2 h) ⟨o1,o2,?_⟩
 have n1:=Heap.get?_push_size s.heap (o:=ac (items++items2) 0) rfl
 have Fr:ah s {s with heap:=s.heap.push (ac (items++items2) 0)} []:=⟨λh=>h,rfl,rfl,by rw[Heap.size_push];exact Nat.le_succ _,Nat.le_refl _,λb o e j=>Heap.get?_push_of_some _ e⟩
 refine hR s.heap.objs.size _ Fr ⟨λx o e=>Fr.keep x o (hk.base x o e) (by simp),λp hp=>?_,λp hp=>?_,by simp[aD],hk.toks⟩ (by simp[aD]) trivial
 ·simp only[aD,List.nil_append,List.mem_singleton]at hp
  subst hp
  exact n1
 ·simp only[aD,List.nil_append,List.mem_singleton]at hp
  subst hp
  exact bM hk (Nat.le_refl _)
theorem DX(v:WV)(L I D C SL:Addr)(xs:List (Int×Tok))(se:Nat)(ht:Nat→Int×Tok)(hlen:xs.length≤63):
  Ct v.w 60 ((I,aj (.ref SL) 0)::(D,ac #[] 0)::(C,bO ht [] 0)::(SL,ac (aa xs) se)::[]) aK (mj true v.w L I D C) [I,D,C] (bV I D C bH xs.length (!xs.isEmpty)) (λy j j=>fM (λx e=>∃t,e=[((x.1.natAbs:Int),t)]) xs y.ys):=by
 intro A s R hA hk _ hR
 refine(zF v L I D C SL xs se ht).go (W:=[I,D,C]) (hA.le (Nat.le_of_ble_eq_true rfl)) hk [0,1,2] (kt λE s1 F1 K1=>?_)
 refine v2 (Q:=λx e=>∃t,e=[((x.1.natAbs:Int),t)]) ?_ ?_ ht A s1 R hA K1 trivial λy s2 F2 K2 ha hq=>hR y s2 (F1.trans' F2) K2 (by simp[bV]) hq
 ·intro A x g acc ht cv s R hA hx hg hk H
  have hgl:g<xs.length:=(List.getElem?_eq_some_iff.mp hx).1
  have Cn:=aP v.w (I:=I) (L:=SL) (ep:=se) (show(aa xs)[g]?=some (.int x.1 x.2) by simp[aa,hx])
  obtain⟨a,ea⟩:=ku acc
  let k:Fin 63:=⟨acc.length,by omega⟩
  have hka:kl k.val a=acc:=ea
  have hk':Kn (KB v.w) s [(I,aj (.ref SL) g),(D,ac (aa (kl k.val a)) k.val),(C,aB ht bH cv),(SL,ac (aa xs) se)]:=by rw[hka];exact hk
  refine(zE v L I D C SL xs se g k a ht cv x.1 x.2).go (W:=[I,D,C]) hA hk' [0,1,2] (kc (λj=>Cn) λj s1 s2 j=>kc (λj=>D9 v.w x.1 x.2) fun(t:Tok) s3 s4 _=>kt λE s0 F0 K0=>?_)
  have K1:Kn (KB v.w) s0 [(I,aj (.ref SL) (g+1)),(D,ac ((aa (kl k.val a)).push (.int x.1.natAbs t)) (k.val+1)),(C,aB (aq (E.lk 2)) bH (some (.int x.1 x.2))),(SL,ac (aa xs) se)]:=K0
  have e1:(aa (kl k.val a)).push (.int x.1.natAbs t)=aa (acc++[((x.1.natAbs:Int),t)]):=by rw[hka];simp[aa]
  have e2:k.val+1=(acc++[((x.1.natAbs:Int),t)]).length:=by simp[k]
  rw[e1,e2]at K1
  exact H [((x.1.natAbs:Int),t)] _ _ s0 ⟨t,rfl⟩ (by simp) F0 K1
 ·intro A acc ht cv s R hA hk H
  exact(zI v L I D C SL xs se xs.length (aa acc) acc.length ht cv).go (W:=[I,D,C]) hA hk [0,1,2] (kc (λj=>bE v.w (show(aa xs)[xs.length]?=none by simp[aa])) λj s1 s2 j=>kf λE s0 F0 K0 j=>H s0 F0 K0)
theorem iD:∀{xs ys:List (Int×Tok)},fM (λx e=>∃t,e=[((x.1.natAbs:Int),t)]) xs ys→ys.length=xs.length∧∀p∈ys,0≤p.1
 |[],ys,h=>by cases(show ys=[]from h);simp
 |x::xs,ys,h=>by
  obtain⟨e,r,rfl,⟨t,rfl⟩,hr⟩:=h
  obtain⟨h1,h2⟩:=iD hr
  refine⟨by simp[h1],λp hp=>?_⟩
  rcases List.mem_append.mp hp with hp|hp
  ·simp at hp;subst hp;exact Int.natCast_nonneg _
  ·exact h2 p hp
noncomputable def zG(xs:List (Int×Tok))(ys:List (Int×Tok))(u k:Nat):Int×Tok:=(ys++[(5,u)]).getD (Int.fmod k (xs.length+1:Nat)).toNat (0,0)
noncomputable def uq(ys:List (Int×Tok))(u:Nat):Array Value:=aa (ys++[(5,u)])
theorem qO(k:Nat)(n:Nat):0≤Int.fmod k (n+1:Nat)∧Int.fmod k (n+1:Nat)<(n+1:Nat):=by
 rw[Int.fmod_eq_emod_of_nonneg _ (by omega)]
 exact⟨Int.emod_nonneg _ (by omega),Int.emod_lt_of_pos _ (by omega)⟩
theorem ur(xs ys:List (Int×Tok))(u k:Nat)(h:ys.length=xs.length):(uq ys u)[(Int.fmod k (xs.length+1:Nat)).toNat]?=some (.int (zG xs ys u k).1 (zG xs ys u k).2):=by
 have h1:=qO k xs.length
 have h2:(Int.fmod k (xs.length+1:Nat)).toNat<(ys++[(5,u)]).length:=by
  rw[List.length_append,h]
  show(Int.fmod k (xs.length+1:Nat)).toNat<xs.length+1
  omega
 unfold uq zG aa
 rw[List.getElem?_toArray,List.getElem?_map,List.getD_eq_getElem?_getD,List.getElem?_eq_getElem h2]
 rfl
theorem Cm(r:Int)(k n:Nat)(hk:k<6):1+Int.fdiv k (n+1:Nat)≠0∧Builtin.divisionGoesByPylong r (1+Int.fdiv k (n+1:Nat))=false:=by
 have h1:0≤Int.fdiv k (n+1:Nat):=Int.fdiv_nonneg (by omega) (by omega)
 have h2:Int.fdiv k (n+1:Nat)≤k:=by
  rw[Int.fdiv_eq_ediv_of_nonneg _ (by omega)]
  exact Int.ediv_le_self _ (by omega)
 exact⟨by omega,PyProof.noPylong_small (by omega)⟩
theorem Cp(r:Int)(k n:Nat)(hk:k<6):0≤dV r k (n+1:Nat)∧dV r k (n+1:Nat)<2 ^ 21:=by
 unfold dV
 have h1:0≤(r.fdiv (1+Int.fdiv k (n+1:Nat))).fmod 1000003:=by rw[Int.fmod_eq_emod_of_nonneg _ (by omega)];exact Int.emod_nonneg _ (by omega)
 have h2:(r.fdiv (1+Int.fdiv k (n+1:Nat))).fmod 1000003<1000003:=by rw[Int.fmod_eq_emod_of_nonneg _ (by omega)];exact Int.emod_lt_of_pos _ (by omega)
 omega
structure xm where
 R:Addr
 d:Nat→Int×Tok
noncomputable def qY:bS xm:={res:=λy=>.ok (.ret (.ref y.R)),add:=λy=>[(y.R,ac (aa (kl 6 y.d)) 6)]}
theorem uZ(v:WV)(SC:Addr)(xs:List (Int×Tok))(se:Nat)(t6:Tok)(hlen:xs.length≤63):
  Ct v.w 150 [(SC,ac (aa xs) se)] aK (.call (.ref 523) ⟨[.ref SC,.int 6 t6],[]⟩) [] qY (λy j j=>∀k<6,0≤(y.d k).1∧(y.d k).1<2 ^ 21):=by
 refine(zH v SC xs se t6 (!xs.isEmpty) uq ((xs.length+1:Nat):Int) (zG xs)).ct [] λA s R j j j hR=>?_
 have hN:((xs.length+1:Nat):Int)≠0:=by omega
 refine kc (λE=>DX v _ _ _ _ SC xs se _ hlen) fun(y:sd) _ s2 p1=>?_
 obtain⟨hl,hnn⟩:=iD p1
 have hz:(uq y.ys s2.toks).size=xs.length+1:=by simp[uq,aa,hl]
 have Cadd:=λl b=>mu v.w (l:=l) (b:=b) (items:=aa y.ys) (n:=y.ys.length) (items2:=#[.int 5 s2.toks]) (n2:=0) (Nat.le_trans (m:=64) (by simp[aa];omega) (by decide))
 rw[show aa y.ys++#[.int 5 s2.toks]=uq y.ys s2.toks by simp[uq,aa]]at Cadd
 have Cl:=λa=>fX v.w (L:=a) (items:=uq y.ys s2.toks) (ep:=0) (by rw[hz];omega)
 rw[hz]at Cl
 have Cg:∀a (k:Nat) t,aS v.w 20 [(a,ac (uq y.ys s2.toks) 0)] (.call (.builtin "list.__getitem__") ⟨[.ref a,.int (Int.fmod k ((xs.length+1:Nat):Int)) t],[]⟩) [] (aW (.ok (.ret (.int (zG xs y.ys s2.toks k).1 (zG xs y.ys s2.toks k).2)))):=λa k t=>
  bB v.w (qO k xs.length).1 (by have:=qO k xs.length;omega) (ur xs y.ys s2.toks k hl)
 have Pp:∀(a:Int),Builtin.divisionGoesByPylong a ((xs.length+1:Nat):Int)=false:=λa=>PyProof.noPylong_small (by omega)
 have Pd:∀(k:Nat),k<6→∀r,1+Int.fdiv k ((xs.length+1:Nat):Int)≠0∧_:=λk hk r=>Cm r k xs.length hk
 refine kc (λj=>Cadd _ _) λRw j s4 j=>kc (λj=>Cl _) λj j j j=>?_
 refine kc (λj=>Cg _ 0 _) (λj j t0 j=>kc (λj=>Cl _) (λj j u0 j=>?_)) ⟨hN,trivial⟩
 refine kc (hps:=⟨by decide,Pd 0 (by decide) _,⟨hN,Pp _⟩,trivial⟩) (λj=>Cl _) λj j j j=>kc (hps:=⟨hN,trivial⟩) (λj=>Cg _ 1 _) λj j j j=>kc (λj=>Cl _) λj j u1 j=>?_
 refine kc (hps:=⟨by decide,Pd 1 (by decide) _,⟨hN,Pp _⟩,trivial⟩) (λj=>Cl _) λj j j j=>kc (hps:=⟨hN,trivial⟩) (λj=>Cg _ 2 _) λj j j j=>kc (λj=>Cl _) λj j u2 j=>?_
 refine kc (hps:=⟨by decide,Pd 2 (by decide) _,⟨hN,Pp _⟩,trivial⟩) (λj=>Cl _) λj j j j=>kc (hps:=⟨hN,trivial⟩) (λj=>Cg _ 3 _) λj j j j=>kc (λj=>Cl _) λj j u3 j=>?_
 refine kc (hps:=⟨by decide,Pd 3 (by decide) _,⟨hN,Pp _⟩,trivial⟩) (λj=>Cl _) λj j j j=>kc (hps:=⟨hN,trivial⟩) (λj=>Cg _ 4 _) λj j j j=>kc (λj=>Cl _) λj j u4 j=>?_
 refine kc (hps:=⟨by decide,Pd 4 (by decide) _,⟨hN,Pp _⟩,trivial⟩) (λj=>Cl _) λj j j j=>kc (hps:=⟨hN,trivial⟩) (λj=>Cg _ 5 _) λj j j j=>kc (λj=>Cl _) λj j u5 j=>?_
 exact kr hR (hps:=⟨by decide,Pd 5 (by decide) _,⟨hN,Pp _⟩,trivial⟩) (λj=>⟨_,λk=>(dV (zG xs y.ys s2.toks k).1 k ((xs.length+1:Nat):Int),match k with|0=>u0.toks+7|1=>u1.toks+7|2=>u2.toks+7|3=>u3.toks+7|4=>u4.toks+7|_=>u5.toks+7)⟩) λj j j k hk=>Cp _ k xs.length hk
set_option backward.match.sparseCases false in
noncomputable def lp(w:World)(L I:Addr)(cl:List (Str×Addr)):Code:=match((aH (ul w))[1]?:Option Stmt)with
 |some (Stmt.For t _ b o _)=>.forLoop t (.ref I) b o (q6 (ul w) 540 L cl)
 |_=>.block [] default
noncomputable def GD(x:Nm)(n:Nat)(a:Nat→Tok):List (Int×Tok):=kl n λi=>(gA x (i+1),a i)
noncomputable def gV(x:Nm)(n:Nat):Int:=match n with|0=>0|n+1=>gV x n+gA x (n+1)
inductive K5|k0|k1|k2|k3|k4
noncomputable def Fm:En K5:=oq [.k0,.k1,.k2,.k3,.k4] K5.ctorIdx (λt=>by cases t<;>rfl)
noncomputable def K5.n:K5→Nat|.k0=>0|.k1=>1|.k2=>2|.k3=>3|.k4=>4
noncomputable def dT(ht:Nat→Int×Tok)(BK:Addr)(tot:Int)(tt:Tok)(cv:Option (Value×Value×Int×Tok)):Obj:=match cv with
 |none=>fQ ht [(iQ,.ref BK),(mL,.int tot tt)] 2
 |some c=>fQ ht [(iQ,.ref BK),(mL,.int tot tt),(dq,c.1),(dg,c.2.1),(sT,.int c.2.2.1 c.2.2.2)] 5
structure Ih where
 ht:Nat→Int×Tok
 tt:Tok
 cv:Value×Value×Int×Tok
noncomputable def m9(I L BK:Addr)(n:Nat)(tot:Int):bS Ih:={res:=λj=>.ok .next,upd:=λy=>[(I,aj .none n),(L,dT y.ht BK tot y.tt (some y.cv))]}
noncomputable def BC(v:WV)(x:Nm)(L I Zn Zc BK CM T AL:Addr)(bk:Array Value)(be g:Nat)(cs:List (Int×Tok))(ce:Nat)(xs:List (Int×Tok))(ae:Nat)(te:Nat)(w:Int)(tw tn:Tok)(tot:Int)(tt:Tok)(ht:Nat→Int×Tok)(cv:Option (Value×Value×Int×Tok))(m sg:Nat→Int)(nz:Bool):Cn:=⟨180,[(I,aj (.ref BK) g),(L,dT ht BK tot tt cv),(BK,ac bk be),(Zn,af (.str x.s tn)),(Zc,af (.ref CM)),(CM,ac (aa cs) ce),(T,aO #[.ref AL,.int w tw] te),(AL,ac (aa xs) ae)],lp v.w L I [(am,Zc),(aV,Zn)],λzn zu=>.cut {js:=[0,2],ju:=[0],K:=1,N:=7,orc:=(dz 1 1)} (.call (.builtin "list_iterator.__next__") ⟨[.ref I],[]⟩) (λj=>[(I,aj (.ref BK) g),(BK,ac bk be)]) (λj=>an I (.ref T) (aj (.ref BK) (g+1))) λj n1 u1=>.cut {ws:=[1],js:=[11,12,13,7,4,5],ju:=[11,12,13],i:=6,u:=2,K:=1,cnt:=10,N:=84,orc:=(dz 39 1430322235500220844191337481888846940323393729456556438799875166843555184392651649),wa:=[L]} (fS true v.w L Zc (n1+3) (n1+4) (n1+5)) (λE=>[(n1+3,aj (.ref AL) 0),(n1+4,ac #[] 0),(n1+5,bO (λj=>(0,0)) [] 0),(AL,ac (aa xs) ae),(Zc,af (.ref CM)),(CM,ac (aa cs) ce)]) (λj=>bV (n1+3) (n1+4) (n1+5) cQ xs.length nz) λy n2 u2=>.cut {ws:=[13],js:=[12],K:=1,cnt:=1,N:=(match v.b2,cv.isSome,nz with|true,false,true|true,true,true|false,false,true|false,true,true=>12|true,false,false|true,true,false|false,false,false|false,true,false=>8),orc:=(match v.b2,cv.isSome,nz with|true,false,true|true,true,true|false,false,true|false,true,true=>(dz 3 231182)|true,false,false|true,true,false|false,false,false|false,true,false=>(dz 1 14)),wa:=[n1+5]} (.builtin "len" ⟨[.ref (n1+4)],[]⟩) (λE=>[(n1+4,ac (aa y.ys) y.ys.length)]) (λj=>aw 0) λq n3 u3=>.cut {ws:=[1],js:=[16],i:=6,u:=5,K:=1,cnt:=(match v.b2,cv.isSome,nz with|true,false,true|true,false,false|true,true,true|true,true,false=>15|false,false,true|false,false,false|false,true,true|false,true,false=>17),N:=(match v.b2,cv.isSome,nz with|true,false,true|true,false,false|true,true,true|true,true,false=>86|false,false,true|false,false,false|false,true,true|false,true,false=>96),orc:=(match v.b2,cv.isSome,nz with|true,false,true|true,false,false|true,true,true|true,true,false=>(dz 27 111303522102396461279535924752645884174041432528724721922)|false,false,true|false,false,false|false,true,true|false,true,false=>(dz 31 29877811709962872799374343159852437841077774525253533275810464002)),wa:=[L]} (.builtin "sum" ⟨[.ref (n3+2)],[]⟩) (λE=>[(n3+2,ac #[] 0)]) (λj=>aw (sg 0)) λqs n4 u4=>.tail {ws:=[1],js:=[0,1,2,3,4,5,6,7],u:=3,cnt:=2,N:=20,orc:=(dz 3 33025),ps:=[IntMulOk w (sg (0:Nat))],wa:=[L]} (lp v.w L I [(am,Zc),(aV,Zn)]) (λE=>[(I,aj (.ref BK) (g+1)),(L,dT (aq (E.lk 1)) BK (tot+w*sg 0) (u4+1) (some (.ref AL,.int w tw,0,q))),(BK,ac bk be),(Zn,af (.str x.s tn)),(Zc,af (.ref CM)),(CM,ac (aa cs) ce),(T,aO #[.ref AL,.int w tw] te),(AL,ac (aa xs) ae)])⟩
theorem tH v x L I Zn Zc BK CM T AL bk be g cs ce xs ae te w tw tn tot tt ht cv m sg nz:(BC v x L I Zn Zc BK CM T AL bk be g cs ce xs ae te w tw tn tot tt ht cv m sg nz).G v:=Cn.h3 (cz _) cm (f:=λcv nz v=>BC v x L I Zn Zc BK CM T AL bk be g cs ce xs ae te w tw tn tot tt ht cv m sg nz) (λj j j j=>by kernel_rfl) cv nz v
noncomputable def BB(v:WV)(x:Nm)(L I Zn Zc BK CM T AL:Addr)(bk:Array Value)(be g:Nat)(cs:List (Int×Tok))(ce:Nat)(xs:List (Int×Tok))(ae:Nat)(te:Nat)(w:Int)(tw tn:Tok)(tot:Int)(tt:Tok)(ht:Nat→Int×Tok)(cv:Option (Value×Value×Int×Tok))(m sg:Nat→Int)(nz:Bool):Cn:=⟨180,[(I,aj (.ref BK) g),(L,dT ht BK tot tt cv),(BK,ac bk be),(Zn,af (.str x.s tn)),(Zc,af (.ref CM)),(CM,ac (aa cs) ce),(T,aO #[.ref AL,.int w tw] te),(AL,ac (aa xs) ae)],lp v.w L I [(am,Zc),(aV,Zn)],λzn zu=>.cut {js:=[0,2],ju:=[0],K:=1,N:=7,orc:=(dz 1 1)} (.call (.builtin "list_iterator.__next__") ⟨[.ref I],[]⟩) (λj=>[(I,aj (.ref BK) g),(BK,ac bk be)]) (λj=>an I (.ref T) (aj (.ref BK) (g+1))) λj n1 u1=>.cut {ws:=[1],js:=[11,12,13,7,4,5],ju:=[11,12,13],i:=6,u:=2,K:=1,cnt:=10,N:=84,orc:=(dz 39 1430322235500220844191337481888846940323393729456556438799875166843555184392651649),wa:=[L]} (fS true v.w L Zc (n1+3) (n1+4) (n1+5)) (λE=>[(n1+3,aj (.ref AL) 0),(n1+4,ac #[] 0),(n1+5,bO (λj=>(0,0)) [] 0),(AL,ac (aa xs) ae),(Zc,af (.ref CM)),(CM,ac (aa cs) ce)]) (λj=>bV (n1+3) (n1+4) (n1+5) cQ xs.length nz) λy n2 u2=>.cut {ws:=[13],js:=[12],K:=1,cnt:=1,N:=(match v.b2,cv.isSome,nz with|true,false,true|true,true,true|false,false,true|false,true,true=>12|true,false,false|true,true,false|false,false,false|false,true,false=>8),orc:=(match v.b2,cv.isSome,nz with|true,false,true|true,true,true|false,false,true|false,true,true=>(dz 3 231182)|true,false,false|true,true,false|false,false,false|false,true,false=>(dz 1 14)),wa:=[n1+5]} (.builtin "len" ⟨[.ref (n1+4)],[]⟩) (λE=>[(n1+4,ac (aa y.ys) y.ys.length)]) (λj=>aw 1) λq n3 u3=>.cut {ws:=[1],i:=4,u:=7,K:=2,cnt:=(match v.b2,cv.isSome,nz with|true,false,true|true,false,false|true,true,true|true,true,false=>14|false,false,true|false,false,false|false,true,true|false,true,false=>16),N:=(match v.b2,cv.isSome,nz with|true,false,true|true,false,false|true,true,true|true,true,false=>97|false,false,true|false,false,false|false,true,true|false,true,false=>107),orc:=(match v.b2,cv.isSome,nz with|true,false,true|true,false,false|true,true,true|true,true,false=>(dz 35 62223586759884377900820425786513073969733768764642918639395722900832514)|false,false,true|false,false,false|false,true,true|false,true,false=>(dz 39 16703016885845125489083053770116818676800944911188194837916311953414066880413954)),wa:=[L]} (.call (.ref 535) ⟨[.str x.s tn,.int 1 (u3+5)],[]⟩) (λE=>[]) (λj=>aw (m 1)) λq1 n4 u4=>.cut {ws:=[16,17],js:=[16],i:=2,K:=1,cnt:=6,N:=36,orc:=(dz 13 350912155421759395149924497),wa:=[n3+2,n3+3]} (.builtin "sum" ⟨[.ref (n3+2)],[]⟩) (λE=>[(n3+2,ac #[.int (m 1) q1] 1)]) (λj=>aw (sg 1)) λqs n5 u5=>.tail {ws:=[1],js:=[0,1,2,3,4,5,6,7],u:=3,cnt:=2,N:=20,orc:=(dz 3 33025),ps:=[IntMulOk w (sg (1:Nat))],wa:=[L]} (lp v.w L I [(am,Zc),(aV,Zn)]) (λE=>[(I,aj (.ref BK) (g+1)),(L,dT (aq (E.lk 1)) BK (tot+w*sg 1) (u5+1) (some (.ref AL,.int w tw,1,q))),(BK,ac bk be),(Zn,af (.str x.s tn)),(Zc,af (.ref CM)),(CM,ac (aa cs) ce),(T,aO #[.ref AL,.int w tw] te),(AL,ac (aa xs) ae)])⟩
theorem tG v x L I Zn Zc BK CM T AL bk be g cs ce xs ae te w tw tn tot tt ht cv m sg nz:(BB v x L I Zn Zc BK CM T AL bk be g cs ce xs ae te w tw tn tot tt ht cv m sg nz).G v:=Cn.h3 (cz _) cm (f:=λcv nz v=>BB v x L I Zn Zc BK CM T AL bk be g cs ce xs ae te w tw tn tot tt ht cv m sg nz) (λj j j j=>by kernel_rfl) cv nz v
noncomputable def BA(v:WV)(x:Nm)(L I Zn Zc BK CM T AL:Addr)(bk:Array Value)(be g:Nat)(cs:List (Int×Tok))(ce:Nat)(xs:List (Int×Tok))(ae:Nat)(te:Nat)(w:Int)(tw tn:Tok)(tot:Int)(tt:Tok)(ht:Nat→Int×Tok)(cv:Option (Value×Value×Int×Tok))(m sg:Nat→Int)(nz:Bool):Cn:=⟨180,[(I,aj (.ref BK) g),(L,dT ht BK tot tt cv),(BK,ac bk be),(Zn,af (.str x.s tn)),(Zc,af (.ref CM)),(CM,ac (aa cs) ce),(T,aO #[.ref AL,.int w tw] te),(AL,ac (aa xs) ae)],lp v.w L I [(am,Zc),(aV,Zn)],λzn zu=>.cut {js:=[0,2],ju:=[0],K:=1,N:=7,orc:=(dz 1 1)} (.call (.builtin "list_iterator.__next__") ⟨[.ref I],[]⟩) (λj=>[(I,aj (.ref BK) g),(BK,ac bk be)]) (λj=>an I (.ref T) (aj (.ref BK) (g+1))) λj n1 u1=>.cut {ws:=[1],js:=[11,12,13,7,4,5],ju:=[11,12,13],i:=6,u:=2,K:=1,cnt:=10,N:=84,orc:=(dz 39 1430322235500220844191337481888846940323393729456556438799875166843555184392651649),wa:=[L]} (fS true v.w L Zc (n1+3) (n1+4) (n1+5)) (λE=>[(n1+3,aj (.ref AL) 0),(n1+4,ac #[] 0),(n1+5,bO (λj=>(0,0)) [] 0),(AL,ac (aa xs) ae),(Zc,af (.ref CM)),(CM,ac (aa cs) ce)]) (λj=>bV (n1+3) (n1+4) (n1+5) cQ xs.length nz) λy n2 u2=>.cut {ws:=[13],js:=[12],K:=1,cnt:=1,N:=(match v.b2,cv.isSome,nz with|true,false,true|true,true,true|false,false,true|false,true,true=>12|true,false,false|true,true,false|false,false,false|false,true,false=>8),orc:=(match v.b2,cv.isSome,nz with|true,false,true|true,true,true|false,false,true|false,true,true=>(dz 3 231182)|true,false,false|true,true,false|false,false,false|false,true,false=>(dz 1 14)),wa:=[n1+5]} (.builtin "len" ⟨[.ref (n1+4)],[]⟩) (λE=>[(n1+4,ac (aa y.ys) y.ys.length)]) (λj=>aw 2) λq n3 u3=>.cut {ws:=[1],i:=4,u:=7,K:=2,cnt:=(match v.b2,cv.isSome,nz with|true,false,true|true,false,false|true,true,true|true,true,false=>14|false,false,true|false,false,false|false,true,true|false,true,false=>16),N:=(match v.b2,cv.isSome,nz with|true,false,true|true,false,false|true,true,true|true,true,false=>97|false,false,true|false,false,false|false,true,true|false,true,false=>107),orc:=(match v.b2,cv.isSome,nz with|true,false,true|true,false,false|true,true,true|true,true,false=>(dz 35 62223586759884377900820425786513073969733768764642918639395722900832514)|false,false,true|false,false,false|false,true,true|false,true,false=>(dz 39 16703016885845125489083053770116818676800944911188194837916311953414066880413954)),wa:=[L]} (.call (.ref 535) ⟨[.str x.s tn,.int 1 (u3+5)],[]⟩) (λE=>[]) (λj=>aw (m 1)) λq1 n4 u4=>.cut {ws:=[16,15,17],u:=2,K:=2,cnt:=5,N:=43,orc:=(dz 19 11983826898803846507616840181396818065),wa:=[n3+2,n3+1,n3+3]} (.call (.ref 535) ⟨[.str x.s tn,.int 2 u4],[]⟩) (λE=>[]) (λj=>aw (m 2)) λq2 n5 u5=>.cut {ws:=[16,17],js:=[16],i:=2,K:=1,cnt:=6,N:=36,orc:=(dz 13 350912155421759395149924497),wa:=[n3+2,n3+3]} (.builtin "sum" ⟨[.ref (n3+2)],[]⟩) (λE=>[(n3+2,ac #[.int (m 1) q1,.int (m 2) q2] 2)]) (λj=>aw (sg 2)) λqs n6 u6=>.tail {ws:=[1],js:=[0,1,2,3,4,5,6,7],u:=3,cnt:=2,N:=20,orc:=(dz 3 33025),ps:=[IntMulOk w (sg (2:Nat))],wa:=[L]} (lp v.w L I [(am,Zc),(aV,Zn)]) (λE=>[(I,aj (.ref BK) (g+1)),(L,dT (aq (E.lk 1)) BK (tot+w*sg 2) (u6+1) (some (.ref AL,.int w tw,2,q))),(BK,ac bk be),(Zn,af (.str x.s tn)),(Zc,af (.ref CM)),(CM,ac (aa cs) ce),(T,aO #[.ref AL,.int w tw] te),(AL,ac (aa xs) ae)])⟩
theorem tF v x L I Zn Zc BK CM T AL bk be g cs ce xs ae te w tw tn tot tt ht cv m sg nz:(BA v x L I Zn Zc BK CM T AL bk be g cs ce xs ae te w tw tn tot tt ht cv m sg nz).G v:=Cn.h3 (cz _) cm (f:=λcv nz v=>BA v x L I Zn Zc BK CM T AL bk be g cs ce xs ae te w tw tn tot tt ht cv m sg nz) (λj j j j=>by kernel_rfl) cv nz v
noncomputable def Bz(v:WV)(x:Nm)(L I Zn Zc BK CM T AL:Addr)(bk:Array Value)(be g:Nat)(cs:List (Int×Tok))(ce:Nat)(xs:List (Int×Tok))(ae:Nat)(te:Nat)(w:Int)(tw tn:Tok)(tot:Int)(tt:Tok)(ht:Nat→Int×Tok)(cv:Option (Value×Value×Int×Tok))(m sg:Nat→Int)(nz:Bool):Cn:=⟨180,[(I,aj (.ref BK) g),(L,dT ht BK tot tt cv),(BK,ac bk be),(Zn,af (.str x.s tn)),(Zc,af (.ref CM)),(CM,ac (aa cs) ce),(T,aO #[.ref AL,.int w tw] te),(AL,ac (aa xs) ae)],lp v.w L I [(am,Zc),(aV,Zn)],λzn zu=>.cut {js:=[0,2],ju:=[0],K:=1,N:=7,orc:=(dz 1 1)} (.call (.builtin "list_iterator.__next__") ⟨[.ref I],[]⟩) (λj=>[(I,aj (.ref BK) g),(BK,ac bk be)]) (λj=>an I (.ref T) (aj (.ref BK) (g+1))) λj n1 u1=>.cut {ws:=[1],js:=[11,12,13,7,4,5],ju:=[11,12,13],i:=6,u:=2,K:=1,cnt:=10,N:=84,orc:=(dz 39 1430322235500220844191337481888846940323393729456556438799875166843555184392651649),wa:=[L]} (fS true v.w L Zc (n1+3) (n1+4) (n1+5)) (λE=>[(n1+3,aj (.ref AL) 0),(n1+4,ac #[] 0),(n1+5,bO (λj=>(0,0)) [] 0),(AL,ac (aa xs) ae),(Zc,af (.ref CM)),(CM,ac (aa cs) ce)]) (λj=>bV (n1+3) (n1+4) (n1+5) cQ xs.length nz) λy n2 u2=>.cut {ws:=[13],js:=[12],K:=1,cnt:=1,N:=(match v.b2,cv.isSome,nz with|true,false,true|true,true,true|false,false,true|false,true,true=>12|true,false,false|true,true,false|false,false,false|false,true,false=>8),orc:=(match v.b2,cv.isSome,nz with|true,false,true|true,true,true|false,false,true|false,true,true=>(dz 3 231182)|true,false,false|true,true,false|false,false,false|false,true,false=>(dz 1 14)),wa:=[n1+5]} (.builtin "len" ⟨[.ref (n1+4)],[]⟩) (λE=>[(n1+4,ac (aa y.ys) y.ys.length)]) (λj=>aw 3) λq n3 u3=>.cut {ws:=[1],i:=4,u:=7,K:=2,cnt:=(match v.b2,cv.isSome,nz with|true,false,true|true,false,false|true,true,true|true,true,false=>14|false,false,true|false,false,false|false,true,true|false,true,false=>16),N:=(match v.b2,cv.isSome,nz with|true,false,true|true,false,false|true,true,true|true,true,false=>97|false,false,true|false,false,false|false,true,true|false,true,false=>107),orc:=(match v.b2,cv.isSome,nz with|true,false,true|true,false,false|true,true,true|true,true,false=>(dz 35 62223586759884377900820425786513073969733768764642918639395722900832514)|false,false,true|false,false,false|false,true,true|false,true,false=>(dz 39 16703016885845125489083053770116818676800944911188194837916311953414066880413954)),wa:=[L]} (.call (.ref 535) ⟨[.str x.s tn,.int 1 (u3+5)],[]⟩) (λE=>[]) (λj=>aw (m 1)) λq1 n4 u4=>.cut {ws:=[16,15,17],u:=2,K:=2,cnt:=5,N:=43,orc:=(dz 19 11983826898803846507616840181396818065),wa:=[n3+2,n3+1,n3+3]} (.call (.ref 535) ⟨[.str x.s tn,.int 2 u4],[]⟩) (λE=>[]) (λj=>aw (m 2)) λq2 n5 u5=>.cut {ws:=[16,15,17],u:=2,K:=2,cnt:=5,N:=43,orc:=(dz 19 11983826898803846507616840181396818065),wa:=[n3+2,n3+1,n3+3]} (.call (.ref 535) ⟨[.str x.s tn,.int 3 u5],[]⟩) (λE=>[]) (λj=>aw (m 3)) λq3 n6 u6=>.cut {ws:=[16,17],js:=[16],i:=2,K:=1,cnt:=6,N:=36,orc:=(dz 13 350912155421759395149924497),wa:=[n3+2,n3+3]} (.builtin "sum" ⟨[.ref (n3+2)],[]⟩) (λE=>[(n3+2,ac #[.int (m 1) q1,.int (m 2) q2,.int (m 3) q3] 3)]) (λj=>aw (sg 3)) λqs n7 u7=>.tail {ws:=[1],js:=[0,1,2,3,4,5,6,7],u:=3,cnt:=2,N:=20,orc:=(dz 3 33025),ps:=[IntMulOk w (sg (3:Nat))],wa:=[L]} (lp v.w L I [(am,Zc),(aV,Zn)]) (λE=>[(I,aj (.ref BK) (g+1)),(L,dT (aq (E.lk 1)) BK (tot+w*sg 3) (u7+1) (some (.ref AL,.int w tw,3,q))),(BK,ac bk be),(Zn,af (.str x.s tn)),(Zc,af (.ref CM)),(CM,ac (aa cs) ce),(T,aO #[.ref AL,.int w tw] te),(AL,ac (aa xs) ae)])⟩
theorem tE v x L I Zn Zc BK CM T AL bk be g cs ce xs ae te w tw tn tot tt ht cv m sg nz:(Bz v x L I Zn Zc BK CM T AL bk be g cs ce xs ae te w tw tn tot tt ht cv m sg nz).G v:=Cn.h3 (cz _) cm (f:=λcv nz v=>Bz v x L I Zn Zc BK CM T AL bk be g cs ce xs ae te w tw tn tot tt ht cv m sg nz) (λj j j j=>by kernel_rfl) cv nz v
noncomputable def By(v:WV)(x:Nm)(L I Zn Zc BK CM T AL:Addr)(bk:Array Value)(be g:Nat)(cs:List (Int×Tok))(ce:Nat)(xs:List (Int×Tok))(ae:Nat)(te:Nat)(w:Int)(tw tn:Tok)(tot:Int)(tt:Tok)(ht:Nat→Int×Tok)(cv:Option (Value×Value×Int×Tok))(m sg:Nat→Int)(nz:Bool):Cn:=⟨180,[(I,aj (.ref BK) g),(L,dT ht BK tot tt cv),(BK,ac bk be),(Zn,af (.str x.s tn)),(Zc,af (.ref CM)),(CM,ac (aa cs) ce),(T,aO #[.ref AL,.int w tw] te),(AL,ac (aa xs) ae)],lp v.w L I [(am,Zc),(aV,Zn)],λzn zu=>.cut {js:=[0,2],ju:=[0],K:=1,N:=7,orc:=(dz 1 1)} (.call (.builtin "list_iterator.__next__") ⟨[.ref I],[]⟩) (λj=>[(I,aj (.ref BK) g),(BK,ac bk be)]) (λj=>an I (.ref T) (aj (.ref BK) (g+1))) λj n1 u1=>.cut {ws:=[1],js:=[11,12,13,7,4,5],ju:=[11,12,13],i:=6,u:=2,K:=1,cnt:=10,N:=84,orc:=(dz 39 1430322235500220844191337481888846940323393729456556438799875166843555184392651649),wa:=[L]} (fS true v.w L Zc (n1+3) (n1+4) (n1+5)) (λE=>[(n1+3,aj (.ref AL) 0),(n1+4,ac #[] 0),(n1+5,bO (λj=>(0,0)) [] 0),(AL,ac (aa xs) ae),(Zc,af (.ref CM)),(CM,ac (aa cs) ce)]) (λj=>bV (n1+3) (n1+4) (n1+5) cQ xs.length nz) λy n2 u2=>.cut {ws:=[13],js:=[12],K:=1,cnt:=1,N:=(match v.b2,cv.isSome,nz with|true,false,true|true,true,true|false,false,true|false,true,true=>12|true,false,false|true,true,false|false,false,false|false,true,false=>8),orc:=(match v.b2,cv.isSome,nz with|true,false,true|true,true,true|false,false,true|false,true,true=>(dz 3 231182)|true,false,false|true,true,false|false,false,false|false,true,false=>(dz 1 14)),wa:=[n1+5]} (.builtin "len" ⟨[.ref (n1+4)],[]⟩) (λE=>[(n1+4,ac (aa y.ys) y.ys.length)]) (λj=>aw 4) λq n3 u3=>.cut {ws:=[1],i:=4,u:=7,K:=2,cnt:=(match v.b2,cv.isSome,nz with|true,false,true|true,false,false|true,true,true|true,true,false=>14|false,false,true|false,false,false|false,true,true|false,true,false=>16),N:=(match v.b2,cv.isSome,nz with|true,false,true|true,false,false|true,true,true|true,true,false=>97|false,false,true|false,false,false|false,true,true|false,true,false=>107),orc:=(match v.b2,cv.isSome,nz with|true,false,true|true,false,false|true,true,true|true,true,false=>(dz 35 62223586759884377900820425786513073969733768764642918639395722900832514)|false,false,true|false,false,false|false,true,true|false,true,false=>(dz 39 16703016885845125489083053770116818676800944911188194837916311953414066880413954)),wa:=[L]} (.call (.ref 535) ⟨[.str x.s tn,.int 1 (u3+5)],[]⟩) (λE=>[]) (λj=>aw (m 1)) λq1 n4 u4=>.cut {ws:=[16,15,17],u:=2,K:=2,cnt:=5,N:=43,orc:=(dz 19 11983826898803846507616840181396818065),wa:=[n3+2,n3+1,n3+3]} (.call (.ref 535) ⟨[.str x.s tn,.int 2 u4],[]⟩) (λE=>[]) (λj=>aw (m 2)) λq2 n5 u5=>.cut {ws:=[16,15,17],u:=2,K:=2,cnt:=5,N:=43,orc:=(dz 19 11983826898803846507616840181396818065),wa:=[n3+2,n3+1,n3+3]} (.call (.ref 535) ⟨[.str x.s tn,.int 3 u5],[]⟩) (λE=>[]) (λj=>aw (m 3)) λq3 n6 u6=>.cut {ws:=[16,15,17],u:=2,K:=2,cnt:=5,N:=43,orc:=(dz 19 11983826898803846507616840181396818065),wa:=[n3+2,n3+1,n3+3]} (.call (.ref 535) ⟨[.str x.s tn,.int 4 u6],[]⟩) (λE=>[]) (λj=>aw (m 4)) λq4 n7 u7=>.cut {ws:=[16,17],js:=[16],i:=2,K:=1,cnt:=6,N:=36,orc:=(dz 13 350912155421759395149924497),wa:=[n3+2,n3+3]} (.builtin "sum" ⟨[.ref (n3+2)],[]⟩) (λE=>[(n3+2,ac #[.int (m 1) q1,.int (m 2) q2,.int (m 3) q3,.int (m 4) q4] 4)]) (λj=>aw (sg 4)) λqs n8 u8=>.tail {ws:=[1],js:=[0,1,2,3,4,5,6,7],u:=3,cnt:=2,N:=20,orc:=(dz 3 33025),ps:=[IntMulOk w (sg (4:Nat))],wa:=[L]} (lp v.w L I [(am,Zc),(aV,Zn)]) (λE=>[(I,aj (.ref BK) (g+1)),(L,dT (aq (E.lk 1)) BK (tot+w*sg 4) (u8+1) (some (.ref AL,.int w tw,4,q))),(BK,ac bk be),(Zn,af (.str x.s tn)),(Zc,af (.ref CM)),(CM,ac (aa cs) ce),(T,aO #[.ref AL,.int w tw] te),(AL,ac (aa xs) ae)])⟩
theorem tD v x L I Zn Zc BK CM T AL bk be g cs ce xs ae te w tw tn tot tt ht cv m sg nz:(By v x L I Zn Zc BK CM T AL bk be g cs ce xs ae te w tw tn tot tt ht cv m sg nz).G v:=Cn.h3 (cz _) cm (f:=λcv nz v=>By v x L I Zn Zc BK CM T AL bk be g cs ce xs ae te w tw tn tot tt ht cv m sg nz) (λj j j j=>by kernel_rfl) cv nz v
noncomputable def G0(v:WV)(L I Zn Zc BK:Addr)(bk:Array Value)(be g:Nat)(tot:Int)(tt:Tok)(ht:Nat→Int×Tok)(cv:Option (Value×Value×Int×Tok)):Cn:=⟨100,[(I,aj (.ref BK) g),(L,dT ht BK tot tt cv),(BK,ac bk be)],lp v.w L I [(am,Zc),(aV,Zn)],λzn zu=>.cut {js:=[0,2],ju:=[0],K:=1,N:=7,orc:=(dz 1 1)} (.call (.builtin "list_iterator.__next__") ⟨[.ref I],[]⟩) (λj=>[(I,aj (.ref BK) g),(BK,ac bk be)]) (λj=>aE I (aj .none g)) λj n1 u1=>.fin {js:=[0,1],cnt:=1,N:=7,orc:=(dz 1 5)} (.ok .next) (λE=>[(I,aj .none g),(L,dT ht BK tot tt cv)])⟩
theorem yV v L I Zn Zc BK bk be g tot tt ht cv:(G0 v L I Zn Zc BK bk be g tot tt ht cv).G v:=Cn.g2 (cz _) (f:=λcv v=>G0 v L I Zn Zc BK bk be g tot tt ht cv) (λj j j j j=>by kernel_rfl) cv v
noncomputable def GZ(v:WV)(x:Nm)(BK CM:Addr)(bk:Array Value)(be n:Nat)(cs:List (Int×Tok))(ce:Nat)(tn:Tok)(tot:Int)(ex:List (Addr×Obj)):Cn:=⟨195,[(BK,ac bk be),(CM,ac (aa cs) ce)],.call (.ref 540) ⟨[.str x.s tn,.ref BK,.ref CM],[]⟩,λzn zu=>.cut {js:=[5,2,0,3,4,1],ju:=[5,2],i:=4,u:=3,K:=1,cnt:=3,N:=42,orc:=(dz 16 243708323573685417202950416171008)} (lp v.w zn (zn+3) [(am,zn+2),(aV,zn+1)]) (λE=>[(zn+3,aj (.ref BK) 0),(zn,dT (aq (E.lk 2)) BK 0 (zu+1) none),(BK,ac bk be),(zn+1,af (.str x.s tn)),(zn+2,af (.ref CM)),(CM,ac (aa cs) ce)]) (λj=>m9 (zn+3) zn BK n tot) λy n1 u1=>.fin {N:=8,orc:=(dz 1 3)} (.ok (.ret (.int tot y.tt))) (λE=>[])⟩
theorem yT v x BK CM bk be n cs ce tn tot ex:(GZ v x BK CM bk be n cs ce tn tot ex).G v:=Cn.g1 (f:=λv=>GZ v x BK CM bk be n cs ce tn tot ex) (λj j j j j=>by kernel_rfl) v
noncomputable def GC(v:WV)(x:Nm)(k:K5)(SL:Addr)(a:Nat→Tok):Cn:=⟨60,[(SL,ac (aa (GD x k.n a)) k.n)],.builtin "sum" ⟨[.ref SL],[]⟩,λzn zu=>.fin {i:=4,u:=(match k with|.k0=>1|.k1=>2|.k2=>3|.k3=>4|.k4=>5),cnt:=(match k with|.k0=>5|.k1=>8|.k2=>11|.k3=>14|.k4=>17),N:=(match k with|.k0=>33|.k1=>49|.k2=>65|.k3=>81|.k4=>97),orc:=(match k with|.k0=>(dz 13 97018667575937416552267905)|.k1=>(dz 24 14661046527144923698007638819934046648370643091585)|.k2=>(dz 35 2215514711154611192576790706474689375164540933443543110243915130870972545)|.k3=>(dz 46 334799117256357093759851750683181121582739180527710999627652640631911736014773471150857259073665)|.k4=>(dz 57 50593412154424479707714946903441501232820769803011317415020622872955233242617474276133769939435566671257542347081138305))} (.ok (.ret (.int (gV x k.n) (zu+k.n)))) (λE=>[])⟩
theorem x9 v x k SL a:(GC v x k SL a).G v:=Cn.g3 Ci Fm (f:=λx k v=>GC v x k SL a) (λj j j j j=>by kernel_rfl) x k v
theorem lg(v:WV)(x:Nm)(k:K5)(SL:Addr)(a:Nat→Tok):aS v.w 60 [(SL,ac (aa (GD x k.n a)) k.n)] (.builtin "sum" ⟨[.ref SL],[]⟩) [] (aw (gV x k.n)):=by
 exact(x9 v x k SL a).ct [] λA s R j j j hR=>kr hR λj=>_
structure ef where
 T:Addr
 AL:Addr
 xs:List (Int×Tok)
 ae:Nat
 te:Nat
 w:Int
 tw:Tok
noncomputable def ef.kn(e:ef):List (Addr×Obj):=[(e.T,aO #[.ref e.AL,.int e.w e.tw] e.te),(e.AL,ac (aa e.xs) e.ae)]
noncomputable def cr(bl:List ef):Array Value:=(bl.map λe=>Value.ref e.T).toArray
noncomputable def ef.seats(e:ef)(cs:List (Int×Tok)):Nat:=(e.xs.filter λx=>decide (x.1∈cs.map (·.1))).length
noncomputable def cb(x:Nm)(cs:List (Int×Tok)):List ef→Int→Int
 |[],t=>t
 |e::bl,t=>cb x cs bl (t+e.w*gV x (e.seats cs))
theorem ef.sub{bl:List ef}{e:ef}(h:e∈bl):e.kn.Sublist (bl.flatMap ef.kn):=by
 induction bl with
 |nil=>simp at h
 |cons y l ih=>
  rw[List.flatMap_cons]
  rcases List.mem_cons.mp h with rfl|h
  ·exact List.sublist_append_left _ _
  ·exact(ih h).trans (List.sublist_append_right _ _)
section
variable (v:WV) (x:Nm) (L I Zn Zc BK CM:Addr) (bl:List ef) (be:Nat) (cs:List (Int×Tok)) (ce:Nat) (tn:Tok)
noncomputable def ka(ht:Nat→Int×Tok)(g:Nat)(tot:Int)(tt:Tok)(cv:Option (Value×Value×Int×Tok)):List (Addr×Obj):=
 [(I,aj (.ref BK) g),(L,dT ht BK tot tt cv),(BK,ac (cr bl) be),(Zn,af (.str x.s tn)),(Zc,af (.ref CM)),(CM,ac (aa cs) ce)]
theorem jq(x:Nm)(n:Nat)(h:n≤4):0≤gV x n∧gV x n<2 ^ 14:=by
 match n,h with
 |0,_=>cases x<;>decide
 |1,_=>cases x<;>decide
 |2,_=>cases x<;>decide
 |3,_=>cases x<;>decide
 |4,_=>cases x<;>decide
 |n+5,h=>omega
theorem tC{e:ef}(hx:e.xs.length≤4){g:Nat}(hg:(cr bl)[g]?=some (.ref e.T))(ht:Nat→Int×Tok)(tot:Int)(tt:Tok)(cv:Option (Value×Value×Int×Tok)){A:Around}(hA:cp A 190){s:Shared}{R:Result→Shared→Prop}
  (hk:Kn (KB v.w) s (ka x L I Zn Zc BK CM bl be cs ce tn ht g tot tt cv++e.kn))
  (H:∀ht' tt' cv' s',ah s s' [I,L]→Kn (KB v.w) s' (ka x L I Zn Zc BK CM bl be cs ce tn ht' (g+1) (tot+e.w*gV x (e.seats cs)) tt' (some cv')++e.kn)→codeAny (model pr v.w) A (lp v.w L I [(am,Zc),(aV,Zn)]) R s'):
  codeAny (model pr v.w) A (lp v.w L I [(am,Zc),(aV,Zn)]) R s:=by
 have h4:e.seats cs≤4:=Nat.le_trans (List.length_filter_le _ _) hx
 have Cl:∀(ys:List (Int×Tok)) n,ys=e.xs.filter (λx=>decide (x.1∈cs.map (·.1)))→e.seats cs=n→∀a,aS v.w 20 [(a,ac (aa ys) ys.length)] (.builtin "len" ⟨[.ref a],[]⟩) [] (aw n):=λys n hy hS a=>by
  have h:ys.length=n:=by rw[hy];exact hS
  have z:=fX v.w (L:=a) (items:=aa ys) (ep:=ys.length) (by simp[aa];omega)
  rw[show(aa ys).size=n by rw[iW,h]]at z
  exact z
 have ml:∀n≤4,IntMulOk e.w (gV x n):=λn h=>az (by have:=jq x n h;omega) (by have:=jq x n h;omega)
 generalize hS:e.seats cs=S at H h4
 match S,h4 with
 |0,_=>exact(tH v x L I Zn Zc BK CM e.T e.AL (cr bl) be g cs ce e.xs e.ae e.te e.w e.tw tn tot tt ht cv (gA x) (gV x) (!e.xs.isEmpty)).go (hA.le (Nat.le_of_ble_eq_true rfl)) hk [0,1] <| kc (λo=>aP v.w hg) λo o o o=>kc (λo=>lh v L Zc CM cs ce _ _ _ e.AL e.xs e.ae _ hx) fun(y:sd) _ _ hy=>kc (λo=>Cl _ _ hy hS _) λo o o o=>kc (λo=>lg v x .k0 _ (λo=>0)) λo o o o=>kt (hps:=⟨ml 0 (by omega),trivial⟩) λo s' F K=>H _ _ _ s' F K
 |1,_=>exact(tG v x L I Zn Zc BK CM e.T e.AL (cr bl) be g cs ce e.xs e.ae e.te e.w e.tw tn tot tt ht cv (gA x) (gV x) (!e.xs.isEmpty)).go (hA.le (Nat.le_of_ble_eq_true rfl)) hk [0,1] <| kc (λo=>aP v.w hg) λo o o o=>kc (λo=>lh v L Zc CM cs ce _ _ _ e.AL e.xs e.ae _ hx) fun(y:sd) _ _ hy=>kc (λo=>Cl _ _ hy hS _) λo o o o=>kc (λE=>hG v x .i1 tn _) λq1 o o o=>kc (λo=>lg v x .k1 _ (λj=>match j with|_=>q1)) λo o o o=>kt (hps:=⟨ml 1 (by omega),trivial⟩) λo s' F K=>H _ _ _ s' F K
 |2,_=>exact(tF v x L I Zn Zc BK CM e.T e.AL (cr bl) be g cs ce e.xs e.ae e.te e.w e.tw tn tot tt ht cv (gA x) (gV x) (!e.xs.isEmpty)).go (hA.le (Nat.le_of_ble_eq_true rfl)) hk [0,1] <| kc (λo=>aP v.w hg) λo o o o=>kc (λo=>lh v L Zc CM cs ce _ _ _ e.AL e.xs e.ae _ hx) fun(y:sd) _ _ hy=>kc (λo=>Cl _ _ hy hS _) λo o o o=>kc (λE=>hG v x .i1 tn _) λq1 o o o=>kc (λE=>hG v x .i2 tn _) λq2 o o o=>kc (λo=>lg v x .k2 _ (λj=>match j with|0=>q1|_=>q2)) λo o o o=>kt (hps:=⟨ml 2 (by omega),trivial⟩) λo s' F K=>H _ _ _ s' F K
 |3,_=>exact(tE v x L I Zn Zc BK CM e.T e.AL (cr bl) be g cs ce e.xs e.ae e.te e.w e.tw tn tot tt ht cv (gA x) (gV x) (!e.xs.isEmpty)).go (hA.le (Nat.le_of_ble_eq_true rfl)) hk [0,1] <| kc (λo=>aP v.w hg) λo o o o=>kc (λo=>lh v L Zc CM cs ce _ _ _ e.AL e.xs e.ae _ hx) fun(y:sd) _ _ hy=>kc (λo=>Cl _ _ hy hS _) λo o o o=>kc (λE=>hG v x .i1 tn _) λq1 o o o=>kc (λE=>hG v x .i2 tn _) λq2 o o o=>kc (λE=>hG v x .i3 tn _) λq3 o o o=>kc (λo=>lg v x .k3 _ (λj=>match j with|0=>q1|1=>q2|_=>q3)) λo o o o=>kt (hps:=⟨ml 3 (by omega),trivial⟩) λo s' F K=>H _ _ _ s' F K
 |4,_=>exact(tD v x L I Zn Zc BK CM e.T e.AL (cr bl) be g cs ce e.xs e.ae e.te e.w e.tw tn tot tt ht cv (gA x) (gV x) (!e.xs.isEmpty)).go (hA.le (Nat.le_of_ble_eq_true rfl)) hk [0,1] <| kc (λo=>aP v.w hg) λo o o o=>kc (λo=>lh v L Zc CM cs ce _ _ _ e.AL e.xs e.ae _ hx) fun(y:sd) _ _ hy=>kc (λo=>Cl _ _ hy hS _) λo o o o=>kc (λE=>hG v x .i1 tn _) λq1 o o o=>kc (λE=>hG v x .i2 tn _) λq2 o o o=>kc (λE=>hG v x .i3 tn _) λq3 o o o=>kc (λE=>hG v x .i4 tn _) λq4 o o o=>kc (λo=>lg v x .k4 _ (λj=>match j with|0=>q1|1=>q2|2=>q3|_=>q4)) λo o o o=>kt (hps:=⟨ml 4 (by omega),trivial⟩) λo s' F K=>H _ _ _ s' F K
 |S+5,h=>omega
theorem yU(hbl:∀e∈bl,e.xs.length≤4){A:Around}(hA:cp A 190):∀(rest:List ef) (g:Nat) (ht:Nat→Int×Tok) (tot:Int) (tt:Tok) (cv:Option (Value×Value×Int×Tok)) (s:Shared) (R:Result→Shared→Prop),bl.drop g=rest→g≤bl.length→
  Kn (KB v.w) s (ka x L I Zn Zc BK CM bl be cs ce tn ht g tot tt cv++bl.flatMap ef.kn)→
  (∀ht' tt' cv' s',ah s s' [I,L]→Kn (KB v.w) s' [(I,aj .none bl.length),(L,dT ht' BK (cb x cs rest tot) tt' cv')]→cv'.isSome=(cv.isSome || !rest.isEmpty)→R (.ok .next) s')→
  codeAny (model pr v.w) A (lp v.w L I [(am,Zc),(aV,Zn)]) R s:=by
 intro rest
 induction rest with
 |nil=>
  intro g ht tot tt cv s R hd hg hk H
  have hg':=cq hd hg
  subst hg'
  have k3:Kn (KB v.w) s [(I,aj (.ref BK) bl.length),(L,dT ht BK tot tt cv),(BK,ac (cr bl) be)]:=hk.sub (by
   simp only[ka,List.cons_append]
   exact .cons₂ _ (.cons₂ _ (.cons₂ _ (List.nil_sublist _))))
  refine(yV v L I Zn Zc BK (cr bl) be bl.length tot tt ht cv).go (W:=[I,L]) (hA.le (Nat.le_of_ble_eq_true rfl)) k3 [0,1] ?_
  refine kc (λj=>bE v.w (show(cr bl)[bl.length]?=none by simp[cr])) λj s1 s2 j=>?_
  exact kf λE s0 F0 K0 j=>H ht tt cv s0 F0 K0 (by simp)
 |cons e rest ih=>
  intro g ht tot tt cv s R hd hg hk H
  obtain⟨hg',hx,hd'⟩:=bQ hd
  have he:e∈bl:=hx▸List.getElem_mem hg'
  have hgg:(cr bl)[g]?=some (.ref e.T):=by simp[cr,List.getElem?_eq_getElem hg',hx]
  have k1:Kn (KB v.w) s (ka x L I Zn Zc BK CM bl be cs ce tn ht g tot tt cv++e.kn):=hk.sub (List.Sublist.append (List.Sublist.refl _) (ef.sub he))
  refine tC v x L I Zn Zc BK CM bl be cs ce tn (hbl e he) hgg ht tot tt cv hA k1 λht' tt' cv' s' F K=>?_
  have K2:Kn (KB v.w) s' (ka x L I Zn Zc BK CM bl be cs ce tn ht' (g+1) (tot+e.w*gV x (e.seats cs)) tt' (some cv')++bl.flatMap ef.kn):=
   hk.step F (cN [0,1] rfl) (K.sub (List.sublist_append_left _ _)) rfl
  refine ih (g+1) ht' _ tt' (some cv') s' R hd' hg' K2 λht2 tt2 cv2 s2 F2 K3 e2=>H ht2 tt2 cv2 s2 (F.trans' F2) K3 ?_
  simp at e2 ⊢
  exact e2
end
noncomputable def cB(BK:Addr)(bl:List ef)(be:Nat):List (Addr×Obj):=(BK,ac (cr bl) be)::bl.flatMap ef.kn
theorem Gc(v:WV)(x:Nm)(L I Zn Zc BK CM:Addr)(bl:List ef)(be:Nat)(cs:List (Int×Tok))(ce:Nat)(tn:Tok)(hbl:∀e∈bl,e.xs.length≤4)(hne:bl≠[])(ht:Nat→Int×Tok)(tot:Int)(tt:Tok):
  Ct v.w 190 (ka x L I Zn Zc BK CM bl be cs ce tn ht 0 tot tt none) (λs=>Kn (KB v.w) s (bl.flatMap ef.kn)∧∀p∈bl.flatMap ef.kn,p.1∉[I,L,BK,Zn,Zc,CM]) (lp v.w L I [(am,Zc),(aV,Zn)]) [I,L] (m9 I L BK bl.length (cb x cs bl tot)) bP:=by
 intro A s R hA hk ⟨hp,hd⟩ hR
 refine yU v x L I Zn Zc BK CM bl be cs ce tn hbl hA bl 0 ht tot tt none s R rfl (Nat.zero_le _) (hk.app hp λp hp1 q hq1 h=>hd q hq1 (h▸by simpa [ka]using List.mem_map_of_mem (f:=Prod.fst) hp1)) λht' tt' cv' s' F K e=>?_
 cases cv' with
 |none=>
  exfalso
  cases bl with
  |nil=>exact hne rfl
  |cons=>simp at e
 |some c=>exact hR ⟨ht',tt',c⟩ s' F (by simpa [m9]using K) (by simp[m9]) trivial
theorem nr(v:WV)(x:Nm)(BK CM:Addr)(bl:List ef)(be:Nat)(cs:List (Int×Tok))(ce:Nat)(tn:Tok)(hbl:∀e∈bl,e.xs.length≤4)(hne:bl≠[])(hd:∀p∈cB BK bl be,p.1≠CM):
  Ct v.w 200 [(CM,ac (aa cs) ce)] (λs=>Kn (KB v.w) s (cB BK bl be)) (.call (.ref 540) ⟨[.str x.s tn,.ref BK,.ref CM],[]⟩) [] (aw (cb x cs bl 0)) bP:=by
 intro A s R hA hk hp hR
 have k0:Kn (KB v.w) s [(BK,ac (cr bl) be),(CM,ac (aa cs) ce)]:=by
  have h1:Kn (KB v.w) s [(BK,ac (cr bl) be)]:=hp.sub (.cons_cons _ (List.nil_sublist _))
  refine h1.app hk λp hp' q hq=>?_
  simp only[List.mem_singleton]at hp' hq
  subst hp';subst hq
  exact hd (BK,ac (cr bl) be) (by simp[cB])
 have kb:Kn (KB v.w) s (bl.flatMap ef.kn):=hp.sub (List.sublist_cons_self _ _)
 have nb:=hp.nd
 simp only[cB,List.map_cons,List.nodup_cons]at nb
 refine(yT v x BK CM (cr bl) be bl.length cs ce tn (cb x cs bl 0) []).go (W:=[]) (hA.le (Nat.le_of_ble_eq_true rfl)) k0 [] <| dF (λE=>Gc v x s.heap.objs.size (s.heap.objs.size+3) (s.heap.objs.size+1) (s.heap.objs.size+2) BK CM bl be cs ce tn hbl hne (aq (E.lk 2)) 0 (s.toks+1)) (λE s1 F1 K1=>⟨kb.after F1 (λj h=>nomatch h) λj j h=>(nomatch h),λq hq1=>?_⟩) fun(y:Ih) _ _ _=>kr hR λj=>y.tt
 have hq2:q.1<s.heap.objs.size:=Heap.lt_size (kb.obj q hq1)
 have hqm:q.1∈(bl.flatMap ef.kn).map (·.1):=List.mem_map_of_mem hq1
 simp only[List.mem_cons,List.not_mem_nil,or_false,not_or]
 exact⟨Nat.ne_of_lt (Nat.lt_of_lt_of_le hq2 (Nat.le_add_right _ 3)),Nat.ne_of_lt hq2,(λh=>nb.1 (h▸hqm)),Nat.ne_of_lt (Nat.lt_of_lt_of_le hq2 (Nat.le_add_right _ 1)),Nat.ne_of_lt (Nat.lt_of_lt_of_le hq2 (Nat.le_add_right _ 2)),(λh=>hd q (List.mem_cons_of_mem _ hq1) h)⟩
noncomputable def Qm.z:Qm→Sz|.e0=>.s2|.e1=>.s2|.e2=>.s3|.e3=>.s3|.e4=>.s3|.e5=>.s3|.e6=>.s3|.e7=>.s3|.e8=>.s4|.e9=>.s4|.e10=>.s4|.e11=>.s4|.e12=>.s4|.e13=>.s4|.e14=>.s4|.e15=>.s4|.e16=>.s4|.e17=>.s4|.e18=>.s4|.e19=>.s4|.e20=>.s4|.e21=>.s4|.e22=>.s4|.e23=>.s4|.e24=>.s4|.e25=>.s4|.e26=>.s4|.e27=>.s4|.e28=>.s4|.e29=>.s4|.e30=>.s4|.e31=>.s4
noncomputable def Qm.l:Qm→List Nat|.e0=>[0,1]|.e1=>[1,0]|.e2=>[0,1,2]|.e3=>[0,2,1]|.e4=>[1,0,2]|.e5=>[1,2,0]|.e6=>[2,0,1]|.e7=>[2,1,0]|.e8=>[0,1,2,3]|.e9=>[0,1,3,2]|.e10=>[0,2,1,3]|.e11=>[0,2,3,1]|.e12=>[0,3,1,2]|.e13=>[0,3,2,1]|.e14=>[1,0,2,3]|.e15=>[1,0,3,2]|.e16=>[1,2,0,3]|.e17=>[1,2,3,0]|.e18=>[1,3,0,2]|.e19=>[1,3,2,0]|.e20=>[2,0,1,3]|.e21=>[2,0,3,1]|.e22=>[2,1,0,3]|.e23=>[2,1,3,0]|.e24=>[2,3,0,1]|.e25=>[2,3,1,0]|.e26=>[3,0,1,2]|.e27=>[3,0,2,1]|.e28=>[3,1,0,2]|.e29=>[3,1,2,0]|.e30=>[3,2,0,1]|.e31=>[3,2,1,0]
noncomputable def Qm.xs(q:Qm)(t:Nat→Tok):List (Int×Tok):=q.l.map fun(c:Nat)=>((c:Int),t c)
noncomputable def Sz.r:Sz→List Nat|.s2=>[0,1]|.s3=>[0,1,2]|.s4=>[0,1,2,3]
noncomputable abbrev Ad:=Qm
noncomputable def Ad.m:Ad→Nat|.e0=>0|.e1=>0|.e2=>0|.e3=>0|.e4=>1|.e5=>1|.e6=>1|.e7=>2|.e8=>2|.e9=>2|.e10=>3|.e11=>3|.e12=>4|.e13=>4|.e14=>4|.e15=>5|.e16=>5|.e17=>6|.e18=>6|.e19=>7|.e20=>8|.e21=>8|.e22=>8|.e23=>9|.e24=>9|.e25=>10|.e26=>10|.e27=>11|.e28=>12|.e29=>12|.e30=>13|.e31=>14
noncomputable def Ad.c:Ad→Nat|.e0=>0|.e1=>1|.e2=>2|.e3=>3|.e4=>1|.e5=>2|.e6=>3|.e7=>0|.e8=>2|.e9=>3|.e10=>2|.e11=>3|.e12=>0|.e13=>1|.e14=>3|.e15=>1|.e16=>3|.e17=>0|.e18=>3|.e19=>3|.e20=>0|.e21=>1|.e22=>2|.e23=>1|.e24=>2|.e25=>0|.e26=>2|.e27=>2|.e28=>0|.e29=>1|.e30=>1|.e31=>0
noncomputable def Ad.n:Ad→Nat|.e0=>1|.e1=>2|.e2=>4|.e3=>8|.e4=>3|.e5=>5|.e6=>9|.e7=>3|.e8=>6|.e9=>10|.e10=>7|.e11=>11|.e12=>5|.e13=>6|.e14=>12|.e15=>7|.e16=>13|.e17=>7|.e18=>14|.e19=>15|.e20=>9|.e21=>10|.e22=>12|.e23=>11|.e24=>13|.e25=>11|.e26=>14|.e27=>15|.e28=>13|.e29=>14|.e30=>15|.e31=>15
noncomputable def Gw(tk:Nat→Tok)(c:Nat)(t:Tok)(i:Nat):Tok:=match Nat.beq i c with|true=>t|false=>tk i
noncomputable def aQ(k:Nat):List Nat:=match k with|0=>[]|1=>[0]|2=>[1]|3=>[0,1]|4=>[2]|5=>[0,2]|6=>[1,2]|7=>[0,1,2]|8=>[3]|9=>[0,3]|10=>[1,3]|11=>[0,1,3]|12=>[2,3]|13=>[0,2,3]|14=>[1,2,3]|_=>[0,1,2,3]
noncomputable def dx(X S:Addr):Code:=.builtin "set.__and__" ⟨[.ref X,.ref S],[]⟩
noncomputable def uP(R:Addr)(c:Nat)(t:Tok):Sem PySem.Fin:=setAddHashed R (.int c t) c>>=λb=>pure (.done (.ret (.bool b)))
noncomputable def GR(v:WV)(q:Qm)(CM:Addr)(t:Nat→Tok)(ce:Nat):Cn:=⟨100,[(CM,ac (aa (q.xs t)) ce)],.call (.type "set") ⟨[.ref CM],[]⟩,λzn zu=>.fin {js:=[1],i:=4,u:=(match q with|.e0|.e1=>2|.e2|.e3|.e4|.e5|.e6|.e7=>3|.e8|.e9|.e10|.e11|.e12|.e13|.e14|.e15|.e16|.e17|.e18|.e19|.e20|.e21|.e22|.e23|.e24|.e25|.e26|.e27|.e28|.e29|.e30|.e31=>4),cnt:=(match q with|.e0|.e1=>20|.e2|.e3|.e4|.e5|.e6|.e7=>25|.e8|.e9|.e10|.e11|.e12|.e13|.e14|.e15|.e16|.e17|.e18|.e19|.e20|.e21|.e22|.e23|.e24|.e25|.e26|.e27|.e28|.e29|.e30|.e31=>30),N:=(match q with|.e0|.e1=>89|.e2|.e3|.e4|.e5|.e6|.e7=>109|.e8|.e9|.e10|.e11|.e12|.e13|.e14|.e15|.e16|.e17|.e18|.e19|.e20|.e21|.e22|.e23|.e24|.e25|.e26|.e27|.e28|.e29|.e30|.e31=>129),orc:=(match q with|.e0|.e1=>(dz 41 9759232424807006406056976911552291119458589867468548409696292368929902483142766264578)|.e2|.e3|.e4|.e5|.e6|.e7=>(dz 51 11521668025360815534575742721728969701959033269694565912065397589612673798276657757047381130370840214405378)|.e8|.e9|.e10|.e11|.e12|.e13|.e14|.e15|.e16|.e17|.e18|.e19|.e20|.e21|.e22|.e23|.e24|.e25|.e26|.e27|.e28|.e29|.e30|.e31=>(dz 61 13602384727428701172178669073104824466215193742245639339584624335609637984731808719853382614990550398571986725791220813688504578))} (.ok (.ret (.ref zn))) (λE=>[(zn,ba (ai q.z.r t) q.z.n (ak q.z.r (!v.b3)))])⟩
theorem yE v q CM t ce:(GR v q CM t ce).G v:=Cn.g2 zw (f:=λq v=>GR v q CM t ce) (λj j j j j=>by kernel_rfl) q v
noncomputable def GS(v:WV)(CM:Addr)(ce:Nat):Cn:=⟨100,[(CM,ac #[] ce)],.call (.type "set") ⟨[.ref CM],[]⟩,λzn zu=>.fin {js:=[1],i:=4,cnt:=10,N:=49,orc:=(dz 21 7001905873853961677525474654414905700024578)} (.ok (.ret (.ref zn))) (λE=>[(zn,ba #[] 0 (ak [] (!v.b3)))])⟩
theorem yG v CM ce:(GS v CM ce).G v:=Cn.g1 (f:=λv=>GS v CM ce) (λj j j j j=>by kernel_rfl) v
noncomputable def GE(v:WV)(a:Ad)(X S Rr:Addr)(tk:Nat→Tok)(t:Tok)(ep:Nat):Cn:=⟨30,[(Rr,ba (ai (aQ a.m) tk) ep (ak (aQ a.m) (!v.b3)))],dx X S,λzn zu=>.fin {ws:=[0],js:=[0],N:=9,orc:=(dz 3 16513),wa:=[Rr]} (.ok (.ret (.bool true))) (λE=>[(Rr,ba (ai (aQ a.n) (Gw tk a.c t)) (ep+1) (ak (aQ a.n) (!v.b3)))])⟩
theorem yb v a X S Rr tk t ep:(GE v a X S Rr tk t ep).GT (uP Rr a.c t) v:=by
 obtain⟨w0,b1,b2,b3⟩:=v
 exact Cn.gtq (T:=Ad) zw (f:=λa=>GE ⟨w0,b1,b2,b3⟩ a X S Rr tk t ep) (g:=λa=>uP Rr a.c t) (λj j=>by kernel_rfl) a
theorem xx{v:WV}{A:Around}(hA:cp A 60)(X S R:Addr)(a:Ad)(tk:Nat→Tok)(t:Tok)(ep:Nat){s:Shared}{Q:Bool→Shared→Prop}{E:Value→Shared→Prop}(hk:Kn (KB v.w) s [(R,ba (ai (aQ a.m) tk) ep (ak (aQ a.m) (!v.b3)))])
  (h:∀s',ah s s' [R]→Kn (KB v.w) s' [(R,ba (ai (aQ a.n) (Gw tk a.c t)) (ep+1) (ak (aQ a.n) (!v.b3)))]→Q true s'):
  wpAny (model pr v.w) (A.under (dx X S)) (setAddHashed R (.int a.c t) a.c) Q E s:=by
 have h1:fG (model pr v.w) A (λr s'=>match r with|.ok (.ret (.bool b))=>Q b s'|.error e=>E e s'|_=>False) (dx X S) .top (uP R a.c t) s:=by
  refine(yb v a X S R tk t ep).go (hA.le (Nat.le_of_ble_eq_true rfl)) hk [0] ?_
  exact kf λj s' F K j=>h s' F K
 intro Γ p hΓ
 have h2:=h1 Γ p hΓ
 unfold uP at h2
 rw[Sem.wp_bind']at h2
 exact Sem.wp_mono _ _ _ (λb p' s' hx=>hx) (λe p' s' hx=>hx) p s h2
theorem vP(v:WV)(c:Nat)(h:c<4):(iK v.w).hash (c:Int)=(c:Int):=by
 match c,h with
 |0,_=>kernel_rfl
 |1,_=>kernel_rfl
 |2,_=>kernel_rfl
 |3,_=>kernel_rfl
 |c+4,h=>omega
theorem tV(v:WV){so:Obj}{l:List Nat}{tk:Nat→Tok}{ep:Nat}{t:SetTable}(hd:so.data=.set (ai l tk) ep t)(hf:t.fits (ai l tk).size=true)(hl:∀c∈l,c<4)(nd:l.Nodup)(hs:l.length≤4):
  d9 v.w so (ai l tk) ep t (l.map fun(c:Nat)=>(c:Int)):=by
 have hsz:(ai l tk).size=l.length:=by simp[ai]
 refine⟨hd,hf,λe he=>?_,λk=>?_,?_,?_,by simp[hsz],?_⟩
 ·simp only[ai,List.mem_map]at he
  obtain⟨c,hc,rfl⟩:=he
  exact⟨⟨(c:Int),by show Value.isInt (c:Int) (.int c (tk c))=true;simp[Value.isInt],(vP v c (hl c hc)).symm⟩,rfl⟩
 ·simp only[ai,List.mem_map]
  constructor
  ·rintro ⟨c,hc,rfl⟩
   exact⟨_,⟨c,hc,rfl⟩,by show Value.isInt (c:Int) (.int c (tk c))=true;simp[Value.isInt]⟩
  ·rintro ⟨e,⟨c,hc,rfl⟩,h⟩
   refine⟨c,hc,?_⟩
   have:Value.isInt k (.int c (tk c))=true:=h
   simp[Value.isInt]at this
   exact this
 ·rw[hsz];exact Nat.lt_of_le_of_lt hs (by decide)
 ·rw[hsz];exact Nat.lt_of_le_of_lt (Nat.succ_le_succ hs) (by decide)
 ·exact List.pairwise_map.mpr (nd.imp λh e=>h (Int.ofNat_inj.mp e))
noncomputable def CK:List Ad:=nn
theorem zW:(List.range 16).all (λm=>(List.range 4).all λc=>(aQ m).contains c || CK.any λa=>decide (a.m=m)&&decide (a.c=c)&&decide (a.n<16)&&decide ((aQ a.n).length=(aQ m).length+1)&&((List.range 4).all λd=>(aQ a.n).contains d==((aQ m).contains d || decide (d=c))))=true:=by decide+kernel
theorem CN{m c:Nat}(hm:m<16)(hc:c<4)(h:c∉aQ m):∃a:Ad,a.m=m∧a.c=c∧a.n<16∧(aQ a.n).length=(aQ m).length+1∧∀d<4,(d∈aQ a.n↔d∈aQ m∨d=c):=by
 have h1:=List.all_eq_true.mp (List.all_eq_true.mp zW m (List.mem_range.mpr hm)) c (List.mem_range.mpr hc)
 rw[List.contains_eq_mem,decide_eq_false h,Bool.false_or]at h1
 obtain⟨a,_,h2⟩:=List.any_eq_true.mp h1
 simp only[Bool.and_eq_true,decide_eq_true_eq,List.all_eq_true,List.mem_range,beq_iff_eq]at h2
 refine⟨a,h2.1.1.1.1,h2.1.1.1.2,h2.1.1.2,h2.1.2,λd hd=>?_⟩
 have:=h2.2 d hd
 simp only[List.contains_eq_mem]at this
 rw[Bool.eq_iff_iff]at this
 simpa using this
theorem iA:entryFor table "set.__and__"=some Builtin.«frozenset.__and__»:=
 entryFor_alias (id':="frozenset.__and__") (by kernel_rfl) rfl (by decide+kernel) (by kernel_rfl)
theorem k7{v:WV}{A:Around}(hA:cp A 60){X S R:Addr}{so So:Obj}{L1:List Int}(hXR:X≠R)(hSR:S≠R)
  {E:Value→Shared→Prop} {Q:PUnit→Shared→Prop} (f:Int×Value→PUnit→Sem (ForInStep PUnit))
  (hf:∀(c:Nat) (t:Tok) (s:Shared) (K:ForInStep PUnit→Shared→Prop),(c:Int)∈L1→c<4→s.heap.get? X=some so→s.heap.get? S=some So→
   wpAny (model pr v.w) (A.under (dx X S)) (setAddHashed R (.int c t) c) (λj s2=>s2.heap.get? S=some So∧K (.yield ⟨⟩) s2) E s→wpAny (model pr v.w) (A.under (dx X S)) (f ((c:Int),.int c t) ⟨⟩) K E s):
  ∀(l:List (Int×Value)) (m:Nat) (tk:Nat→Tok) (ep:Nat) (s:Shared),m<16→(∀e∈l,∃(c:Nat) (t:Tok),c<4∧e=((c:Int),Value.int c t)∧(c:Int)∈L1∧c∉aQ m)→(l.map (·.1)).Nodup→
   Kn (KB v.w) s [(R,ba (ai (aQ m) tk) ep (ak (aQ m) (!v.b3)))]→s.heap.get? X=some so→s.heap.get? S=some So→
   (∀m' tk' ep' s',m' <16→(aQ m').length=(aQ m).length+l.length→ah s s' [R]→Kn (KB v.w) s' [(R,ba (ai (aQ m') tk') ep' (ak (aQ m') (!v.b3)))]→Q ⟨⟩ s')→
   wpAny (model pr v.w) (A.under (dx X S)) (forIn l PUnit.unit f) Q E s
 |[],m,tk,ep,s,hm,hl,nd,hk,hX,hS,H=>by
  rw[List.forIn_nil]
  exact wpAny_pure (H m tk ep s hm (by simp) ((ah.refl s).mono (by first|sizeOf_list_dec|simp)) hk)
 |e::l,m,tk,ep,s,hm,hl,nd,hk,hX,hS,H=>by
  obtain⟨c,t,hc,rfl,hcL,hcm⟩:=hl e (List.mem_cons_self ..)
  obtain⟨a,e1,e2,e3,e4,e5⟩:=CN hm hc hcm
  subst e2
  rw[List.forIn_cons]
  refine wpAny_bind (hf a.c t s _ hcL hc hX hS ?_)
  refine xx hA X S R a tk t ep (by rw[e1];exact hk) λs' F K=>?_
  rw[List.map_cons,List.nodup_cons]at nd
  refine⟨F.keep S So hS (by simpa using hSR),?_⟩
  refine k7 hA hXR hSR f hf l a.n _ _ s' e3 (λe he=>?_) nd.2 K (F.keep X so hX (by simpa using hXR)) (F.keep S So hS (by simpa using hSR)) λm' tk' ep' s2 h1 h2 F2 K2=>H m' tk' ep' s2 h1 (by rw[h2,e4,List.length_cons];omega) ((F.trans F2).mono (by first|sizeOf_list_dec|simp)) K2
  obtain⟨c',t',h1,rfl,h3,h4⟩:=hl e (List.mem_cons_of_mem _ he)
  refine⟨c',t',h1,rfl,h3,λhm'=>?_⟩
  rcases(e5 c' h1).mp hm' with h|h
  ·exact h4 h
  ·subst h
   exact nd.1 (List.mem_map.mpr ⟨_,he,rfl⟩)
theorem fi{v:WV}{A:Around}{E:Value→Shared→Prop}{s:Shared}{X:Addr}{es:Array (Int×Value)}{ep:Nat}{t:SetTable}(h:s.heap.get? X=some (ba es ep t)){Q:Bool→Shared→Prop}(hQ:Q true s):
  wpAny (model pr v.w) A (isInstance (.ref X) (.type "set")) Q E s:=
 wpAny_isInstance (T:="set") ⟨_,h,rfl⟩ (b:=true) (by rw[isSubtype_type];kernel_rfl) hQ
theorem gu{v:WV}{A:Around}{E:Value→Shared→Prop}{s:Shared}{a:Addr}{o:Obj}{es:Array (Int×Value)}{ep:Nat}{t:SetTable}{others:List Addr}{fl:Option Addr}{Q:Array (Int×Value)→Shared→Prop}(ho:s.heap.get? a=some o)(hd:o.data=.set es ep t)
  (hfit:t.fits es.size=true) (hpl:t.plain=true) (hled:v.b3=false→t.led=true) (h:∀W:Array (Int×Value),W.toList.Perm es.toList→Q W s):wpAny (model pr v.w) A (setWalkUnseen a others fl) Q E s:=by
 have st:∀{Q:Array (Int×Value)×Nat×SetTable→Shared→Prop},Q (es,ep,t) s→wpAny (model pr v.w) A (setState a) Q E s:=λhq=>wpAny_setState_of ho hd hfit hq
 have byT:∀{Q:Bool→Shared→Prop},Q v.b3 s→wpAny (model pr v.w) A setsByText Q E s:=λhq=>by
  unfold setsByText
  refine wpAny_bind (wpAny_askSetting (wpAny_pure ?_))
  rw[show(model pr v.w).w.params.followText "set-order"=v.b3 from bj v]
  exact hq
 have walk:wpAny (model pr v.w) A (setWalk a) Q E s:=by
  unfold setWalk
  refine wpAny_bind (st (wpAny_bind (byT ?_)))
  cases hb:v.b3 with
  |true=>exact wpAny_bind (wpAny_askSetting (wpAny_pure (h _ (dL _ _))))
  |false=>
   have hl:=hled hb
   obtain⟨mask,place,dummies,fin,led,moves,plain⟩:=t
   subst hpl
   subst hl
   show wpAny _ _ (if(false:Bool)=true then _ else _) _ _ _
   rw[if_neg (by simp)]
   refine wpAny_bind (wpAny_pure ?_)
   exact wpAny_pure (h _ (List.Perm.refl _))
 unfold setWalkUnseen
 refine wpAny_bind (st (wpAny_bind (byT ?_)))
 have c:(v.b3 || (t.led&&t.plain) || decide (es.size≤1))=true:=by
  cases hb:v.b3 with
  |true=>rfl
  |false=>rw[hled hb,hpl];rfl
 rw[if_pos c]
 exact walk
theorem cp.le'{A:Around}(h:cp A 80):cp A 60:=h.le (by omega)
theorem tA:∀m<16,aQ m=gh m:=by decide+kernel
theorem vX(led:Bool)(tk:Nat→Tok):∀m<16,(ak (aQ m) led).fits (ai (aQ m) tk).size=true:=by
 intro m hm
 have h:(ai (aQ m) tk).size=(aQ m).length:=by simp[ai]
 rw[h]
 clear h
 revert m
 cases led<;>decide+kernel
theorem pi(v:WV){S:Addr}{so:Obj}{m:Nat}(hm:m<16){tk:Nat→Tok}{ep:Nat}(hd:so.data=.set (ai (aQ m) tk) ep (ak (aQ m) (!v.b3))):
  ∃P sl,bh v S so (ai (aQ m) tk) ep (ak (aQ m) (!v.b3)) P sl:=by
 cases hb:v.b3 with
 |true=>
  rw[hb]at hd
  exact⟨_,_,⟨hd,vX _ _ m hm,rfl,(λh=>absurd (hb.symm.trans h) (by decide)),(by rw[hb];exact my _ _ _)⟩⟩
 |false=>
  rw[hb]at hd
  have w:=pa (v.w.params.setOrder S ep) _ hm tk (!false)
  rw[←tA m hm]at w
  exact⟨_,_,⟨hd,vX _ _ m hm,rfl,λj=>rfl,(by rw[hb];exact w)⟩⟩
theorem D8(v:WV)(b:Bm)(X S SD:Addr)(l1:List Nat)(tx ts:Nat→Tok)(e1 e2:Nat)(h1':∀c∈l1,c<4)(n1:l1.Nodup)(hs1:l1.length≤4)(f1:(ak l1 (!v.b3)).fits (ai l1 tx).size=true)(hsub:∀c∈b.l,c∈l1)(hlen:b.l.length≤l1.length):
  Ct v.w 80 [(X,ba (ai l1 tx) e1 (ak l1 (!v.b3))),(S,ao SD (ai b.l ts) e2 (ak b.l (!v.b3)))] aK (dx X S) [] br (λx j j=>∃P sl,bh v x.a (ba x.es x.ep x.t) x.es x.ep x.t P sl∧P.length=b.l.length∧∀y∈P,∃(c:Nat) (t:Tok),y=Value.int c t):=by
 intro A s R hA hk _ hR
 have oX:=hk.obj (X,ba (ai l1 tx) e1 (ak l1 (!v.b3))) (by simp)
 have oS:=hk.obj (S,ao SD (ai b.l ts) e2 (ak b.l (!v.b3))) (by simp)
 have hne:S≠X:=by
  have:=hk.nd
  simp at this
  exact Ne.symm this
 have lX:X<s.heap.objs.size:=hk.lt (p:=(X,ba (ai l1 tx) e1 (ak l1 (!v.b3)))) (by simp)
 have lS:S<s.heap.objs.size:=hk.lt (p:=(S,ao SD (ai b.l ts) e2 (ak b.l (!v.b3)))) (by simp)
 have f2:=fD b ts (!v.b3)
 refine codeAny_builtin iA ?_
 refine wpAny_bind (m:=Builtin.Frozenset.slot1 "__and__" ⟨[.ref X,.ref S],[]⟩) (wpAny_pure ?_)
 dsimp only
 unfold Builtin.Frozenset.isAnySet
 refine wpAny_bind (wpAny_bind (wpAny_bind (fi oX (wpAny_pure (wpAny_bind (dh hk.nil oS (wpAny_pure ?_)))))))
 simp only[Bool.not_true,Bool.false_eq_true,↓reduceIte]
 refine wpAny_bind (m:=Builtin.Frozenset.addrOf (.ref X)) (wpAny_pure ?_)
 refine wpAny_bind ?_
 unfold Builtin.Frozenset.intersection
 rw[if_neg (by simp[hne])]
 unfold Builtin.Frozenset.baseOf
 simp only[bind_assoc,pure_bind]
 refine wpAny_bind (fi oX ?_)
 simp only[↓reduceIte]
 refine wpAny_bind (m:=newSet (.type "set")) ?_
 unfold newSet setsByText
 refine wpAny_bind (wpAny_bind (wpAny_askSetting (wpAny_pure ?_)))
 dsimp only
 simp only[newObj]
 have hsz:¬((#[]:Array (Int×Value)).size>sizeLine):=by simp
 rw[if_neg hsz]
 unfold newObjAsIs
 refine wpAny_bind (wpAny_alloc ?_)
 refine wpAny_pure ?_
 refine wpAny_bind (m:=Builtin.Frozenset.addrOf (.ref s.heap.objs.size)) (wpAny_pure ?_)
 refine wpAny_bind (wpAny_holding ?_)
 rw[show(model pr v.w).w.params.followText "set-order"=v.b3 from bj v]
 generalize hh1:s.heap.push {cls:=Value.type "set",data:=Data.set #[] 0 (SetTable.fresh 0 0 !v.b3)}=h1
 have z1:h1.objs.size=s.heap.objs.size+1:=by rw[←hh1,Heap.size_push]
 have keep1:∀b o,s.heap.get? b=some o→h1.get? b=some o:=λb o e=>by rw[←hh1];exact Heap.get?_push_of_some _ e
 have new1:h1.get? s.heap.objs.size=some (ba #[] 0 (ak [] (!v.b3))):=by rw[←hh1];exact Heap.get?_push_size _ rfl
 have Fr1:ah s {s with heap:=h1} []:=⟨λh=>h,rfl,rfl,by show s.heap.objs.size≤h1.objs.size;omega,Nat.le_refl _,λb o e j=>keep1 b o e⟩
 have K1:Kn (KB v.w) {s with heap:=h1} [(s.heap.objs.size,ba #[] 0 (ak [] (!v.b3)))]:=by
  refine⟨λx o e=>Fr1.keep x o (hk.base x o e) (by simp),λp hp=>?_,λp hp=>?_,by simp,hk.toks⟩
  ·rw[List.mem_singleton]at hp;subst hp;exact new1
  ·rw[List.mem_singleton]at hp;subst hp;exact bM hk (Nat.le_refl _)
 have oX1:=keep1 _ _ oX
 have oS1:=keep1 _ _ oS
 have K0:Kn (KB v.w) {s with heap:=h1} []:=K1.nil
 unfold Builtin.Frozenset.isAnySet
 refine wpAny_bind (wpAny_bind (dh K0 oS1 (wpAny_pure ?_)))
 simp only[↓reduceIte]
 refine wpAny_bind (m:=Builtin.Frozenset.addrOf (.ref S)) (wpAny_pure ?_)
 unfold Builtin.Frozenset.sizeOf
 refine wpAny_bind (wpAny_bind (wpAny_setEntries_of oS1 rfl f2 (wpAny_pure ?_)))
 refine wpAny_bind (wpAny_bind (wpAny_setEntries_of oX1 rfl f1 (wpAny_pure ?_)))
 have hgt:¬((ai b.l ts).size>(ai l1 tx).size):=by simp[ai];omega
 simp only[if_neg hgt]
 refine wpAny_bind (wpAny_setEpoch_of oS1 rfl f2 ?_)
 refine wpAny_bind (gu oS1 rfl f2 rfl (λh=>by simp[ak,h]) λW hW=>?_)
 rw[←Array.forIn_toList]
 refine wpAny_bind ?_
 have hXR:X≠s.heap.objs.size:=Nat.ne_of_lt lX
 have hSR:S≠s.heap.objs.size:=Nat.ne_of_lt lS
 have k1:=tV v (so:=ba (ai l1 tx) e1 (ak l1 (!v.b3))) rfl f1 h1' n1 hs1
 refine k7 hA.le' (L1:=l1.map fun(c:Nat)=>(c:Int)) hXR hSR _ ?_ W.toList 0 (λj=>0) 0 {s with heap:=h1} (by decide) ?_ ?_ K1 oX1 oS1 ?_
 ·intro c t s3 K hc h4 hX hS hadd
  refine wpAny_bind (wpAny_holding ?_)
  have hfi:=λQ=>ip (A:=A.under (dx X S)) (E:=λe s'=>R (.error e) s') k1 hX (x:=(c:Int)) (tx:=t) (Q:=Q)
  rw[vP v c h4]at hfi
  refine wpAny_bind (hfi _ λr hr=>?_)
  rw[decide_eq_true hc]at hr
  rw[if_pos hr]
  refine wpAny_bind (wpAny_mono hadd (λj s2 h2=>wpAny_pure ?_) λj j x=>x)
  unfold Builtin.Frozenset.unchanged
  refine wpAny_bind (wpAny_bind (wpAny_setEpoch_of h2.1 rfl f2 ?_))
  rw[if_neg (by simp)]
  exact wpAny_pure (wpAny_pure h2.2)
 ·intro e he
  have:=hW.mem_iff.mp he
  simp only[ai,List.mem_map]at this
  obtain⟨c,hc,rfl⟩:=this
  exact⟨c,ts c,b.l_lt c hc,rfl,List.mem_map.mpr ⟨c,hsub c hc,rfl⟩,nofun⟩
 ·refine(hW.map _).nodup_iff.mpr ?_
  have:((ai b.l ts).toList.map (·.1))=b.l.map fun(c:Nat)=>(c:Int):=by simp[ai,Function.comp_def]
  rw[this]
  cases b<;>decide
 ·intro m' tk' ep' s' hm' hl F K
  refine wpAny_pure (wpAny_pure (wpAny_pure ?_))
  obtain⟨P,sl,ok⟩:=pi v (S:=s.heap.objs.size) (so:=ba (ai (aQ m') tk') ep' (ak (aQ m') (!v.b3))) hm' rfl
  refine hR ⟨s.heap.objs.size,_,ep',_⟩ s' ((Fr1.trans F).mono (by first|sizeOf_list_dec|simp)) K (by simp[br]) ⟨P,sl,ok,?_,λy hy=>by
   have:=ok.wk.perm.mem_iff.mp hy
   simp only[ai,List.map_map,List.mem_map,Function.comp]at this
   obtain⟨c,_,rfl⟩:=this
   exact⟨_,_,rfl⟩⟩
  have e1:(ai (aQ m') tk').size=(aQ m').length:=by simp[ai]
  have e2:W.toList.length=b.l.length:=by rw[hW.length_eq];simp[ai]
  rw[ok.len,e1,hl,e2]
  exact Nat.zero_add _
noncomputable def um(w:World):FuncData:=m6 (rn w.params)
set_option backward.match.sparseCases false in
noncomputable def uD(w:World)(L I:Addr):Code:=match((aH (um w))[2]?:Option Stmt)with
 |some (Stmt.For t _ b o _)=>.forLoop t (.ref I) b o (cR (um w) 278 L)
 |_=>.block [] default
noncomputable def mf(w:World)(L I:Addr):Code:=match(qN ((aH (um w))[2]?))[1]? with
 |some (Stmt.For t _ b o _)=>.forLoop t (.ref I) b o (cR (um w) 278 L)
 |_=>.block [] default
noncomputable def ck(ht:Nat→Int×Tok)(x:Str)(tn:Tok)(Pf CM f:Addr)(sc:Value)(st:Option (Addr×(Int×Tok)×Option Value)):Obj:=match st with
 |none=>fQ ht [(bc,.str x tn),(bL,.ref Pf),(am,.ref CM),(aA,.ref f),(iO,sc)] 5
 |some (V,c,u)=>match u with
  |none=>fQ ht [(bc,.str x tn),(bL,.ref Pf),(am,.ref CM),(aA,.ref f),(iO,sc),(pJ,.ref V),(et,.int c.1 c.2)] 7
  |some u=>fQ ht [(bc,.str x tn),(bL,.ref Pf),(am,.ref CM),(aA,.ref f),(iO,sc),(pJ,.ref V),(et,.int c.1 c.2),(ID,u)] 8
noncomputable def AR(v:WV)(pf:Bool)(l:LP)(x:Str)(tn:Tok)(Rr:Addr)(so:Obj)(ht:Nat→Int×Tok)(k0:Int)(t0:Tok)(cv:Option Value)(n rep g slot slotN:Nat)(c:Int)(tc:Tok)(k:Int)(tko:Tok)(q q1 q2:Rat):Cn:=⟨220,[(l.I,bm (.ref Rr) n rep slot g),(l.L,ck ht x tn l.Pf l.C l.f (.int k tko) (some (l.V,(k0,t0),cv))),(Rr,so),(l.V,bT l.VD),(l.VD,bU l.htv l.S l.wt l.twt),(l.f,l.fo pf)],mf v.w l.L l.I,λzn zu=>.cut {js:=[0,2],ju:=[0],K:=1,N:=7,orc:=(dz 1 1)} (.call (.builtin "set_iterator.__next__") ⟨[.ref l.I],[]⟩) (λj=>[(l.I,bm (.ref Rr) n rep slot g),(Rr,so)]) (λj=>an l.I (.int c tc) (bm (.ref Rr) n rep slotN (g+1))) λj n1 u1=>.cut {ws:=[1],u:=5,K:=1,cnt:=3,N:=54,orc:=(dz 22 1073245566124659276632720413853918863432909058),wa:=[l.L]} (.call (.ref l.f) ⟨[.int (k0+1) (u1+2)],[]⟩) (λj=>[]) (λj=>ar q) λx1 n3 t3=>.cut {js:=[6,7],K:=1,cnt:=2,N:=23,orc:=(dz 12 3971435999526919)} (.call (.ref 185) ⟨[.ref x1.a,.int l.wt l.twt],[]⟩) (λj=>aJ x1.a x1.b x1.ht q.num x1.tn q.den x1.td) (λj=>ar q1) λy n4 t4=>.cut {js:=[8,9],K:=1,cnt:=2,N:=23,orc:=(dz 12 5106131999391753)} (.call (.ref 157) ⟨[.ref y.a,.int k tko],[]⟩) (λj=>aJ y.a y.b y.ht q1.num y.tn q1.den y.td) (λj=>ar q2) λz n5 t5=>.tail {ws:=[1],js:=[0,1,2,3,4,5,10,11],u:=1,N:=13,orc:=(dz 2 258),wa:=[l.L]} (mf v.w l.L l.I) (λE=>[(l.I,bm (.ref Rr) n rep slotN (g+1)),(l.L,ck (aq (E.lk 1)) x tn l.Pf l.C l.f (.ref z.a) (some (l.V,(k0+1,u1+2),some (.int c tc)))),(Rr,so),(l.V,bT l.VD),(l.VD,bU l.htv l.S l.wt l.twt),(l.f,l.fo pf),(z.a,bn z.b),(z.b,cu z.ht q2.num z.tn q2.den z.td)])⟩
theorem sv v pf l x tn Rr so ht k0 t0 cv n rep g slot slotN c tc k tko q q1 q2:(AR v pf l x tn Rr so ht k0 t0 cv n rep g slot slotN c tc k tko q q1 q2).G v:=Cn.g3 cm (cz _) (f:=λpf cv v=>AR v pf l x tn Rr so ht k0 t0 cv n rep g slot slotN c tc k tko q q1 q2) (λj j j j j=>by kernel_rfl) pf cv v
noncomputable def AS(v:WV)(pf:Bool)(l:LP)(x:Str)(tn:Tok)(Rr:Addr)(so:Obj)(ht:Nat→Int×Tok)(k0:Int)(t0:Tok)(cv:Option Value)(n rep g slot slotN:Nat)(c:Int)(tc:Tok)(oa ob:Addr)(oht:Nat→Int×Tok)(on:Int)(otn:Tok)(od:Int)(otd:Tok)(q q1 q2:Rat):Cn:=⟨220,[(l.I,bm (.ref Rr) n rep slot g),(l.L,ck ht x tn l.Pf l.C l.f (.ref oa) (some (l.V,(k0,t0),cv))),(Rr,so),(l.V,bT l.VD),(l.VD,bU l.htv l.S l.wt l.twt),(l.f,l.fo pf)]++aJ oa ob oht on otn od otd,mf v.w l.L l.I,λzn zu=>.cut {js:=[0,2],ju:=[0],K:=1,N:=7,orc:=(dz 1 1)} (.call (.builtin "set_iterator.__next__") ⟨[.ref l.I],[]⟩) (λj=>[(l.I,bm (.ref Rr) n rep slot g),(Rr,so)]) (λj=>an l.I (.int c tc) (bm (.ref Rr) n rep slotN (g+1))) λj n1 u1=>.cut {ws:=[1],u:=5,K:=1,cnt:=3,N:=54,orc:=(dz 22 1073245566124659276632720413853918863432909058),wa:=[l.L]} (.call (.ref l.f) ⟨[.int (k0+1) (u1+2)],[]⟩) (λj=>[]) (λj=>ar q) λx1 n3 t3=>.cut {js:=[8,9],K:=1,cnt:=2,N:=23,orc:=(dz 12 5106131999391753)} (.call (.ref 185) ⟨[.ref x1.a,.int l.wt l.twt],[]⟩) (λj=>aJ x1.a x1.b x1.ht q.num x1.tn q.den x1.td) (λj=>ar q1) λy n4 t4=>.cut {js:=[6,7,10,11],K:=1,N:=23,orc:=(dz 16 1057810092211419557658631)} (.call (.ref 150) ⟨[.ref oa,.ref y.a],[]⟩) (λj=>aJ oa ob oht on otn od otd++aJ y.a y.b y.ht q1.num y.tn q1.den y.td) (λj=>ar q2) λz n5 t5=>.tail {ws:=[1],js:=[0,1,2,3,4,5,12,13],u:=1,N:=13,orc:=(dz 2 258),wa:=[l.L]} (mf v.w l.L l.I) (λE=>[(l.I,bm (.ref Rr) n rep slotN (g+1)),(l.L,ck (aq (E.lk 1)) x tn l.Pf l.C l.f (.ref z.a) (some (l.V,(k0+1,u1+2),some (.int c tc)))),(Rr,so),(l.V,bT l.VD),(l.VD,bU l.htv l.S l.wt l.twt),(l.f,l.fo pf),(z.a,bn z.b),(z.b,cu z.ht q2.num z.tn q2.den z.td)])⟩
theorem sw v pf l x tn Rr so ht k0 t0 cv n rep g slot slotN c tc oa ob oht on otn od otd q q1 q2:(AS v pf l x tn Rr so ht k0 t0 cv n rep g slot slotN c tc oa ob oht on otn od otd q q1 q2).G v:=Cn.g3 cm (cz _) (f:=λpf cv v=>AS v pf l x tn Rr so ht k0 t0 cv n rep g slot slotN c tc oa ob oht on otn od otd q q1 q2) (λj j j j j=>by kernel_rfl) pf cv v
noncomputable def AO(v:WV)(pf:Bool)(l:LP)(x:Str)(tn:Tok)(Rr:Addr)(so:Obj)(ht:Nat→Int×Tok)(k0:Int)(t0:Tok)(cv:Option Value)(n rep g slot slotN:Nat)(c:Int)(tc:Tok)(k:Int)(tko:Tok)(kv:Int):Cn:=⟨220,[(l.I,bm (.ref Rr) n rep slot g),(l.L,ck ht x tn l.Pf l.C l.f (.int k tko) (some (l.V,(k0,t0),cv))),(Rr,so),(l.V,bT l.VD),(l.VD,bU l.htv l.S l.wt l.twt),(l.f,l.fo pf)],mf v.w l.L l.I,λzn zu=>.cut {js:=[0,2],ju:=[0],K:=1,N:=7,orc:=(dz 1 1)} (.call (.builtin "set_iterator.__next__") ⟨[.ref l.I],[]⟩) (λj=>[(l.I,bm (.ref Rr) n rep slot g),(Rr,so)]) (λj=>an l.I (.int c tc) (bm (.ref Rr) n rep slotN (g+1))) λj n1 u1=>.cut {ws:=[1],u:=5,K:=1,cnt:=3,N:=54,orc:=(dz 22 1073245566124659276632720413853918863432909058),wa:=[l.L]} (.call (.ref l.f) ⟨[.int (k0+1) (u1+2)],[]⟩) (λj=>[]) (λj=>aw kv) λx1 n3 t3=>.tail {ws:=[1],js:=[0,1,2,3,4,5],u:=3,cnt:=2,N:=20,orc:=(dz 3 33025),ps:=[IntMulOk l.wt kv],wa:=[l.L]} (mf v.w l.L l.I) (λE=>[(l.I,bm (.ref Rr) n rep slotN (g+1)),(l.L,ck (aq (E.lk 1)) x tn l.Pf l.C l.f (.int (k+l.wt*kv) (t3+1)) (some (l.V,(k0+1,u1+2),some (.int c tc)))),(Rr,so),(l.V,bT l.VD),(l.VD,bU l.htv l.S l.wt l.twt),(l.f,l.fo pf)])⟩
theorem ss v pf l x tn Rr so ht k0 t0 cv n rep g slot slotN c tc k tko kv:(AO v pf l x tn Rr so ht k0 t0 cv n rep g slot slotN c tc k tko kv).G v:=Cn.g3 cm (cz _) (f:=λpf cv v=>AO v pf l x tn Rr so ht k0 t0 cv n rep g slot slotN c tc k tko kv) (λj j j j j=>by kernel_rfl) pf cv v
noncomputable def AP(v:WV)(pf:Bool)(l:LP)(x:Str)(tn:Tok)(Rr:Addr)(so:Obj)(ht:Nat→Int×Tok)(k0:Int)(t0:Tok)(cv:Option Value)(n rep g slot slotN:Nat)(c:Int)(tc:Tok)(oa ob:Addr)(oht:Nat→Int×Tok)(on:Int)(otn:Tok)(od:Int)(otd:Tok)(kv:Int)(q2:Rat):Cn:=⟨220,[(l.I,bm (.ref Rr) n rep slot g),(l.L,ck ht x tn l.Pf l.C l.f (.ref oa) (some (l.V,(k0,t0),cv))),(Rr,so),(l.V,bT l.VD),(l.VD,bU l.htv l.S l.wt l.twt),(l.f,l.fo pf)]++aJ oa ob oht on otn od otd,mf v.w l.L l.I,λzn zu=>.cut {js:=[0,2],ju:=[0],K:=1,N:=7,orc:=(dz 1 1)} (.call (.builtin "set_iterator.__next__") ⟨[.ref l.I],[]⟩) (λj=>[(l.I,bm (.ref Rr) n rep slot g),(Rr,so)]) (λj=>an l.I (.int c tc) (bm (.ref Rr) n rep slotN (g+1))) λj n1 u1=>.cut {ws:=[1],u:=5,K:=1,cnt:=3,N:=54,orc:=(dz 22 1073245566124659276632720413853918863432909058),wa:=[l.L]} (.call (.ref l.f) ⟨[.int (k0+1) (u1+2)],[]⟩) (λj=>[]) (λj=>aw kv) λx1 n3 t3=>.cut {js:=[6,7],u:=1,K:=1,N:=30,orc:=(dz 22 4652297985247205555163355497306784641),ps:=[IntMulOk l.wt kv]} (.call (.ref 150) ⟨[.ref oa,.int (l.wt*kv) t3],[]⟩) (λj=>aJ oa ob oht on otn od otd) (λj=>ar q2) λz n5 t5=>.tail {ws:=[1],js:=[0,1,2,3,4,5,8,9],u:=1,N:=12,orc:=(dz 2 258),wa:=[l.L]} (mf v.w l.L l.I) (λE=>[(l.I,bm (.ref Rr) n rep slotN (g+1)),(l.L,ck (aq (E.lk 1)) x tn l.Pf l.C l.f (.ref z.a) (some (l.V,(k0+1,u1+2),some (.int c tc)))),(Rr,so),(l.V,bT l.VD),(l.VD,bU l.htv l.S l.wt l.twt),(l.f,l.fo pf),(z.a,bn z.b),(z.b,cu z.ht q2.num z.tn q2.den z.td)])⟩
theorem su v pf l x tn Rr so ht k0 t0 cv n rep g slot slotN c tc oa ob oht on otn od otd kv q2:(AP v pf l x tn Rr so ht k0 t0 cv n rep g slot slotN c tc oa ob oht on otn od otd kv q2).G v:=Cn.g3 cm (cz _) (f:=λpf cv v=>AP v pf l x tn Rr so ht k0 t0 cv n rep g slot slotN c tc oa ob oht on otn od otd kv q2) (λj j j j j=>by kernel_rfl) pf cv v
noncomputable def Gy(v:WV)(l:LP)(x:Str)(tn:Tok)(Rr:Addr)(so:Obj)(ht:Nat→Int×Tok)(k0:Int)(t0:Tok)(cv:Option Value)(n rep g slot:Nat)(sc:Value):Cn:=⟨100,[(l.I,bm (.ref Rr) n rep slot g),(l.L,ck ht x tn l.Pf l.C l.f sc (some (l.V,(k0,t0),cv))),(Rr,so)],mf v.w l.L l.I,λzn zu=>.cut {js:=[0,2],ju:=[0],K:=1,N:=7,orc:=(dz 1 1)} (.call (.builtin "set_iterator.__next__") ⟨[.ref l.I],[]⟩) (λj=>[(l.I,bm (.ref Rr) n rep slot g),(Rr,so)]) (λj=>aE l.I (bm .none n rep slot g)) λj n1 u1=>.fin {js:=[0,1],cnt:=1,N:=7,orc:=(dz 1 5)} (.ok .next) (λE=>[(l.I,bm .none n rep slot g),(l.L,ck ht x tn l.Pf l.C l.f sc (some (l.V,(k0,t0),cv)))])⟩
theorem xV v l x tn Rr so ht k0 t0 cv n rep g slot sc:(Gy v l x tn Rr so ht k0 t0 cv n rep g slot sc).G v:=Cn.g2 (cz _) (f:=λcv v=>Gy v l x tn Rr so ht k0 t0 cv n rep g slot sc) (λj j j j j=>by kernel_rfl) cv v
section
variable (v:WV) (pf:Bool) (l:LP) (x:Str) (tn:Tok) (Rr:Addr) (so:Obj) (n rep:Nat)
noncomputable def gw(ht:Nat→Int×Tok)(sc:Value)(k0:Int)(t0:Tok)(cv:Option Value)(g slot:Nat):List (Addr×Obj):=
 [(l.I,bm (.ref Rr) n rep slot g),(l.L,ck ht x tn l.Pf l.C l.f sc (some (l.V,(k0,t0),cv))),(Rr,so),(l.V,bT l.VD),(l.VD,bU l.htv l.S l.wt l.twt),(l.f,l.fo pf)]
end
theorem qz(ht:Nat→Int×Tok)(x:Str)(tn:Tok)(Pf CM f:Addr)(sc:Value)(st:Option (Addr×(Int×Tok)×Option Value)):(ck ht x tn Pf CM f sc st).cls=.type "frame":=by
 cases st with
 |none=>rfl
 |some st=>obtain⟨V,c,u⟩:=st;cases u<;>rfl
theorem mK{ht:Nat→Int×Tok}{x:Str}{tn:Tok}{Pf CM f:Addr}{sc:Value}{st:Option (Addr×(Int×Tok)×Option Value)}:oN (ck ht x tn Pf CM f sc st):=by
 rw[oN,qz];exact⟨nofun,by decide⟩
theorem Kn.drop6{B:X.KT}{s:Shared}{x1 x2 x3 x4 x5 x6:Addr×Obj}{l:List (Addr×Obj)}(k:Kn B s (x1::x2::x3::x4::x5::x6::l)):Kn B s l:=k.sub (List.drop_sublist 6 (x1::x2::x3::x4::x5::x6::l))
theorem sr{v:WV}{pf:Bool}{l:LP}{x:Str}{tn:Tok}{Rr:Addr}{so:Obj}{n rep:Nat}{ht:Nat→Int×Tok}{sc:Value}{k0:Int}{t0:Tok}{cv:Option Value}{g slot:Nat}{s:Shared}(k:Kn (KB v.w) s (gw pf l x tn Rr so n rep ht sc k0 t0 cv g slot)):NF s [l.I,l.L]:=
 NF.kn (k.pk [0,1] rfl) ⟨⟨nofun,show Value.type "set_iterator"≠.type "dict" by decide⟩,mK,trivial⟩
theorem hM{v:WV}{pf:Bool}{l:LP}{x:Str}{tn:Tok}{Rr:Addr}{so:Obj}{n rep:Nat}{ht:Nat→Int×Tok}{sc:Value}{k0:Int}{t0:Tok}{cv:Option Value}{g slot:Nat}{s:Shared}(k:Kn (KB v.w) s (gw pf l x tn Rr so n rep ht sc k0 t0 cv g slot))(hso:so.cls≠.ref 237∧so.cls≠.type "dict")
  {a b:Addr} {ht':Nat→Int×Tok} {N D:Int} {t1 td:Tok} (f:Kn (KB v.w) s (aJ a b ht' N t1 D td)):Kn (KB v.w) s (gw pf l x tn Rr so n rep ht sc k0 t0 cv g slot++aJ a b ht' N t1 D td):=
 k.frac f (eB.mem ⟨sP nofun (show Value.type "set_iterator"≠.type "dict" by decide),nL mK,nL hso,nL vq,⟨nofun,λj j j j j=>mz _ _ _ _ _ _ _ _ _⟩,nL LP.nk_fo,trivial⟩)
inductive cw (w:World) (n0:Nat) (s:Shared):Value→Rat→Prop
 |int (k:Int) (t:Tok):cw w n0 s (.int k t) (k:Rat)
 |fr (a b:Addr) (q:Rat) (ht:Nat→Int×Tok) (tn td:Tok) (f:Kn (KB w) s (aJ a b ht q.num tn q.den td)) (h:n0≤a∧n0≤b):cw w n0 s (.ref a) q
theorem cw.ofInt{w:World}{n0:Nat}{s:Shared}{k:Int}{t:Tok}{q:Rat}(h:q=(k:Rat)):cw w n0 s (.int k t) q:=h▸.int k t
theorem cw.keep{w:World}{n0:Nat}{s s':Shared}{W:List Addr}{x:Value}{r:Rat}(n:cw w n0 s x r)(F:ah s s' W)(k':Kn (KB w) s' [])(hW:NF s W):cw w n0 s' x r:=by
 cases n with
 |int k t=>exact .int k t
 |fr a b q ht tn td f h=>
  have oa:=f.obj (a,bn b) (mN 0 rfl)
  have ob:=f.obj (b,cu ht r.num tn r.den td) (mN 1 rfl)
  refine .fr a b _ ht tn td ⟨k'.base,λp hp=>?_,f.off,f.nd,k'.toks⟩ h
  simp only[aJ,List.mem_cons,List.not_mem_nil,or_false]at hp
  rcases hp with rfl|rfl
  ·exact F.keep _ _ oa λhm=>(hW _ hm _ oa).1 rfl
  ·exact F.keep _ _ ob λhm=>(hW _ hm _ ob).2 rfl
set_option backward.match.sparseCases false in
noncomputable def iV:Value→Bool
 |.int _ _=>true
 |_=>false
theorem xT(v:WV)(pf:Bool)(l:LP)(x:Str)(tn:Tok)(Rr:Addr)(so:Obj)(n rep:Nat){g slot slotN:Nat}{c:Int}{tc:Tok}{N:Int}{ht:Nat→Int×Tok}{cv:Option Value}{k0:Int}{t0:Tok}{sc:Value}{r q:Rat}{Pre:Shared→Prop}
  {ki:Bool} (Sc:xh v.w Pre l.f (k0+1) q ki) (hN:0<N) (hN2:N<2 ^ 14) (hq:Dv N q) (hr:Dv N r) (hwt:-(2 ^ 64)<l.wt∧l.wt<2 ^ 64)
  (Cn:aS v.w 20 [(l.I,bm (.ref Rr) n rep slot g),(Rr,so)] (.call (.builtin "set_iterator.__next__") ⟨[.ref l.I],[]⟩) [l.I] (an l.I (.int c tc) (bm (.ref Rr) n rep slotN (g+1))))
  (hso:so.cls≠.ref 237∧so.cls≠.type "dict") {A:Around} {s:Shared} {R:Result→Shared→Prop} (hA:cp A 220) (kn:Kn (KB v.w) s (gw pf l x tn Rr so n rep ht sc k0 t0 cv g slot)) {n0:Nat} (hn0:n0≤s.heap.objs.size) (hn:cw v.w n0 s sc r)
  (hPre:∀s1,ah s s1 [l.I,l.L]→Kn (KB v.w) s1 []→Pre s1)
  (H:∀ht' sc' t' cv' s',ah s s' [l.I,l.L]→Kn (KB v.w) s' (gw pf l x tn Rr so n rep ht' sc' (k0+1) t' (some cv') (g+1) slotN)→cw v.w n0 s' sc' (r+q*(l.wt:Rat))→iV sc'=(iV sc&&ki)→codeAny (model pr v.w) A (mf v.w l.L l.I) R s'):
  codeAny (model pr v.w) A (mf v.w l.L l.I) R s:=by
 have hqd:(q.den:Int)<2 ^ 14:=by have:=hq.den hN;omega
 have hq1:Dv N (q*(l.wt:Rat)):=hq.mul_int _
 have hq1d:((q*(l.wt:Rat)).den:Int)<2 ^ 14:=by have:=hq1.den hN;omega
 have hvd:(r.den:Int)<2 ^ 14:=by have:=hr.den hN;omega
 have num9:∀{s9:Shared} {z:QX} {q2:Rat},Kn (KB v.w) s9 [(z.a,bn z.b),(z.b,cu z.ht q2.num z.tn q2.den z.td)]→q2=r+q*(l.wt:Rat)→(n0≤z.a∧n0≤z.b)→cw v.w n0 s9 (.ref z.a) (r+q*(l.wt:Rat)):=λK e h=>e▸.fr _ _ _ _ _ _ K h
 cases ki with
 |false=>
  have Cs:=Sc
  cases hn with
  |int k tko=>
   have hnew:q*(l.wt:Rat)+(k:Rat)=(k:Rat)+q*(l.wt:Rat):=Rat.add_comm _ _
   refine(sv v pf l x tn Rr so ht k0 t0 cv n rep g slot slotN c tc k tko q (q*(l.wt:Rat)) (q*(l.wt:Rat)+(k:Rat))).go (W:=[l.I,l.L]) hA kn [0,1] ?_
   refine kc (λE=>Cn) λj s1 s2 p0=>?_
   refine dF (λE=>Cs _) (λj s3 F3 K3=>hPre s3 F3 K3.nil) λx1 s3 s4 p1=>?_
   refine kc (λE=>uU v hqd _ _ hwt) λy s5 s6 p2=>?_
   refine oO (λE=>Ds v hq1d _ _) λ_ (z:QX) _ _ _ _ a3 _=>?_
   have hzz:n0≤z.a∧n0≤z.b:=⟨Nat.le_trans hn0 (a3 _ (.head _)),Nat.le_trans hn0 (a3 _ (.tail _ (.head _)))⟩
   exact kt λE s9 F0 K0=>H _ _ _ _ s9 F0 (K0.sub (List.sublist_append_left (gw pf l x tn Rr so n rep _ _ _ _ _ _ _) _)) (num9 K0.drop6 hnew hzz) rfl
  |fr a b _ ht0 tn' td f hab=>
   have hnew:r+q*(l.wt:Rat)=r+q*(l.wt:Rat):=rfl
   refine(sw v pf l x tn Rr so ht k0 t0 cv n rep g slot slotN c tc a b ht0 r.num tn' r.den td q (q*(l.wt:Rat)) (r+q*(l.wt:Rat))).go (W:=[l.I,l.L]) hA (hM kn hso f) [0,1] ?_
   refine kc (λE=>Cn) λj s1 s2 p0=>?_
   refine dF (λE=>Cs _) (λj s3 F3 K3=>hPre s3 F3 K3.nil) λx1 s3 s4 p1=>?_
   refine kc (λE=>uU v hqd _ _ hwt) λy s5 s6 p2=>?_
   refine oO (λE=>xk v hvd hq1d) λ_ (z:QX) _ _ _ _ a3 _=>?_
   have hzz:n0≤z.a∧n0≤z.b:=⟨Nat.le_trans hn0 (a3 _ (.head _)),Nat.le_trans hn0 (a3 _ (.tail _ (.head _)))⟩
   exact kt λE s9 F0 K0=>H _ _ _ _ s9 F0 (K0.sub (List.sublist_append_left (gw pf l x tn Rr so n rep _ _ _ _ _ _ _) _)) (num9 K0.drop6 hnew hzz) rfl
 |true=>
  obtain⟨kv,hr',hkv,Cs⟩:=Sc
  have hmul:IntMulOk l.wt kv:=az hkv.1 hkv.2
  have hqk:q*(l.wt:Rat)=((l.wt*kv:Int):Rat):=by rw[hr',Rat.intCast_mul,Rat.mul_comm]
  cases hn with
  |int k tko=>
   have hnew:(k:Rat)+q*(l.wt:Rat)=((k+l.wt*kv:Int):Rat):=by rw[hqk,Rat.intCast_add]
   refine(ss v pf l x tn Rr so ht k0 t0 cv n rep g slot slotN c tc k tko kv).go (W:=[l.I,l.L]) hA kn [0,1] ?_
   refine kc (λE=>Cn) λj s1 s2 p0=>?_
   refine dF (λE=>Cs _) (λj s3 F3 K3=>hPre s3 F3 K3.nil) λx1 s3 s4 p1=>?_
   exact kt (hps:=⟨hmul,trivial⟩) λE s9 F0 K0=>H _ _ _ _ s9 F0 K0 (cw.ofInt hnew) rfl
  |fr a b _ ht0 tn' td f hab=>
   have hnew:r+((l.wt*kv:Int):Rat)=r+q*(l.wt:Rat):=by rw[hqk]
   refine(su v pf l x tn Rr so ht k0 t0 cv n rep g slot slotN c tc a b ht0 r.num tn' r.den td kv (r+((l.wt*kv:Int):Rat))).go (W:=[l.I,l.L]) hA (hM kn hso f) [0,1] ?_
   refine kc (λE=>Cn) λj s1 s2 p0=>?_
   refine dF (λE=>Cs _) (λj s3 F3 K3=>hPre s3 F3 K3.nil) λx1 s3 s4 p1=>?_
   refine oO (hps:=⟨hmul,trivial⟩) (λE=>rK v hvd _ _) λ_ (z:QX) _ _ _ _ a3 _=>?_
   have hzz:n0≤z.a∧n0≤z.b:=⟨Nat.le_trans hn0 (a3 _ (.head _)),Nat.le_trans hn0 (a3 _ (.tail _ (.head _)))⟩
   exact kt λE s9 F0 K0=>H _ _ _ _ s9 F0 (K0.sub (List.sublist_append_left (gw pf l x tn Rr so n rep _ _ _ _ _ _ _) _)) (num9 K0.drop6 hnew hzz) rfl
noncomputable def em(mv:Nat→Rat)(wt:Int):Nat→Nat→Rat→Rat
 |0,_,r=>r
 |n+1,g,r=>em mv wt n (g+1) (r+mv (g+1)*(wt:Rat))
noncomputable def ik(kd:Nat→Bool):Nat→Nat→Bool→Bool
 |0,_,b=>b
 |n+1,g,b=>ik kd n (g+1) (b&&kd (g+1))
theorem jm{N:Int}{mv:Nat→Rat}{wt:Int}:∀(n g:Nat) (r:Rat),(∀i,g<i→i≤g+n→Dv N (mv i))→Dv N r→Dv N (em mv wt n g r)
 |0,_,_,_,h=>h
 |n+1,g,r,hm,h=>jm n (g+1) _ (λi h1 h2=>hm i (by omega) (by omega)) (h.add ((hm (g+1) (by omega) (by omega)).mul_int _))
theorem xU(v:WV)(pf:Bool)(l:LP)(x:Str)(tn:Tok){Rr:Addr}{so:Obj}{es:Array (Int×Value)}{rep:Nat}{t:SetTable}{P:List Value}{sl:Nat→Nat}(k:bh v Rr so es rep t P sl)(hP:∀y∈P,∃(c:Nat) (t:Tok),y=Value.int c t){N:Int}{mv:Nat→Rat}{Pre:Shared→Prop}
  {kd:Nat→Bool} (Sc:∀i:Nat,i<P.length→xh v.w Pre l.f ((i:Int)+1) (mv (i+1)) (kd (i+1))) (hN:0<N) (hN2:N<2 ^ 14) (hq:∀i,i≤P.length→Dv N (mv i)) (hwt:-(2 ^ 64)<l.wt∧l.wt<2 ^ 64) (hso:so.cls≠.ref 237∧so.cls≠.type "dict") {A:Around} (hA:cp A 220):
  ∀(rest:List Value) (g:Nat) (ht:Nat→Int×Tok) (sc:Value) (t0:Tok) (cv:Option Value) (r:Rat) (n0:Nat) (s:Shared) (R:Result→Shared→Prop),P.drop g=rest→g≤P.length→Dv N r→n0≤s.heap.objs.size→
   Kn (KB v.w) s (gw pf l x tn Rr so es.size rep ht sc (g:Int) t0 cv g (sl g))→cw v.w n0 s sc r→(∀s1,ah s s1 [l.I,l.L]→Kn (KB v.w) s1 []→Pre s1)→
   (∀ht' sc' k' t' cv' s',ah s s' [l.I,l.L]→Kn (KB v.w) s' [(l.I,bm .none es.size rep (sl P.length) P.length),(l.L,ck ht' x tn l.Pf l.C l.f sc' (some (l.V,(k',t'),cv')))]→cw v.w n0 s' sc' (em mv l.wt rest.length g r)→iV sc'=ik kd rest.length g (iV sc)→cv'.isSome=(cv.isSome || !rest.isEmpty)→R (.ok .next) s')→
   codeAny (model pr v.w) A (mf v.w l.L l.I) R s:=by
 intro rest
 induction rest with
 |nil=>
  intro g ht sc t0 cv r n0 s R hd hg hr hn0 hk hn hPre H
  have hg':=cq hd hg
  subst hg'
  refine(xV v l x tn Rr so ht (P.length:Int) t0 cv es.size rep P.length (sl P.length) sc).go (W:=[l.I,l.L]) (hA.le (Nat.le_of_ble_eq_true rfl)) (hk.sub (.cons_cons _ (.cons_cons _ (.cons_cons _ (List.nil_sublist _))))) [0,1] ?_
  refine kc (λj=>k.stop) λj s1 s2 j=>?_
  exact kf λE s3 F3 K3 j=>H ht sc _ t0 cv s3 F3 K3 (hn.keep F3 K3.nil (sr hk)) rfl (by simp)
 |cons y rest ih=>
  intro g ht sc t0 cv r n0 s R hd hg hr hn0 hk hn hPre H
  obtain⟨hg',hy,hd'⟩:=bQ hd
  obtain⟨c,tc,e⟩:=hP y (hy▸List.getElem_mem hg')
  have Cn:=k.next (I:=l.I) hg'
  rw[hy,e]at Cn
  refine xT v pf l x tn Rr so es.size rep (Sc g hg') hN hN2 (hq (g+1) hg') hr hwt Cn hso hA hk hn0 hn hPre λht' sc' t' cv' s' F K hn' hi'=>?_
  have e1:((g:Int)+1)=((g+1:Nat):Int):=by omega
  rw[e1]at K
  exact ih (g+1) ht' sc' t' (some cv') _ n0 s' R hd' hg' (hr.add ((hq (g+1) hg').mul_int _)) (Nat.le_trans hn0 F.size) K hn' (λs1 F1 K1=>hPre s1 (F.trans' F1) K1) λht2 sc2 k2 t2 cv2 s2 F2 K2 N2 i2 c2=>H ht2 sc2 k2 t2 cv2 s2 (F.trans' F2) K2 N2 (by rw[i2,hi'];rfl) (by simp at c2 ⊢;exact c2)
structure I0 where
 ht:Nat→Int×Tok
 sc:Value
 k:Int
 t:Tok
 cv:Option Value
noncomputable def vZ(l:LP)(x:Str)(tn:Tok)(n rep slot:Nat):bS I0:={res:=λj=>.ok .next,upd:=λy=>[(l.I,bm .none n rep slot n),(l.L,ck y.ht x tn l.Pf l.C l.f y.sc (some (l.V,(y.k,y.t),y.cv)))]}
theorem Dz(v:WV)(pf:Bool)(l:LP)(x:Str)(tn:Tok){Rr:Addr}{so:Obj}{es:Array (Int×Value)}{rep:Nat}{t:SetTable}{P:List Value}{sl:Nat→Nat}(k:bh v Rr so es rep t P sl)(hP:∀y∈P,∃(c:Nat) (t:Tok),y=Value.int c t){N:Int}{mv:Nat→Rat}{Pre:Shared→Prop}
  {kd:Nat→Bool} (Sc:∀i:Nat,i<P.length→xh v.w Pre l.f ((i:Int)+1) (mv (i+1)) (kd (i+1))) (hN:0<N) (hN2:N<2 ^ 14) (hq:∀i,i≤P.length→Dv N (mv i)) (hwt:-(2 ^ 64)<l.wt∧l.wt<2 ^ 64) (hso:so.cls≠.ref 237∧so.cls≠.type "dict") (ht:Nat→Int×Tok) (sc:Value) (t0:Tok) (cv:Option Value) (r:Rat) (hr:Dv N r) (n0:Nat):
  Ct v.w 220 (gw pf l x tn Rr so es.size rep ht sc 0 t0 cv 0 0) (λs=>n0≤s.heap.objs.size∧cw v.w n0 s sc r∧∀s1,ah s s1 [l.I,l.L]→Kn (KB v.w) s1 []→Pre s1) (mf v.w l.L l.I) [l.I,l.L] (vZ l x tn es.size rep (sl es.size)) (λy j s'=>cw v.w n0 s' y.sc (em mv l.wt es.size 0 r)∧iV y.sc=ik kd es.size 0 (iV sc)∧y.cv.isSome=(cv.isSome || !P.isEmpty)):=by
 intro A s R hA hk ⟨hn0,hn,hp⟩ hR
 have e:P.length=es.size:=k.len
 refine xU v pf l x tn k hP Sc hN hN2 hq hwt hso hA P 0 ht sc t0 cv r n0 s R rfl (Nat.zero_le _) hr hn0 (by rw[k.wk.sl0];exact hk) hn hp λht' sc' k' t' cv' s' F K hn' hi' hc'=>?_
 rw[e]at K hn' hi'
 exact hR ⟨ht',sc',k',t',cv'⟩ s' F K (by simp[vZ]) ⟨hn',hi',hc'⟩
structure Ig where
 a:Addr
 t:Nat→Tok
noncomputable def f7(l1:List Nat)(led:Bool):bS Ig:={res:=λy=>.ok (.ret (.ref y.a)),add:=λy=>[(y.a,ba (ai l1 y.t) l1.length (ak l1 led))]}
structure HR where
 ht:Nat→Int×Tok
 sc:Value
 k:Int
 t:Tok
 cv:Option Value
 io:Obj
noncomputable def qR(L I:Addr)(x:Str)(tn:Tok)(Pf CM f V:Addr):bS HR:={res:=λj=>.ok .next,upd:=λy=>[(I,y.io),(L,ck y.ht x tn Pf CM f y.sc (some (V,(y.k,y.t),y.cv)))]}
noncomputable def Iu(v:WV)(pf:Bool)(l:LP)(x:Str)(tn:Tok)(I2 VL SD:Addr)(vs:Array Value)(ve g:Nat)(cs:List (Int×Tok))(ce:Nat)(es:Array (Int×Value))(ep:Nat)(t:SetTable)(l1:List Nat)(led:Bool)(ht:Nat→Int×Tok)(sc:Value)(st:Option (Addr×(Int×Tok)×Option Value)):Cn:=⟨260,[(I2,aj (.ref VL) g),(VL,ac vs ve),(l.L,ck ht x tn l.Pf l.C l.f sc st),(l.C,ac (aa cs) ce),(l.V,bT l.VD),(l.VD,bU l.htv l.S l.wt l.twt),(l.S,ao SD es ep t),(l.f,l.fo pf)],uD v.w l.L I2,λzn zu=>.cut {js:=[0,1],ju:=[0],K:=1,N:=7,orc:=(dz 1 1)} (.call (.builtin "list_iterator.__next__") ⟨[.ref I2],[]⟩) (λj=>[(I2,aj (.ref VL) g),(VL,ac vs ve)]) (λj=>an I2 (.ref l.V) (aj (.ref VL) (g+1))) λj n1 u1=>.cut {ws:=[2],js:=[3],u:=3,K:=1,N:=28,orc:=(dz 7 13194145874307),wa:=[l.L]} (.call (.type "set") ⟨[.ref l.C],[]⟩) (λj=>[(l.C,ac (aa cs) ce)]) (λj=>f7 l1 led) λx1 n2 u2=>.cut {js:=[8,6],u:=1,K:=1,cnt:=2,N:=40,orc:=(dz 26 434381670640941641736828632028136708266323558008881795)} (dx x1.a l.S) (λj=>[(x1.a,ba (ai l1 x1.t) l1.length (ak l1 led)),(l.S,ao SD es ep t)]) (λj=>br) λx2 n3 u3=>.cut {js:=[9],K:=1,cnt:=1,N:=12,orc:=(dz 3 165130)} (.builtin "set.__iter__" ⟨[.ref x2.a],[]⟩) (λj=>[(x2.a,ba x2.es x2.ep x2.t)]) (λj=>aD (bm (.ref x2.a) x2.es.size x2.ep 0 0)) λI n4 u4=>.cut {js:=[10,2,9,4,5,7],ju:=[10,2],K:=1,N:=6,orc:=(dz 1 11)} (mf v.w l.L I) (λE=>[(I,bm (.ref x2.a) x2.es.size x2.ep 0 0),(l.L,ck (aq (E.lk 2)) x tn l.Pf l.C l.f sc (some (l.V,(0,u1+1),st.bind (·.2.2)))),(x2.a,ba x2.es x2.ep x2.t),(l.V,bT l.VD),(l.VD,bU l.htv l.S l.wt l.twt),(l.f,l.fo pf)]) (λj=>qR l.L I x tn l.Pf l.C l.f l.V) λy n5 u5=>.tail {js:=[0,1,2,3,4,5,6,7],N:=5} (uD v.w l.L I2) (λE=>[(I2,aj (.ref VL) (g+1)),(VL,ac vs ve),(l.L,ck y.ht x tn l.Pf l.C l.f y.sc (some (l.V,(y.k,y.t),y.cv))),(l.C,ac (aa cs) ce),(l.V,bT l.VD),(l.VD,bU l.htv l.S l.wt l.twt),(l.S,ao SD es ep t),(l.f,l.fo pf)])⟩
theorem xL v pf l x tn I2 VL SD vs ve g cs ce es ep t l1 led ht sc st:(Iu v pf l x tn I2 VL SD vs ve g cs ce es ep t l1 led ht sc st).G v:=by
 obtain⟨w0,b1,b2,b3⟩:=v;intro zn zu;cases b1<;>cases pf<;>(rcases st with _|⟨V0,c0,_|u0⟩)<;>kernel_rfl
noncomputable def Iw(v:WV)(x:Str)(tn:Tok)(L I2 VL Pf CM f:Addr)(vs:Array Value)(ve g:Nat)(ht:Nat→Int×Tok)(sc:Value)(st:Option (Addr×(Int×Tok)×Option Value)):Cn:=⟨100,[(I2,aj (.ref VL) g),(VL,ac vs ve),(L,ck ht x tn Pf CM f sc st)],uD v.w L I2,λzn zu=>.cut {js:=[0,1],ju:=[0],K:=1,N:=7,orc:=(dz 1 1)} (.call (.builtin "list_iterator.__next__") ⟨[.ref I2],[]⟩) (λj=>[(I2,aj (.ref VL) g),(VL,ac vs ve)]) (λj=>aE I2 (aj .none g)) λj n1 u1=>.fin {js:=[0,2],cnt:=1,N:=7,orc:=(dz 1 5)} (.ok .next) (λE=>[(I2,aj .none g),(L,ck ht x tn Pf CM f sc st)])⟩
theorem xN v x tn L I2 VL Pf CM f vs ve g ht sc st:(Iw v x tn L I2 VL Pf CM f vs ve g ht sc st).G v:=by
 obtain⟨w0,b1,b2,b3⟩:=v;intro zn zu;cases b1<;>(rcases st with _|⟨V0,c0,_|u0⟩)<;>kernel_rfl
noncomputable def Eh(n:Nat)(l:List Nat):Bool:=nn.any λq=>decide (Qm.l q=l)&&decide ((Qm.z q).n=n)
theorem lE{z:Sz}{l:List Nat}(h:Eh z.n l=true):∃q:Qm,q.z=z∧q.l=l:=by
 obtain⟨q,_,h⟩:=List.any_eq_true.mp h
 rw[Bool.and_eq_true]at h
 exact⟨q,Sz.inj (of_decide_eq_true h.2),of_decide_eq_true h.1⟩
theorem Iz:∀a<2,∀b<2,[a,b].Nodup→Eh 2 [a,b]=true:=by decide+kernel
theorem Iy:∀a<3,∀b<3,∀c<3,[a,b,c].Nodup→Eh 3 [a,b,c]=true:=by decide+kernel
theorem Ix:∀a<4,∀b<4,∀c<4,∀d<4,[a,b,c,d].Nodup→Eh 4 [a,b,c,d]=true:=by decide+kernel
theorem A9{z:Sz}{l:List Nat}(hl:l.length=z.n)(hn:l.Nodup)(hb:∀c∈l,c<z.n):∃q:Qm,q.z=z∧q.l=l:=by
 cases z with
 |s2=>
  match l,hl with
  |[a,b],_=>
   exact lE (z:=.s2) (Iz a (hb a (mN 0 rfl)) b (hb b (mN 1 rfl)) hn)
 |s3=>
  match l,hl with
  |[a,b,c],_=>
   exact lE (z:=.s3) (Iy a (hb a (mN 0 rfl)) b (hb b (mN 1 rfl)) c (hb c (mN 2 rfl)) hn)
 |s4=>
  match l,hl with
  |[a,b,c,d],_=>
   exact lE (z:=.s4) (Ix a (hb a (mN 0 rfl)) b (hb b (mN 1 rfl)) c (hb c (mN 2 rfl)) d (hb d (mN 3 rfl)) hn)
theorem mC:∀(cs:List (Int×Tok)),(∀p∈cs,0≤p.1)→((cs.map (·.1)).Nodup)→∃t:Nat→Tok,cs=(cs.map λp=>p.1.toNat).map fun(c:Nat)=>((c:Int),t c)
 |[],_,_=>⟨λj=>0,rfl⟩
 |p::cs,h,nd=>by
  rw[List.map_cons,List.nodup_cons]at nd
  obtain⟨t,e⟩:=mC cs (λq hq=>h q (List.mem_cons_of_mem _ hq)) nd.2
  have hp:=h p (List.mem_cons_self ..)
  refine⟨λc=>if c=p.1.toNat then p.2 else t c,?_⟩
  rw[List.map_cons,List.map_cons]
  refine List.cons_eq_cons.mpr ⟨?_,?_⟩
  ·simp[Int.toNat_of_nonneg hp]
  ·conv=>lhs;rw[e]
   rw[List.map_map,List.map_map]
   refine List.map_congr_left λq hq=>?_
   have hq0:=h q (List.mem_cons_of_mem _ hq)
   have hne:q.1.toNat≠p.1.toNat:=λe2=>nd.1 (List.mem_map.mpr ⟨q,hq,by omega⟩)
   simp[Function.comp,hne]
theorem sK{z:Sz}{cs:List (Int×Tok)}{t0:Nat→Tok}(h:cs.Perm (z.cl t0)):∃(q:Qm) (t:Nat→Tok),q.z=z∧cs=q.xs t:=by
 have hn:((z.cl t0).map (·.1)).Nodup:=by cases z<;>exact of_decide_eq_true rfl
 have hb:∀p∈z.cl t0,0≤p.1∧p.1.toNat<z.n:=by cases z<;>exact of_decide_eq_true rfl
 obtain⟨t,e⟩:=mC cs (λp hp=>(hb p (h.mem_iff.mp hp)).1) ((h.map _).nodup_iff.mpr hn)
 obtain⟨q,hz,hl⟩:=A9 (z:=z) (l:=cs.map λp=>p.1.toNat) (by rw[List.length_map,h.length_eq];cases z<;>rfl) (by
  have:(cs.map λp=>p.1.toNat).Perm ((z.cl t0).map λp=>p.1.toNat):=h.map _
  refine this.nodup_iff.mpr ?_
  cases z<;>exact of_decide_eq_true rfl) (λc hc=>by
   obtain⟨p,hp,rfl⟩:=List.mem_map.mp hc
   exact(hb p (h.mem_iff.mp hp)).2)
 exact⟨q,t,hz,by rw[Qm.xs,hl];exact e⟩
theorem DH(v:WV)(z:Sz){cs:List (Int×Tok)}{t0:Nat→Tok}(h:cs.Perm (z.cl t0))(CM:Addr)(ce:Nat):aS v.w 100 [(CM,ac (aa cs) ce)] (.call (.type "set") ⟨[.ref CM],[]⟩) [] (f7 z.r (!v.b3)):=by
 obtain⟨q,t,rfl,rfl⟩:=sK h
 have e:q.z.r.length=q.z.n:=by cases q<;>rfl
 exact(yE v q CM t ce).ct [] λA s R j j j hR=>kr hR (λj=>⟨s.heap.objs.size,t⟩) (hl:=λj=>by show _=[(_,ba _ _ _)];rw[e];rfl)
theorem DI(v:WV)(CM:Addr)(ce:Nat):aS v.w 100 [(CM,ac (aa []) ce)] (.call (.type "set") ⟨[.ref CM],[]⟩) [] (f7 [] (!v.b3)):=by
 exact(yG v CM ce).ct [] λA s R j j j hR=>kr hR λj=>⟨s.heap.objs.size,λj=>0⟩
theorem Ap(v:WV)(b:Bm)(X S SD:Addr)(tx ts:Nat→Tok)(e1 e2:Nat):
  Ct v.w 80 [(X,ba (ai [] tx) e1 (ak [] (!v.b3))),(S,ao SD (ai b.l ts) e2 (ak b.l (!v.b3)))] aK (dx X S) [] br (λx j j=>∃P sl,bh v x.a (ba x.es x.ep x.t) x.es x.ep x.t P sl∧P.length=0∧∀y∈P,∃(c:Nat) (t:Tok),y=Value.int c t):=by
 intro A s R hA hk _ hR
 have oX:=hk.obj (X,ba (ai [] tx) e1 (ak [] (!v.b3))) (by simp)
 have oS:=hk.obj (S,ao SD (ai b.l ts) e2 (ak b.l (!v.b3))) (by simp)
 have hne:S≠X:=by
  have:=hk.nd
  simp at this
  exact Ne.symm this
 have lX:X<s.heap.objs.size:=hk.lt (p:=(X,ba (ai [] tx) e1 (ak [] (!v.b3)))) (by simp)
 have lS:S<s.heap.objs.size:=hk.lt (p:=(S,ao SD (ai b.l ts) e2 (ak b.l (!v.b3)))) (by simp)
 have f2:=fD b ts (!v.b3)
 have f1:(ak [] (!v.b3)).fits (ai [] tx).size=true:=rfl
 refine codeAny_builtin iA ?_
 refine wpAny_bind (m:=Builtin.Frozenset.slot1 "__and__" ⟨[.ref X,.ref S],[]⟩) (wpAny_pure ?_)
 dsimp only
 unfold Builtin.Frozenset.isAnySet
 refine wpAny_bind (wpAny_bind (wpAny_bind (fi oX (wpAny_pure (wpAny_bind (dh hk.nil oS (wpAny_pure ?_)))))))
 simp only[Bool.not_true,Bool.false_eq_true,↓reduceIte]
 refine wpAny_bind (m:=Builtin.Frozenset.addrOf (.ref X)) (wpAny_pure ?_)
 refine wpAny_bind ?_
 unfold Builtin.Frozenset.intersection
 rw[if_neg (by simp[hne])]
 unfold Builtin.Frozenset.baseOf
 simp only[bind_assoc,pure_bind]
 refine wpAny_bind (fi oX ?_)
 simp only[↓reduceIte]
 refine wpAny_bind (m:=newSet (.type "set")) ?_
 unfold newSet setsByText
 refine wpAny_bind (wpAny_bind (wpAny_askSetting (wpAny_pure ?_)))
 dsimp only
 simp only[newObj]
 have hsz:¬((#[]:Array (Int×Value)).size>sizeLine):=by simp
 rw[if_neg hsz]
 unfold newObjAsIs
 refine wpAny_bind (wpAny_alloc ?_)
 refine wpAny_pure ?_
 refine wpAny_bind (m:=Builtin.Frozenset.addrOf (.ref s.heap.objs.size)) (wpAny_pure ?_)
 refine wpAny_bind (wpAny_holding ?_)
 rw[show(model pr v.w).w.params.followText "set-order"=v.b3 from bj v]
 generalize hh1:s.heap.push {cls:=Value.type "set",data:=Data.set #[] 0 (SetTable.fresh 0 0 !v.b3)}=h1
 have z1:h1.objs.size=s.heap.objs.size+1:=by rw[←hh1,Heap.size_push]
 have keep1:∀b o,s.heap.get? b=some o→h1.get? b=some o:=λb o e=>by rw[←hh1];exact Heap.get?_push_of_some _ e
 have new1:h1.get? s.heap.objs.size=some (ba #[] 0 (ak [] (!v.b3))):=by rw[←hh1];exact Heap.get?_push_size _ rfl
 have Fr1:ah s {s with heap:=h1} []:=⟨λh=>h,rfl,rfl,by show s.heap.objs.size≤h1.objs.size;omega,Nat.le_refl _,λb o e j=>keep1 b o e⟩
 have K1:Kn (KB v.w) {s with heap:=h1} [(s.heap.objs.size,ba #[] 0 (ak [] (!v.b3)))]:=by
  refine⟨λx o e=>Fr1.keep x o (hk.base x o e) (by simp),λp hp=>?_,λp hp=>?_,by simp,hk.toks⟩
  ·rw[List.mem_singleton]at hp;subst hp;exact new1
  ·rw[List.mem_singleton]at hp;subst hp;exact bM hk (Nat.le_refl _)
 have oX1:=keep1 _ _ oX
 have oS1:=keep1 _ _ oS
 have K0:Kn (KB v.w) {s with heap:=h1} []:=K1.nil
 unfold Builtin.Frozenset.isAnySet
 refine wpAny_bind (wpAny_bind (dh K0 oS1 (wpAny_pure ?_)))
 simp only[↓reduceIte]
 refine wpAny_bind (m:=Builtin.Frozenset.addrOf (.ref S)) (wpAny_pure ?_)
 unfold Builtin.Frozenset.sizeOf
 refine wpAny_bind (wpAny_bind (wpAny_setEntries_of oS1 rfl f2 (wpAny_pure ?_)))
 refine wpAny_bind (wpAny_bind (wpAny_setEntries_of oX1 rfl f1 (wpAny_pure ?_)))
 have hS:v.b3=false→(ak b.l (!v.b3)).led=true:=λh=>by simp[ak,h]
 have hX:v.b3=false→(ak [] (!v.b3)).led=true:=λh=>by simp[ak,h]
 have fin:wpAny (model pr v.w) (A.under (dx X S)) (pure PUnit.unit) (fun(a:PUnit) s'=>
   wpAny (model pr v.w) (A.under (dx X S)) (pure ()) (fun(a:Unit) s'=>wpAny (model pr v.w) (A.under (dx X S)) (pure (Value.ref s.heap.objs.size)) (λa s'=>wpAny (model pr v.w) (A.under (dx X S)) (ret a) (λfin s'=>match fin with
    |Fin.done f=>R (Except.ok f) s'
    |Fin.again c'=>c'.quiet=true∧codeAny (model pr v.w) A c' R s') (λe s'=>R (Except.error e) s') s') (λe s'=>R (Except.error e) s') s') (λe s'=>R (Except.error e) s') s') (λe s'=>R (Except.error e) s') {s with heap:=h1}:=by
  refine wpAny_pure (wpAny_pure (wpAny_pure (wpAny_pure ?_)))
  obtain⟨P,sl,ok⟩:=pi v (S:=s.heap.objs.size) (so:=ba (ai (aQ 0) tx) 0 (ak (aQ 0) (!v.b3))) (by decide) rfl
  refine hR ⟨s.heap.objs.size,ai (aQ 0) tx,0,ak (aQ 0) (!v.b3)⟩ _ Fr1 K1 (by simp[br]) ⟨P,sl,ok,by rw[ok.len];rfl,λy hy=>?_⟩
  have:=ok.wk.perm.mem_iff.mp hy
  exact nomatch this
 by_cases hgt:(ai b.l ts).size>(ai [] tx).size
 ·simp only[if_pos hgt]
  refine wpAny_bind (wpAny_setEpoch_of oX1 rfl f1 ?_)
  refine wpAny_bind (gu oX1 rfl f1 rfl hX λW hW=>?_)
  have hW0:W.toList=[]:=by have:=hW.length_eq;simpa [ai]using this
  rw[←Array.forIn_toList,hW0,List.forIn_nil]
  exact wpAny_bind fin
 ·simp only[if_neg hgt]
  refine wpAny_bind (wpAny_setEpoch_of oS1 rfl f2 ?_)
  refine wpAny_bind (gu oS1 rfl f2 rfl hS λW hW=>?_)
  have hz:(ai b.l ts).size=0:=by simp[ai]at hgt ⊢;exact hgt
  have hW0:W.toList=[]:=by
   have:=hW.length_eq
   simp only[Array.length_toList,hz]at this
   exact List.length_eq_zero_iff.mp (by rw[Array.length_toList];exact this)
  rw[←Array.forIn_toList,hW0,List.forIn_nil]
  exact wpAny_bind fin
structure VM where
 x:VR
 b:Bm
 tk:Nat→Tok
noncomputable def lx(pf:Bool)(l:LP)(x:Str)(tn:Tok)(I2 VL:Addr)(vs:Array Value)(ve:Nat)(cs:List (Int×Tok))(ce:Nat)(ht:Nat→Int×Tok)(g:Nat)(sc:Value)(st:Option (Addr×(Int×Tok)×Option Value)):List (Addr×Obj):=
 [(I2,aj (.ref VL) g),(VL,ac vs ve),(l.L,ck ht x tn l.Pf l.C l.f sc st),(l.C,ac (aa cs) ce)]
noncomputable def xK(pf:Bool)(l:LP)(y:VM):List (Addr×Obj):=[(y.x.V,bT y.x.VD),(y.x.VD,bU y.x.htv y.x.S y.x.wt y.x.twt),(y.x.S,y.x.so),(l.f,l.fo pf)]
theorem sq(v:WV)(pf:Bool)(l:LP)(x:Str)(tn:Tok)(I2 VL:Addr)(vs:Array Value)(ve:Nat)(cs:List (Int×Tok))(ce:Nat)(y:VM)(l1:List Nat)(cnt:Nat){g:Nat}(hg:vs[g]?=some (.ref y.x.V)){N:Int}{mv:Nat→Rat}{kd:Nat→Bool}{Pre:Shared→Prop}
  (Cs:aS v.w 100 [(l.C,ac (aa cs) ce)] (.call (.type "set") ⟨[.ref l.C],[]⟩) [] (f7 l1 (!v.b3)))
  (Ca:∀X tx,Ct v.w 80 [(X,ba (ai l1 tx) l1.length (ak l1 (!v.b3))),(y.x.S,y.x.so)] aK (dx X y.x.S) [] br (λx2 j j=>∃P sl,bh v x2.a (ba x2.es x2.ep x2.t) x2.es x2.ep x2.t P sl∧P.length=cnt∧∀y∈P,∃(c:Nat) (t:Tok),y=Value.int c t))
  (Sc:∀i:Nat,i<cnt→xh v.w Pre l.f ((i:Int)+1) (mv (i+1)) (kd (i+1))) (hN:0<N) (hN2:N<2 ^ 14) (hq:∀i,i≤cnt→Dv N (mv i)) (hwt:-(2 ^ 64)<y.x.wt∧y.x.wt<2 ^ 64) {A:Around} (hA:cp A 260)
  (ht:Nat→Int×Tok) (sc:Value) (st:Option (Addr×(Int×Tok)×Option Value)) (r:Rat) (hr:Dv N r) {s:Shared} {R:Result→Shared→Prop} (hk:Kn (KB v.w) s (lx pf l x tn I2 VL vs ve cs ce ht g sc st++xK pf l y)) {n0:Nat} (hn0:n0≤s.heap.objs.size) (hn:cw v.w n0 s sc r) (hPre:∀s1,ah s s1 [I2,l.L]→Kn (KB v.w) s1 []→Pre s1)
  (H:∀ht' sc' st' s',ah s s' [I2,l.L]→Kn (KB v.w) s' (lx pf l x tn I2 VL vs ve cs ce ht' (g+1) sc' (some st')++xK pf l y)→cw v.w n0 s' sc' (em mv y.x.wt cnt 0 r)→iV sc'=ik kd cnt 0 (iV sc)→st'.2.2.isSome=((st.bind (·.2.2)).isSome || decide (0<cnt))→codeAny (model pr v.w) A (uD v.w l.L I2) R s'):
  codeAny (model pr v.w) A (uD v.w l.L I2) R s:=by
 have nf:NF s [I2,l.L]:=NF.kn (hk.pk [0,2] rfl) ⟨gc,mK,trivial⟩
 refine(xL v pf (l.vo y.x) x tn I2 VL y.x.SD vs ve g cs ce y.x.es y.x.ep y.x.t l1 (!v.b3) ht sc st).go (W:=[I2,l.L]) hA hk [0,2] ?_
 refine kc (λE=>aP v.w hg) λj s1 s2 j=>?_
 refine kc (λE=>Cs) fun(x1:Ig) s3 s4 _=>?_
 refine kc (λE=>Ca x1.a x1.t) fun(x2:SX) s5 s6 hx2=>?_
 obtain⟨P,sl,ok,hl,hP⟩:=hx2
 refine oO (λE=>gt v.w (S:=x2.a) ok.data ok.fit ok.plain) λ_ (I:Addr) s7 s8 _ _ hI _=>?_
 have hIn:s.heap.objs.size≤I:=hI (I,bm (.ref x2.a) x2.es.size x2.ep 0 0) (.head _)
 have Ct':∀(ht9:Nat→Int×Tok) (t9:Tok) (cv9:Option Value),Ct v.w 220 (gw pf {l.vo y.x with I:=I} x tn x2.a (ba x2.es x2.ep x2.t) x2.es.size x2.ep ht9 sc 0 t9 cv9 0 0) (λs=>n0≤s.heap.objs.size∧cw v.w n0 s sc r∧∀s1,ah s s1 [I,l.L]→Kn (KB v.w) s1 []→Pre s1) (mf v.w l.L I) [I,l.L] (qR l.L I x tn l.Pf l.C l.f y.x.V) (λz j s'=>cw v.w n0 s' z.sc (em mv y.x.wt cnt 0 r)∧iV z.sc=ik kd cnt 0 (iV sc)∧z.cv.isSome=(cv9.isSome || decide (0<cnt))):=by
  intro ht9 t9 cv9 A s R hA hk hp hR
  have C:=Dz v pf {l.vo y.x with I:=I} x tn ok hP (N:=N) (mv:=mv) (kd:=kd) (Pre:=Pre) (λi hi=>Sc i (hl▸hi)) hN hN2 (λi hi=>hq i (hl▸hi)) hwt (by simp[ba]) ht9 sc t9 cv9 r hr n0
  refine C A s R hA hk hp λz s' F K ha hz=>hR ⟨z.ht,z.sc,z.k,z.t,z.cv,_⟩ s' F K (by simp[qR]) ?_
  have e:x2.es.size=cnt:=by rw[←ok.len,hl]
  rw[e]at hz
  refine⟨hz.1,hz.2.1,?_⟩
  rw[hz.2.2]
  congr 1
  cases P with
  |nil=>subst hl;rfl
  |cons=>subst hl;simp
 refine dF (λE=>Ct' _ _ _) (λE s9 F K=>⟨Nat.le_trans hn0 F.size,hn.keep F K.nil nf,λs10 F10 K10=>hPre s10 (F.to F10 λa ha=>?_) K10⟩) fun(z:HR) s9 s10 hz=>Hf λE s11 F L K=>H _ _ _ s11 F K (hz.1.keep (W:=[]) L K.nil λj h=>nomatch h) hz.2.1 hz.2.2
 simp only[List.mem_cons,List.not_mem_nil,or_false]at ha ⊢
 exact ha.elim (λh=>.inr (h▸hIn)) λh=>.inl (.inr h)
noncomputable def dy(mv:Nat→Rat)(cnt:VM→Nat):List VM→Rat→Rat
 |[],r=>r
 |y::l,r=>dy mv cnt l (em mv y.x.wt (cnt y) 0 r)
noncomputable def fg(kd:Nat→Bool)(cnt:VM→Nat):List VM→Bool→Bool
 |[],b=>b
 |y::l,b=>fg kd cnt l (ik kd (cnt y) 0 b)
noncomputable def dj(vl:List VM):List (Addr×Obj):=vl.flatMap λy=>y.x.kn
theorem VM.sub{vl:List VM}{y:VM}(h:y∈vl):y.x.kn.Sublist (dj vl):=by
 induction vl with
 |nil=>simp at h
 |cons z l ih=>
  show y.x.kn.Sublist (z.x.kn++dj l)
  rcases List.mem_cons.mp h with rfl|h
  ·exact List.sublist_append_left _ _
  ·exact(ih h).trans (List.sublist_append_right _ _)
noncomputable def bC(vl:List VM):Array Value:=(vl.map λy=>Value.ref y.x.V).toArray
theorem xM(v:WV)(pf:Bool)(l:LP)(x:Str)(tn:Tok)(I2 VL:Addr)(vl:List VM)(ve:Nat)(cs:List (Int×Tok))(ce:Nat)(l1:List Nat)(cnt:VM→Nat){N:Int}{mv:Nat→Rat}{kd:Nat→Bool}{Pre:Shared→Prop}
  (Cs:aS v.w 100 [(l.C,ac (aa cs) ce)] (.call (.type "set") ⟨[.ref l.C],[]⟩) [] (f7 l1 (!v.b3)))
  (Ca:∀y∈vl,∀X tx,Ct v.w 80 [(X,ba (ai l1 tx) l1.length (ak l1 (!v.b3))),(y.x.S,y.x.so)] aK (dx X y.x.S) [] br (λx2 j j=>∃P sl,bh v x2.a (ba x2.es x2.ep x2.t) x2.es x2.ep x2.t P sl∧P.length=cnt y∧∀y∈P,∃(c:Nat) (t:Tok),y=Value.int c t))
  (Sc:∀y∈vl,∀i:Nat,i<cnt y→xh v.w Pre l.f ((i:Int)+1) (mv (i+1)) (kd (i+1))) (hN:0<N) (hN2:N<2 ^ 14) (hq:∀y∈vl,∀i,i≤cnt y→Dv N (mv i)) (hwt:∀y∈vl,-(2 ^ 64)<y.x.wt∧y.x.wt<2 ^ 64) {A:Around} (hA:cp A 260):
  ∀(rest:List VM) (g:Nat) (ht:Nat→Int×Tok) (sc:Value) (st:Option (Addr×(Int×Tok)×Option Value)) (r:Rat) (n0:Nat) (s:Shared) (R:Result→Shared→Prop),vl.drop g=rest→g≤vl.length→Dv N r→n0≤s.heap.objs.size→
   Kn (KB v.w) s (lx pf l x tn I2 VL (bC vl) ve cs ce ht g sc st++(l.f,l.fo pf)::dj vl)→cw v.w n0 s sc r→(∀s1,ah s s1 [I2,l.L]→Kn (KB v.w) s1 []→Pre s1)→
   (∀ht' sc' st' s',ah s s' [I2,l.L]→Kn (KB v.w) s' [(I2,aj .none vl.length),(l.L,ck ht' x tn l.Pf l.C l.f sc' st')]→cw v.w n0 s' sc' (dy mv cnt rest r)→iV sc'=fg kd cnt rest (iV sc)→(st'.bind (·.2.2)).isSome=((st.bind (·.2.2)).isSome || rest.any λy=>decide (0<cnt y))→st'.isSome=(st.isSome || !rest.isEmpty)→R (.ok .next) s')→
   codeAny (model pr v.w) A (uD v.w l.L I2) R s:=by
 intro rest
 induction rest with
 |nil=>
  intro g ht sc st r n0 s R hd hg hr hn0 hk hn hPre H
  have hg':=cq hd hg
  subst hg'
  have nf:NF s [I2,l.L]:=NF.kn (hk.pk [0,2] rfl) ⟨gc,mK,trivial⟩
  refine(xN v x tn l.L I2 VL l.Pf l.C l.f (bC vl) ve vl.length ht sc st).go (W:=[I2,l.L]) (hA.le (Nat.le_of_ble_eq_true rfl)) (hk.sub (.cons_cons _ (.cons_cons _ (.cons_cons _ (List.nil_sublist _))))) [0,2] ?_
  refine kc (λj=>bE v.w (show(bC vl)[vl.length]?=none by simp[bC])) λj s1 s2 j=>?_
  exact kf λE s3 F3 K3 j=>H ht sc st s3 F3 K3 (hn.keep F3 K3.nil nf) rfl (by simp) (by simp)
 |cons y rest ih=>
  intro g ht sc st r n0 s R hd hg hr hn0 hk hn hPre H
  obtain⟨hg',hy,hd'⟩:=bQ hd
  have hm:y∈vl:=hy▸List.getElem_mem hg'
  have hgg:(bC vl)[g]?=some (.ref y.x.V):=by simp[bC,List.getElem?_eq_getElem hg',hy]
  have k1:Kn (KB v.w) s (lx pf l x tn I2 VL (bC vl) ve cs ce ht g sc st++xK pf l y):=by
   have h1:Kn (KB v.w) s (lx pf l x tn I2 VL (bC vl) ve cs ce ht g sc st++(l.f,l.fo pf)::[(y.x.V,bT y.x.VD),(y.x.VD,bU y.x.htv y.x.S y.x.wt y.x.twt),(y.x.S,y.x.so)]):=
    hk.sub (List.Sublist.append (List.Sublist.refl _) (.cons_cons _ (.trans (by unfold VR.kn;exact .cons_cons _ (.cons_cons _ (.cons_cons _ (List.nil_sublist _)))) (VM.sub hm))))
   exact h1.perm (List.Perm.append_left _ (List.perm_append_comm (l₁:=[(l.f,l.fo pf)]) (l₂:=[(y.x.V,bT y.x.VD),(y.x.VD,bU y.x.htv y.x.S y.x.wt y.x.twt),(y.x.S,y.x.so)])))
  refine sq v pf l x tn I2 VL (bC vl) ve cs ce y l1 (cnt y) hgg Cs (Ca y hm) (Sc y hm) hN hN2 (hq y hm) (hwt y hm) hA ht sc st r hr k1 hn0 hn hPre λht' sc' st' s' F K hn' hi' hc'=>?_
  have K2:Kn (KB v.w) s' (lx pf l x tn I2 VL (bC vl) ve cs ce ht' (g+1) sc' (some st')++(l.f,l.fo pf)::dj vl):=
   hk.step F (cN [0,2] rfl) (K.sub (List.sublist_append_left _ _)) rfl
  refine ih (g+1) ht' sc' (some st') _ n0 s' R hd' hg' (jm _ _ _ (λi j h2=>hq y hm i (by omega)) hr) (Nat.le_trans hn0 F.size) K2 hn' (λs1 F1 K1=>hPre s1 (F.trans' F1) K1) λht2 sc2 st2 s2 F2 K3 N2 i2 c2 d2=>H ht2 sc2 st2 s2 (F.trans' F2) K3 N2 (by rw[i2,hi'];rfl) (by rw[c2];show(st'.2.2.isSome || _)=_;rw[hc',List.any_cons,Bool.or_assoc]) (by simp at d2 ⊢;exact d2)
structure FI where
 ht:Nat→Int×Tok
 V:Addr
 c:Int
 t:Tok
 u:Value
 sc:Value
noncomputable def kH(L I:Addr)(x:Str)(tn:Tok)(Pf CM f:Addr)(n:Nat)(ub:Bool):bS FI:={res:=λj=>.ok .next,upd:=λy=>[(I,aj .none n),(L,ck y.ht x tn Pf CM f y.sc (some (y.V,(y.c,y.t),r7 ub y.u)))]}
structure Im where
 a:Addr
 t:Addr
 d:Nat
 ht:Nat→Int×Tok
 tk:Tok
noncomputable def nh(ff:Addr)(nm:Str)(k:Int):bS Im:={res:=λy=>.ok (.ret (.ref y.a)),add:=λy=>[(y.a,dM ff y.t (y.d+2)),(y.t,aO #[] 0),(y.d+2,lm y.ht nm k y.tk)]}
noncomputable def Gq(v:WV)(x:Str)(tn:Tok)(Pf PD CL NL VL CM:Addr)(pht:Nat→Int×Tok)(vs:Array Value)(ve:Nat)(cs:List (Int×Tok))(ce:Nat)(q:Int)(n:Nat)(ub:Bool)(f:Addr):Cn:=⟨290,[(Pf,dJ PD),(PD,dK pht CL NL VL),(VL,ac vs ve),(CM,ac (aa cs) ce)],.call (.ref 278) ⟨[.str x tn,.ref Pf,.ref CM],[]⟩,λzn zu=>.cut {js:=[3],i:=1,u:=3,K:=1,cnt:=2,N:=34,orc:=(dz 14 12379406295814743249198858240)} (.builtin "len" ⟨[.ref CM],[]⟩) (λE=>[(CM,ac (aa cs) ce)]) (λj=>aw q) λt1 n1 u1=>.cut {K:=1,N:=8,orc:=(dz 1 0)} (.call (.ref 271) ⟨[.str x tn,.int q t1],[]⟩) (λE=>[]) (λj=>aW (.ok (.ret (.ref f)))) λj n2 u2=>.cut {ws:=[4],js:=[6,4],ju:=[6,4],i:=2,u:=5,K:=1,cnt:=7,N:=85,orc:=(dz 39 836503934616459668452081066799480153415367129283499401521513553182507058015060613),wa:=[zn+0]} (uD v.w zn (n2+1)) (λE=>[(n2+1,aj (.ref VL) 0),(zn,ck (aq (E.lk 4)) x tn Pf CM f (.int 0 (u2+1)) none)]) (λj=>kH zn (n2+1) x tn Pf CM f n ub) λy n3 u3=>.fin {N:=8,orc:=(dz 1 5)} (.ok (.ret y.sc)) (λE=>[])⟩
theorem xH v x tn Pf PD CL NL VL CM pht vs ve cs ce q n ub f:(Gq v x tn Pf PD CL NL VL CM pht vs ve cs ce q n ub f).G v:=Cn.g2 cm (f:=λub v=>Gq v x tn Pf PD CL NL VL CM pht vs ve cs ce q n ub f) (λj j j j j=>by kernel_rfl) ub v
noncomputable def Gp(v:WV)(x:Str)(tn:Tok)(Pf PD CL NL VL CM:Addr)(pht:Nat→Int×Tok)(vs:Array Value)(ve:Nat)(cs:List (Int×Tok))(ce:Nat)(q:Int)(n:Nat)(ub:Bool)(ff:Addr)(nm:Str)(k:Int):Cn:=⟨290,[(Pf,dJ PD),(PD,dK pht CL NL VL),(VL,ac vs ve),(CM,ac (aa cs) ce)],.call (.ref 278) ⟨[.str x tn,.ref Pf,.ref CM],[]⟩,λzn zu=>.cut {js:=[3],i:=1,u:=3,K:=1,cnt:=2,N:=34,orc:=(dz 14 12379406295814743249198858240)} (.builtin "len" ⟨[.ref CM],[]⟩) (λE=>[(CM,ac (aa cs) ce)]) (λj=>aw q) λt1 n1 u1=>.cut {K:=1,N:=8,orc:=(dz 1 0)} (.call (.ref 271) ⟨[.str x tn,.int q t1],[]⟩) (λE=>[]) (λj=>nh ff nm k) λg n2 u2=>.cut {ws:=[4],js:=[9,4],ju:=[9,4],i:=2,u:=5,K:=1,cnt:=7,N:=85,orc:=(dz 39 1194996242895190609483456836386377916664308888582476427437509764055868862932009605),wa:=[zn+0]} (uD v.w zn (n2+1)) (λE=>[(n2+1,aj (.ref VL) 0),(zn,ck (aq (E.lk 4)) x tn Pf CM g.a (.int 0 (u2+1)) none)]) (λj=>kH zn (n2+1) x tn Pf CM g.a n ub) λy n3 u3=>.fin {N:=8,orc:=(dz 1 5)} (.ok (.ret y.sc)) (λE=>[])⟩
theorem xG v x tn Pf PD CL NL VL CM pht vs ve cs ce q n ub ff nm k:(Gp v x tn Pf PD CL NL VL CM pht vs ve cs ce q n ub ff nm k).G v:=Cn.g2 cm (f:=λub v=>Gp v x tn Pf PD CL NL VL CM pht vs ve cs ce q n ub ff nm k) (λj j j j j=>by kernel_rfl) ub v
theorem xt(v:WV)(x:Nm)(hx:x.isP=false)(ko:Option (Int×Tok))(tn:Tok):aS v.w 120 [] (.call (.ref 271) ⟨.str x.s tn::(match ko with|none=>[]|some k=>[.int k.1 k.2]),[]⟩) [] (aW (.ok (.ret (.ref x.f)))):=by
 cases x<;>first|cases hx;done|exact(mV v _ ko tn).ct [] λA s R j j j hR=>kr hR λj=>()
theorem xr(v:WV)(x:Nm)(hx:x.isP=true)(ko:Option (Int×Tok))(tn:Tok):aS v.w 120 [] (.call (.ref 271) ⟨.str x.s tn::(match ko with|none=>[]|some k=>[.int k.1 k.2]),[]⟩) [] (nh x.ff x.pn x.pk):=by
 cases x with
 |ngeom2=>exact(mV v _ ko tn).ct [] λA s R j j j hR=>kr hR λE=>⟨s.heap.objs.size+5,s.heap.objs.size+4,s.heap.objs.size+1,aq (E.lk 3),s.toks+12⟩
 |ngeom3=>exact(mV v _ ko tn).ct [] λA s R j j j hR=>kr hR λE=>⟨s.heap.objs.size+5,s.heap.objs.size+4,s.heap.objs.size+1,aq (E.lk 3),s.toks+12⟩
 |natleast2=>exact(mV v _ ko tn).ct [] λA s R j j j hR=>kr hR λE=>⟨s.heap.objs.size+6,s.heap.objs.size+5,s.heap.objs.size+2,aq (E.lk 4),s.toks+15⟩
 |_=>cases hx
theorem Al(v:WV)(x:Nm)(hx:x.isP=false)(tn:Tok):aS v.w 120 [] (.call (.ref 271) ⟨[.str x.s tn],[]⟩) [] (aW (.ok (.ret (.ref x.f)))):=xt v x hx none tn
theorem Ak(v:WV)(x:Nm)(hx:x.isP=true)(tn:Tok):aS v.w 120 [] (.call (.ref 271) ⟨[.str x.s tn],[]⟩) [] (nh x.ff x.pn x.pk):=xr v x hx none tn
theorem Aj(v:WV)(x:Nm)(hx:x.isP=false)(tn:Tok)(k:Int)(tk:Tok):aS v.w 120 [] (.call (.ref 271) ⟨[.str x.s tn,.int k tk],[]⟩) [] (aW (.ok (.ret (.ref x.f)))):=xt v x hx (some (k,tk)) tn
theorem Ai(v:WV)(x:Nm)(hx:x.isP=true)(tn:Tok)(k:Int)(tk:Tok):aS v.w 120 [] (.call (.ref 271) ⟨[.str x.s tn,.int k tk],[]⟩) [] (nh x.ff x.pn x.pk):=xr v x hx (some (k,tk)) tn
structure np where
 f:Addr
 t:Addr
 d:Nat
 ht:Nat→Int×Tok
 tk:Tok
noncomputable def Nm.bo(v:WV):Nm→Obj
 |.npav=>fC v.w.params|.nslav=>fB v.w.params|.nadams=>dX v.w.params|.ncc=>fz v.w.params|.nav=>fA v.w.params|_=>default
noncomputable def jB(v:WV)(x:Nm)(q:np)(Pf CM:Addr):LP:=
 {I:=0,L:=0,M:=0,V:=0,VD:=0,S:=0,Pf:=Pf,C:=CM,f:=q.f,so:=default,htv:=λj=>(0,0),i:=0,ti:=0,me:=0,ep:=0,wt:=0,twt:=0,fd:=m6 (x.bo v),fc:=(x.bo v).dict,fs:=(x.bo v).slots,fa:=x.ff,ft:=q.t,fk:=q.d+2}
noncomputable def cH(v:WV)(x:Nm)(q:np):List (Addr×Obj):=match x.isP with
 |false=>[(q.f,x.bo v)]
 |true=>[(q.f,dM x.ff q.t (q.d+2)),(q.t,aO #[] 0),(q.d+2,lm q.ht x.pn x.pk q.tk)]
noncomputable def np.ok(x:Nm)(q:np):Prop:=x.isP=false→q.f=x.f
theorem v3(v:WV)(x:Nm)(hx:x.isP=false):(⟨.type "function",(x.bo v).dict,.func (m6 (x.bo v)),(x.bo v).slots⟩:Obj)=x.bo v:=by
 cases x<;>first|(cases hx;done)|kernel_rfl
theorem iM(v:WV)(x:Nm)(q:np)(Pf CM:Addr):((jB v x q Pf CM).f,(jB v x q Pf CM).fo x.isP)∈cH v x q:=by
 unfold cH
 cases hx:x.isP with
 |false=>exact List.mem_singleton.mpr (congrArg (Prod.mk q.f) (v3 v x hx))
 |true=>exact .head _
theorem lA(v:WV)(x:Nm)(q:np)(hq:q.ok x):oH v x.j q.f (cH v x q):=by
 unfold cH
 cases hx:x.isP with
 |false=>
  have e:=hq hx
  rw[e]
  cases x<;>first|(cases hx;done)|constructor
 |true=>
  cases x with
  |ngeom2=>exact .geom2 _ _ _ _ _
  |ngeom3=>exact .geom3 _ _ _ _ _
  |natleast2=>exact .atl _ _ _ _ _
  |_=>cases hx
noncomputable def fR:bS Value:={res:=λy=>.ok (.ret y)}
noncomputable def AG(Pf PD CL NL VL CM:Addr)(pht:Nat→Int×Tok)(vl:List VM)(ve:Nat)(cs:List (Int×Tok))(ce:Nat):List (Addr×Obj):=
 [(Pf,dJ PD),(PD,dK pht CL NL VL),(VL,ac (bC vl) ve),(CM,ac (aa cs) ce)]
noncomputable def cU(x:Nm):Int:=match x with|.ngeom2|.ngeom3=>1296|_=>1260
theorem pX(x:Nm)(i:Nat)(h:i≤4):gY x.j i*(cU x:Rat)=(gA x i:Rat):=by
 match i,h with
 |0,_=>cases x<;>decide+kernel
 |1,_=>cases x<;>decide+kernel
 |2,_=>cases x<;>decide+kernel
 |3,_=>cases x<;>decide+kernel
 |4,_=>cases x<;>decide+kernel
 |i+5,h=>omega
theorem pY(x:Nm)(i:Nat)(h:i≤4):Dv (cU x) (gY x.j i):=⟨_,pX x i h⟩
theorem cf(x:Nm):0<cU x∧cU x<2 ^ 14:=by cases x<;>decide
theorem yq{o:Option Value}{b:Bool}(h:o.isSome=b):o=r7 b (o.getD .none):=by
 subst h
 cases o<;>rfl
theorem xn(v:WV)(x:Nm)(q:np)(hqx:q.ok x)(tn:Tok)(Pf CM VL L I2:Addr)(vl:List VM)(ve:Nat)(cs:List (Int×Tok))(ce:Nat)(l1:List Nat)(cnt:VM→Nat)
  (Cs:aS v.w 100 [(CM,ac (aa cs) ce)] (.call (.type "set") ⟨[.ref CM],[]⟩) [] (f7 l1 (!v.b3)))
  (Ca:∀y∈vl,∀X tx,Ct v.w 80 [(X,ba (ai l1 tx) l1.length (ak l1 (!v.b3))),(y.x.S,y.x.so)] aK (dx X y.x.S) [] br (λx2 z z=>∃P sl,bh v x2.a (ba x2.es x2.ep x2.t) x2.es x2.ep x2.t P sl∧P.length=cnt y∧∀y∈P,∃(c:Nat) (t:Tok),y=Value.int c t))
  (hcnt:∀y∈vl,cnt y≤4) (hwt:∀y∈vl,-(2 ^ 64)<y.x.wt∧y.x.wt<2 ^ 64) (hne:vl≠[]) (ht:Nat→Int×Tok) (u:Tok) (n0:Nat):
  Ct v.w 260 [(I2,aj (.ref VL) 0),(L,ck ht x.s tn Pf CM q.f (.int 0 u) none)] (λs=>n0≤s.heap.objs.size∧∃ht2,Kn (KB v.w) s ([(I2,aj (.ref VL) 0),(VL,ac (bC vl) ve),(L,ck ht2 x.s tn Pf CM q.f (.int 0 u) none),(CM,ac (aa cs) ce)]++cH v x q++dj vl)) (uD v.w L I2) [I2,L]
   (kH L I2 x.s tn Pf CM q.f vl.length (vl.any λy=>decide (0<cnt y))) (λy z s'=>cw v.w n0 s' y.sc (dy (gY x.j) cnt vl 0)∧iV y.sc=fg (iU x.j) cnt vl true):=by
 intro A s R hA _ ⟨hn0,ht2,hk⟩ hR
 have k0:Kn (KB v.w) s (lx x.isP {jB v x q Pf CM with L:=L} x.s tn I2 VL (bC vl) ve cs ce ht2 0 (.int 0 u) none++((jB v x q Pf CM).f,(jB v x q Pf CM).fo x.isP)::dj vl):=by
  have hm:=iM v x q Pf CM
  have:=hk.sub (List.Sublist.append (List.Sublist.append (List.Sublist.refl _) (List.singleton_sublist.mpr hm)) (List.Sublist.refl (dj vl)))
  rw[List.append_assoc]at this
  exact this
 have ks:Kn (KB v.w) s (cH v x q):=hk.sub ((List.sublist_append_right _ _).trans (List.sublist_append_left _ _))
 have hI:I2∉(cH v x q).map (·.1)∧L∉(cH v x q).map (·.1):=by
  have nd:=hk.nd
  rw[List.append_assoc,List.map_append,List.nodup_append]at nd
  have h3:=nd.2.2
  constructor
  ·intro h
   exact h3 I2 (by simp) I2 (by rw[List.map_append];exact List.mem_append_left _ h) rfl
  ·intro h
   exact h3 L (by simp) L (by rw[List.map_append];exact List.mem_append_left _ h) rfl
 have oI:=hk.off (I2,aj (.ref VL) 0) (by simp)
 have oL:=hk.off (L,ck ht2 x.s tn Pf CM q.f (.int 0 u) none) (by simp)
 refine xM v x.isP {jB v x q Pf CM with L:=L} x.s tn I2 VL vl ve cs ce l1 cnt (N:=cU x) (mv:=gY x.j) (kd:=iU x.j) (Pre:=λs=>Kn (KB v.w) s (cH v x q)) Cs Ca ?_ (cf x).1 (cf x).2 ?_ hwt hA vl 0 ht2 (.int 0 u) none 0 n0 s R rfl (Nat.zero_le _) (Dv.int _ 0) hn0 k0 (.int 0 u) ?_ ?_
 ·intro y hy i hi
  have:=(lA v x q hqx).kinds (i:=i+1) (by have:=hcnt y hy;omega)
  rw[show((i+1:Nat):Int)=(i:Int)+1 by omega]at this
  exact this
 ·intro y hy i hi
  exact pY x i (by have:=hcnt y hy;omega)
 ·intro s1 F K
  refine ks.after F (λa ha=>?_) λp hp h=>?_
  ·simp only[List.mem_cons,List.not_mem_nil,or_false]at ha
   rcases ha with rfl|rfl
   ·exact oI
   ·exact oL
  ·simp only[List.mem_cons,List.not_mem_nil,or_false]at h
   rcases h with h|h
   ·exact hI.1 (h▸List.mem_map_of_mem hp)
   ·exact hI.2 (h▸List.mem_map_of_mem hp)
 ·intro ht' sc' st' s' F K hn hi hc hs
  rcases st' with _|⟨V,c,cv⟩
  ·exfalso
   cases vl with
   |nil=>exact hne rfl
   |cons=>simp at hs
  ·refine hR ⟨ht',V,c.1,c.2,cv.getD .none,sc'⟩ s' F ?_ (by simp[kH]) ⟨hn,hi⟩
   simp only[kH,List.append_nil]
   rw[←yq (o:=cv) (by simpa using hc)]
   exact K
theorem rN(v:WV)(x:Nm)(q:np)(hqx:q.ok x)(tn:Tok)(Pf PD CL NL VL CM:Addr)(pht:Nat→Int×Tok)(vl:List VM)(ve:Nat)(cs:List (Int×Tok))(ce:Nat)(l1:List Nat)(cnt:VM→Nat)
  (Cs:aS v.w 100 [(CM,ac (aa cs) ce)] (.call (.type "set") ⟨[.ref CM],[]⟩) [] (f7 l1 (!v.b3)))
  (Ca:∀y∈vl,∀X tx,Ct v.w 80 [(X,ba (ai l1 tx) l1.length (ak l1 (!v.b3))),(y.x.S,y.x.so)] aK (dx X y.x.S) [] br (λx2 o o=>∃P sl,bh v x2.a (ba x2.es x2.ep x2.t) x2.es x2.ep x2.t P sl∧P.length=cnt y∧∀y∈P,∃(c:Nat) (t:Tok),y=Value.int c t))
  (hcnt:∀y∈vl,cnt y≤4) (hwt:∀y∈vl,-(2 ^ 64)<y.x.wt∧y.x.wt<2 ^ 64) (hne:vl≠[]) (hcs:cs.length≤4):
  Ct v.w 290 (AG Pf PD CL NL VL CM pht vl ve cs ce) (λs=>Kn (KB v.w) s (AG Pf PD CL NL VL CM pht vl ve cs ce++(match x.isP with|false=>cH v x q|true=>[])++dj vl)) (.call (.ref 278) ⟨[.str x.s tn,.ref Pf,.ref CM],[]⟩) [] fR
   (λy s s'=>cw v.w s.heap.objs.size s' y (dy (gY x.j) cnt vl 0)∧iV y=fg (iU x.j) cnt vl true):=by
 have Cl:aS v.w 20 [(CM,ac (aa cs) ce)] (.builtin "len" ⟨[.ref CM],[]⟩) [] (aw cs.length):=by
  have h:=fX v.w (L:=CM) (items:=aa cs) (ep:=ce) (by simp[aa];omega)
  rw[iW]at h
  exact h
 cases hx:x.isP with
 |false=>
  refine(xH v x.s tn Pf PD CL NL VL CM pht (bC vl) ve cs ce cs.length vl.length (vl.any λy=>decide (0<cnt y)) q.f).ct [] λA s R hA hk hK hR=>?_
  refine kc (λE=>Cl) λt1 o o o=>oO (λE=>hqx hx▸Aj v x hx tn _ _) λo o s3 s4 G4 o o o=>?_
  refine dF (λE=>xn v x q hqx tn Pf CM VL s.heap.objs.size (s4.heap.objs.size+1) vl ve cs ce l1 cnt Cs Ca hcnt hwt hne (aq (E.lk 4)) (s4.toks+1) s.heap.objs.size) (λE s5 F K5=>⟨F.size,aq (E.lk 4),?_⟩) fun(y:FI) s5 s6 hy=>
   Em λE s7 F L K o=>hR y.sc s7 F K (λo h=>nomatch h) ⟨hy.1.keep (W:=[]) L K.nil (λo h=>nomatch h),hy.2⟩
  exact(Kn.fresh (hK.sub (kn':=(VL,ac (bC vl) ve)::(CM,ac (aa cs) ce)::(cH v x q++dj vl)) (.cons _ (.cons _ (.refl _)))) F (λo h=>nomatch h) K5 (by
   intro p hp
   rcases List.mem_cons.mp hp with rfl|hp
   ·exact Nat.le_trans G4.size (Nat.le_add_right _ 1)
   ·rw[List.mem_singleton.mp hp];exact Nat.le_refl _)).perm (.cons _ (.swap _ _ _))
 |true=>
  refine(xG v x.s tn Pf PD CL NL VL CM pht (bC vl) ve cs ce cs.length vl.length (vl.any λy=>decide (0<cnt y)) x.ff x.pn x.pk).ct [] λA s R hA hk hK hR=>?_
  refine kX (λE A' s' R' hA o=>Cl A' s' R' hA) (λo o o o o o o o=>trivial) λ_ t1 s1 s2 _ _ _ (z1:s1.heap.objs.size=s.heap.objs.size+1) _ F2 _ _ _ _=>?_
  refine kX (λE A' s' R' hA o=>Ai v x hx tn _ _ A' s' R' hA) (λo o o o o o o o=>trivial) λ_ (g:Im) s3 s4 _ F3 _ _ _ _ G4 K4 ag _=>?_
  have l4:=G4.size
  have l3:s.heap.objs.size<s3.heap.objs.size:=by
   have h1:=F2.size
   rw[z1]at h1
   exact Nat.lt_of_lt_of_le (Nat.lt_succ_self _) (Nat.le_trans h1 F3.size)
  have kg:Kn (KB v.w) s4 (cH v x ⟨g.a,g.t,g.d,g.ht,g.tk⟩):=by
   unfold cH
   rw[hx]
   exact K4
  have kgn:∀p∈cH v x ⟨g.a,g.t,g.d,g.ht,g.tk⟩,s3.heap.objs.size≤p.1:=by
   unfold cH
   rw[hx]
   exact ag
  refine kX (P:=λz o s'=>cw v.w s.heap.objs.size s' z.sc (dy (gY x.j) cnt vl 0)∧iV z.sc=fg (iU x.j) cnt vl true) (λE A' s' R' hA o=>xn v x ⟨g.a,g.t,g.d,g.ht,g.tk⟩ (λh=>by rw[hx]at h;cases h) tn Pf CM VL s.heap.objs.size (s4.heap.objs.size+1) vl ve cs ce l1 cnt Cs Ca hcnt hwt hne (aq (E.lk 4)) (s4.toks+1) s.heap.objs.size A' s' R' hA) (λE s5 F F5 K5 o o o=>⟨F.size,aq (E.lk 4),?_⟩) λ_ (y:FI) s5 s6 _ _ _ _ _ _ _ _ _ hy=>
   Em λE s7 F L K o=>hR y.sc s7 F K (λo h=>nomatch h) ⟨hy.1.keep (W:=[]) L K.nil (λo h=>nomatch h),hy.2⟩
  have F5:ah s4 s5 [s.heap.objs.size]:=F5
  have kg5:Kn (KB v.w) s5 (cH v x ⟨g.a,g.t,g.d,g.ht,g.tk⟩):=kg.after F5 (λa ha=>bM hk (Nat.le_of_eq (List.mem_singleton.mp ha).symm)) λp hp h=>absurd l3 (Nat.not_lt.mpr (List.mem_singleton.mp h▸kgn p hp))
  have k0:Kn (KB v.w) s5 ([(s4.heap.objs.size+1,aj (.ref VL) 0),(s.heap.objs.size,ck (aq (E.lk 4)) x.s tn Pf CM g.a (.int 0 (s4.toks+1)) none)]++cH v x ⟨g.a,g.t,g.d,g.ht,g.tk⟩):=Kn.app K5 kg5 λp hp p2 hp2 e=>by
   have h1:=kgn p2 hp2
   have h2:=kg.lt hp2
   rcases List.mem_cons.mp hp with rfl|hp
   ·exact absurd h2 (Nat.not_lt.mpr (e▸Nat.le_add_right _ 1))
   ·rw[List.mem_singleton.mp hp]at e
    exact absurd l3 (Nat.not_lt.mpr (by rw[show s.heap.objs.size=p2.1 from e];exact h1))
  refine(Kn.fresh (hK.sub (kn':=(VL,ac (bC vl) ve)::(CM,ac (aa cs) ce)::dj vl) (.cons _ (.cons _ (.refl _)))) F (λo h=>nomatch h) k0 (by
   intro p hp
   rcases List.mem_append.mp hp with hp|hp
   ·rcases List.mem_cons.mp hp with rfl|hp
    ·exact Nat.le_trans l4 (Nat.le_add_right _ 1)
    ·rw[List.mem_singleton.mp hp];exact Nat.le_refl _
   ·exact Nat.le_trans (Nat.le_of_lt l3) (kgn p hp))).perm ?_
  rw[List.append_assoc,List.append_assoc]
  exact .cons _ (.trans (.cons _ List.perm_middle) (.trans (.swap _ _ _) (.cons _ (.cons _ List.perm_middle))))
set_option backward.match.sparseCases false in
noncomputable def zL(e:Expr):Expr:=match e with|.Compare l _ _ _=>l|_=>default
set_option backward.match.sparseCases false in
noncomputable def Cq(e:Expr):Expr:=match e with|.Compare _ _ r _=>(match r with|x::_=>x|_=>default)|_=>default
set_option backward.match.sparseCases false in
noncomputable def HD(e:Expr)(i:Nat):Expr:=match e with|.BoolOp _ vs _=>(match(vs[i]?:Option Expr)with|some x=>x|none=>default)|_=>default
set_option backward.match.sparseCases false in
noncomputable def Fx(e:Expr):Expr:=match e with|.BinOp _ _ r _=>r|_=>default
set_option backward.match.sparseCases false in
noncomputable def EK(e:Expr):Expr:=match e with|.UnaryOp _ x _=>x|_=>default
set_option backward.match.sparseCases false in
noncomputable def FE(e:Expr)(i:Nat):Expr:=match e with|.Call _ as _ _=>(match(as[i]?:Option Expr)with|some x=>x|none=>default)|_=>default
noncomputable def FB(w:World):List Stmt:=qN ((aH (nY w))[10]?)
noncomputable def FA(w:World):List Stmt:=qN ((aH (nY w))[12]?)
noncomputable def HO(w:World):List Stmt:=qN ((FA w)[2]?)
noncomputable def EA(w:World):Expr:=rt ((FB w)[2]?)
noncomputable def AB(w:World):Expr:=zL (HD (Eo ((FB w)[3]?)) 1)
noncomputable def EC(w:World):Expr:=zL (HD (Eo ((FB w)[4]?)) 2)
noncomputable def Ez(w:World):Expr:=FE (Fx (Cq (EK (Eo ((HO w)[0]?))))) 2
noncomputable def AC(w:World):Expr:=zL (Eo ((HO w)[1]?))
noncomputable def AD(w:World):Expr:=rt ((FA w)[3]?)
noncomputable def IK(Z:Nat):List (Str×Addr):=[(pM,Z+12),(cQ,Z+11),(vv,Z+10),(lO,Z+9),(f4,Z+8),(j9,Z+7),(am,Z+6),(iQ,Z+5),(ic,Z+4),(lP,Z+3),(aV,Z+2),(mO,Z+1)]
noncomputable def eh(w:World)(Z:Nat):Env:=q6 (nY w) 557 Z (IK Z)
set_option backward.match.sparseCases false in
noncomputable def oD(w:World)(Z I:Nat):Code:=match((aH (nY w))[10]?:Option Stmt)with
 |some (Stmt.For t _ b o _)=>.forLoop t (.ref I) b o (eh w Z)
 |_=>.block [] default
noncomputable def uE(w:World)(Z I:Nat):Code:=match((aH (nY w))[12]?:Option Stmt)with
 |some (Stmt.For t _ b o _)=>.forLoop t (.ref I) b o (eh w Z)
 |_=>.block [] default
noncomputable def r8(w:World)(Z I:Nat):Code:=match((FA w)[2]?:Option Stmt)with
 |some (Stmt.For t _ b o _)=>.forLoop t (.ref I) b o (eh w Z)
 |_=>.block [] default
inductive Dk|d20|d21|d30|d31|d32|d40|d41|d42|d43
noncomputable def g8:En Dk:=oq [.d20,.d21,.d30,.d31,.d32,.d40,.d41,.d42,.d43] Dk.ctorIdx (λt=>by cases t<;>rfl)
noncomputable def Dk.z:Dk→Sz|.d20=>.s2|.d21=>.s2|.d30=>.s3|.d31=>.s3|.d32=>.s3|.d40=>.s4|.d41=>.s4|.d42=>.s4|.d43=>.s4
noncomputable def Dk.k:Dk→Nat|.d20=>0|.d21=>1|.d30=>0|.d31=>1|.d32=>2|.d40=>0|.d41=>1|.d42=>2|.d43=>3
noncomputable def je(st:Bool)(w:World)(Z I D C:Nat):Code:=hE st (EA w) (eh w Z) [(lP,Z+3),(vv,Z+10),(aV,Z+2),(am,Z+6),(iQ,Z+5)] I D C
noncomputable def fw(st:Bool)(w:World)(Z I D C:Nat):Code:=hE st (AB w) (eh w Z) [(lO,Z+9),(lP,Z+3),(pM,Z+12)] I D C
noncomputable def cJ(st:Bool)(w:World)(Z I D C:Nat):Code:=hE st (AC w) (eh w Z) [(lO,Z+9),(am,Z+6),(cQ,Z+11)] I D C
noncomputable def gN(st:Bool)(w:World)(Z I D C:Nat):Code:=hE st (Ez w) (eh w Z) [(cQ,Z+11)] I D C
noncomputable def fx(st:Bool)(w:World)(Z I D C:Nat):Code:=hE st (AD w) (eh w Z) [(f4,Z+8)] I D C
noncomputable def mm(st:Bool)(w:World)(Z I D C:Nat):Code:=hE st (EC w) (eh w Z) [(pM,Z+12),(j9,Z+7)] I D C
noncomputable def Hs(v:WV)(x:Nm)(BK CM:Addr)(cs:List (Int×Tok))(ce:Nat)(tn:Tok)(now:Int)(tw:Tok)(sz:Int)(ts:Tok)(Z I D C:Nat)(z:Sz)(ht:Nat→Int×Tok):Cn:=⟨40,[(I,ay 0 z.n),(D,ac #[] 0),(C,bO ht [] 0),(Z+5,af (.ref BK)),(Z+6,af (.ref CM)),(Z+2,af (.str x.s tn)),(Z+10,af (.int now tw)),(Z+3,af (.int sz ts)),(CM,ac (aa cs) ce)],je true v.w Z I D C,λzn zu=>.tail {js:=[0,1,2,3,4,5,6,7,8],cnt:=(match v.b2 with|true=>0|false=>2),N:=(match v.b2 with|true=>6|false=>16),orc:=(match v.b2 with|true=>([])|false=>(dz 4 2113665))} (je false v.w Z I D C) (λE=>[(I,ay 0 z.n),(D,ac #[] 0),(C,bO ht [] 0),(Z+5,af (.ref BK)),(Z+6,af (.ref CM)),(Z+2,af (.str x.s tn)),(Z+10,af (.int now tw)),(Z+3,af (.int sz ts)),(CM,ac (aa cs) ce)])⟩
theorem zA v x BK CM cs ce tn now tw sz ts Z I D C z ht:(Hs v x BK CM cs ce tn now tw sz ts Z I D C z ht).G v:=Cn.h2 dG (f:=λz v=>Hs v x BK CM cs ce tn now tw sz ts Z I D C z ht) (λj j j j=>by kernel_rfl) z v
noncomputable def Hu(v:WV)(x:Nm)(BK CM:Addr)(cs:List (Int×Tok))(ce:Nat)(tn:Tok)(now:Int)(tw:Tok)(sz:Int)(ts:Tok)(Z I D C:Nat)(d:Dk)(a:Nat→Int×Tok)(ht:Nat→Int×Tok)(cv:Option Value):Cn:=⟨230,[(I,ay (d.k:Nat) ((d.z.n-d.k:Nat):Int)),(D,ac (aa (kl d.k a)) d.k),(C,aB ht cQ cv),(Z+5,af (.ref BK)),(Z+6,af (.ref CM)),(Z+2,af (.str x.s tn)),(Z+10,af (.int now tw)),(Z+3,af (.int sz ts)),(CM,ac (aa cs) ce)],je false v.w Z I D C,λzn zu=>.cut {ws:=[0,2],js:=[8],u:=2,K:=1,cnt:=2,N:=33,orc:=(dz 15 2874593942202922127375149842561),wa:=[I,C]} (.call (.builtin "list.__contains__") ⟨[.ref CM,.int d.k zu],[]⟩) (λj=>[(CM,ac (aa cs) ce)]) (λj=>aM true) λj n1 u1=>.tail {ws:=[1],js:=[0,1,2,3,4,5,6,7,8],u:=1,cnt:=4,N:=19,orc:=(dz 5 541098248),wa:=[D]} (je false v.w Z I D C) (λE=>[(I,ay (d.k+1:Nat) ((d.z.n-(d.k+1):Nat):Int)),(D,ac ((aa (kl d.k a)).push (.int (-sz) u1)) (d.k+1)),(C,aB (aq (E.lk 2)) cQ (some (.int d.k zu))),(Z+5,af (.ref BK)),(Z+6,af (.ref CM)),(Z+2,af (.str x.s tn)),(Z+10,af (.int now tw)),(Z+3,af (.int sz ts)),(CM,ac (aa cs) ce)])⟩
theorem zC v x BK CM cs ce tn now tw sz ts Z I D C d a ht cv:(Hu v x BK CM cs ce tn now tw sz ts Z I D C d a ht cv).G v:=Cn.g3 (cz _) g8 (f:=λcv d v=>Hu v x BK CM cs ce tn now tw sz ts Z I D C d a ht cv) (λj j j j j=>by kernel_rfl) cv d v
noncomputable def Ht(v:WV)(x:Nm)(BK CM:Addr)(cs:List (Int×Tok))(ce:Nat)(tn:Tok)(now:Int)(tw:Tok)(sz:Int)(ts:Tok)(Z I D C:Nat)(d:Dk)(a:Nat→Int×Tok)(ht:Nat→Int×Tok)(cv:Option Value)(sc:Int):Cn:=⟨230,[(I,ay (d.k:Nat) ((d.z.n-d.k:Nat):Int)),(D,ac (aa (kl d.k a)) d.k),(C,aB ht cQ cv),(Z+5,af (.ref BK)),(Z+6,af (.ref CM)),(Z+2,af (.str x.s tn)),(Z+10,af (.int now tw)),(Z+3,af (.int sz ts)),(CM,ac (aa cs) ce)],je false v.w Z I D C,λzn zu=>.cut {ws:=[0,2],js:=[8],u:=2,K:=1,cnt:=2,N:=33,orc:=(dz 15 2874593942202922127375149842561),wa:=[I,C]} (.call (.builtin "list.__contains__") ⟨[.ref CM,.int d.k zu],[]⟩) (λj=>[(CM,ac (aa cs) ce)]) (λj=>aM false) λj n1 u1=>.cut {js:=[8,9],i:=1,K:=1,N:=22,orc:=(dz 8 5110840099406592)} (.call (.builtin "list.__add__") ⟨[.ref CM,.ref n1],[]⟩) (λj=>[(CM,ac (aa cs) ce),(n1,ac #[.int d.k zu] 0)]) (λj=>aD (ac (aa (cs++[((d.k:Int),zu)])) 0)) λN n2 u2=>.cut {js:=[10],K:=1,N:=8,orc:=(dz 1 0)} (.call (.ref 540) ⟨[.str x.s tn,.ref BK,.ref N],[]⟩) (λj=>[(N,ac (aa (cs++[((d.k:Int),zu)])) 0)]) (λj=>aw sc) λt3 n3 u3=>.tail {ws:=[1],js:=[0,1,2,3,4,5,6,7,8],u:=1,cnt:=4,N:=20,orc:=(dz 5 541098247),wa:=[D]} (je false v.w Z I D C) (λE=>[(I,ay (d.k+1:Nat) ((d.z.n-(d.k+1):Nat):Int)),(D,ac ((aa (kl d.k a)).push (.int (sc-now) u3)) (d.k+1)),(C,aB (aq (E.lk 2)) cQ (some (.int d.k zu))),(Z+5,af (.ref BK)),(Z+6,af (.ref CM)),(Z+2,af (.str x.s tn)),(Z+10,af (.int now tw)),(Z+3,af (.int sz ts)),(CM,ac (aa cs) ce)])⟩
theorem zB v x BK CM cs ce tn now tw sz ts Z I D C d a ht cv sc:(Ht v x BK CM cs ce tn now tw sz ts Z I D C d a ht cv sc).G v:=Cn.g3 (cz _) g8 (f:=λcv d v=>Ht v x BK CM cs ce tn now tw sz ts Z I D C d a ht cv sc) (λj j j j j=>by kernel_rfl) cv d v
noncomputable def Hv(v:WV)(x:Nm)(BK CM:Addr)(cs:List (Int×Tok))(ce:Nat)(tn:Tok)(now:Int)(tw:Tok)(sz:Int)(ts:Tok)(Z I D C:Nat)(z:Sz)(acc:Array Value)(ae:Nat)(ht:Nat→Int×Tok)(cv:Option Value):Cn:=⟨40,[(I,ay z.n 0),(D,ac acc ae),(C,aB ht cQ cv),(Z+5,af (.ref BK)),(Z+6,af (.ref CM)),(Z+2,af (.str x.s tn)),(Z+10,af (.int now tw)),(Z+3,af (.int sz ts)),(CM,ac (aa cs) ce)],je false v.w Z I D C,λzn zu=>.fin {js:=[0,1,2],i:=2,cnt:=2,N:=19,orc:=(dz 6 378227671169)} (.ok .next) (λE=>[(I,ay z.n 0),(D,ac acc ae),(C,aB ht cQ cv)])⟩
theorem zD v x BK CM cs ce tn now tw sz ts Z I D C z acc ae ht cv:(Hv v x BK CM cs ce tn now tw sz ts Z I D C z acc ae ht cv).G v:=Cn.g3 (cz _) dG (f:=λcv z v=>Hv v x BK CM cs ce tn now tw sz ts Z I D C z acc ae ht cv) (λj j j j j=>by kernel_rfl) cv z v
noncomputable def Gr(v:WV)(TL DU:Addr)(items:Array Value)(te:Nat)(ds:List (Int×Tok))(de:Nat)(sz:Int)(ts:Tok)(Z I D C:Nat)(z:Sz)(ht:Nat→Int×Tok):Cn:=⟨40,[(I,ay 0 z.n),(D,ac #[] 0),(C,bO ht [] 0),(Z+9,af (.ref TL)),(Z+3,af (.int sz ts)),(Z+12,af (.ref DU)),(TL,ac items te),(DU,ac (aa ds) de)],fw true v.w Z I D C,λzn zu=>.tail {js:=[0,1,2,3,4,5,6,7],cnt:=(match v.b2 with|true=>0|false=>2),N:=(match v.b2 with|true=>6|false=>16),orc:=(match v.b2 with|true=>([])|false=>(dz 4 2113665))} (fw false v.w Z I D C) (λE=>[(I,ay 0 z.n),(D,ac #[] 0),(C,bO ht [] 0),(Z+9,af (.ref TL)),(Z+3,af (.int sz ts)),(Z+12,af (.ref DU)),(TL,ac items te),(DU,ac (aa ds) de)])⟩
theorem xO v TL DU items te ds de sz ts Z I D C z ht:(Gr v TL DU items te ds de sz ts Z I D C z ht).G v:=Cn.h2 dG (f:=λz v=>Gr v TL DU items te ds de sz ts Z I D C z ht) (λj j j j=>by kernel_rfl) z v
noncomputable def Gs(v:WV)(TL DU:Addr)(items:Array Value)(te:Nat)(ds:List (Int×Tok))(de:Nat)(sz:Int)(ts:Tok)(Z I D C:Nat)(d:Dk)(ht:Nat→Int×Tok)(cv:Option Value)(k:Int)(tk:Tok)(dv:Int)(td:Tok):Cn:=⟨230,[(I,ay (d.k:Nat) ((d.z.n-d.k:Nat):Int)),(D,ac #[] 0),(C,aB ht cQ cv),(Z+9,af (.ref TL)),(Z+3,af (.int sz ts)),(Z+12,af (.ref DU)),(TL,ac items te),(DU,ac (aa ds) de)],fw false v.w Z I D C,λzn zu=>.cut {ws:=[0,2],js:=[6],u:=2,K:=1,cnt:=2,N:=34,orc:=(dz 16 286189512798544551624483775987841),wa:=[I,C]} (.call (.builtin "list.__getitem__") ⟨[.ref TL,.int d.k zu],[]⟩) (λj=>[(TL,ac items te)]) (λj=>aW (.ok (.ret (.int k tk)))) λj n1 u1=>.cut {js:=[7],u:=1,K:=1,N:=17,orc:=(dz 7 35461403869317),ps:=[IntMulOk k sz]} (.call (.builtin "list.__getitem__") ⟨[.ref DU,.int d.k zu],[]⟩) (λj=>[(DU,ac (aa ds) de)]) (λj=>aW (.ok (.ret (.int dv td)))) λj n2 u2=>.tail {js:=[0,1,2,3,4,5,6,7],N:=8,orc:=(dz 1 1),ps:=[k*sz=dv]} (fw false v.w Z I D C) (λE=>[(I,ay (d.k+1:Nat) ((d.z.n-(d.k+1):Nat):Int)),(D,ac #[] 0),(C,aB (aq (E.lk 2)) cQ (some (.int d.k zu))),(Z+9,af (.ref TL)),(Z+3,af (.int sz ts)),(Z+12,af (.ref DU)),(TL,ac items te),(DU,ac (aa ds) de)])⟩
theorem xQ v TL DU items te ds de sz ts Z I D C d ht cv k tk dv td:(Gs v TL DU items te ds de sz ts Z I D C d ht cv k tk dv td).G v:=Cn.g3 (cz _) g8 (f:=λcv d v=>Gs v TL DU items te ds de sz ts Z I D C d ht cv k tk dv td) (λj j j j j=>by kernel_rfl) cv d v
noncomputable def Gu(v:WV)(TL DU:Addr)(items:Array Value)(te:Nat)(ds:List (Int×Tok))(de:Nat)(sz:Int)(ts:Tok)(Z I D C:Nat)(d:Dk)(ht:Nat→Int×Tok)(cv:Option Value)(a b:Addr)(ht2:Nat→Int×Tok)(q q1:Rat)(tn td2:Tok)(dv:Int)(td:Tok):Cn:=⟨230,[(I,ay (d.k:Nat) ((d.z.n-d.k:Nat):Int)),(D,ac #[] 0),(C,aB ht cQ cv),(Z+9,af (.ref TL)),(Z+3,af (.int sz ts)),(Z+12,af (.ref DU)),(TL,ac items te),(DU,ac (aa ds) de),(a,bn b),(b,cu ht2 q.num tn q.den td2)],fw false v.w Z I D C,λzn zu=>.cut {ws:=[0,2],js:=[6],u:=2,K:=1,cnt:=2,N:=34,orc:=(dz 16 286189512798544551624483775987841),wa:=[I,C]} (.call (.builtin "list.__getitem__") ⟨[.ref TL,.int d.k zu],[]⟩) (λj=>[(TL,ac items te)]) (λj=>aW (.ok (.ret (.ref a)))) λj n1 u1=>.cut {js:=[8,9],K:=1,N:=24,orc:=(dz 17 174085318024506601157690501)} (.call (.ref 178) ⟨[.ref a,.int sz ts],[]⟩) (λj=>aJ a b ht2 q.num tn q.den td2) (λj=>ar q1) λy n2 u2=>.cut {js:=[7],K:=1,N:=13,orc:=(dz 5 2164392326)} (.call (.builtin "list.__getitem__") ⟨[.ref DU,.int d.k zu],[]⟩) (λj=>[(DU,ac (aa ds) de)]) (λj=>aW (.ok (.ret (.int dv td)))) λj n3 u3=>.cut {js:=[10,11],K:=1,N:=13,orc:=(dz 6 1419)} (.call (.ref 206) ⟨[.ref y.a,.int dv td],[]⟩) (λj=>aJ y.a y.b y.ht q1.num y.tn q1.den y.td) (λj=>aM true) λj n4 u4=>.tail {js:=[0,1,2,3,4,5,6,7],N:=5} (fw false v.w Z I D C) (λE=>[(I,ay (d.k+1:Nat) ((d.z.n-(d.k+1):Nat):Int)),(D,ac #[] 0),(C,aB (aq (E.lk 2)) cQ (some (.int d.k zu))),(Z+9,af (.ref TL)),(Z+3,af (.int sz ts)),(Z+12,af (.ref DU)),(TL,ac items te),(DU,ac (aa ds) de)])⟩
theorem xR v TL DU items te ds de sz ts Z I D C d ht cv a b ht2 q q1 tn td2 dv td:(Gu v TL DU items te ds de sz ts Z I D C d ht cv a b ht2 q q1 tn td2 dv td).G v:=Cn.g3 (cz _) g8 (f:=λcv d v=>Gu v TL DU items te ds de sz ts Z I D C d ht cv a b ht2 q q1 tn td2 dv td) (λj j j j j=>by kernel_rfl) cv d v
noncomputable def Gv(v:WV)(TL DU:Addr)(items:Array Value)(te:Nat)(ds:List (Int×Tok))(de:Nat)(sz:Int)(ts:Tok)(Z I D C:Nat)(z:Sz)(acc:Array Value)(ae:Nat)(ht:Nat→Int×Tok)(cv:Option Value):Cn:=⟨40,[(I,ay z.n 0),(D,ac acc ae),(C,aB ht cQ cv),(Z+9,af (.ref TL)),(Z+3,af (.int sz ts)),(Z+12,af (.ref DU)),(TL,ac items te),(DU,ac (aa ds) de)],fw false v.w Z I D C,λzn zu=>.fin {js:=[0,1,2],i:=2,cnt:=2,N:=19,orc:=(dz 6 343867932801)} (.ok .next) (λE=>[(I,ay z.n 0),(D,ac acc ae),(C,aB ht cQ cv)])⟩
theorem xS v TL DU items te ds de sz ts Z I D C z acc ae ht cv:(Gv v TL DU items te ds de sz ts Z I D C z acc ae ht cv).G v:=Cn.g3 (cz _) dG (f:=λcv z v=>Gv v TL DU items te ds de sz ts Z I D C z acc ae ht cv) (λj j j j j=>by kernel_rfl) cv z v
noncomputable def HK(v:WV)(BE DU:Addr)(bs:List (Int×Tok))(be:Nat)(ds:List (Int×Tok))(de:Nat)(Z I D C:Nat)(z:Sz)(ht:Nat→Int×Tok):Cn:=⟨40,[(I,ay 0 z.n),(D,ac #[] 0),(C,bO ht [] 0),(Z+7,af (.ref BE)),(Z+12,af (.ref DU)),(BE,ac (aa bs) be),(DU,ac (aa ds) de)],mm true v.w Z I D C,λzn zu=>.tail {js:=[0,1,2,3,4,5,6],cnt:=(match v.b2 with|true=>0|false=>2),N:=(match v.b2 with|true=>6|false=>16),orc:=(match v.b2 with|true=>([])|false=>(dz 4 2113665))} (mm false v.w Z I D C) (λE=>[(I,ay 0 z.n),(D,ac #[] 0),(C,bO ht [] 0),(Z+7,af (.ref BE)),(Z+12,af (.ref DU)),(BE,ac (aa bs) be),(DU,ac (aa ds) de)])⟩
theorem zS v BE DU bs be ds de Z I D C z ht:(HK v BE DU bs be ds de Z I D C z ht).G v:=Cn.h2 dG (f:=λz v=>HK v BE DU bs be ds de Z I D C z ht) (λj j j j=>by kernel_rfl) z v
noncomputable def HJ(v:WV)(BE DU:Addr)(bs:List (Int×Tok))(be:Nat)(ds:List (Int×Tok))(de:Nat)(Z I D C:Nat)(d:Dk)(ht:Nat→Int×Tok)(cv:Option Value)(bv:Int)(tb:Tok)(dv:Int)(td:Tok):Cn:=⟨230,[(I,ay (d.k:Nat) ((d.z.n-d.k:Nat):Int)),(D,ac #[] 0),(C,aB ht cQ cv),(Z+7,af (.ref BE)),(Z+12,af (.ref DU)),(BE,ac (aa bs) be),(DU,ac (aa ds) de)],mm false v.w Z I D C,λzn zu=>.cut {ws:=[0,2],js:=[6],u:=2,K:=1,cnt:=2,N:=34,orc:=(dz 16 286189512949660279076312422826113),wa:=[I,C]} (.call (.builtin "list.__getitem__") ⟨[.ref DU,.int d.k zu],[]⟩) (λj=>[(DU,ac (aa ds) de)]) (λj=>aW (.ok (.ret (.int dv td)))) λj n1 u1=>.cut {js:=[5],K:=1,N:=13,orc:=(dz 5 1623294340)} (.call (.builtin "list.__getitem__") ⟨[.ref BE,.int d.k zu],[]⟩) (λj=>[(BE,ac (aa bs) be)]) (λj=>aW (.ok (.ret (.int bv tb)))) λj n2 u2=>.tail {js:=[0,1,2,3,4,5,6],N:=8,orc:=(dz 1 2),ps:=[dv≤bv]} (mm false v.w Z I D C) (λE=>[(I,ay (d.k+1:Nat) ((d.z.n-(d.k+1):Nat):Int)),(D,ac #[] 0),(C,aB (aq (E.lk 2)) cQ (some (.int d.k zu))),(Z+7,af (.ref BE)),(Z+12,af (.ref DU)),(BE,ac (aa bs) be),(DU,ac (aa ds) de)])⟩
theorem zR v BE DU bs be ds de Z I D C d ht cv bv tb dv td:(HJ v BE DU bs be ds de Z I D C d ht cv bv tb dv td).G v:=Cn.g3 (cz _) g8 (f:=λcv d v=>HJ v BE DU bs be ds de Z I D C d ht cv bv tb dv td) (λj j j j j=>by kernel_rfl) cv d v
noncomputable def HL(v:WV)(BE DU:Addr)(bs:List (Int×Tok))(be:Nat)(ds:List (Int×Tok))(de:Nat)(Z I D C:Nat)(z:Sz)(acc:Array Value)(ae:Nat)(ht:Nat→Int×Tok)(cv:Option Value):Cn:=⟨40,[(I,ay z.n 0),(D,ac acc ae),(C,aB ht cQ cv),(Z+7,af (.ref BE)),(Z+12,af (.ref DU)),(BE,ac (aa bs) be),(DU,ac (aa ds) de)],mm false v.w Z I D C,λzn zu=>.fin {js:=[0,1,2],i:=2,cnt:=2,N:=19,orc:=(dz 6 309508194433)} (.ok .next) (λE=>[(I,ay z.n 0),(D,ac acc ae),(C,aB ht cQ cv)])⟩
theorem zT v BE DU bs be ds de Z I D C z acc ae ht cv:(HL v BE DU bs be ds de Z I D C z acc ae ht cv).G v:=Cn.g3 (cz _) dG (f:=λcv z v=>HL v BE DU bs be ds de Z I D C z acc ae ht cv) (λj j j j j=>by kernel_rfl) cv z v
noncomputable def GP(v:WV)(TL CM:Addr)(items:Array Value)(te:Nat)(cs:List (Int×Tok))(ce:Nat)(c:Int)(tc:Tok)(Z I D C:Nat)(z:Sz)(ht:Nat→Int×Tok):Cn:=⟨40,[(I,ay 0 z.n),(D,ac #[] 0),(C,bO ht [] 0),(Z+11,af (.int c tc)),(Z+6,af (.ref CM)),(Z+9,af (.ref TL)),(TL,ac items te),(CM,ac (aa cs) ce)],cJ true v.w Z I D C,λzn zu=>.tail {js:=[0,1,2,3,4,5,6,7],cnt:=(match v.b2 with|true=>0|false=>2),N:=(match v.b2 with|true=>6|false=>16),orc:=(match v.b2 with|true=>([])|false=>(dz 4 2113665))} (cJ false v.w Z I D C) (λE=>[(I,ay 0 z.n),(D,ac #[] 0),(C,bO ht [] 0),(Z+11,af (.int c tc)),(Z+6,af (.ref CM)),(Z+9,af (.ref TL)),(TL,ac items te),(CM,ac (aa cs) ce)])⟩
theorem yB v TL CM items te cs ce c tc Z I D C z ht:(GP v TL CM items te cs ce c tc Z I D C z ht).G v:=Cn.h2 dG (f:=λz v=>GP v TL CM items te cs ce c tc Z I D C z ht) (λj j j j=>by kernel_rfl) z v
noncomputable def GO(v:WV)(TL CM:Addr)(items:Array Value)(te:Nat)(cs:List (Int×Tok))(ce:Nat)(c:Int)(tc:Tok)(Z I D C:Nat)(d:Dk)(ht:Nat→Int×Tok)(cv:Option Value):Cn:=⟨230,[(I,ay (d.k:Nat) ((d.z.n-d.k:Nat):Int)),(D,ac #[] 0),(C,aB ht aG cv),(Z+11,af (.int c tc)),(Z+6,af (.ref CM)),(Z+9,af (.ref TL)),(TL,ac items te),(CM,ac (aa cs) ce)],cJ false v.w Z I D C,λzn zu=>.cut {ws:=[0,2],js:=[7],u:=2,K:=1,cnt:=2,N:=33,orc:=(dz 15 2555205412067294016451175792769),wa:=[I,C]} (.call (.builtin "list.__contains__") ⟨[.ref CM,.int d.k zu],[]⟩) (λj=>[(CM,ac (aa cs) ce)]) (λj=>aM true) λj n1 u1=>.tail {js:=[0,1,2,3,4,5,6,7],N:=5} (cJ false v.w Z I D C) (λE=>[(I,ay (d.k+1:Nat) ((d.z.n-(d.k+1):Nat):Int)),(D,ac #[] 0),(C,aB (aq (E.lk 2)) aG (some (.int d.k zu))),(Z+11,af (.int c tc)),(Z+6,af (.ref CM)),(Z+9,af (.ref TL)),(TL,ac items te),(CM,ac (aa cs) ce)])⟩
theorem yA v TL CM items te cs ce c tc Z I D C d ht cv:(GO v TL CM items te cs ce c tc Z I D C d ht cv).G v:=Cn.g3 (cz _) g8 (f:=λcv d v=>GO v TL CM items te cs ce c tc Z I D C d ht cv) (λj j j j j=>by kernel_rfl) cv d v
noncomputable def Bt(v:WV)(TL CM:Addr)(items:Array Value)(te:Nat)(cs:List (Int×Tok))(ce:Nat)(c:Int)(tc:Tok)(Z I D C:Nat)(d:Dk)(ht:Nat→Int×Tok)(cv:Option Value)(k1:Int)(t1:Tok)(k2:Int)(t2:Tok):Cn:=⟨230,[(I,ay (d.k:Nat) ((d.z.n-d.k:Nat):Int)),(D,ac #[] 0),(C,aB ht aG cv),(Z+11,af (.int c tc)),(Z+6,af (.ref CM)),(Z+9,af (.ref TL)),(TL,ac items te),(CM,ac (aa cs) ce)],cJ false v.w Z I D C,λzn zu=>.cut {ws:=[0,2],js:=[7],u:=2,K:=1,cnt:=2,N:=33,orc:=(dz 15 2555205412067294016451175792769),wa:=[I,C]} (.call (.builtin "list.__contains__") ⟨[.ref CM,.int d.k zu],[]⟩) (λj=>[(CM,ac (aa cs) ce)]) (λj=>aM false) λj n1 u1=>.cut {js:=[6],K:=1,N:=13,orc:=(dz 5 1893843334)} (.call (.builtin "list.__getitem__") ⟨[.ref TL,.int d.k zu],[]⟩) (λj=>[(TL,ac items te)]) (λj=>aW (.ok (.ret (.int k1 t1)))) λj n2 u2=>.cut {js:=[6],K:=1,N:=13,orc:=(dz 5 1893843462)} (.call (.builtin "list.__getitem__") ⟨[.ref TL,.int c tc],[]⟩) (λj=>[(TL,ac items te)]) (λj=>aW (.ok (.ret (.int k2 t2)))) λj n3 u3=>.tail {js:=[0,1,2,3,4,5,6,7],N:=8,orc:=(dz 1 1),ps:=[k2<k1]} (cJ false v.w Z I D C) (λE=>[(I,ay (d.k+1:Nat) ((d.z.n-(d.k+1):Nat):Int)),(D,ac #[] 0),(C,aB (aq (E.lk 2)) aG (some (.int d.k zu))),(Z+11,af (.int c tc)),(Z+6,af (.ref CM)),(Z+9,af (.ref TL)),(TL,ac items te),(CM,ac (aa cs) ce)])⟩
theorem tl v TL CM items te cs ce c tc Z I D C d ht cv k1 t1 k2 t2:(Bt v TL CM items te cs ce c tc Z I D C d ht cv k1 t1 k2 t2).G v:=Cn.g3 (cz _) g8 (f:=λcv d v=>Bt v TL CM items te cs ce c tc Z I D C d ht cv k1 t1 k2 t2) (λj j j j j=>by kernel_rfl) cv d v
noncomputable def Bw(v:WV)(TL CM:Addr)(items:Array Value)(te:Nat)(cs:List (Int×Tok))(ce:Nat)(c:Int)(tc:Tok)(Z I D C:Nat)(d:Dk)(ht:Nat→Int×Tok)(cv:Option Value)(a b a2 bb:Addr):Cn:=⟨230,[(I,ay (d.k:Nat) ((d.z.n-d.k:Nat):Int)),(D,ac #[] 0),(C,aB ht aG cv),(Z+11,af (.int c tc)),(Z+6,af (.ref CM)),(Z+9,af (.ref TL)),(TL,ac items te),(CM,ac (aa cs) ce),(a,bn b),(a2,bn bb)],cJ false v.w Z I D C,λzn zu=>.cut {ws:=[0,2],js:=[7],u:=2,K:=1,cnt:=2,N:=33,orc:=(dz 15 2555205412067294016451175792769),wa:=[I,C]} (.call (.builtin "list.__contains__") ⟨[.ref CM,.int d.k zu],[]⟩) (λj=>[(CM,ac (aa cs) ce)]) (λj=>aM false) λj n1 u1=>.cut {js:=[6],K:=1,N:=13,orc:=(dz 5 1893843334)} (.call (.builtin "list.__getitem__") ⟨[.ref TL,.int d.k zu],[]⟩) (λj=>[(TL,ac items te)]) (λj=>aW (.ok (.ret (.ref a)))) λj n2 u2=>.cut {js:=[6],K:=1,N:=13,orc:=(dz 5 1893843462)} (.call (.builtin "list.__getitem__") ⟨[.ref TL,.int c tc],[]⟩) (λj=>[(TL,ac items te)]) (λj=>aW (.ok (.ret (.ref a2)))) λj n3 u3=>.cut {K:=1,N:=14,orc:=(dz 7 148745)} (.call (.ref 227) ⟨[.ref a,.ref a2],[]⟩) (λj=>[]) (λj=>aM true) λj n4 u4=>.tail {js:=[0,1,2,3,4,5,6,7],N:=5} (cJ false v.w Z I D C) (λE=>[(I,ay (d.k+1:Nat) ((d.z.n-(d.k+1):Nat):Int)),(D,ac #[] 0),(C,aB (aq (E.lk 2)) aG (some (.int d.k zu))),(Z+11,af (.int c tc)),(Z+6,af (.ref CM)),(Z+9,af (.ref TL)),(TL,ac items te),(CM,ac (aa cs) ce)])⟩
theorem tv v TL CM items te cs ce c tc Z I D C d ht cv a b a2 bb:(Bw v TL CM items te cs ce c tc Z I D C d ht cv a b a2 bb).G v:=Cn.g3 (cz _) g8 (f:=λcv d v=>Bw v TL CM items te cs ce c tc Z I D C d ht cv a b a2 bb) (λj j j j j=>by kernel_rfl) cv d v
noncomputable def Bv(v:WV)(TL CM:Addr)(items:Array Value)(te:Nat)(cs:List (Int×Tok))(ce:Nat)(c:Int)(tc:Tok)(Z I D C:Nat)(d:Dk)(ht:Nat→Int×Tok)(cv:Option Value)(a b:Addr)(k2:Int)(t2:Tok):Cn:=⟨230,[(I,ay (d.k:Nat) ((d.z.n-d.k:Nat):Int)),(D,ac #[] 0),(C,aB ht aG cv),(Z+11,af (.int c tc)),(Z+6,af (.ref CM)),(Z+9,af (.ref TL)),(TL,ac items te),(CM,ac (aa cs) ce),(a,bn b)],cJ false v.w Z I D C,λzn zu=>.cut {ws:=[0,2],js:=[7],u:=2,K:=1,cnt:=2,N:=33,orc:=(dz 15 2555205412067294016451175792769),wa:=[I,C]} (.call (.builtin "list.__contains__") ⟨[.ref CM,.int d.k zu],[]⟩) (λj=>[(CM,ac (aa cs) ce)]) (λj=>aM false) λj n1 u1=>.cut {js:=[6],K:=1,N:=13,orc:=(dz 5 1893843334)} (.call (.builtin "list.__getitem__") ⟨[.ref TL,.int d.k zu],[]⟩) (λj=>[(TL,ac items te)]) (λj=>aW (.ok (.ret (.ref a)))) λj n2 u2=>.cut {js:=[6],K:=1,N:=13,orc:=(dz 5 1893843462)} (.call (.builtin "list.__getitem__") ⟨[.ref TL,.int c tc],[]⟩) (λj=>[(TL,ac items te)]) (λj=>aW (.ok (.ret (.int k2 t2)))) λj n3 u3=>.cut {K:=1,N:=13,orc:=(dz 6 1161)} (.call (.ref 227) ⟨[.ref a,.int k2 t2],[]⟩) (λj=>[]) (λj=>aM true) λj n4 u4=>.tail {js:=[0,1,2,3,4,5,6,7],N:=5} (cJ false v.w Z I D C) (λE=>[(I,ay (d.k+1:Nat) ((d.z.n-(d.k+1):Nat):Int)),(D,ac #[] 0),(C,aB (aq (E.lk 2)) aG (some (.int d.k zu))),(Z+11,af (.int c tc)),(Z+6,af (.ref CM)),(Z+9,af (.ref TL)),(TL,ac items te),(CM,ac (aa cs) ce)])⟩
theorem tu v TL CM items te cs ce c tc Z I D C d ht cv a b k2 t2:(Bv v TL CM items te cs ce c tc Z I D C d ht cv a b k2 t2).G v:=Cn.g3 (cz _) g8 (f:=λcv d v=>Bv v TL CM items te cs ce c tc Z I D C d ht cv a b k2 t2) (λj j j j j=>by kernel_rfl) cv d v
noncomputable def Bu(v:WV)(TL CM:Addr)(items:Array Value)(te:Nat)(cs:List (Int×Tok))(ce:Nat)(c:Int)(tc:Tok)(Z I D C:Nat)(d:Dk)(ht:Nat→Int×Tok)(cv:Option Value)(k1:Int)(t1:Tok)(a2 bb:Addr):Cn:=⟨230,[(I,ay (d.k:Nat) ((d.z.n-d.k:Nat):Int)),(D,ac #[] 0),(C,aB ht aG cv),(Z+11,af (.int c tc)),(Z+6,af (.ref CM)),(Z+9,af (.ref TL)),(TL,ac items te),(CM,ac (aa cs) ce),(a2,bn bb)],cJ false v.w Z I D C,λzn zu=>.cut {ws:=[0,2],js:=[7],u:=2,K:=1,cnt:=2,N:=33,orc:=(dz 15 2555205412067294016451175792769),wa:=[I,C]} (.call (.builtin "list.__contains__") ⟨[.ref CM,.int d.k zu],[]⟩) (λj=>[(CM,ac (aa cs) ce)]) (λj=>aM false) λj n1 u1=>.cut {js:=[6],K:=1,N:=13,orc:=(dz 5 1893843334)} (.call (.builtin "list.__getitem__") ⟨[.ref TL,.int d.k zu],[]⟩) (λj=>[(TL,ac items te)]) (λj=>aW (.ok (.ret (.int k1 t1)))) λj n2 u2=>.cut {js:=[6],K:=1,N:=13,orc:=(dz 5 1893843462)} (.call (.builtin "list.__getitem__") ⟨[.ref TL,.int c tc],[]⟩) (λj=>[(TL,ac items te)]) (λj=>aW (.ok (.ret (.ref a2)))) λj n3 u3=>.cut {K:=1,cnt:=2,N:=20,orc:=(dz 8 19021833)} (.call (.ref 213) ⟨[.ref a2,.int k1 t1],[]⟩) (λj=>[]) (λj=>aM true) λj n4 u4=>.tail {js:=[0,1,2,3,4,5,6,7],N:=5} (cJ false v.w Z I D C) (λE=>[(I,ay (d.k+1:Nat) ((d.z.n-(d.k+1):Nat):Int)),(D,ac #[] 0),(C,aB (aq (E.lk 2)) aG (some (.int d.k zu))),(Z+11,af (.int c tc)),(Z+6,af (.ref CM)),(Z+9,af (.ref TL)),(TL,ac items te),(CM,ac (aa cs) ce)])⟩
theorem tp v TL CM items te cs ce c tc Z I D C d ht cv k1 t1 a2 bb:(Bu v TL CM items te cs ce c tc Z I D C d ht cv k1 t1 a2 bb).G v:=Cn.g3 (cz _) g8 (f:=λcv d v=>Bu v TL CM items te cs ce c tc Z I D C d ht cv k1 t1 a2 bb) (λj j j j j=>by kernel_rfl) cv d v
noncomputable def GQ(v:WV)(TL CM:Addr)(items:Array Value)(te:Nat)(cs:List (Int×Tok))(ce:Nat)(c:Int)(tc:Tok)(Z I D C:Nat)(z:Sz)(acc:Array Value)(ae:Nat)(ht:Nat→Int×Tok)(cv:Option Value):Cn:=⟨40,[(I,ay z.n 0),(D,ac acc ae),(C,aB ht aG cv),(Z+11,af (.int c tc)),(Z+6,af (.ref CM)),(Z+9,af (.ref TL)),(TL,ac items te),(CM,ac (aa cs) ce)],cJ false v.w Z I D C,λzn zu=>.fin {js:=[0,1,2],i:=2,cnt:=2,N:=19,orc:=(dz 6 343867932801)} (.ok .next) (λE=>[(I,ay z.n 0),(D,ac acc ae),(C,aB ht aG cv)])⟩
theorem yD v TL CM items te cs ce c tc Z I D C z acc ae ht cv:(GQ v TL CM items te cs ce c tc Z I D C z acc ae ht cv).G v:=Cn.g3 (cz _) dG (f:=λcv z v=>GQ v TL CM items te cs ce c tc Z I D C z acc ae ht cv) (λj j j j j=>by kernel_rfl) cv z v
noncomputable def GG(v:WV)(Z:Nat)(c0:Int)(tc0:Tok)(I D C SL:Addr)(xs:List (Int×Tok))(se:Nat)(ht:Nat→Int×Tok):Cn:=⟨60,[(I,aj (.ref SL) 0),(D,ac #[] 0),(C,bO ht [] 0),(SL,ac (aa xs) se),(Z+11,af (.int c0 tc0))],gN true v.w Z I D C,λzn zu=>.tail {js:=[0,1,2,3,4],cnt:=(match v.b2 with|true=>0|false=>2),N:=(match v.b2 with|true=>6|false=>16),orc:=(match v.b2 with|true=>([])|false=>(dz 4 2113665))} (gN false v.w Z I D C) (λE=>[(I,aj (.ref SL) 0),(D,ac #[] 0),(C,bO ht [] 0),(SL,ac (aa xs) se),(Z+11,af (.int c0 tc0))])⟩
theorem ym v Z c0 tc0 I D C SL xs se ht:(GG v Z c0 tc0 I D C SL xs se ht).G v:=Cn.h1 (f:=λv=>GG v Z c0 tc0 I D C SL xs se ht) (λj j j j=>by kernel_rfl) v
noncomputable def GI(v:WV)(Z:Nat)(c0:Int)(tc0:Tok)(I D C SL:Addr)(xs:List (Int×Tok))(se:Nat)(g:Nat)(k:K4)(a:Nat→Int×Tok)(ht:Nat→Int×Tok)(cv:Option Value)(c:Int)(tc:Tok):Cn:=⟨60,[(I,aj (.ref SL) g),(D,ac (aa (kl k.n a)) k.n),(C,aB ht aG cv),(SL,ac (aa xs) se),(Z+11,af (.int c0 tc0))],gN false v.w Z I D C,λzn zu=>.cut {js:=[0,3],ju:=[0],K:=1,N:=7,orc:=(dz 1 1)} (.call (.builtin "list_iterator.__next__") ⟨[.ref I],[]⟩) (λj=>[(I,aj (.ref SL) g),(SL,ac (aa xs) se)]) (λj=>an I (.int c tc) (aj (.ref SL) (g+1))) λj n1 u1=>.tail {ws:=[2,1],js:=[0,1,2,3,4],u:=1,cnt:=2,N:=28,orc:=(dz 10 18591994061143458179),ps:=[c≠c0],wa:=[C,D]} (gN false v.w Z I D C) (λE=>[(I,aj (.ref SL) (g+1)),(D,ac ((aa (kl k.n a)).push (.int c tc)) (k.n+1)),(C,aB (aq (E.lk 2)) aG (some (.int c tc))),(SL,ac (aa xs) se),(Z+11,af (.int c0 tc0))])⟩
theorem yo v Z c0 tc0 I D C SL xs se g k a ht cv c tc:(GI v Z c0 tc0 I D C SL xs se g k a ht cv c tc).G v:=Cn.g3 (cz _) ot (f:=λcv k v=>GI v Z c0 tc0 I D C SL xs se g k a ht cv c tc) (λj j j j j=>by kernel_rfl) cv k v
noncomputable def GH(v:WV)(Z:Nat)(c0:Int)(tc0:Tok)(I D C SL:Addr)(xs:List (Int×Tok))(se:Nat)(g:Nat)(k:K4)(a:Nat→Int×Tok)(ht:Nat→Int×Tok)(cv:Option Value)(c:Int)(tc:Tok):Cn:=⟨60,[(I,aj (.ref SL) g),(D,ac (aa (kl k.n a)) k.n),(C,aB ht aG cv),(SL,ac (aa xs) se),(Z+11,af (.int c0 tc0))],gN false v.w Z I D C,λzn zu=>.cut {js:=[0,3],ju:=[0],K:=1,N:=7,orc:=(dz 1 1)} (.call (.builtin "list_iterator.__next__") ⟨[.ref I],[]⟩) (λj=>[(I,aj (.ref SL) g),(SL,ac (aa xs) se)]) (λj=>an I (.int c tc) (aj (.ref SL) (g+1))) λj n1 u1=>.tail {ws:=[2],js:=[0,1,2,3,4],u:=1,N:=19,orc:=(dz 5 547406211),ps:=[c=c0],wa:=[C]} (gN false v.w Z I D C) (λE=>[(I,aj (.ref SL) (g+1)),(D,ac (aa (kl k.n a)) (k.n)),(C,aB (aq (E.lk 2)) aG (some (.int c tc))),(SL,ac (aa xs) se),(Z+11,af (.int c0 tc0))])⟩
theorem yn v Z c0 tc0 I D C SL xs se g k a ht cv c tc:(GH v Z c0 tc0 I D C SL xs se g k a ht cv c tc).G v:=Cn.g3 (cz _) ot (f:=λcv k v=>GH v Z c0 tc0 I D C SL xs se g k a ht cv c tc) (λj j j j j=>by kernel_rfl) cv k v
noncomputable def GJ(v:WV)(Z:Nat)(c0:Int)(tc0:Tok)(I D C SL:Addr)(xs:List (Int×Tok))(se:Nat)(g:Nat)(acc:Array Value)(ae:Nat)(ht:Nat→Int×Tok)(cv:Option Value):Cn:=⟨60,[(I,aj (.ref SL) g),(D,ac acc ae),(C,aB ht aG cv),(SL,ac (aa xs) se),(Z+11,af (.int c0 tc0))],gN false v.w Z I D C,λzn zu=>.cut {js:=[0,3],ju:=[0],K:=1,N:=7,orc:=(dz 1 1)} (.call (.builtin "list_iterator.__next__") ⟨[.ref I],[]⟩) (λj=>[(I,aj (.ref SL) g),(SL,ac (aa xs) se)]) (λj=>aE I (aj .none g)) λj n1 u1=>.fin {js:=[0,1,2],N:=6,orc:=(dz 1 7)} (.ok .next) (λE=>[(I,aj .none g),(D,ac acc ae),(C,aB ht aG cv)])⟩
theorem yp v Z c0 tc0 I D C SL xs se g acc ae ht cv:(GJ v Z c0 tc0 I D C SL xs se g acc ae ht cv).G v:=Cn.g2 (cz _) (f:=λcv v=>GJ v Z c0 tc0 I D C SL xs se g acc ae ht cv) (λj j j j j=>by kernel_rfl) cv v
noncomputable def GU(v:WV)(Z:Nat)(c0:Int)(tc0:Tok)(I D C SL:Addr)(xs:List (Int×Tok))(se:Nat)(ht:Nat→Int×Tok):Cn:=⟨60,[(I,aj (.ref SL) 0),(D,ac #[] 0),(C,bO ht [] 0),(SL,ac (aa xs) se),(Z+8,af (.int c0 tc0))],fx true v.w Z I D C,λzn zu=>.tail {js:=[0,1,2,3,4],cnt:=(match v.b2 with|true=>0|false=>2),N:=(match v.b2 with|true=>6|false=>16),orc:=(match v.b2 with|true=>([])|false=>(dz 4 2113665))} (fx false v.w Z I D C) (λE=>[(I,aj (.ref SL) 0),(D,ac #[] 0),(C,bO ht [] 0),(SL,ac (aa xs) se),(Z+8,af (.int c0 tc0))])⟩
theorem yH v Z c0 tc0 I D C SL xs se ht:(GU v Z c0 tc0 I D C SL xs se ht).G v:=Cn.h1 (f:=λv=>GU v Z c0 tc0 I D C SL xs se ht) (λj j j j=>by kernel_rfl) v
noncomputable def GW(v:WV)(Z:Nat)(c0:Int)(tc0:Tok)(I D C SL:Addr)(xs:List (Int×Tok))(se:Nat)(g:Nat)(k:K4)(a:Nat→Int×Tok)(ht:Nat→Int×Tok)(cv:Option Value)(c:Int)(tc:Tok):Cn:=⟨60,[(I,aj (.ref SL) g),(D,ac (aa (kl k.n a)) k.n),(C,aB ht cQ cv),(SL,ac (aa xs) se),(Z+8,af (.int c0 tc0))],fx false v.w Z I D C,λzn zu=>.cut {js:=[0,3],ju:=[0],K:=1,N:=7,orc:=(dz 1 1)} (.call (.builtin "list_iterator.__next__") ⟨[.ref I],[]⟩) (λj=>[(I,aj (.ref SL) g),(SL,ac (aa xs) se)]) (λj=>an I (.int c tc) (aj (.ref SL) (g+1))) λj n1 u1=>.tail {ws:=[2,1],js:=[0,1,2,3,4],u:=1,cnt:=2,N:=28,orc:=(dz 10 18591994061143458179),ps:=[c≠c0],wa:=[C,D]} (fx false v.w Z I D C) (λE=>[(I,aj (.ref SL) (g+1)),(D,ac ((aa (kl k.n a)).push (.int c tc)) (k.n+1)),(C,aB (aq (E.lk 2)) cQ (some (.int c tc))),(SL,ac (aa xs) se),(Z+8,af (.int c0 tc0))])⟩
theorem yJ v Z c0 tc0 I D C SL xs se g k a ht cv c tc:(GW v Z c0 tc0 I D C SL xs se g k a ht cv c tc).G v:=Cn.g3 (cz _) ot (f:=λcv k v=>GW v Z c0 tc0 I D C SL xs se g k a ht cv c tc) (λj j j j j=>by kernel_rfl) cv k v
noncomputable def GV(v:WV)(Z:Nat)(c0:Int)(tc0:Tok)(I D C SL:Addr)(xs:List (Int×Tok))(se:Nat)(g:Nat)(k:K4)(a:Nat→Int×Tok)(ht:Nat→Int×Tok)(cv:Option Value)(c:Int)(tc:Tok):Cn:=⟨60,[(I,aj (.ref SL) g),(D,ac (aa (kl k.n a)) k.n),(C,aB ht cQ cv),(SL,ac (aa xs) se),(Z+8,af (.int c0 tc0))],fx false v.w Z I D C,λzn zu=>.cut {js:=[0,3],ju:=[0],K:=1,N:=7,orc:=(dz 1 1)} (.call (.builtin "list_iterator.__next__") ⟨[.ref I],[]⟩) (λj=>[(I,aj (.ref SL) g),(SL,ac (aa xs) se)]) (λj=>an I (.int c tc) (aj (.ref SL) (g+1))) λj n1 u1=>.tail {ws:=[2],js:=[0,1,2,3,4],u:=1,N:=19,orc:=(dz 5 547406211),ps:=[c=c0],wa:=[C]} (fx false v.w Z I D C) (λE=>[(I,aj (.ref SL) (g+1)),(D,ac (aa (kl k.n a)) (k.n)),(C,aB (aq (E.lk 2)) cQ (some (.int c tc))),(SL,ac (aa xs) se),(Z+8,af (.int c0 tc0))])⟩
theorem yI v Z c0 tc0 I D C SL xs se g k a ht cv c tc:(GV v Z c0 tc0 I D C SL xs se g k a ht cv c tc).G v:=Cn.g3 (cz _) ot (f:=λcv k v=>GV v Z c0 tc0 I D C SL xs se g k a ht cv c tc) (λj j j j j=>by kernel_rfl) cv k v
noncomputable def GX(v:WV)(Z:Nat)(c0:Int)(tc0:Tok)(I D C SL:Addr)(xs:List (Int×Tok))(se:Nat)(g:Nat)(acc:Array Value)(ae:Nat)(ht:Nat→Int×Tok)(cv:Option Value):Cn:=⟨60,[(I,aj (.ref SL) g),(D,ac acc ae),(C,aB ht cQ cv),(SL,ac (aa xs) se),(Z+8,af (.int c0 tc0))],fx false v.w Z I D C,λzn zu=>.cut {js:=[0,3],ju:=[0],K:=1,N:=7,orc:=(dz 1 1)} (.call (.builtin "list_iterator.__next__") ⟨[.ref I],[]⟩) (λj=>[(I,aj (.ref SL) g),(SL,ac (aa xs) se)]) (λj=>aE I (aj .none g)) λj n1 u1=>.fin {js:=[0,1,2],N:=6,orc:=(dz 1 7)} (.ok .next) (λE=>[(I,aj .none g),(D,ac acc ae),(C,aB ht cQ cv)])⟩
theorem yK v Z c0 tc0 I D C SL xs se g acc ae ht cv:(GX v Z c0 tc0 I D C SL xs se g acc ae ht cv).G v:=Cn.g2 (cz _) (f:=λcv v=>GX v Z c0 tc0 I D C SL xs se g acc ae ht cv) (λj j j j j=>by kernel_rfl) cv v
theorem FY(v:WV)(Z:Nat)(c0:Int)(tc0:Tok)(I D C SL:Addr)(xs:List (Int×Tok))(se:Nat)(ht:Nat→Int×Tok)(hlen:xs.length≤4):
  Ct v.w 60 ((I,aj (.ref SL) 0)::(D,ac #[] 0)::(C,bO ht [] 0)::(SL,ac (aa xs) se)::[(Z+11,af (.int c0 tc0))]) aK (gN true v.w Z I D C) [I,D,C] (bV I D C aG xs.length (!xs.isEmpty)) (λy j j=>y.ys=xs.filter (λx=>decide (x.1≠c0))):=
 (ym v Z c0 tc0 I D C SL xs se ht).ct [0,1,2] λA s R hA j j hR=>kT hR hA [0,1,2] λj=>rc (λx=>decide (x.1≠c0)) hlen (λb A x g k a ht cv s R hA hx hp hk H=>match b,hp,H with
  |true,hp,H=>(yo v Z c0 tc0 I D C SL xs se g k a ht cv x.1 x.2).go hA hk [0,1,2] <| kc (λj=>aP v.w hx) λj j j j=>kt (hps:=⟨of_decide_eq_true hp,trivial⟩) λj s' F K=>H _ s' F K
  |false,hp,H=>(yn v Z c0 tc0 I D C SL xs se g k a ht cv x.1 x.2).go hA hk [0,1,2] <| kc (λj=>aP v.w hx) λj j j j=>kt (hps:=⟨by simpa using hp,trivial⟩) λj s' F K=>H _ s' F K)
  (λA acc ae ht cv s R hA hn hk H=>(yp v Z c0 tc0 I D C SL xs se xs.length acc ae ht cv).go hA hk [0,1,2] <| kc (λj=>bE v.w hn) λj j j j=>kf λj s' F K j=>H s' F K) ht
theorem Gb(v:WV)(Z:Nat)(c0:Int)(tc0:Tok)(I D C SL:Addr)(xs:List (Int×Tok))(se:Nat)(ht:Nat→Int×Tok)(hlen:xs.length≤4):
  Ct v.w 60 ((I,aj (.ref SL) 0)::(D,ac #[] 0)::(C,bO ht [] 0)::(SL,ac (aa xs) se)::[(Z+8,af (.int c0 tc0))]) aK (fx true v.w Z I D C) [I,D,C] (bV I D C cQ xs.length (!xs.isEmpty)) (λy j j=>y.ys=xs.filter (λx=>decide (x.1≠c0))):=
 (yH v Z c0 tc0 I D C SL xs se ht).ct [0,1,2] λA s R hA j j hR=>kT hR hA [0,1,2] λj=>rc (λx=>decide (x.1≠c0)) hlen (λb A x g k a ht cv s R hA hx hp hk H=>match b,hp,H with
  |true,hp,H=>(yJ v Z c0 tc0 I D C SL xs se g k a ht cv x.1 x.2).go hA hk [0,1,2] <| kc (λj=>aP v.w hx) λj j j j=>kt (hps:=⟨of_decide_eq_true hp,trivial⟩) λj s' F K=>H _ s' F K
  |false,hp,H=>(yI v Z c0 tc0 I D C SL xs se g k a ht cv x.1 x.2).go hA hk [0,1,2] <| kc (λj=>aP v.w hx) λj j j j=>kt (hps:=⟨by simpa using hp,trivial⟩) λj s' F K=>H _ s' F K)
  (λA acc ae ht cv s R hA hn hk H=>(yK v Z c0 tc0 I D C SL xs se xs.length acc ae ht cv).go hA hk [0,1,2] <| kc (λj=>bE v.w hn) λj j j j=>kf λj s' F K j=>H s' F K) ht
structure Ex where
 ht:Nat→Int×Tok
 cv:Value
 ds:List (Int×Tok)
noncomputable def qX(z:Sz)(I D C:Addr):bS Ex:={res:=λj=>.ok .next,upd:=λy=>[(I,ay z.n 0),(D,ac (aa y.ds) z.n),(C,aB y.ht cQ (some y.cv))]}
noncomputable def c8(z:Sz)(I D C:Addr)(nm:Str):bS Ex:={res:=λj=>.ok .next,upd:=λy=>[(I,ay z.n 0),(D,ac #[] 0),(C,aB y.ht nm (some y.cv))]}
theorem Kn.keepR{B:X.KT}{s s':Shared}{W:List Addr}{a ex:List (Addr×Obj)}(k:Kn B s (a++ex))(F:ah s s' W)(hW:∀x∈W,x∈a.map (·.1)):Kn B s' ex:=by
 have nd:=k.nd
 rw[List.map_append,List.nodup_append]at nd
 exact(k.sub (List.sublist_append_right _ _)).after F (λx hx=>k.offA (by rw[List.map_append];exact List.mem_append_left _ (hW x hx))) λp hp h=>nd.2.2 p.1 (hW _ h) p.1 (List.mem_map_of_mem hp) rfl
theorem Dk.of{z:Sz}{k:Nat}(h:k<z.n):∃q:Dk,q.z=z∧q.k=k:=by
 cases z with
 |s2=>match k,h with
  |0,_=>exact⟨.d20,rfl,rfl⟩
  |1,_=>exact⟨.d21,rfl,rfl⟩
  |k+2,h=>exact absurd h (by simp[Sz.n])
 |s3=>match k,h with
  |0,_=>exact⟨.d30,rfl,rfl⟩
  |1,_=>exact⟨.d31,rfl,rfl⟩
  |2,_=>exact⟨.d32,rfl,rfl⟩
  |k+3,h=>exact absurd h (by simp[Sz.n])
 |s4=>match k,h with
  |0,_=>exact⟨.d40,rfl,rfl⟩
  |1,_=>exact⟨.d41,rfl,rfl⟩
  |2,_=>exact⟨.d42,rfl,rfl⟩
  |3,_=>exact⟨.d43,rfl,rfl⟩
  |k+4,h=>exact absurd h (by simp[Sz.n])
theorem Dk.lt(q:Dk):q.k<q.z.n:=by cases q<;>decide
theorem Dk.lt4(q:Dk):q.k<4:=by cases q<;>decide
theorem A8{v:WV}{code:Code}{I D C:Addr}{z:Sz}{nm:Str}{ex:List (Addr×Obj)}{P:Nat→Obj→Prop}{A:Around}{s0:Shared}
  (turn:∀(q:Dk) (o:Obj) (ht:Nat→Int×Tok) (cv:Option Value) (s:Shared) (R:Result→Shared→Prop),ah s0 s [I,D,C]→q.z=z→P q.k o→Kn (KB v.w) s ([(I,ay q.k ((q.z.n-q.k:Nat):Int)),(D,o),(C,aB ht nm cv)]++ex)→
   (∀o' ht' cv' s',P (q.k+1) o'→ah s s' [I,D,C]→Kn (KB v.w) s' [(I,ay ((q.k+1:Nat):Int) ((q.z.n-(q.k+1):Nat):Int)),(D,o'),(C,aB ht' nm (some cv'))]→codeAny (model pr v.w) A code R s')→codeAny (model pr v.w) A code R s)
  (stop:∀(o:Obj) (ht:Nat→Int×Tok) (cv:Option Value) (s:Shared) (R:Result→Shared→Prop),P z.n o→Kn (KB v.w) s ([(I,ay z.n 0),(D,o),(C,aB ht nm cv)]++ex)→
   (∀s',ah s s' [I,D,C]→Kn (KB v.w) s' [(I,ay z.n 0),(D,o),(C,aB ht nm cv)]→R (.ok .next) s')→codeAny (model pr v.w) A code R s):
  ∀(n k:Nat) (o:Obj) (ht:Nat→Int×Tok) (cv:Option Value) (s:Shared) (R:Result→Shared→Prop),ah s0 s [I,D,C]→k+n=z.n→P k o→Kn (KB v.w) s ([(I,ay k n),(D,o),(C,aB ht nm cv)]++ex)→
   (∀o' ht' cv' s',P z.n o'→ah s s' [I,D,C]→Kn (KB v.w) s' [(I,ay z.n 0),(D,o'),(C,aB ht' nm cv')]→cv'.isSome=(cv.isSome || decide (0<n))→R (.ok .next) s')→codeAny (model pr v.w) A code R s:=by
 intro n
 induction n with
 |zero=>
  intro k o ht cv s R f0 hn hP hk H
  obtain rfl:k=z.n:=hn
  exact stop o ht cv s R hP hk λs' F K=>H o ht cv s' hP F K (by simp)
 |succ n ih=>
  intro k o ht cv s R f0 hn hP hk H
  obtain⟨q,rfl,rfl⟩:=Dk.of (z:=z) (k:=k) (by omega)
  have e1:q.z.n-q.k=n+1:=by omega
  have e2:q.z.n-(q.k+1)=n:=by omega
  refine turn q o ht cv s R f0 rfl hP (by rw[e1];exact hk) λo' ht' cv' s' hP' F K=>?_
  rw[e2]at K
  refine ih (q.k+1) o' ht' (some cv') s' R (f0.trans' F) (by omega) hP' (hk.step F (by simp) K rfl) λo2 ht2 cv2 s2 hP2 F2 K2 hc=>H o2 ht2 cv2 s2 hP2 (F.trans' F2) K2 (by simpa using hc)
noncomputable def i9(x:Nm)(cs:List (Int×Tok))(bl:List ef)(now sz:Int)(c:Nat):Int:=if(c:Int)∈cs.map (·.1) then-sz else cb x (cs++[((c:Int),0)]) bl 0-now
theorem jt{cs cs':List (Int×Tok)}(h:cs.map (·.1)=cs'.map (·.1))(e:ef):e.seats cs=e.seats cs':=by unfold ef.seats;rw[h]
theorem eW(x:Nm){cs cs':List (Int×Tok)}(h:cs.map (·.1)=cs'.map (·.1)):∀(bl:List ef) (t:Int),cb x cs bl t=cb x cs' bl t
 |[],_=>rfl
 |e::bl,t=>by unfold cb;rw[jt h,eW x h]
noncomputable def uo(z:Sz)(x:Nm)(Z I D C BK CM:Nat)(cs:List (Int×Tok))(ce:Nat)(tn:Tok)(now:Int)(tw:Tok)(sz:Int)(ts:Tok)(ht:Nat→Int×Tok):List (Addr×Obj):=
 [(I,ay 0 z.n),(D,ac #[] 0),(C,bO ht [] 0),(Z+5,af (.ref BK)),(Z+6,af (.ref CM)),(Z+2,af (.str x.s tn)),(Z+10,af (.int now tw)),(Z+3,af (.int sz ts)),(CM,ac (aa cs) ce)]
theorem DV(v:WV)(z:Sz)(x:Nm)(Z I D C BK CM:Nat)(bl:List ef)(be:Nat)(cs:List (Int×Tok))(ce:Nat)(tn:Tok)(now:Int)(tw:Tok)(sz:Int)(ts:Tok)
  (hbl:∀e∈bl,e.xs.length≤4) (hne:bl≠[]) (hcs:cs.length≤4) (ht:Nat→Int×Tok):
  Ct v.w 235 (uo z x Z I D C BK CM cs ce tn now tw sz ts ht) (λs=>Kn (KB v.w) s (uo z x Z I D C BK CM cs ce tn now tw sz ts ht++cB BK bl be)) (je true v.w Z I D C) [I,D,C] (qX z I D C) (λy j j=>y.ds.map (·.1)=(List.range z.n).map (i9 x cs bl now sz)):=by
 intro A s R hA _ hk hR
 refine(zA v x BK CM cs ce tn now tw sz ts Z I D C z ht).go (W:=[]) (hA.le (Nat.le_of_ble_eq_true rfl)) (hk.sub (List.sublist_append_left _ _)) [] ?_
 refine kt λE s1 F1 K1=>?_
 have hk1:=hk.step F1 (by simp[uo]) K1 rfl
 refine A8 (z:=z) (nm:=cQ) (ex:=(uo z x Z I D C BK CM cs ce tn now tw sz ts ht).drop 3++cB BK bl be) (P:=λk o=>∃acc:List (Int×Tok),acc.length=k∧o=ac (aa acc) k∧acc.map (·.1)=(List.range k).map (i9 x cs bl now sz)) ?_ ?_ z.n 0 (ac #[] 0) ht none s1 R ((ah.refl s1).mono (by first|sizeOf_list_dec|simp)) (Nat.zero_add _) ⟨[],rfl,rfl,rfl⟩ hk1 ?_
 ·rintro q _ ht cv s R _ rfl ⟨acc,hl,rfl,hm⟩ hk H
  obtain⟨a,ea⟩:=ku acc
  have hka:kl q.k a=acc:=by rw[←hl];exact ea
  have h4:=q.lt4
  have nxt:∀(k:Int) (t:Tok),k=i9 x cs bl now sz q.k→(∃acc':List (Int×Tok),acc'.length=q.k+1∧ac ((aa (kl q.k a)).push (.int k t)) (q.k+1)=ac (aa acc') (q.k+1)∧acc'.map (·.1)=(List.range (q.k+1)).map (i9 x cs bl now sz)):=λk t hkt=>
   ⟨acc++[(k,t)],by simp[hl],by rw[hka];simp[aa],by rw[List.map_append,hm,List.range_succ,List.map_append,hkt];rfl⟩
  rw[←hka]at hk
  have kC:Kn (KB v.w) s [(CM,ac (aa cs) ce)]:=hk.pk [8] rfl
  by_cases hc:(q.k:Int)∈cs.map (·.1)
  ·refine(zC v x BK CM cs ce tn now tw sz ts Z I D C q a ht cv).go (W:=[I,D,C]) (hA.le (Nat.le_of_ble_eq_true rfl)) (hk.pk [0,1,2,3,4,5,6,7,8] rfl) [0,1,2] ?_
   refine kc (λj=>bG v.w CM cs ce q.k _ (by simp[hc])) λj s2 s3 j=>?_
   refine kt λE s4 F4 K4=>?_
   exact H _ _ _ s4 (nxt _ _ (by rw[i9,if_pos hc])) F4 (K4.pk [0,1,2] rfl)
  ·refine(zB v x BK CM cs ce tn now tw sz ts Z I D C q a ht cv (cb x (cs++[((q.k:Int),0)]) bl 0)).go (W:=[I,D,C]) (hA.le (Nat.le_of_ble_eq_true rfl)) (hk.pk [0,1,2,3,4,5,6,7,8] rfl) [0,1,2] ?_
   refine kc (λj=>bG v.w CM cs ce q.k _ (by simp[hc])) λj s2 s3 j=>?_
   have kb:Kn (KB v.w) s (cB BK bl be):=hk.sub ((List.sublist_append_right _ _).trans (List.sublist_append_right _ _))
   have Ca:∀n t,aS v.w 20 [(CM,ac (aa cs) ce),(n,ac #[.int q.k t] 0)] (.call (.builtin "list.__add__") ⟨[.ref CM,.ref n],[]⟩) [] (aD (ac (aa (cs++[((q.k:Int),t)])) 0)):=λn t=>by
    have h:=mu v.w (l:=CM) (b:=n) (items:=aa cs) (n:=ce) (items2:=#[.int q.k t]) (n2:=0) (Nat.le_trans (m:=5) (by simp[aa];omega) (by decide))
    rw[qw]at h
    exact h
   refine oO (λj=>Ca _ _) λ_ (N:Addr) s4 s5 _ _ a5 _=>?_
   have l4:s.heap.objs.size≤N:=a5 (N,_) (List.mem_singleton.mpr rfl)
   have e0:cb x (cs++[((q.k:Int),0)]) bl 0=cb x (cs++[((q.k:Int),s.toks)]) bl 0:=eW x (by simp) bl 0
   have Cs:=nr v x BK N bl be (cs++[((q.k:Int),s.toks)]) 0 tn hbl hne λp hp h=>absurd (kb.lt hp) (Nat.not_lt.mpr (h▸l4))
   rw[←e0]at Cs
   refine dF (λj=>Cs) (λj s6 F6 j=>(hk.keepR F6 (by simp)).sub (List.sublist_append_right _ _)) λt3 s6 s7 j=>?_
   refine kt λE s8 F8 K8=>?_
   exact H _ _ _ s8 (nxt _ _ (by rw[i9,if_neg hc])) F8 (K8.pk [0,1,2] rfl)
 ·rintro o ht cv s R ⟨acc,hl,rfl,hm⟩ hk H
  refine(zD v x BK CM cs ce tn now tw sz ts Z I D C z (aa acc) z.n ht cv).go (W:=[I,D,C]) (hA.le (Nat.le_of_ble_eq_true rfl)) (hk.pk [0,1,2,3,4,5,6,7,8] rfl) [0,1,2] ?_
  exact kf λE s1 F1 K1 j=>H s1 F1 K1
 ·rintro o ht cv s2 ⟨acc,hl,rfl,hm⟩ F2 K2 hc
  cases cv with
  |none=>cases z<;>simp[Sz.n]at hc
  |some c=>exact hR ⟨ht,c,acc⟩ s2 (F1.trans F2) K2 (by simp[qX]) hm
noncomputable def jh(s:Shared)(W:List Addr):Prop:=∀a∈W,∀o,s.heap.get? a=some o→o.cls≠.ref 237∧∀ht n tn d td,o≠cu ht n tn d td
theorem bz.keepD{w:World}{s s':Shared}{W:List Addr}{x:Value}{r:Rat}(n:bz w s x r)(F:ah s s' W)(k':Kn (KB w) s' [])(hW:jh s W):bz w s' x r:=by
 cases n with
 |int k t=>exact .int k t
 |fr a b q ht tn td f=>
  have oa:=f.obj (a,bn b) (mN 0 rfl)
  have ob:=f.obj (b,cu ht r.num tn r.den td) (mN 1 rfl)
  refine .fr a b _ ht tn td ⟨k'.base,λp hp=>?_,f.off,f.nd,k'.toks⟩
  simp only[aJ,List.mem_cons,List.not_mem_nil,or_false]at hp
  rcases hp with rfl|rfl
  ·exact F.keep _ _ oa λhm=>(hW _ hm _ oa).1 rfl
  ·exact F.keep _ _ ob λhm=>(hW _ hm _ ob).2 _ _ _ _ _ rfl
theorem bq.keepD{w:World}{s s':Shared}{W:List Addr}{items:Array Value}{m:Nat}{val:Nat→Rat}(n:bq w s items m val)(F:ah s s' W)(k':Kn (KB w) s' [])(hW:jh s W):bq w s' items m val:=
 ⟨n.sz,λc h=>(n.num c h).keepD F k' hW⟩
theorem eY{ht:Nat→Int×Tok}{n:Str}{cv:Option Value}:oV (aB ht n cv):=by
 refine⟨by cases cv<;>exact nofun,λj j j j j e=>?_⟩
 have:=congrArg (λo:Obj=>match o.data with|.dict es _=>es.size|_=>0) e
 cases cv<;>cases this
theorem j7{a b:Int}:oV (ay a b):=sP nofun (show Value.type "range_iterator"≠Value.type "dict" by decide)
theorem dC{x:Value}:oV (af x):=sP nofun (show Value.type "cell"≠Value.type "dict" by decide)
theorem jh.kn{B:X.KT}{s:Shared}{kn:List (Addr×Obj)}(k:Kn B s kn)(h:eB kn):jh s (kn.map (·.1)):=λa ha o e=>by
 obtain⟨p,hp,rfl⟩:=List.mem_map.mp ha
 rw[k.obj p hp]at e
 cases e
 exact h.mem p hp
theorem yf{v:WV}{code:Code}{I D C:Addr}{z:Sz}{nm:Str}{ex:List (Addr×Obj)}{A:Around}{s0:Shared}
  (turn:∀(q:Dk) (ht:Nat→Int×Tok) (cv:Option Value) (s:Shared) (R:Result→Shared→Prop),ah s0 s [I,D,C]→q.z=z→Kn (KB v.w) s ([(I,ay q.k ((q.z.n-q.k:Nat):Int)),(D,ac #[] 0),(C,aB ht nm cv)]++ex)→
   (∀ht' cv' s',ah s s' [I,D,C]→Kn (KB v.w) s' [(I,ay ((q.k+1:Nat):Int) ((q.z.n-(q.k+1):Nat):Int)),(D,ac #[] 0),(C,aB ht' nm (some cv'))]→codeAny (model pr v.w) A code R s')→codeAny (model pr v.w) A code R s)
  (stop:∀(ht:Nat→Int×Tok) (cv:Option Value) (s:Shared) (R:Result→Shared→Prop),Kn (KB v.w) s ([(I,ay z.n 0),(D,ac #[] 0),(C,aB ht nm cv)]++ex)→
   (∀s',ah s s' [I,D,C]→Kn (KB v.w) s' [(I,ay z.n 0),(D,ac #[] 0),(C,aB ht nm cv)]→R (.ok .next) s')→codeAny (model pr v.w) A code R s)
  {ht:Nat→Int×Tok} {R:Result→Shared→Prop} (hk:Kn (KB v.w) s0 ([(I,ay 0 z.n),(D,ac #[] 0),(C,bO ht [] 0)]++ex))
  (H:∀(y:Ex) s',ah s0 s' [I,D,C]→Kn (KB v.w) s' [(I,ay z.n 0),(D,ac #[] 0),(C,aB y.ht nm (some y.cv))]→R (.ok .next) s'):codeAny (model pr v.w) A code R s0:=by
 refine A8 (z:=z) (nm:=nm) (ex:=ex) (P:=λj o=>o=ac #[] 0) (s0:=s0) ?_ ?_ z.n 0 _ ht none s0 R ((ah.refl s0).mono (by first|sizeOf_list_dec|simp)) (Nat.zero_add _) rfl hk ?_
 ·rintro q _ ht cv s R f0 hz rfl hk H
  exact turn q ht cv s R f0 hz hk λht' cv' s' F K=>H _ ht' cv' s' rfl F K
 ·rintro _ ht cv s R rfl hk H
  exact stop ht cv s R hk H
 ·rintro _ ht cv s2 rfl F2 K2 hc
  cases cv with
  |none=>cases z<;>simp[Sz.n]at hc
  |some c=>exact H ⟨ht,c,[]⟩ s2 F2 K2
theorem rb{z:Sz}{ds:List (Int×Tok)}{dv:Nat→Int}(h:ds.map (·.1)=(List.range z.n).map dv){c:Nat}(hc:c<z.n):∃t,(aa ds)[((c:Nat):Int).toNat]?=some (.int (dv c) t):=by
 have h1:(ds.map (·.1))[c]?=some (dv c):=by rw[h,List.getElem?_map,List.getElem?_range hc];rfl
 rw[List.getElem?_map]at h1
 cases e:ds[c]? with
 |none=>rw[e]at h1;cases h1
 |some p=>
  rw[e]at h1
  have e1:p.1=dv c:=Option.some.inj h1
  exact⟨p.2,by rw[Int.toNat_natCast];simp[aa,e,e1]⟩
noncomputable def AN(z:Sz)(Z I D C TL DU:Nat)(items:Array Value)(te:Nat)(ds:List (Int×Tok))(de:Nat)(sz:Int)(ts:Tok)(ht:Nat→Int×Tok):List (Addr×Obj):=
 [(I,ay 0 z.n),(D,ac #[] 0),(C,bO ht [] 0),(Z+9,af (.ref TL)),(Z+3,af (.int sz ts)),(Z+12,af (.ref DU)),(TL,ac items te),(DU,ac (aa ds) de)]
theorem z6(v:WV)(z:Sz)(Z I D C TL DU:Nat)(items:Array Value)(te:Nat)(ds:List (Int×Tok))(de:Nat)(sz:Int)(ts:Tok){val:Nat→Rat}{dv:Nat→Int}(hs:0<sz)(hs2:sz<2 ^ 14)
  (hv:∀c<z.n,Dv sz (val c)) (hd:ds.map (·.1)=(List.range z.n).map dv) (he:∀c<z.n,val c*(sz:Rat)=(dv c:Rat)) (ht:Nat→Int×Tok):
  Ct v.w 235 (AN z Z I D C TL DU items te ds de sz ts ht) (λs=>bq v.w s items z.n val) (fw true v.w Z I D C) [I,D,C] (c8 z I D C cQ) bP:=by
 intro A s R hA hk hN hR
 refine(xO v TL DU items te ds de sz ts Z I D C z ht).go (W:=[]) (hA.le (Nat.le_of_ble_eq_true rfl)) hk [] ?_
 refine kt λE s1 F1 K1=>?_
 have hN1:bq v.w s1 items z.n val:=hN.keepD F1 K1.nil (λj h=>nomatch h)
 have nf:jh s1 [I,D,C]:=jh.kn (K1.pk [0,1,2] rfl) ⟨j7,dB,eY (cv:=none) (n:=cQ),trivial⟩
 refine yf (z:=z) (nm:=cQ) (ex:=(AN z Z I D C TL DU items te ds de sz ts ht).drop 3) ?_ ?_ K1 λy s2 F2 K2=>hR y s2 (F1.trans F2) (by simpa [c8]using K2) (by simp[c8]) trivial
 ·rintro q ht cv s R f0 rfl hk H
  have hN2:bq v.w s items q.z.n val:=hN1.keepD f0 hk.nil nf
  have h4:=q.lt4
  have hlt:=q.lt
  have hsz:=hN2.sz
  obtain⟨td,gd⟩:=rb hd hlt
  have n1:=hN2.num q.k (by omega)
  have g1:items[((q.k:Nat):Int).toNat]?=some items[q.k]:=by simp
  generalize hx:items[q.k]=x at n1 g1
  have e1:=he q.k hlt
  have v1:=hv q.k hlt
  generalize val q.k=r at n1 e1 v1
  cases n1 with
  |int k tk=>
   have e2:k*sz=dv q.k:=by
    rw[←Rat.intCast_mul]at e1
    exact Rat.intCast_inj.mp e1
   refine(xQ v TL DU items te ds de sz ts Z I D C q ht cv k tk (dv q.k) td).go (W:=[I,D,C]) (hA.le (Nat.le_of_ble_eq_true rfl)) hk [0,1,2] ?_
   refine kc (λj=>bB v.w (by omega) (by omega) g1) λj s2 s3 j=>?_
   refine kc (hps:=⟨az (by omega) (by omega),trivial⟩) (λj=>bB v.w (by omega) (by omega) gd) λj s4 s5 j=>?_
   refine kt (hps:=⟨e2,trivial⟩) λE s6 F6 K6=>?_
   exact H _ _ s6 F6 (K6.pk [0,1,2] rfl)
  |fr a b _ ht2 tn td2 f=>
   have hden:(r.den:Int)<2 ^ 14:=Int.lt_of_le_of_lt (v1.den hs) hs2
   refine(xR v TL DU items te ds de sz ts Z I D C q ht cv a b ht2 r (r*(sz:Rat)) tn td2 (dv q.k) td).go (W:=[I,D,C]) (hA.le (Nat.le_of_ble_eq_true rfl)) (hk.frac f (eB.mem ⟨j7,dB,eY,dC,dC,dC,dB,dB,trivial⟩)) [0,1,2] ?_
   refine kc (λj=>bB v.w (by omega) (by omega) g1) λj s2 s3 j=>?_
   refine kc (λj=>rJ v hden sz ts ⟨by omega,by omega⟩) λy s4 s5 j=>?_
   refine kc (λj=>bB v.w (by omega) (by omega) gd) λj s6 s7 j=>?_
   refine kc (λj=>rV v _ _ _ _ _ _ _ _ _ (by rw[e1];simp)) λj s8 s9 j=>?_
   refine kt λE s10 F10 K10=>?_
   exact H _ _ s10 F10 (K10.pk [0,1,2] rfl)
 ·rintro ht cv s R hk H
  refine(xS v TL DU items te ds de sz ts Z I D C z #[] 0 ht cv).go (W:=[I,D,C]) (hA.le (Nat.le_of_ble_eq_true rfl)) hk [0,1,2] ?_
  exact kf λE s1 F1 K1 j=>H s1 F1 K1
noncomputable def CF(z:Sz)(Z I D C BE DU:Nat)(bs:List (Int×Tok))(be:Nat)(ds:List (Int×Tok))(de:Nat)(ht:Nat→Int×Tok):List (Addr×Obj):=
 [(I,ay 0 z.n),(D,ac #[] 0),(C,bO ht [] 0),(Z+7,af (.ref BE)),(Z+12,af (.ref DU)),(BE,ac (aa bs) be),(DU,ac (aa ds) de)]
theorem D4(v:WV)(z:Sz)(Z I D C BE DU:Nat)(bs:List (Int×Tok))(be:Nat)(ds:List (Int×Tok))(de:Nat){bv dv:Nat→Int}
  (hb:bs.map (·.1)=(List.range z.n).map bv) (hd:ds.map (·.1)=(List.range z.n).map dv) (he:∀c<z.n,dv c≤bv c) (ht:Nat→Int×Tok):
  aS v.w 235 (CF z Z I D C BE DU bs be ds de ht) (mm true v.w Z I D C) [I,D,C] (c8 z I D C cQ):=by
 intro A s R hA hk _ hR
 refine(zS v BE DU bs be ds de Z I D C z ht).go (W:=[]) (hA.le (Nat.le_of_ble_eq_true rfl)) hk [] ?_
 refine kt λE s1 F1 K1=>?_
 refine yf (z:=z) (nm:=cQ) (ex:=(CF z Z I D C BE DU bs be ds de ht).drop 3) ?_ ?_ K1 λy s2 F2 K2=>hR y s2 (F1.trans F2) (by simpa [c8]using K2) (by simp[c8]) trivial
 ·rintro q ht cv s R f0 rfl hk H
  have h4:=q.lt4
  obtain⟨td,gd⟩:=rb hd q.lt
  obtain⟨tb,gb⟩:=rb hb q.lt
  refine(zR v BE DU bs be ds de Z I D C q ht cv (bv q.k) tb (dv q.k) td).go (W:=[I,D,C]) (hA.le (Nat.le_of_ble_eq_true rfl)) hk [0,1,2] ?_
  refine kc (λj=>bB v.w (by omega) (by omega) gd) λj s2 s3 j=>?_
  refine kc (λj=>bB v.w (by omega) (by omega) gb) λj s4 s5 j=>?_
  refine kt (hps:=⟨he _ q.lt,trivial⟩) λE s6 F6 K6=>?_
  exact H _ _ s6 F6 (K6.pk [0,1,2] rfl)
 ·rintro ht cv s R hk H
  refine(zT v BE DU bs be ds de Z I D C z #[] 0 ht cv).go (W:=[I,D,C]) (hA.le (Nat.le_of_ble_eq_true rfl)) hk [0,1,2] ?_
  exact kf λE s1 F1 K1 j=>H s1 F1 K1
theorem Kn.frac1{w:World}{s:Shared}{kn:List (Addr×Obj)}(k:Kn (KB w) s kn){a b:Addr}{ht:Nat→Int×Tok}{n d:Int}{tn td:Tok}(f:Kn (KB w) s (aJ a b ht n tn d td))
  (h:∀p∈kn,p.2.cls≠.ref 237∨p.1≠a):Kn (KB w) s (kn++[(a,bn b)]):=by
 refine k.app (f.pk [0] rfl) λp hp q hq e=>?_
 cases List.mem_singleton.mp hq
 rcases h p hp with h|h
 ·have o1:=k.obj p hp
  rw[e,f.obj (a,bn b) (mN 0 rfl)]at o1
  exact h (by rw[←Option.some.inj o1];rfl)
 ·exact h e
theorem bz.one{w:World}{s:Shared}{x:Value}{r r':Rat}(h:bz w s x r)(h':bz w s x r'):r=r':=by
 cases h with
 |int k t=>cases h';rfl
 |fr a b _ ht tn td f=>
  cases h' with
  |fr _ b' _ ht' tn' td' f'=>
   have e1:=(f.obj (a,bn b) (mN 0 rfl)).symm.trans (f'.obj (a,bn b') (mN 0 rfl))
   obtain rfl:b=b':=by injection e1 with e1;injection e1 with _ e1;injection e1
   have e2:=(f.obj (b,cu ht r.num tn r.den td) (mN 1 rfl)).symm.trans (f'.obj (b,cu ht' r'.num tn' r'.den td') (mN 1 rfl))
   have e3:Value.int r.num tn=Value.int r'.num tn':=congrArg (λo:Option Obj=>jk (o.map λo=>(0,o)) 0) e2
   have e4:Value.int r.den td=Value.int r'.den td':=congrArg (λo:Option Obj=>jk (o.map λo=>(0,o)) 1) e2
   injection e3 with e3
   injection e4 with e4
   exact Rat.ext e3 (Int.ofNat_inj.mp e4)
theorem Kn.nf{B:X.KT}{s:Shared}{kn:List (Addr×Obj)}(_:Kn B s kn)(h:eB kn):∀p∈kn,oV p.2:=h.mem
noncomputable def yC(z:Sz)(Z I D C TL CM:Nat)(items:Array Value)(te:Nat)(cs:List (Int×Tok))(ce:Nat)(c:Int)(tc:Tok)(ht:Nat→Int×Tok):List (Addr×Obj):=
 [(I,ay 0 z.n),(D,ac #[] 0),(C,bO ht [] 0),(Z+11,af (.int c tc)),(Z+6,af (.ref CM)),(Z+9,af (.ref TL)),(TL,ac items te),(CM,ac (aa cs) ce)]
theorem Ag(v:WV)(z:Sz)(Z I D C TL CM:Nat)(items:Array Value)(te:Nat)(cs:List (Int×Tok))(ce:Nat)(i:Nat)(tc:Tok){N:Int}{val:Nat→Rat}(hN0:0<N)(hN2:N<2 ^ 14)
  (hv:∀c<z.n,Dv N (val c)) (hi:i<z.n) (he:∀o<z.n,(o:Int)∉cs.map (·.1)→val i<val o) (ht:Nat→Int×Tok):
  Ct v.w 235 (yC z Z I D C TL CM items te cs ce i tc ht) (λs=>bq v.w s items z.n val) (cJ true v.w Z I D C) [I,D,C] (c8 z I D C aG) bP:=by
 intro A s R hA hk hN hR
 refine(yB v TL CM items te cs ce i tc Z I D C z ht).go (W:=[]) (hA.le (Nat.le_of_ble_eq_true rfl)) hk [] ?_
 refine kt λE s1 F1 K1=>?_
 have hN1:bq v.w s1 items z.n val:=hN.keepD F1 K1.nil (λj h=>nomatch h)
 have nf:jh s1 [I,D,C]:=jh.kn (K1.pk [0,1,2] rfl) ⟨j7,dB,eY (cv:=none) (n:=aG),trivial⟩
 refine yf (z:=z) (nm:=aG) (ex:=(yC z Z I D C TL CM items te cs ce i tc ht).drop 3) ?_ ?_ K1 λy s2 F2 K2=>hR y s2 (F1.trans F2) (by simpa [c8]using K2) (by simp[c8]) trivial
 ·rintro q ht cv s R f0 rfl hk H
  have hNs:bq v.w s items q.z.n val:=hN1.keepD f0 hk.nil nf
  have nfs:jh s [I,D,C]:=jh.kn (hk.pk [0,1,2] rfl) ⟨j7,dB,eY,trivial⟩
  have nL:=hk.nf ⟨j7,dB,eY,dC,dC,dC,dB,dB,trivial⟩
  have h4:=q.lt4
  have hlt:=q.lt
  have hsz:=hNs.sz
  by_cases hc:(q.k:Int)∈cs.map (·.1)
  ·refine(yA v TL CM items te cs ce i tc Z I D C q ht cv).go (W:=[I,D,C]) (hA.le (Nat.le_of_ble_eq_true rfl)) hk [0,1,2] ?_
   refine kc (λj=>bG v.w CM cs ce q.k _ (by simp[hc])) λj s2 s3 j=>?_
   exact kt λE s4 F4 K4=>H _ _ s4 F4 (K4.pk [0,1,2] rfl)
  have Cc:∀t,aS v.w 20 [(CM,ac (aa cs) ce)] (.call (.builtin "list.__contains__") ⟨[.ref CM,.int q.k t],[]⟩) [] (aM false):=λt=>bG v.w CM cs ce q.k t (by simp[hc])
  have hlt2:=he q.k hlt hc
  have hz4:q.z.n≤4:=by cases q<;>decide
  have g1:items[((q.k:Nat):Int).toNat]?=some items[q.k]:=by simp
  have g2:items[((i:Nat):Int).toNat]?=some items[i]:=by simp
  have G1:∀t,aS v.w 20 [(TL,ac items te)] (.call (.builtin "list.__getitem__") ⟨[.ref TL,.int q.k t],[]⟩) [] (aW (.ok (.ret items[q.k]))):=λt=>bB v.w (by omega) (by omega) g1
  have G2:∀t,aS v.w 20 [(TL,ac items te)] (.call (.builtin "list.__getitem__") ⟨[.ref TL,.int i t],[]⟩) [] (aW (.ok (.ret items[i]))):=λt=>bB v.w (by omega) (by omega) g2
  have n1:=hNs.num q.k (by omega)
  have n2:=hNs.num i (by omega)
  have d1:=Int.lt_of_le_of_lt ((hv q.k hlt).den hN0) hN2
  have d2:=Int.lt_of_le_of_lt ((hv i hi).den hN0) hN2
  generalize items[q.k]=x1 at n1 G1
  generalize items[i]=x2 at n2 G2
  generalize val q.k=r1 at*
  generalize val i=r2 at*
  have m1:=n1
  have m2:=n2
  cases n1 with
  |int k1 t1=>
   cases n2 with
   |int k2 t2=>
    refine(tl v TL CM items te cs ce i tc Z I D C q ht cv k1 t1 k2 t2).go (W:=[I,D,C]) (hA.le (Nat.le_of_ble_eq_true rfl)) hk [0,1,2] ?_
    refine kc (λj=>Cc _) λj s2 s3 j=>?_
    refine kc (λj=>G1 _) λj s4 s5 j=>?_
    refine kc (λj=>G2 _) λj s6 s7 j=>?_
    exact kt (hps:=⟨Rat.intCast_lt_intCast.mp hlt2,trivial⟩) λE s8 F8 K8=>H _ _ s8 F8 (K8.pk [0,1,2] rfl)
   |fr a2 b2 _ ht2 tn2 td2 f2=>
    refine(tp v TL CM items te cs ce i tc Z I D C q ht cv k1 t1 a2 b2).go (W:=[I,D,C]) (hA.le (Nat.le_of_ble_eq_true rfl)) (hk.frac1 f2 λp hp=>.inl (nL p hp).1) [0,1,2] ?_
    refine kc (λj=>Cc _) λj s2 s3 j=>?_
    refine kc (λj=>G1 _) λj s4 s5 j=>?_
    refine kc (λj=>G2 _) λj s6 s7 j=>?_
    have Cg:=mq v (a:=a2) d2 k1 t1
    rw[decide_eq_true hlt2]at Cg
    refine dF (λj=>Cg) (λj s8 F8 K8=>m2.keepD F8 K8.nil nfs) λj s8 s9 j=>?_
    exact kt λE s10 F10 K10=>H _ _ s10 F10 (K10.pk [0,1,2] rfl)
  |fr a b _ ht1 tn1 td1 f1=>
   cases n2 with
   |int k2 t2=>
    refine(tu v TL CM items te cs ce i tc Z I D C q ht cv a b k2 t2).go (W:=[I,D,C]) (hA.le (Nat.le_of_ble_eq_true rfl)) (hk.frac1 f1 λp hp=>.inl (nL p hp).1) [0,1,2] ?_
    refine kc (λj=>Cc _) λj s2 s3 j=>?_
    refine kc (λj=>G1 _) λj s4 s5 j=>?_
    refine kc (λj=>G2 _) λj s6 s7 j=>?_
    have Cg:=mw v (a:=a) d1 k2 t2
    rw[decide_eq_true hlt2]at Cg
    refine dF (λj=>Cg) (λj s8 F8 K8=>m1.keepD F8 K8.nil nfs) λj s8 s9 j=>?_
    exact kt λE s10 F10 K10=>H _ _ s10 F10 (K10.pk [0,1,2] rfl)
   |fr a2 b2 _ ht2 tn2 td2 f2=>
    have hne:a≠a2:=λe=>by
     subst e
     rw[m1.one m2]at hlt2
     exact absurd hlt2 (Rat.lt_irrefl)
    refine(tv v TL CM items te cs ce i tc Z I D C q ht cv a b a2 b2).go (W:=[I,D,C]) (hA.le (Nat.le_of_ble_eq_true rfl)) ((hk.frac1 f1 λp hp=>.inl (nL p hp).1).frac1 f2 λp hp=>?_) [0,1,2] ?_
    ·rcases List.mem_append.mp hp with hp|hp
     ·exact .inl (nL p hp).1
     ·cases List.mem_singleton.mp hp
      exact .inr hne
    refine kc (λj=>Cc _) λj s2 s3 j=>?_
    refine kc (λj=>G1 _) λj s4 s5 j=>?_
    refine kc (λj=>G2 _) λj s6 s7 j=>?_
    have Cg:=nu v (a:=a) (a2:=a2) d1 d2
    rw[decide_eq_true hlt2]at Cg
    refine dF (λj=>Cg) (λj s8 F8 K8=>⟨m1.keepD F8 K8.nil nfs,m2.keepD F8 K8.nil nfs⟩) λj s8 s9 j=>?_
    exact kt λE s10 F10 K10=>H _ _ s10 F10 (K10.pk [0,1,2] rfl)
 ·rintro ht cv s R hk H
  refine(yD v TL CM items te cs ce i tc Z I D C z #[] 0 ht cv).go (W:=[I,D,C]) (hA.le (Nat.le_of_ble_eq_true rfl)) hk [0,1,2] ?_
  exact kf λE s1 F1 K1 j=>H s1 F1 K1
noncomputable def aY(o:Option Value):Obj:={cls:=.type "cell",dict:=none,data:=.cell o,slots:=#[]}
noncomputable def cP(ht:Nat→Int×Tok)(SC:Addr)(m:Int)(tm:Tok)(Pf:Addr)(va vw:Value)(f OR:Addr):Obj:=fQ ht [(pK,.ref SC),(Bn,.int m tm),(bL,.ref Pf),(dq,va),(dg,vw),(dm,.ref f),(sU,.ref OR)] 7
noncomputable def bv(b:Bool)(a:Addr):Value:=match b with|false=>.none|true=>.ref a
noncomputable def Nm.isA:Nm→Bool|.natleast2=>true|_=>false
theorem xo(w:World)(x:Nm){r:Bool}(hr:r= !x.isA)(t u:Tok):aS w 20 [] (.call (.builtin "str.__ne__") ⟨[.str x.s t,.str ⟨#[97,116,108,101,97,115,116,50]⟩ u],[]⟩) [] (aM r):=by
 subst hr
 refine jc λA s R hA hkn hR=>?_
 refine aR F.slot_str_ne (typeIs_str s _ _) F.entry_str_ne (F.args_str_ne_2 _ _) (gives_str_ne x.s ⟨#[97,116,108,101,97,115,116,50]⟩ t u) ?_
 cases x<;>exact hR
noncomputable def l1(v:WV)(z:Sz)(b a2:Bool)(x:Nm)(Z I OR SC Pf f BK CM:Nat)(ht:Nat→Int×Tok)(tm tn:Tok)(va vw:Value)(os:Array Value)(oe:Nat)(g:Nat)(sz:Int)(ts:Tok)(cs:List (Int×Tok))(ce:Nat)(o8 o9 o10 o12:Option Value)(c:Int)(tc:Tok)(now:Int)(BE:Addr)(oB:Obj):Cn:=⟨420,[(I,aj (.ref OR) g),(OR,ac os oe),(Z,cP ht SC z.n tm Pf va vw f OR),(Z+2,af (.str x.s tn)),(Z+3,af (.int sz ts)),(Z+5,af (.ref BK)),(Z+6,af (.ref CM)),(Z+7,af (bv b BE)),(Z+8,aY o8),(Z+9,aY o9),(Z+10,aY o10),(Z+12,aY o12),(CM,ac (aa cs) ce),(BE,oB)],oD v.w Z I,λzn zu=>.cut {js:=[0,1],ju:=[0],K:=1,N:=7,orc:=(dz 1 1)} (.call (.builtin "list_iterator.__next__") ⟨[.ref I],[]⟩) (λj=>[(I,aj (.ref OR) g),(OR,ac os oe)]) (λj=>an I (.int c tc) (aj (.ref OR) (g+1))) λj n1 u1=>.cut {ws:=[8],js:=[12],K:=1,N:=21,orc:=(dz 7 241329767561),wa:=[Z+8]} (.call (.ref 334) ⟨[.ref f,.ref Pf,.ref CM],[]⟩) (λj=>[(CM,ac (aa cs) ce)]) (λj=>dr) λT n2 u2=>.cut {ws:=[9],js:=[12],K:=1,N:=22,orc:=(dz 7 242137171210),wa:=[Z+9]} (.call (.ref 540) ⟨[.str x.s tn,.ref BK,.ref CM],[]⟩) (λj=>[(CM,ac (aa cs) ce)]) (λj=>aw now) λt3 n3 u3=>.cut {ws:=[10],js:=[16,17,18,5,6,3,10,4,12],ju:=[16,17,18],i:=4,u:=2,K:=1,cnt:=8,N:=51,orc:=(dz 16 694712454928226506647008626869643),wa:=[Z+10]} (je true v.w Z (n3+1) (n3+2) (n3+3)) (λE=>[(n3+1,ay 0 z.n),(n3+2,ac #[] 0),(n3+3,bO (λj=>(0,0)) [] 0),(Z+5,af (.ref BK)),(Z+6,af (.ref CM)),(Z+2,af (.str x.s tn)),(Z+10,af (.int now t3)),(Z+3,af (.int sz ts)),(CM,ac (aa cs) ce)]) (λj=>qX z (n3+1) (n3+2) (n3+3)) λy n4 u4=>.cut {ws:=[18,11],js:=[14],K:=1,cnt:=1,N:=23,orc:=(dz 8 5629502780918163),wa:=[n3+3,Z+12]} (.builtin "len" ⟨[.ref T.a],[]⟩) (λE=>[(T.a,ac T.items 0)]) (λj=>aw z.n) λt5 n5 u5=>.cut {js:=[20,21,22,9,4,11,14,17],ju:=[20,21,22],i:=4,u:=2,K:=1,cnt:=10,N:=52,orc:=(dz 16 858249363858457298096786956615683)} (fw true v.w Z (n5+1) (n5+2) (n5+3)) (λE=>[(n5+1,ay 0 z.n),(n5+2,ac #[] 0),(n5+3,bO (λj=>(0,0)) [] 0),(Z+9,af (.ref T.a)),(Z+3,af (.int sz ts)),(Z+12,af (.ref (n3+2))),(T.a,ac T.items 0),(n3+2,ac (aa y.ds) z.n)]) (λj=>c8 z (n5+1) (n5+2) (n5+3) cQ) λy2 n6 u6=>match b,a2 with|false,_=>.cut {ws:=[22],js:=[12,24],i:=2,K:=1,cnt:=3,N:=48,orc:=(dz 21 18392693303396807147144792402675941427760023),wa:=[n5+3]} (.call (.builtin "list.__add__") ⟨[.ref CM,.ref (n6+1)],[]⟩) (λj=>[(CM,ac (aa cs) ce),(n6+1,ac #[.int c tc] 0)]) (λj=>aD (ac (aa (cs++[(c,tc)])) 0)) λN n7 u7=>.tail {ws:=[7,6],js:=[0,1,2,3,4,5,6,7,8,9,10,11,25,17],i:=4,cnt:=8,N:=63,orc:=(dz 31 11609330363101764743764455361414789558521655510457376101418585499),wa:=[Z+7,Z+6]} (oD v.w Z I) (λE=>[(I,aj (.ref OR) (g+1)),(OR,ac os oe),(Z,cP ht SC z.n tm Pf va vw f OR),(Z+2,af (.str x.s tn)),(Z+3,af (.int sz ts)),(Z+5,af (.ref BK)),(Z+6,af (.ref N)),(Z+7,af (.ref (n3+2))),(Z+8,af (.int c tc)),(Z+9,af (.ref T.a)),(Z+10,af (.int now t3)),(Z+12,af (.ref (n3+2))),(N,ac (aa (cs++[(c,tc)])) 0),(n3+2,ac (aa y.ds) z.n)])|true,true=>.cut {ws:=[22],i:=1,u:=1,K:=1,cnt:=3,N:=38,orc:=(dz 16 164854428346417459101178301631383),wa:=[n5+3]} (.call (.builtin "str.__ne__") ⟨[.str x.s tn,.str ⟨#[97,116,108,101,97,115,116,50]⟩ u6],[]⟩) (λj=>[]) (λj=>aM false) λj n7 u7=>.cut {js:=[12,24],i:=1,K:=1,N:=20,orc:=(dz 6 453414896524)} (.call (.builtin "list.__add__") ⟨[.ref CM,.ref (n7)],[]⟩) (λj=>[(CM,ac (aa cs) ce),(n7,ac #[.int c tc] 0)]) (λj=>aD (ac (aa (cs++[(c,tc)])) 0)) λN n8 u8=>.tail {ws:=[7,6],js:=[0,1,2,3,4,5,6,7,8,9,10,11,25,17],i:=4,cnt:=8,N:=63,orc:=(dz 31 11609330363101764743764455361414789558521655510457376101418585499),wa:=[Z+7,Z+6]} (oD v.w Z I) (λE=>[(I,aj (.ref OR) (g+1)),(OR,ac os oe),(Z,cP ht SC z.n tm Pf va vw f OR),(Z+2,af (.str x.s tn)),(Z+3,af (.int sz ts)),(Z+5,af (.ref BK)),(Z+6,af (.ref N)),(Z+7,af (.ref (n3+2))),(Z+8,af (.int c tc)),(Z+9,af (.ref T.a)),(Z+10,af (.int now t3)),(Z+12,af (.ref (n3+2))),(N,ac (aa (cs++[(c,tc)])) 0),(n3+2,ac (aa y.ds) z.n)])|true,false=>.cut {ws:=[22],i:=1,u:=1,K:=1,cnt:=3,N:=38,orc:=(dz 16 164854428346417459101178301631383),wa:=[n5+3]} (.call (.builtin "str.__ne__") ⟨[.str x.s tn,.str ⟨#[97,116,108,101,97,115,116,50]⟩ u6],[]⟩) (λj=>[]) (λj=>aM true) λj n7 u7=>.cut {js:=[25,26,27,7,11,13,17],ju:=[25,26,27],i:=4,u:=2,K:=1,cnt:=8,N:=44,orc:=(dz 14 64860260011062364954163200000)} (mm true v.w Z (n7+1) (n7+2) (n7+3)) (λE=>[(n7+1,ay 0 z.n),(n7+2,ac #[] 0),(n7+3,bO (λj=>(0,0)) [] 0),(Z+7,af (.ref BE)),(Z+12,af (.ref (n3+2))),(BE,oB),(n3+2,ac (aa y.ds) z.n)]) (λj=>c8 z (n7+1) (n7+2) (n7+3) cQ) λy3 n8 u8=>.cut {ws:=[27],js:=[12,29],i:=2,K:=1,cnt:=3,N:=44,orc:=(dz 20 144118269391490781487903887134952008388124),wa:=[n7+3]} (.call (.builtin "list.__add__") ⟨[.ref CM,.ref (n8+1)],[]⟩) (λj=>[(CM,ac (aa cs) ce),(n8+1,ac #[.int c tc] 0)]) (λj=>aD (ac (aa (cs++[(c,tc)])) 0)) λN n9 u9=>.tail {ws:=[7,6],js:=[0,1,2,3,4,5,6,7,8,9,10,11,30,17],i:=4,cnt:=8,N:=63,orc:=(dz 31 11609330393993013441533553608638162704228675274740621398977810464),wa:=[Z+7,Z+6]} (oD v.w Z I) (λE=>[(I,aj (.ref OR) (g+1)),(OR,ac os oe),(Z,cP ht SC z.n tm Pf va vw f OR),(Z+2,af (.str x.s tn)),(Z+3,af (.int sz ts)),(Z+5,af (.ref BK)),(Z+6,af (.ref N)),(Z+7,af (.ref (n3+2))),(Z+8,af (.int c tc)),(Z+9,af (.ref T.a)),(Z+10,af (.int now t3)),(Z+12,af (.ref (n3+2))),(N,ac (aa (cs++[(c,tc)])) 0),(n3+2,ac (aa y.ds) z.n)])⟩
theorem BP v z b a2 x Z I OR SC Pf f BK CM ht tm tn va vw os oe g sz ts cs ce o8 o9 o10 o12 c tc now BE oB (h:b=true→a2=x.isA):(l1 v z b a2 x Z I OR SC Pf f BK CM ht tm tn va vw os oe g sz ts cs ce o8 o9 o10 o12 c tc now BE oB).G v:=by
 cases b with
 |false=>exact Cn.h2 dG (f:=λz v=>l1 v z false a2 x Z I OR SC Pf f BK CM ht tm tn va vw os oe g sz ts cs ce o8 o9 o10 o12 c tc now BE oB) (λj j j j=>by kernel_rfl) z v
 |true=>exact Cn.h3 dG cm (f:=λz a2 v=>l1 v z true a2 x Z I OR SC Pf f BK CM ht tm tn va vw os oe g sz ts cs ce o8 o9 o10 o12 c tc now BE oB) (λj j j j=>by kernel_rfl) z a2 v
structure Ij where
 o:Option Value
noncomputable def qU(I Z:Nat)(n:Nat):bS Ij:={res:=λj=>.ok .next,upd:=λy=>[(I,aj .none n),(Z+11,aY y.o)]}
noncomputable def EX(v:WV)(z:Sz)(x:Nm)(Z I OR SC Pf f BK CM:Nat)(ht:Nat→Int×Tok)(tm tn:Tok)(va vw:Value)(sz:Int)(ts:Tok)(cs:List (Int×Tok))(ce:Nat)(o11:Option Value)(c:Int)(tc:Tok)(now:Int)(t0:Tok)(TL:Nat)(items:Array Value)(te g:Nat)(sc:Int)(k:Int)(tk:Tok):Cn:=⟨390,[(I,aj (.ref CM) g),(CM,ac (aa cs) ce),(Z,cP ht SC z.n tm Pf va vw f OR),(Z+2,af (.str x.s tn)),(Z+3,af (.int sz ts)),(Z+5,af (.ref BK)),(Z+6,af (.ref CM)),(Z+9,af (.ref TL)),(Z+10,af (.int now t0)),(Z+11,aY o11),(TL,ac items te)],r8 v.w Z I,λzn zu=>.cut {js:=[0,1],ju:=[0],K:=1,N:=7,orc:=(dz 1 1)} (.call (.builtin "list_iterator.__next__") ⟨[.ref I],[]⟩) (λj=>[(I,aj (.ref CM) g),(CM,ac (aa cs) ce)]) (λj=>an I (.int c tc) (aj (.ref CM) (g+1))) λj n1 u1=>.cut {ws:=[9],js:=[10],K:=1,N:=19,orc:=(dz 7 48759442638090),wa:=[Z+11]} (.call (.builtin "list.__getitem__") ⟨[.ref TL,.int c tc],[]⟩) (λj=>[(TL,ac items te)]) (λj=>aW (.ok (.ret (.int k tk)))) λj n2 u2=>.cut {js:=[11,12,13,1,9],ju:=[11,12,13],i:=3,u:=1,K:=1,cnt:=2,N:=31,orc:=(dz 11 14185691464764185788549),ps:=[IntMulOk k sz]} (gN true v.w Z n2 (n2+1) (n2+2)) (λE=>[(n2,aj (.ref CM) 0),(n2+1,ac #[] 0),(n2+2,bO (λj=>(0,0)) [] 0),(CM,ac (aa cs) ce),(Z+11,af (.int c tc))]) (λj=>bV n2 (n2+1) (n2+2) aG cs.length true) λw n3 u3=>.cut {ws:=[13],js:=[12],K:=1,N:=12,orc:=(dz 4 231182),wa:=[n2+2]} (.call (.ref 540) ⟨[.str x.s tn,.ref BK,.ref (n2+1)],[]⟩) (λj=>[(n2+1,ac (aa w.ys) w.ys.length)]) (λj=>aw sc) λt5 n4 u4=>.cut {js:=[15,16,17,9,6,7,10,1],ju:=[15,16,17],i:=4,u:=3,K:=1,cnt:=10,N:=54,orc:=(dz 15 5108033028872412568629406597121),ps:=[k*sz=now-sc]} (cJ true v.w Z (n4+1) (n4+2) (n4+3)) (λE=>[(n4+1,ay 0 z.n),(n4+2,ac #[] 0),(n4+3,bO (λj=>(0,0)) [] 0),(Z+11,af (.int c tc)),(Z+6,af (.ref CM)),(Z+9,af (.ref TL)),(TL,ac items te),(CM,ac (aa cs) ce)]) (λj=>c8 z (n4+1) (n4+2) (n4+3) aG) λy3 n5 u5=>.tail {ws:=[17],js:=[0,1,2,3,4,5,6,7,8,9,10],i:=1,cnt:=3,N:=29,orc:=(dz 14 47373440761138585726011869458),wa:=[n4+3]} (r8 v.w Z I) (λE=>[(I,aj (.ref CM) (g+1)),(CM,ac (aa cs) ce),(Z,cP ht SC z.n tm Pf va vw f OR),(Z+2,af (.str x.s tn)),(Z+3,af (.int sz ts)),(Z+5,af (.ref BK)),(Z+6,af (.ref CM)),(Z+9,af (.ref TL)),(Z+10,af (.int now t0)),(Z+11,af (.int c tc)),(TL,ac items te)])⟩
theorem y6 v z x Z I OR SC Pf f BK CM ht tm tn va vw sz ts cs ce o11 c tc now t0 TL items te g sc k tk:(EX v z x Z I OR SC Pf f BK CM ht tm tn va vw sz ts cs ce o11 c tc now t0 TL items te g sc k tk).G v:=Cn.h2 dG (f:=λz v=>EX v z x Z I OR SC Pf f BK CM ht tm tn va vw sz ts cs ce o11 c tc now t0 TL items te g sc k tk) (λj j j j=>by kernel_rfl) z v
noncomputable def EZ(v:WV)(z:Sz)(x:Nm)(Z I OR SC Pf f BK CM:Nat)(ht:Nat→Int×Tok)(tm tn:Tok)(va vw:Value)(sz:Int)(ts:Tok)(cs:List (Int×Tok))(ce:Nat)(o11:Option Value)(c:Int)(tc:Tok)(now:Int)(t0:Tok)(TL:Nat)(items:Array Value)(te g:Nat)(sc:Int)(a b:Nat)(ht2:Nat→Int×Tok)(q q1:Rat)(tq td2:Tok):Cn:=⟨390,[(I,aj (.ref CM) g),(CM,ac (aa cs) ce),(Z,cP ht SC z.n tm Pf va vw f OR),(Z+2,af (.str x.s tn)),(Z+3,af (.int sz ts)),(Z+5,af (.ref BK)),(Z+6,af (.ref CM)),(Z+9,af (.ref TL)),(Z+10,af (.int now t0)),(Z+11,aY o11),(TL,ac items te),(a,bn b),(b,cu ht2 q.num tq q.den td2)],r8 v.w Z I,λzn zu=>.cut {js:=[0,1],ju:=[0],K:=1,N:=7,orc:=(dz 1 1)} (.call (.builtin "list_iterator.__next__") ⟨[.ref I],[]⟩) (λj=>[(I,aj (.ref CM) g),(CM,ac (aa cs) ce)]) (λj=>an I (.int c tc) (aj (.ref CM) (g+1))) λj n1 u1=>.cut {ws:=[9],js:=[10],K:=1,N:=19,orc:=(dz 7 48759442638090),wa:=[Z+11]} (.call (.builtin "list.__getitem__") ⟨[.ref TL,.int c tc],[]⟩) (λj=>[(TL,ac items te)]) (λj=>aW (.ok (.ret (.ref a)))) λj n2 u2=>.cut {js:=[11,12],K:=1,N:=24,orc:=(dz 17 232113757366008801543587333)} (.call (.ref 178) ⟨[.ref a,.int sz ts],[]⟩) (λj=>aJ a b ht2 q.num tq q.den td2) (λj=>ar q1) λy n3 u3=>.cut {js:=[15,16,17,1,9],ju:=[15,16,17],i:=3,K:=1,cnt:=2,N:=27,orc:=(dz 9 1154056271217885193)} (gN true v.w Z n3 (n3+1) (n3+2)) (λE=>[(n3,aj (.ref CM) 0),(n3+1,ac #[] 0),(n3+2,bO (λj=>(0,0)) [] 0),(CM,ac (aa cs) ce),(Z+11,af (.int c tc))]) (λj=>bV n3 (n3+1) (n3+2) aG cs.length true) λw n4 u4=>.cut {ws:=[17],js:=[16],K:=1,N:=12,orc:=(dz 4 297234),wa:=[n3+2]} (.call (.ref 540) ⟨[.str x.s tn,.ref BK,.ref (n3+1)],[]⟩) (λj=>[(n3+1,ac (aa w.ys) w.ys.length)]) (λj=>aw sc) λt5 n5 u5=>.cut {js:=[13,14],u:=1,K:=1,cnt:=2,N:=19,orc:=(dz 6 1806)} (.call (.ref 206) ⟨[.ref y.a,.int (now-sc) u5],[]⟩) (λj=>aJ y.a y.b y.ht q1.num y.tn q1.den y.td) (λj=>aM true) λj n6 u6=>.cut {js:=[19,20,21,9,6,7,10,1],ju:=[19,20,21],i:=4,u:=2,K:=1,cnt:=8,N:=45,orc:=(dz 14 49888008827264379897115623424)} (cJ true v.w Z (n6+1) (n6+2) (n6+3)) (λE=>[(n6+1,ay 0 z.n),(n6+2,ac #[] 0),(n6+3,bO (λj=>(0,0)) [] 0),(Z+11,af (.int c tc)),(Z+6,af (.ref CM)),(Z+9,af (.ref TL)),(TL,ac items te),(CM,ac (aa cs) ce)]) (λj=>c8 z (n6+1) (n6+2) (n6+3) aG) λy3 n7 u7=>.tail {ws:=[21],js:=[0,1,2,3,4,5,6,7,8,9,10],i:=1,cnt:=3,N:=29,orc:=(dz 14 57354941550337242430710319894),wa:=[n6+3]} (r8 v.w Z I) (λE=>[(I,aj (.ref CM) (g+1)),(CM,ac (aa cs) ce),(Z,cP ht SC z.n tm Pf va vw f OR),(Z+2,af (.str x.s tn)),(Z+3,af (.int sz ts)),(Z+5,af (.ref BK)),(Z+6,af (.ref CM)),(Z+9,af (.ref TL)),(Z+10,af (.int now t0)),(Z+11,af (.int c tc)),(TL,ac items te)])⟩
theorem y7 v z x Z I OR SC Pf f BK CM ht tm tn va vw sz ts cs ce o11 c tc now t0 TL items te g sc a b ht2 q q1 tq td2:(EZ v z x Z I OR SC Pf f BK CM ht tm tn va vw sz ts cs ce o11 c tc now t0 TL items te g sc a b ht2 q q1 tq td2).G v:=Cn.h2 dG (f:=λz v=>EZ v z x Z I OR SC Pf f BK CM ht tm tn va vw sz ts cs ce o11 c tc now t0 TL items te g sc a b ht2 q q1 tq td2) (λj j j j=>by kernel_rfl) z v
noncomputable def Hc(v:WV)(Z I CM:Nat)(cs:List (Int×Tok))(ce g:Nat):Cn:=⟨100,[(I,aj (.ref CM) g),(CM,ac (aa cs) ce)],r8 v.w Z I,λzn zu=>.cut {js:=[0,1],ju:=[0],K:=1,N:=7,orc:=(dz 1 1)} (.call (.builtin "list_iterator.__next__") ⟨[.ref I],[]⟩) (λj=>[(I,aj (.ref CM) g),(CM,ac (aa cs) ce)]) (λj=>aE I (aj .none g)) λj n1 u1=>.fin {js:=[0],cnt:=1,N:=7,orc:=(dz 1 4)} (.ok .next) (λE=>[(I,aj .none g)])⟩
theorem y8 v Z I CM cs ce g:(Hc v Z I CM cs ce g).G v:=Cn.g1 (f:=λv=>Hc v Z I CM cs ce g) (λj j j j j=>by kernel_rfl) v
noncomputable def E0(v:WV)(z:Sz)(x:Nm)(Z I OR SC Pf f BK CM:Nat)(ht:Nat→Int×Tok)(tm tn:Tok)(va vw:Value)(sz:Int)(ts:Tok)(cs:List (Int×Tok))(ce:Nat)(o11:Option Value)(c:Int)(tc:Tok)(now:Int)(RV:Nat)(os:Array Value)(oe g:Nat)(o8 o9 o10:Option Value):Cn:=⟨420,[(I,aj (.ref RV) g),(RV,ac os oe),(Z,cP ht SC z.n tm Pf va vw f OR),(Z+2,af (.str x.s tn)),(Z+3,af (.int sz ts)),(Z+5,af (.ref BK)),(Z+6,af (.ref CM)),(Z+8,aY o8),(Z+9,aY o9),(Z+10,aY o10),(Z+11,aY o11),(CM,ac (aa cs) ce)],uE v.w Z I,λzn zu=>.cut {js:=[0,1],ju:=[0],K:=1,N:=7,orc:=(dz 1 1)} (.call (.builtin "list_iterator.__next__") ⟨[.ref I],[]⟩) (λj=>[(I,aj (.ref RV) g),(RV,ac os oe)]) (λj=>an I (.int c tc) (aj (.ref RV) (g+1))) λj n1 u1=>.cut {ws:=[7],js:=[11],K:=1,N:=21,orc:=(dz 7 241329767432),wa:=[Z+8]} (.call (.ref 341) ⟨[.ref f,.ref Pf,.ref CM],[]⟩) (λj=>[(CM,ac (aa cs) ce)]) (λj=>dr) λT n2 u2=>.cut {ws:=[8],js:=[11],K:=1,N:=22,orc:=(dz 7 242137171081),wa:=[Z+9]} (.call (.ref 540) ⟨[.str x.s tn,.ref BK,.ref CM],[]⟩) (λj=>[(CM,ac (aa cs) ce)]) (λj=>aw now) λt3 n3 u3=>.cut {ws:=[9],js:=[13,11,2,3,4,5,6,8,9,10,12],ju:=[13,10],i:=1,K:=1,cnt:=2,N:=24,orc:=(dz 7 61988214523146),wa:=[Z+10]} (r8 v.w Z n3) (λE=>[(n3,aj (.ref CM) 0),(CM,ac (aa cs) ce),(Z,cP ht SC z.n tm Pf va vw f OR),(Z+2,af (.str x.s tn)),(Z+3,af (.int sz ts)),(Z+5,af (.ref BK)),(Z+6,af (.ref CM)),(Z+9,af (.ref T.a)),(Z+10,af (.int now t3)),(Z+11,aY o11),(T.a,ac T.items 0)]) (λj=>qU n3 Z cs.length) λy n4 u4=>.cut {js:=[14,15,16,11,7],ju:=[14,15,16],i:=3,K:=1,cnt:=2,N:=20,orc:=(dz 5 4051895815)} (fx true v.w Z n4 (n4+1) (n4+2)) (λE=>[(n4,aj (.ref CM) 0),(n4+1,ac #[] 0),(n4+2,bO (λj=>(0,0)) [] 0),(CM,ac (aa cs) ce),(Z+8,af (.int c tc))]) (λj=>bV n4 (n4+1) (n4+2) cQ cs.length true) λw n5 u5=>.tail {ws:=[16,6],js:=[0,1,2,3,4,5,6,7,8,9,10,15],N:=15,orc:=(dz 5 1894008977),wa:=[n4+2,Z+6]} (uE v.w Z I) (λE=>[(I,aj (.ref RV) (g+1)),(RV,ac os oe),(Z,cP ht SC z.n tm Pf va vw f OR),(Z+2,af (.str x.s tn)),(Z+3,af (.int sz ts)),(Z+5,af (.ref BK)),(Z+6,af (.ref (n4+1))),(Z+8,af (.int c tc)),(Z+9,af (.ref T.a)),(Z+10,af (.int now t3)),(Z+11,aY y.o),((n4+1),ac (aa w.ys) w.ys.length)])⟩
theorem za v z x Z I OR SC Pf f BK CM ht tm tn va vw sz ts cs ce o11 c tc now RV os oe g o8 o9 o10:(E0 v z x Z I OR SC Pf f BK CM ht tm tn va vw sz ts cs ce o11 c tc now RV os oe g o8 o9 o10).G v:=Cn.h2 dG (f:=λz v=>E0 v z x Z I OR SC Pf f BK CM ht tm tn va vw sz ts cs ce o11 c tc now RV os oe g o8 o9 o10) (λj j j j=>by kernel_rfl) z v
noncomputable def Hd(v:WV)(Z I RV:Nat)(os:Array Value)(oe g:Nat):Cn:=⟨100,[(I,aj (.ref RV) g),(RV,ac os oe)],uE v.w Z I,λzn zu=>.cut {js:=[0,1],ju:=[0],K:=1,N:=7,orc:=(dz 1 1)} (.call (.builtin "list_iterator.__next__") ⟨[.ref I],[]⟩) (λj=>[(I,aj (.ref RV) g),(RV,ac os oe)]) (λj=>aE I (aj .none g)) λj n1 u1=>.fin {js:=[0],cnt:=1,N:=7,orc:=(dz 1 4)} (.ok .next) (λE=>[(I,aj .none g)])⟩
theorem zd v Z I RV os oe g:(Hd v Z I RV os oe g).G v:=Cn.g1 (f:=λv=>Hd v Z I RV os oe g) (λj j j j j=>by kernel_rfl) v
noncomputable def He(v:WV)(Z I RV:Nat)(os:Array Value)(oe g:Nat):Cn:=⟨100,[(I,aj (.ref RV) g),(RV,ac os oe)],oD v.w Z I,λzn zu=>.cut {js:=[0,1],ju:=[0],K:=1,N:=7,orc:=(dz 1 1)} (.call (.builtin "list_iterator.__next__") ⟨[.ref I],[]⟩) (λj=>[(I,aj (.ref RV) g),(RV,ac os oe)]) (λj=>aE I (aj .none g)) λj n1 u1=>.fin {js:=[0],cnt:=1,N:=7,orc:=(dz 1 4)} (.ok .next) (λE=>[(I,aj .none g)])⟩
theorem zf v Z I RV os oe g:(He v Z I RV os oe g).G v:=Cn.g1 (f:=λv=>He v Z I RV os oe g) (λj j j j j=>by kernel_rfl) v
noncomputable abbrev ji:=List Int×Int
noncomputable def dk(x:Nm)(ms:List Int):List ji→Int
 |[]=>0
 |y::l=>y.2*gV x (ap y.1 ms)+dk x ms l
noncomputable def g7(x:Nm)(k:List Int→Nat)(c:Int):List ji→Int
 |[]=>0
 |y::l=>(if c∈y.1 then y.2*gA x (k y.1) else 0)+g7 x k c l
noncomputable def lV(x:Nm)(k:List Int→Nat)(c:Int):List ji→Rat
 |[]=>0
 |y::l=>(if c∈y.1 then gY x.j (k y.1)*(y.2:Rat) else 0)+lV x k c l
theorem mY(x:Nm)(k:List Int→Nat)(c:Int):∀l:List ji,(∀y∈l,c∈y.1→k y.1≤4)→lV x k c l*(cU x:Rat)=(g7 x k c l:Rat)
 |[],_=>by simp[lV,g7]
 |y::l,h=>by
  have ih:=mY x k c l λz hz=>h z (List.mem_cons_of_mem _ hz)
  unfold lV g7
  rw[Rat.add_mul,ih,Rat.intCast_add]
  congr 1
  by_cases hc:c∈y.1
  ·rw[if_pos hc,if_pos hc,Rat.intCast_mul,←pX x _ (h y (List.mem_cons_self ..) hc),Rat.mul_assoc,Rat.mul_comm (y.2:Rat),←Rat.mul_assoc,Rat.mul_comm]
  ·rw[if_neg hc,if_neg hc,Rat.zero_mul];rfl
theorem gaR_dv(x:Nm)(k:List Int→Nat)(c:Int)(l:List ji)(h:∀y∈l,c∈y.1→k y.1≤4):Dv (cU x) (lV x k c l):=⟨_,mY x k c l h⟩
theorem iL(x:Nm){ms:List Int}{c:Int}(hc:c∉ms):∀l:List ji,(∀y∈l,y.1.Nodup)→dk x (ms++[c]) l=dk x ms l+g7 x (λb=>ap b ms+1) c l
 |[],_=>by simp[dk,g7]
 |y::l,h=>by
  have ih:=iL x hc l λz hz=>h z (List.mem_cons_of_mem _ hz)
  unfold dk g7
  rw[ih]
  by_cases hy:c∈y.1
  ·rw[bX hc (h y (List.mem_cons_self ..)) hy,if_pos hy]
   show y.2*(gV x (ap y.1 ms)+gA x (ap y.1 ms+1))+_=_
   rw[Int.mul_add]
   omega
  ·rw[bx (.inl hy),if_neg hy]
   omega
theorem dW{L p q:List Int}(h:∀k,k∈p↔k∈q):ap L p=ap L q:=by
 unfold ap
 congr 1
 apply List.filter_congr
 intro k _
 simp[h k]
theorem fI(x:Nm){p q:List Int}(h:∀k,k∈p↔k∈q):∀l:List ji,dk x p l=dk x q l
 |[]=>rfl
 |y::l=>by unfold dk;rw[dW h,fI x h l]
noncomputable def wo(ms:List Int)(c:Int):List Int:=ms.filter λk=>decide (k≠c)
theorem o7{ms:List Int}{c:Int}(hc:c∈ms)(k:Int):k∈ms↔k∈wo ms c++[c]:=by
 unfold wo
 by_cases e:k=c
 ·subst e;simp[hc]
 ·simp[e]
theorem o6(ms:List Int)(c:Int):c∉wo ms c:=by simp[wo]
theorem il(x:Nm){k k':List Int→Nat}{c:Int}:∀l:List ji,(∀y∈l,c∈y.1→k y.1=k' y.1)→g7 x k c l=g7 x k' c l
 |[],_=>rfl
 |y::l,h=>by
  unfold g7
  rw[il x l λz hz=>h z (List.mem_cons_of_mem _ hz)]
  by_cases hc:c∈y.1
  ·rw[if_pos hc,if_pos hc,h y (List.mem_cons_self ..) hc]
  ·rw[if_neg hc,if_neg hc]
theorem sE(x:Nm){ms:List Int}{c:Int}(hc:c∈ms)(l:List ji)(h:∀y∈l,y.1.Nodup):dk x ms l-dk x (wo ms c) l=g7 x (λb=>ap b ms) c l:=by
 rw[fI x (o7 hc) l,iL x (o6 ms c) l h]
 have:g7 x (λb=>ap b (wo ms c)+1) c l=g7 x (λb=>ap b ms) c l:=il x l λy hy hcy=>by
  show ap y.1 (wo ms c)+1=ap y.1 ms
  rw[dW (o7 hc),bX (o6 ms c) (h y hy) hcy]
 rw[this]
 omega
theorem tI(x:Nm)(hx:x≠.natleast2){i i':Nat}(h1:1≤i)(h:i≤i')(h4:i'≤4):gA x i'≤gA x i:=by
 have key:∀i'∈[1,2,3,4],∀i∈[1,2,3,4],i≤i'→gA x i'≤gA x i:=by
  cases x<;>first|exact absurd rfl hx|decide
 exact key i' (by simp;omega) i (by simp;omega) h
theorem nN(x:Nm)(i:Nat):0≤gA x i∧gA x i≤cU x:=by
 match i with
 |0=>cases x<;>decide
 |1=>cases x<;>decide
 |2=>cases x<;>decide
 |3=>cases x<;>decide
 |4=>cases x<;>decide
 |i+5=>cases x<;>first|exact(by decide:(0:Int)≤0∧(0:Int)≤1260)|exact(by decide:(0:Int)≤0∧(0:Int)≤1296)|exact(by decide:(0:Int)≤1260∧(1260:Int)≤1260)
theorem gI(x:Nm)(k:List Int→Nat)(c:Int):∀l:List ji,(∀y∈l,0≤y.2)→0≤g7 x k c l
 |[],_=>by simp[g7]
 |y::l,h=>by
  have ih:=gI x k c l λz hz=>h z (List.mem_cons_of_mem _ hz)
  unfold g7
  by_cases hc:c∈y.1
  ·rw[if_pos hc]
   have:=Int.mul_nonneg (h y (List.mem_cons_self ..)) (nN x (k y.1)).1
   omega
  ·rw[if_neg hc];omega
theorem kD(x:Nm)(hx:x≠.natleast2){k k':List Int→Nat}{c:Int}:∀l:List ji,(∀y∈l,0≤y.2)→(∀y∈l,c∈y.1→1≤k y.1∧k y.1≤k' y.1∧k' y.1≤4)→g7 x k' c l≤g7 x k c l
 |[],_,_=>by simp[g7]
 |y::l,h,g=>by
  have ih:=kD x hx l (λz hz=>h z (List.mem_cons_of_mem _ hz)) λz hz=>g z (List.mem_cons_of_mem _ hz)
  unfold g7
  by_cases hc:c∈y.1
  ·rw[if_pos hc,if_pos hc]
   obtain⟨g1,g2,g3⟩:=g y (List.mem_cons_self ..) hc
   have:=Int.mul_le_mul_of_nonneg_left (tI x hx g1 g2 g3) (h y (List.mem_cons_self ..))
   omega
  ·rw[if_neg hc,if_neg hc];omega
noncomputable def eS(x:Nm)(ms:List Int)(l:List ji)(c:Int):Int:=if c∈ms then-cU x else dk x (ms++[c]) l-dk x ms l
theorem fm{x:Nm}{ms:List Int}{l:List ji}{c:Int}(hc:c∉ms)(h:∀y∈l,y.1.Nodup):eS x ms l c=g7 x (λb=>ap b ms+1) c l:=by
 unfold eS
 rw[if_neg hc,iL x hc l h]
 omega
theorem bp{L:List Int}(nd:L.Nodup):∀p:List Int,ap L p≤p.length
 |[]=>by simp[ap]
 |c::p=>by
  have ih:=bp nd p
  rw[dW (p:=c::p) (q:=p++[c]) (λk=>by simp[or_comm])]
  by_cases hp:c∈p
  ·rw[bx (.inr hp)];simp;omega
  ·by_cases hL:c∈L
   ·rw[bX hp nd hL];simp;omega
   ·rw[bx (.inl hL)];simp;omega
theorem gk(L p:List Int)(c:Int):ap L p≤ap L (p++[c]):=by
 unfold ap
 rw[←List.countP_eq_length_filter,←List.countP_eq_length_filter]
 exact List.countP_mono_left λk j h=>by simp at h ⊢;exact .inl h
theorem q9{x:Nm}(hx:x≠.natleast2){ms:List Int}{l:List ji}{c c':Int}(h:∀y∈l,y.1.Nodup)(hw:∀y∈l,0≤y.2)(hlen:ms.length+1≤3):eS x (ms++[c']) l c≤eS x ms l c:=by
 by_cases h1:c∈ms
 ·unfold eS
  rw[if_pos h1,if_pos (List.mem_append_left _ h1)]
  exact Int.le_refl _
 ·by_cases h2:c∈ms++[c']
  ·rw[fm h1 h]
   unfold eS
   rw[if_pos h2]
   have:=gI x (λb=>ap b ms+1) c l hw
   have:=(cf x).1
   omega
  ·rw[fm h1 h,fm h2 h]
   refine kD x hx l hw λy hy hcy=>⟨Nat.le_add_left ..,Nat.add_le_add_right (gk ..) 1,?_⟩
   have:=bp (h y hy) (ms++[c'])
   simp at this
   omega
theorem no(d:Rat):∀(P:List Value),(P.map eX).Nodup→∀(val:Nat→Rat) (i:Nat),fW d P val i=if i∈P.map eX then val i+d else val i
 |[],_,val,i=>by simp[fW]
 |x::l,h,val,i=>by
  obtain⟨h1,h2⟩:=List.nodup_cons.mp (by rw[List.map_cons]at h;exact h)
  unfold fW
  rw[no d l h2]
  by_cases e:i=eX x
  ·subst e
   rw[if_neg h1,if_pos rfl,if_pos (by simp)]
  ·simp[e]
theorem sh{v:WV}{y:VM}(k:bh v y.x.S y.x.so y.x.es y.x.ep y.x.t y.x.P y.x.sl)(he:y.x.es=ai y.b.l y.tk)(hL:y.x.L=y.b.l.map fun(c:Nat)=>(c:Int)):
  (y.x.P.map eX).Nodup∧∀i:Nat,i∈y.x.P.map eX↔(i:Int)∈y.x.L:=by
 have hp:=k.wk.perm.map eX
 rw[he]at hp
 have e:((ai y.b.l y.tk).toList.map (·.2)).map eX=y.b.l:=by
  simp only[ai,List.map_map]
  exact List.map_id' y.b.l
 rw[e]at hp
 refine⟨hp.nodup_iff.mpr (by cases y.b<;>decide),λi=>?_⟩
 rw[hp.mem_iff,hL,List.mem_map]
 exact⟨λh=>⟨i,h,rfl⟩,fun⟨a,ha,e⟩=>by rw[←Int.ofNat_inj.mp e];exact ha⟩
noncomputable def gv(y:VM):ji:=(y.x.L,y.x.wt)
theorem gz(x:Nm)(k:List Int→Nat)(c:Nat):∀(vl:List VM),(∀y∈vl,(y.x.P.map eX).Nodup∧∀i:Nat,i∈y.x.P.map eX↔(i:Int)∈y.x.L)→∀val:Nat→Rat,
  dN (λy=>gY x.j (k y.L)) (vl.map (·.x)) val c=val c+lV x k c (vl.map gv)
 |[],_,val=>by simp[dN,lV,Rat.add_zero]
 |y::l,h,val=>by
  obtain⟨h1,h2⟩:=h y (List.mem_cons_self ..)
  rw[List.map_cons,List.map_cons]
  unfold dN lV
  rw[gz x k c l (λz hz=>h z (List.mem_cons_of_mem _ hz)),no _ _ h1]
  show(if c∈y.x.P.map eX then _ else _)+_=val c+((if(c:Int)∈y.x.L then gY x.j (k y.x.L)*(y.x.wt:Rat) else 0)+lV x k c (l.map gv))
  by_cases hc:(c:Int)∈y.x.L
  ·rw[if_pos hc,if_pos ((h2 c).mpr hc),Rat.add_assoc]
  ·rw[if_neg hc,if_neg λh=>hc ((h2 c).mp h),Rat.zero_add]
theorem mF(c:Nat):∀(cs:List (Int×Tok)),(∀p∈cs,0≤p.1)→∀val:Nat→Rat,jr cs val c=if(c:Int)∈cs.map (·.1) then((-1:Int):Rat) else val c
 |[],_,val=>by simp[jr]
 |p::l,h,val=>by
  unfold jr
  rw[mF c l λq hq=>h q (List.mem_cons_of_mem _ hq)]
  have h0:=h p (List.mem_cons_self ..)
  by_cases hc:(c:Int)∈l.map (·.1)
  ·rw[if_pos hc,if_pos (by simp at hc ⊢;exact .inr hc)]
  ·rw[if_neg hc]
   by_cases e:c=p.1.toNat
   ·rw[if_pos e,if_pos (by rw[List.map_cons];exact List.mem_cons.mpr (Or.inl (by omega)))]
   ·rw[if_neg e,if_neg (by
     rw[List.map_cons,List.mem_cons]
     rintro (h1|h1)
     ·exact e (by omega)
     ·exact hc h1)]
theorem lu(m:Nat)(cs:List Int)(c:Nat)(hc:(c:Int)∈cs):∀(l:List (Int×Tok)),(∀p∈l,0≤p.1)→∀val:Nat→Rat,hJ m cs l val c=val c
 |[],_,val=>rfl
 |p::l,h,val=>by
  have h0:=h p (List.mem_cons_self ..)
  have ih:=lu m cs c hc l λq hq=>h q (List.mem_cons_of_mem _ hq)
  unfold hJ
  cases hp:decide (p.1∈cs)with
  |true=>exact ih val
  |false=>
   show hJ m cs l _ c=_
   rw[ih]
   have hp:=of_decide_eq_false hp
   exact if_neg λe=>hp (by
    have:(c:Int)=p.1:=by omega
    rw[←this];exact hc)
theorem mA(m:Nat)(cs:List Int)(o:Nat):∀(l:List (Int×Tok)),(∀p∈l,0≤p.1)→(o:Int)∉l.map (·.1)→∀val:Nat→Rat,hJ m cs l val o=val o
 |[],_,_,val=>rfl
 |p::l,h,ho,val=>by
  have h0:=h p (List.mem_cons_self ..)
  rw[List.map_cons,List.mem_cons,not_or]at ho
  have ih:=mA m cs o l (λq hq=>h q (List.mem_cons_of_mem _ hq)) ho.2
  unfold hJ
  cases hp:decide (p.1∈cs)with
  |true=>exact ih val
  |false=>
   show hJ m cs l _ o=_
   rw[ih]
   exact if_neg λe=>ho.1 (by omega)
theorem iI(m:Nat)(hm:0<m)(cs:List Int)(c o:Nat)(hcm:c<m)(hc:(c:Int)∈cs)(ho:(o:Int)∉cs):∀(l:List (Int×Tok)),(∀p∈l,0≤p.1)→(l.map (·.1)).Nodup→(o:Int)∈l.map (·.1)→∀val:Nat→Rat,val c<hJ m cs l val o
 |[],_,_,h,_=>by simp at h
 |p::l,h,nd,hol,val=>by
  have h0:=h p (List.mem_cons_self ..)
  have h':∀q∈l,0≤q.1:=λq hq=>h q (List.mem_cons_of_mem _ hq)
  rw[List.map_cons,List.nodup_cons]at nd
  rw[List.map_cons,List.mem_cons]at hol
  unfold hJ
  cases hp:decide (p.1∈cs)with
  |true=>
   have hp:=of_decide_eq_true hp
   refine iI m hm cs c o hcm hc ho l h' nd.2 (hol.resolve_left λe=>ho (e▸hp)) val
  |false=>
   have hp:=of_decide_eq_false hp
   have hcp:c≠p.1.toNat:=λe=>hp (by
    have:(c:Int)=p.1:=by omega
    rw[←this];exact hc)
   by_cases e:(o:Int)=p.1
   ·show val c<hJ m cs l _ o
    rw[mA m cs o l h' (by rw[e];exact nd.1)]
    rw[if_pos (by omega)]
    have h1:=(gP val (m-1)).2 c (by omega)
    have h2:val (argBest (bt val) (m-1))<val (argBest (bt val) (m-1))+((1:Int):Rat):=by
     conv=>lhs;rw[←Rat.add_zero (val _)]
     exact Rat.add_lt_add_left.mpr (by decide)
    exact Std.lt_of_le_of_lt h1 h2
   ·have:=iI m hm cs c o hcm hc ho l h' nd.2 (hol.resolve_left e) (λx=>if x=p.1.toNat then val (argBest (bt val) (m-1))+((1:Int):Rat) else val x)
    rw[if_neg hcp]at this
    exact this
theorem eF(x:Nm)(cs:List (Int×Tok)):∀(bl:List ef) (t:Int),cb x cs bl t=t+dk x (cs.map (·.1)) (bl.map λe=>(e.xs.map (·.1),e.w))
 |[],t=>by simp[cb,dk]
 |e::bl,t=>by
  rw[List.map_cons]
  unfold cb dk
  rw[eF x cs bl]
  have:e.seats cs=ap (e.xs.map (·.1)) (cs.map (·.1)):=by
   unfold ef.seats ap
   rw[List.filter_map,List.length_map]
   rfl
  rw[this]
  exact Int.add_assoc _ _ _
theorem Kn.pkA{B:X.KT}{s:Shared}{a ex:List (Addr×Obj)}(k:Kn B s (a++ex))(ix:List Nat)(h:eI ix=true):Kn B s (eV a ix++ex):=by
 have nd:=k.nd
 rw[List.map_append,List.nodup_append]at nd
 refine((k.sub (List.sublist_append_left _ _)).pk ix h).app (k.sub (List.sublist_append_right _ _)) λp hp q hq e=>?_
 obtain⟨i,_,hi⟩:=c7 hp
 exact nd.2.2 p.1 (List.mem_map_of_mem (List.mem_of_getElem? hi)) q.1 (List.mem_map_of_mem hq) e
structure LS where
 x:Nm
 q:np
 z:Sz
 Pf:Addr
 PD:Addr
 CL:Addr
 NL:Addr
 VL:Addr
 BK:Addr
 pht:Nat→Int×Tok
 tc:Nat→Tok
 cle:Nat
 ve:Nat
 be:Nat
 vl:List VM
 bl:List ef
 tn:Tok
noncomputable def k6(e:ef):ji:=(e.xs.map (·.1),e.w)
namespace LS
noncomputable def bals(l:LS):List ji:=l.bl.map k6
noncomputable def kn(v:WV)(l:LS):List (Addr×Obj):=[(l.Pf,dJ l.PD),(l.PD,dK l.pht l.CL l.NL l.VL),(l.CL,ac (aa (l.z.cl l.tc)) l.cle),(l.VL,ac (bC l.vl) l.ve)]++(cH v l.x l.q++(dj l.vl++cB l.BK l.bl l.be))
structure ok (v:WV) (l:LS):Prop where
 q:l.q.ok l.x
 set:∀y∈l.vl,y.x.ok v l.z.n
 es:∀y∈l.vl,y.x.es=ai y.b.l y.tk∧y.x.t=ak y.b.l (!v.b3)∧y.x.L=y.b.l.map fun(c:Nat)=>(c:Int)
 lt:∀y∈l.vl,∀c∈y.b.l,c<l.z.n
 w:∀y∈l.vl,0≤y.x.wt
 ne:l.vl≠[]
 bal:l.vl.map gv=l.bals
section
variable {v:WV} {l:LS} (h:l.ok v)
include h
theorem ok.bne:l.bl≠[]:=λe=>h.ne (by
 have:=h.bal
 unfold bals at this
 rw[e]at this
 simpa using this)
theorem ok.ofBal{b:ji}(hb:b∈l.bals):∃y∈l.vl,y.x.L=b.1∧y.x.wt=b.2:=by
 rw[←h.bal]at hb
 obtain⟨y,hy,rfl⟩:=List.mem_map.mp hb
 exact⟨y,hy,rfl,rfl⟩
theorem ok.nd{y:VM}(hy:y∈l.vl):y.x.L.Nodup:=by
 rw[(h.es y hy).2.2]
 cases y.b<;>decide
theorem ok.len{y:VM}(hy:y∈l.vl):y.x.L.length≤4:=by
 rw[(h.es y hy).2.2,List.length_map]
 exact y.b.l_le
theorem ok.bnd:∀b∈l.bals,b.1.Nodup:=λb hb=>by
 obtain⟨y,hy,e,_⟩:=h.ofBal hb
 exact e▸h.nd hy
theorem ok.bw:∀b∈l.bals,0≤b.2:=λb hb=>by
 obtain⟨y,hy,_,e⟩:=h.ofBal hb
 exact e▸h.w y hy
theorem ok.b4:∀b∈l.bals,b.1.length≤4:=λb hb=>by
 obtain⟨y,hy,e,_⟩:=h.ofBal hb
 exact e▸h.len hy
theorem ok.bl4:∀e∈l.bl,e.xs.length≤4:=λe he=>by
 have:=h.b4 (k6 e) (List.mem_map_of_mem he)
 simpa [k6]using this
theorem ok.walk:∀y∈l.vl,(y.x.P.map eX).Nodup∧∀i:Nat,i∈y.x.P.map eX↔(i:Int)∈y.x.L:=λy hy=>sh (h.set y hy).set (h.es y hy).1 (h.es y hy).2.2
theorem ok.pre{s:Shared}{CM:Addr}{o:Obj}(k:Kn (KB v.w) s ((CM,o)::l.kn v))(f:Addr×Obj)(hf:f∈cH v l.x l.q):
  Kn (KB v.w) s ([(l.Pf,dJ l.PD),(l.PD,dK l.pht l.CL l.NL l.VL),(l.CL,ac (aa (l.z.cl l.tc)) l.cle),(l.VL,ac (bC l.vl) l.ve),(CM,o)]++(f::dj l.vl)):=by
 have k1:Kn (KB v.w) s ([(l.Pf,dJ l.PD),(l.PD,dK l.pht l.CL l.NL l.VL),(l.CL,ac (aa (l.z.cl l.tc)) l.cle),(l.VL,ac (bC l.vl) l.ve)]++(CM,o)::(cH v l.x l.q++(dj l.vl++cB l.BK l.bl l.be))):=k.perm List.perm_middle.symm
 refine k1.sub ?_
 show List.Sublist ([(l.Pf,dJ l.PD),(l.PD,dK l.pht l.CL l.NL l.VL),(l.CL,ac (aa (l.z.cl l.tc)) l.cle),(l.VL,ac (bC l.vl) l.ve)]++(CM,o)::(f::dj l.vl)) _
 refine List.Sublist.append (List.Sublist.refl _) (.cons_cons _ ?_)
 exact List.Sublist.append (List.singleton_sublist.mpr hf) (List.sublist_append_left _ _)
theorem ok.sck{s:Shared}{CM:Addr}{o:Obj}(k:Kn (KB v.w) s ((CM,o)::l.kn v)):Kn (KB v.w) s (cH v l.x l.q):=
 k.sub (.cons _ ((List.sublist_append_left _ _).trans (List.sublist_append_right _ _)))
theorem ok.bk{s:Shared}{CM:Addr}{o:Obj}(k:Kn (KB v.w) s ((CM,o)::l.kn v)):Kn (KB v.w) s ((CM,o)::cB l.BK l.bl l.be):=
 k.sub (.cons_cons _ ((List.sublist_append_right _ _).trans ((List.sublist_append_right _ _).trans (List.sublist_append_right _ _))))
theorem ok.vsOf:vsOf (l.vl.map (·.x))=bC l.vl:=by
 unfold Mine.vsOf bC
 rw[List.map_map]
 rfl
theorem ok.flat:(l.vl.map (·.x)).flatMap VR.kn=dj l.vl:=by
 unfold dj
 rw[List.flatMap_map]
noncomputable def valA(l:LS)(ms:List Int)(c:Nat):Rat:=if(c:Int)∈ms then((-1:Int):Rat) else lV l.x (λb=>ap b ms+1) c l.bals
noncomputable def valR(l:LS)(ms:List Int):Nat→Rat:=hJ l.z.n ms (l.z.cl l.tc) λc=>lV l.x (λb=>ap b ms) c l.bals
theorem ok.C_sc(CM:Addr)(cs:List (Int×Tok))(ce:Nat):Ct v.w 200 [(CM,ac (aa cs) ce)] (λs=>Kn (KB v.w) s ((CM,ac (aa cs) ce)::l.kn v)) (.call (.ref 540) ⟨[.str l.x.s l.tn,.ref l.BK,.ref CM],[]⟩) [] (aw (dk l.x (cs.map (·.1)) l.bals)) bP:=by
 intro A s R hA hk hp hR
 have kb:=h.bk hp
 have e:=eF l.x cs l.bl 0
 rw[Int.zero_add]at e
 have C:=nr v l.x l.BK CM l.bl l.be cs ce l.tn h.bl4 h.bne λp hp' e=>by
  have:=kb.nd
  rw[List.map_cons,List.nodup_cons]at this
  exact this.1 (List.mem_map.mpr ⟨p,hp',e⟩)
 rw[e]at C
 exact C A s R hA hk (kb.sub (List.sublist_cons_self _ _)) hR
theorem ok.C_add(CM:Addr)(cs:List (Int×Tok))(ce:Nat)(hlen:cs.length≤3)(hcs:∀p∈cs,0≤p.1∧p.1<(l.z.n:Int)):
  Ct v.w 330 [(CM,ac (aa cs) ce)] (λs=>Kn (KB v.w) s ((CM,ac (aa cs) ce)::l.kn v)) (.call (.ref 334) ⟨[.ref l.q.f,.ref l.Pf,.ref CM],[]⟩) [] dr (λy o s'=>bq v.w s' y.items l.z.n (l.valA (cs.map (·.1)))):=by
 intro A s R hA hk hp hR
 have c3:∀y∈l.vl,ap y.x.L (cs.map (·.1))≤3:=λy hy=>Nat.le_trans (bp (h.nd hy) _) (by rw[List.length_map];exact hlen)
 have hv:∀x∈l.vl.map (·.x),∃y∈l.vl,y.x=x:=λx hx=>by obtain⟨y,hy,e⟩:=List.mem_map.mp hx;exact⟨y,hy,e⟩
 have K:=h.pre hp _ (iM v l.x l.q l.Pf CM)
 have C:=Mine.C_add v l.x.isP (jB v l.x l.q l.Pf CM) l.z l.PD l.CL l.NL l.VL l.pht l.tc l.cle (l.vl.map (·.x)) l.ve cs ce (N:=cU l.x) (q:=λy=>gY l.x.j (ap y.L (cs.map (·.1))+1)) (Pre:=λs=>Kn (KB v.w) s (cH v l.x l.q))
  (λx hx=>by obtain⟨y,hy,rfl⟩:=hv x hx;exact h.set y hy)
  (λx hx=>by obtain⟨y,hy,rfl⟩:=hv x hx;exact(lA v l.x l.q h.q).scores (i:=ap y.x.L (cs.map (·.1))+1) (by have:=c3 y hy;omega))
  (cf l.x).1 (cf l.x).2 (λx hx=>by obtain⟨y,hy,rfl⟩:=hv x hx;exact pY l.x _ (by have:=c3 y hy;omega))
  (λx hx=>by obtain⟨y,hy,rfl⟩:=hv x hx;have:=c3 y hy;omega) (by simpa using h.ne) hcs
 rw[show jr cs (dN (λy=>gY l.x.j (ap y.L (cs.map (·.1))+1)) (l.vl.map (·.x)) λo=>((0:Int):Rat))=l.valA (cs.map (·.1))from funext λc=>by
  rw[mF c cs (λp hp=>(hcs p hp).1),gz l.x (λb=>ap b (cs.map (·.1))+1) c l.vl h.walk,h.bal]
  unfold valA
  rw[show((0:Int):Rat)=0 from rfl,Rat.zero_add]]at C
 refine C A s R hA ?_ ⟨?_,λs1 F o=>(h.sck hp).after F (λo x=>nomatch x) (λo o x=>nomatch x)⟩ hR
 ·unfold hF
  rw[h.vsOf]
  exact K.sub (List.sublist_append_left _ _)
 ·unfold hF
  rw[h.vsOf,h.flat]
  exact K
theorem ok.C_rem(CM:Addr)(cs:List (Int×Tok))(ce:Nat)(hlen:cs.length≤4)(hcs:∀p∈cs,0≤p.1∧p.1<(l.z.n:Int)):
  Ct v.w 330 [(CM,ac (aa cs) ce)] (λs=>Kn (KB v.w) s ((CM,ac (aa cs) ce)::l.kn v)) (.call (.ref 341) ⟨[.ref l.q.f,.ref l.Pf,.ref CM],[]⟩) [] dr (λy o s'=>bq v.w s' y.items l.z.n (l.valR (cs.map (·.1)))):=by
 intro A s R hA hk hp hR
 have c4:∀y∈l.vl,ap y.x.L (cs.map (·.1))≤4:=λy hy=>Nat.le_trans (bp (h.nd hy) _) (by rw[List.length_map];exact hlen)
 have hv:∀x∈l.vl.map (·.x),∃y∈l.vl,y.x=x:=λx hx=>by obtain⟨y,hy,e⟩:=List.mem_map.mp hx;exact⟨y,hy,e⟩
 have K:=h.pre hp _ (iM v l.x l.q l.Pf CM)
 have C:=Mine.rO v l.x.isP (jB v l.x l.q l.Pf CM) l.z l.PD l.CL l.NL l.VL l.pht l.tc l.cle (l.vl.map (·.x)) l.ve cs ce (N:=cU l.x) (q:=λy=>gY l.x.j (ap y.L (cs.map (·.1)))) (Pre:=λs=>Kn (KB v.w) s (cH v l.x l.q))
  (λx hx=>by obtain⟨y,hy,rfl⟩:=hv x hx;exact h.set y hy)
  (λx hx=>by obtain⟨y,hy,rfl⟩:=hv x hx;exact(lA v l.x l.q h.q).scores (c4 y hy))
  (cf l.x).1 (cf l.x).2 (λx hx=>by obtain⟨y,hy,rfl⟩:=hv x hx;exact pY l.x _ (c4 y hy))
  (λx hx=>by obtain⟨y,hy,rfl⟩:=hv x hx;have:=c4 y hy;omega) (by simpa using h.ne) hcs
 rw[show(dN (λy=>gY l.x.j (ap y.L (cs.map (·.1)))) (l.vl.map (·.x)) λo=>((0:Int):Rat))=fun(c:Nat)=>lV l.x (λb=>ap b (cs.map (·.1))) c l.bals from funext λc=>by
  rw[gz l.x (λb=>ap b (cs.map (·.1))) c l.vl h.walk,h.bal,show((0:Int):Rat)=0 from rfl,Rat.zero_add]]at C
 refine C A s R hA ?_ ⟨?_,λs1 F o=>(h.sck hp).after F (λo x=>nomatch x) (λo o x=>nomatch x)⟩ hR
 ·unfold hF
  rw[h.vsOf]
  exact K.sub (List.sublist_append_left _ _)
 ·unfold hF
  rw[h.vsOf,h.flat]
  exact K
end
end LS
theorem Kn.join{B:X.KT}{s s':Shared}{W:List Addr}{a a' ex:List (Addr×Obj)}(k:Kn B s (a++ex))(F:ah s s' W)(hW:∀x∈W,x∈a.map (·.1))(K:Kn B s' a')(h:fU (a.map (·.1)) s.heap.objs.size (a'.map (·.1))):Kn B s' (a'++ex):=by
 have nd:=k.nd
 rw[List.map_append,List.nodup_append]at nd
 refine K.app (k.keepR F hW) λp hp q hq e=>?_
 rcases h.mem p.1 (List.mem_map_of_mem hp)with h|h
 ·exact nd.2.2 p.1 h q.1 (List.mem_map_of_mem hq) e
 ·exact absurd (k.lt (List.mem_append_right _ hq)) (Nat.not_lt.mpr (e▸h))
theorem dO{x:Option Value}:oV (aY x):=sP nofun (show Value.type "cell"≠Value.type "dict" by decide)
theorem zy(l:LS)(cs:List (Int×Tok))(c:Nat):i9 l.x cs l.bl (dk l.x (cs.map (·.1)) l.bals) (cU l.x) c=eS l.x (cs.map (·.1)) l.bals c:=by
 unfold i9 eS
 have e:=eF l.x (cs++[((c:Int),0)]) l.bl 0
 rw[Int.zero_add,List.map_append]at e
 by_cases hc:(c:Int)∈cs.map (·.1)
 ·rw[if_pos hc,if_pos hc]
 ·rw[if_neg hc,if_neg hc,e]
  rfl
theorem LS.ok.valA_N{v:WV}{l:LS}(h:l.ok v){ms:List Int}(hm:ms.length≤3)(c:Nat):l.valA ms c*(cU l.x:Rat)=(eS l.x ms l.bals c:Rat):=by
 unfold LS.valA
 by_cases hc:(c:Int)∈ms
 ·rw[if_pos hc]
  unfold eS
  rw[if_pos hc,←Rat.intCast_mul]
  congr 1
  omega
 ·rw[if_neg hc,fm hc h.bnd]
  refine mY l.x _ c l.bals λb hb j=>?_
  have:=bp (h.bnd b hb) ms
  omega
theorem LS.ok.valA_dv{v:WV}{l:LS}(h:l.ok v){ms:List Int}(hm:ms.length≤3)(c:Nat):Dv (cU l.x) (l.valA ms c):=⟨_,h.valA_N hm c⟩
noncomputable abbrev Bf:=Option (Nat×List (Int×Tok)×Nat)
noncomputable def HI:Bf→Obj
 |none=>af .none
 |some b=>af (.ref b.1)
noncomputable def IX:Bf→List (Addr×Obj)
 |none=>[]
 |some b=>[(b.1,ac (aa b.2.1) b.2.2)]
structure L1 where
 Z:Nat
 I:Nat
 OR:Nat
 SC:Addr
 ht:Nat→Int×Tok
 tm:Tok
 va:Value
 vw:Value
 oe:Nat
 ts:Tok
noncomputable def kq(l:LS)(k:L1)(os:List (Int×Tok))(g:Nat)(CM:Nat)(cs:List (Int×Tok))(ce:Nat)(b:Bf)(o8 o9 o10 o12:Option Value):List (Addr×Obj):=
 [(k.I,aj (.ref k.OR) g),(k.OR,ac (aa os) k.oe),(k.Z,cP k.ht k.SC l.z.n k.tm l.Pf k.va k.vw l.q.f k.OR),(k.Z+2,af (.str l.x.s l.tn)),(k.Z+3,af (.int (cU l.x) k.ts)),(k.Z+5,af (.ref l.BK)),(k.Z+6,af (.ref CM)),(k.Z+7,HI b),(k.Z+8,aY o8),(k.Z+9,aY o9),(k.Z+10,aY o10),(k.Z+12,aY o12),(CM,ac (aa cs) ce)]++IX b
noncomputable def BR(l:LS)(k:L1)(os:List (Int×Tok))(g:Nat)(CM:Nat)(cs:List (Int×Tok))(ce:Nat)(b:Value)(o8 o9 o10 o12:Option Value):List (Addr×Obj):=
 [(k.I,aj (.ref k.OR) g),(k.OR,ac (aa os) k.oe),(k.Z,cP k.ht k.SC l.z.n k.tm l.Pf k.va k.vw l.q.f k.OR),(k.Z+2,af (.str l.x.s l.tn)),(k.Z+3,af (.int (cU l.x) k.ts)),(k.Z+5,af (.ref l.BK)),(k.Z+6,af (.ref CM)),(k.Z+7,af b),(k.Z+8,aY o8),(k.Z+9,aY o9),(k.Z+10,aY o10),(k.Z+12,aY o12),(CM,ac (aa cs) ce)]
noncomputable def tS(k:L1):List Addr:=[k.I,k.Z+6,k.Z+7,k.Z+8,k.Z+9,k.Z+10,k.Z+12]
theorem z8(w:World)(CM n:Addr)(cs:List (Int×Tok))(ce:Nat)(k:Int)(t:Tok)(h:cs.length≤4):aS w 20 [(CM,ac (aa cs) ce),(n,ac #[.int k t] 0)] (.call (.builtin "list.__add__") ⟨[.ref CM,.ref n],[]⟩) [] (aD (ac (aa (cs++[(k,t)])) 0)):=by
 have h:=mu w (l:=CM) (b:=n) (items:=aa cs) (n:=ce) (items2:=#[.int k t]) (n2:=0) (Nat.le_trans (m:=5) (by simp[aa];omega) (by decide))
 rw[qw]at h
 exact h
noncomputable def IN(v:WV)(l:LS)(k:L1)(b a2:Bool)(os:List (Int×Tok))(g CM:Nat)(cs:List (Int×Tok))(ce:Nat)(o8 o9 o10 o12:Option Value)(c:Int)(tc:Tok)(BE:Addr)(oB:Obj):Cn:=l1 v l.z b a2 l.x k.Z k.I k.OR k.SC l.Pf l.q.f l.BK CM k.ht k.tm l.tn k.va k.vw (aa os) k.oe g (cU l.x) k.ts cs ce o8 o9 o10 o12 c tc (dk l.x (cs.map (·.1)) l.bals) BE oB
theorem ze v l k b a2 os g CM cs ce o8 o9 o10 o12 c tc BE oB (hb:b=true→a2=l.x.isA):(IN v l k b a2 os g CM cs ce o8 o9 o10 o12 c tc BE oB).G v:=BP v l.z b a2 l.x k.Z k.I k.OR k.SC l.Pf l.q.f l.BK CM k.ht k.tm l.tn k.va k.vw (aa os) k.oe g (cU l.x) k.ts cs ce o8 o9 o10 o12 c tc _ BE oB hb
section
variable {v:WV} {l:LS} (h:l.ok v) (k:L1)
include h
theorem LS.ok.t1(os:List (Int×Tok))(g:Nat)(CM:Nat)(cs:List (Int×Tok))(ce:Nat)(b a2:Bool)(BE:Nat)(oB:Obj)(hb:b=true→a2=l.x.isA)(hbe:b=true→∃bs be ms0 c0,oB=ac (aa bs) be∧cs.map (·.1)=ms0++[c0]∧bs.map (·.1)=(List.range l.z.n).map fun(c:Nat)=>eS l.x ms0 l.bals c)(o8 o9 o10 o12:Option Value)(c:Int)(tc:Tok)(hg:os[g]?=some (c,tc))(hlen:cs.length≤3)(hcs:∀p∈cs,0≤p.1∧p.1<(l.z.n:Int))
  {ex:List (Addr×Obj)} (hex:(l.kn v).Sublist ex) (hB:(BE,oB)∈ex) {A:Around} (hA:cp A 420) {s:Shared} {R:Result→Shared→Prop} (hk:Kn (KB v.w) s (BR l k os g CM cs ce (bv b BE) o8 o9 o10 o12++ex))
  (H:∀(N BE':Nat) (bs':List (Int×Tok)) (o9' o10' o12':Option Value) s',ah s s' (tS k)→s.heap.objs.size≤N→Kn (KB v.w) s' (kq l k os (g+1) N (cs++[(c,tc)]) 0 (some (BE',bs',l.z.n)) (some (.int c tc)) o9' o10' o12'++l.kn v)→bs'.map (·.1)=((List.range l.z.n).map fun(c:Nat)=>eS l.x (cs.map (·.1)) l.bals c)→codeAny (model pr v.w) A (oD v.w k.Z k.I) R s'):
  codeAny (model pr v.w) A (oD v.w k.Z k.I) R s:=by
 have hbk:(cB l.BK l.bl l.be).Sublist ex:=((List.sublist_append_right _ _).trans ((List.sublist_append_right _ _).trans (List.sublist_append_right _ _))).trans hex
 have hp:∀{s1:Shared},ah s s1 (tS k)→Kn (KB v.w) s1 ((CM,ac (aa cs) ce)::l.kn v):=λF=>(Kn.keepR (a:=eV (BR l k os g CM cs ce (bv b BE) o8 o9 o10 o12) [0,6,7,8,9,10,11]) (ex:=(CM,ac (aa cs) ce)::ex) (hk.pkA [0,6,7,8,9,10,11,12] rfl) F λx hx=>hx).sub (.cons_cons _ hex)
 have hz4:l.z.n≤4:=by cases l.z<;>decide
 have hWin:∀x∈tS k,x∈(BR l k os g CM cs ce (bv b BE) o8 o9 o10 o12).map (·.1):=cN [0,6,7,8,9,10,11] rfl
 have l3:(cs.map (·.1)).length≤3:=by simpa using hlen
 have ed:(List.range l.z.n).map (i9 l.x cs l.bl (dk l.x (cs.map (·.1)) l.bals) (cU l.x))=(List.range l.z.n).map fun(c:Nat)=>eS l.x (cs.map (·.1)) l.bals c:=List.map_congr_left λc j=>zy l cs c
 have hk0:Kn (KB v.w) s (BR l k os g CM cs ce (bv b BE) o8 o9 o10 o12++[(BE,oB)]):=hk.sub (List.Sublist.append (.refl _) (List.singleton_sublist.mpr hB))
 refine(ze v l k b a2 os g CM cs ce o8 o9 o10 o12 c tc BE oB hb).go (W:=tS k) hA hk0 [0,6,7,8,9,10,11] ?_
 refine vL (λj=>aP v.w (qt hg)) EL λ_ _ s1 s2 (F1:ah s s1 []) F2 _ _ _ _=>?_
 refine vL (λj=>h.C_add CM cs ce hlen hcs) (λj j F j=>hp F) λ_ (T:NY) s3 s4 (F3:ah s2 s3 [k.Z+8]) F4 _ _ _ hN=>?_
 have nf4:jh s4 [k.Z+9,k.Z+10,k.Z+12]:=jh.kn (kn:=[(k.Z+9,aY o9),(k.Z+10,aY o10),(k.Z+12,aY o12)]) (Kn.keepR (a:=eV (BR l k os g CM cs ce (bv b BE) o8 o9 o10 o12) [0,8]) ((hk.pkA [0,8,9,10,11] rfl).sub (List.sublist_append_left _ _)) (((F1.trans F2).trans F3).trans F4) (cN [0,1] rfl)) ⟨dO,dO,dO,trivial⟩
 refine vL (λj=>h.C_sc CM cs ce) (λj j F j=>hp F) λ_ t3 s5 s6 (F5:ah s4 s5 [k.Z+9]) F6 G6 _ _ _=>?_
 have S6:=((ah.refl s4|>.mono (W':=[k.Z+9,k.Z+10,k.Z+12]) λj h=>nomatch h).ext F5 ⟨.inl (mN 0 rfl),trivial⟩).ext F6 trivial
 have l46:=S6.size
 have hn6:∀i,s.heap.objs.size≤s6.heap.objs.size+i:=λi=>Nat.le_trans G6.size (Nat.le_add_right _ i)
 refine vL (λE=>DV v l.z l.x k.Z (s6.heap.objs.size+1) (s6.heap.objs.size+2) (s6.heap.objs.size+3) l.BK CM l.bl l.be cs ce l.tn (dk l.x (cs.map (·.1)) l.bals) t3 (cU l.x) k.ts h.bl4 h.bne (by omega) _) (λj s7 F K=>
  (hk.join F hWin K ⟨.inr (hn6 1),.inr (hn6 2),.inr (hn6 3),.inl (mN 5 rfl),.inl (mN 6 rfl),.inl (mN 3 rfl),.inl (mN 10 rfl),.inl (mN 4 rfl),.inl (mN 12 rfl),trivial⟩).sub (List.Sublist.append (.refl _) hbk)) λ_ (y:Ex) s7 s8 (F7:ah s6 s7 [k.Z+10]) F8 _ _ _ hy=>?_
 have hy':=hy.trans ed
 have S8:=(S6.ext F7 ⟨.inl (mN 1 rfl),trivial⟩).ext F8 ⟨.inr (by omega),.inr (by omega),.inr (by omega),trivial⟩
 have Cl:aS v.w 20 [(T.a,ac T.items 0)] (.builtin "len" ⟨[.ref T.a],[]⟩) [] (aw l.z.n):=by
  have:=fX v.w (L:=T.a) (items:=T.items) (ep:=0) (by rw[hN.sz];omega)
  rw[hN.sz]at this
  exact this
 refine vL (λj=>Cl) EL λ_ t5 s9 s10 (F9:ah s8 s9 [s6.heap.objs.size+3,k.Z+12]) F10 _ _ _ _=>?_
 have S10:=(S8.ext F9 ⟨.inr (by omega),.inl (mN 2 rfl),trivial⟩).ext F10 trivial
 refine kX (λj A' s' R' hA j=>z6 v l.z k.Z (s10.heap.objs.size+1) (s10.heap.objs.size+2) (s10.heap.objs.size+3) T.a (s6.heap.objs.size+2) T.items 0 y.ds l.z.n (cU l.x) k.ts (cf l.x).1 (cf l.x).2 (λc j=>h.valA_dv (ms:=cs.map (·.1)) (by simpa using hlen) c) hy' (λc j=>h.valA_N (by simpa using hlen) c) _ A' s' R' hA) (λ_ s11 _ (F:ah s10 s11 []) K _ _ _=>hN.keepD (S10.ext F trivial) K.nil nf4) λj y2 s11 s12 j j j j j j j j j j=>?_
 have Cs:=λn=>z8 v.w CM n cs ce c tc (by omega)
 have fin:∀N sc t5 kl,ah s sc (tS k)→s.heap.objs.size≤N→Kn (KB v.w) sc kl→kl=[(k.I,aj (.ref k.OR) (g+1)),(k.OR,ac (aa os) k.oe),(k.Z,cP k.ht k.SC l.z.n k.tm l.Pf k.va k.vw l.q.f k.OR),(k.Z+2,af (.str l.x.s l.tn)),(k.Z+3,af (.int (cU l.x) k.ts)),(k.Z+5,af (.ref l.BK)),(k.Z+6,af (.ref N)),(k.Z+7,af (.ref (s6.heap.objs.size+2))),(k.Z+8,af (.int c tc)),(k.Z+9,af (.ref T.a)),(k.Z+10,af t5),(k.Z+12,af (.ref (s6.heap.objs.size+2))),(N,ac (aa (cs++[(c,tc)])) 0),(s6.heap.objs.size+2,ac (aa y.ds) l.z.n)]→codeAny (model pr v.w) A (oD v.w k.Z k.I) R sc:=λN sc t5 kl F lN K e=>by
  subst e
  exact H N (s6.heap.objs.size+2) y.ds (some (.ref T.a)) (some t5) (some (.ref (s6.heap.objs.size+2))) sc F lN ((hk.join F hWin K ⟨.inl (mN 0 rfl),.inl (mN 1 rfl),.inl (mN 2 rfl),.inl (mN 3 rfl),.inl (mN 4 rfl),.inl (mN 5 rfl),.inl (mN 6 rfl),.inl (mN 7 rfl),.inl (mN 8 rfl),.inl (mN 9 rfl),.inl (mN 10 rfl),.inl (mN 11 rfl),.inr lN,.inr (hn6 2),trivial⟩).sub (List.Sublist.append (.refl _) hex)) hy'
 match b,a2,hb,hbe with
 |false,_,_,_=>exact oO (λj=>Cs _) λ_ (N:Addr) _ _ _ _ ab _=>kt λE sc F K=>fin N sc _ _ F (ab (N,_) (.head _)) K rfl
 |true,true,hb,_=>exact kc (λj=>xo v.w l.x (by rw[←hb rfl];rfl) _ _) λj j j j=>oO (λj=>Cs _) λ_ (N:Addr) _ _ _ _ ab _=>kt λE sc F K=>fin N sc _ _ F (ab (N,_) (.head _)) K rfl
 |true,false,hb,hbe=>
  obtain⟨bs,be,ms0,c0,rfl,hms,hbs⟩:=hbe rfl
  refine kc (λj=>xo v.w l.x (by rw[←hb rfl];rfl) _ _) λj s13 s14 j=>?_
  exact kc (λj=>D4 v l.z k.Z (s14.heap.objs.size+1) (s14.heap.objs.size+2) (s14.heap.objs.size+3) BE (s6.heap.objs.size+2) bs be y.ds l.z.n hbs hy' (λc j=>by
   rw[hms]
   rw[hms,List.length_append]at l3
   exact q9 (λe=>by rw[e]at hb;cases hb rfl) h.bnd h.bw l3) _) λj j j j=>oO (λj=>Cs _) λ_ (N:Addr) _ _ _ _ ab _=>kt λE sc F K=>fin N sc _ _ F (ab (N,_) (.head _)) K rfl
noncomputable def Fz(l:LS)(ms:List Int):Bf→Prop
 |none=>True
 |some b=>∃ms0 c0,ms=ms0++[c0]∧b.2.1.map (·.1)=(List.range l.z.n).map fun(c:Nat)=>eS l.x ms0 l.bals c
theorem LS.ok.loop1(os:List (Int×Tok))(hos:os.length≤4)(hel:∀p∈os,0≤p.1∧p.1<(l.z.n:Int)){A:Around}(hA:cp A 420)(n0:Nat):∀(rest:List (Int×Tok)) (g:Nat) (CM:Nat) (cs:List (Int×Tok)) (ce:Nat) (b:Bf) (o8 o9 o10 o12:Option Value) (s:Shared) (R:Result→Shared→Prop),
  n0≤s.heap.objs.size→(0<g→n0≤CM)→os.drop g=rest→g≤os.length→cs=os.take g→Fz l (cs.map (·.1)) b→Kn (KB v.w) s (kq l k os g CM cs ce b o8 o9 o10 o12++l.kn v)→
  (∀CM' ce' b' o8' o9' o10' o12' s',(0<os.length→n0≤CM')→ah s s' (tS k)→Kn (KB v.w) s' (((k.I,aj .none os.length)::(kq l k os g CM' os ce' b' o8' o9' o10' o12').tail)++l.kn v)→R (.ok .next) s')→
  codeAny (model pr v.w) A (oD v.w k.Z k.I) R s:=by
 intro rest
 induction rest with
 |nil=>
  intro g CM cs ce b o8 o9 o10 o12 s R h0 h1 hd hg hcs hb hk H
  have hg':=cq hd hg
  subst hg'
  rw[List.take_length]at hcs
  subst hcs
  refine(zf v k.Z k.I k.OR (aa cs) k.oe cs.length).go (W:=[k.I]) (hA.le (Nat.le_of_ble_eq_true rfl)) ((hk.pkA [0,1] rfl).sub (List.sublist_append_left _ _)) [0] ?_
  refine kc (λj=>bE v.w (qv cs)) λj s1 s2 j=>?_
  refine kf λE s0 G K0 j=>?_
  exact H CM ce b o8 o9 o10 o12 s0 h1 (G.mono λj h=>.inl (List.mem_singleton.mp h▸.head _)) (Kn.step (a:=[(k.I,aj (.ref k.OR) cs.length)]) (ex:=(kq l k cs cs.length CM cs ce b o8 o9 o10 o12).tail++l.kn v) hk G (cN [0] rfl) K0 rfl)
 |cons p rest ih=>
  intro g CM cs ce b o8 o9 o10 o12 s R h0 h1 hd hg hcs hb hk H
  obtain⟨hg',hx,hd'⟩:=bQ hd
  have hgg:os[g]?=some (p.1,p.2):=by rw[List.getElem?_eq_getElem hg',hx]
  have hcs2:cs++[(p.1,p.2)]=os.take (g+1):=by rw[hcs,List.take_add_one,hgg];rfl
  have hl3:cs.length≤3:=by rw[hcs,List.length_take];omega
  have hcel:∀q∈cs,0≤q.1∧q.1<(l.z.n:Int):=λq hq=>hel q (List.mem_of_mem_take (hcs▸hq))
  have next:∀(N BE':Nat) (bs':List (Int×Tok)) (o9' o10' o12':Option Value) s',ah s s' (tS k)→s.heap.objs.size≤N→Kn (KB v.w) s' (kq l k os (g+1) N (cs++[(p.1,p.2)]) 0 (some (BE',bs',l.z.n)) (some (.int p.1 p.2)) o9' o10' o12'++l.kn v)→bs'.map (·.1)=((List.range l.z.n).map fun(c:Nat)=>eS l.x (cs.map (·.1)) l.bals c)→codeAny (model pr v.w) A (oD v.w k.Z k.I) R s':=λN BE' bs' o9' o10' o12' s' F hN K hbs=>
   ih (g+1) N _ 0 (some (BE',bs',l.z.n)) _ o9' o10' o12' s' R (Nat.le_trans h0 F.size) (λj=>Nat.le_trans h0 hN) hd' hg' hcs2 ⟨cs.map (·.1),p.1,by rw[List.map_append];rfl,hbs⟩ K λCM' ce' b' o8' o9' o10' o12' s2 hc F2 K2=>H CM' ce' b' o8' o9' o10' o12' s2 hc ((F.trans F2).mono λa ha=>.inl ((List.mem_append.mp ha).elim id id)) K2
  match b,hb,hk with
  |none,_,hk=>exact h.t1 k os g CM cs ce false false l.BK (ac (cr l.bl) l.be) (λe=>nomatch e) (λe=>nomatch e) o8 o9 o10 o12 p.1 p.2 hgg hl3 hcel (.refl _) (List.mem_append_right _ (List.mem_append_right _ (List.mem_append_right _ (.head _)))) hA hk next
  |some (BE,bs,be),⟨ms0,c0,hms,hbs⟩,hk=>exact h.t1 k os g CM cs ce true l.x.isA BE (ac (aa bs) be) (λj=>rfl) (λj=>⟨bs,be,ms0,c0,rfl,hms,hbs⟩) o8 o9 o10 o12 p.1 p.2 hgg hl3 hcel (ex:=(BE,ac (aa bs) be)::l.kn v) (.cons _ (.refl _)) (.head _) hA hk next
structure FV where
 CM:Nat
 ce:Nat
 b:Bf
 o8:Option Value
 o9:Option Value
 o10:Option Value
 o12:Option Value
noncomputable def qW(k:L1)(os:List (Int×Tok)):bS FV:={res:=λj=>.ok .next,upd:=λy=>[(k.I,aj .none os.length),(k.Z+6,af (.ref y.CM)),(k.Z+7,HI y.b),(k.Z+8,aY y.o8),(k.Z+9,aY y.o9),(k.Z+10,aY y.o10),(k.Z+12,aY y.o12)],add:=λy=>[(y.CM,ac (aa os) y.ce)]}
omit h in
theorem Gh(h:l.ok v)(os:List (Int×Tok))(hos:os.length≤4)(hne:0<os.length)(hel:∀p∈os,0≤p.1∧p.1<(l.z.n:Int))(CM ce:Nat)(o8 o9 o10 o12:Option Value):
  Ct v.w 420 (kq l k os 0 CM [] ce none o8 o9 o10 o12) (λs=>Kn (KB v.w) s (kq l k os 0 CM [] ce none o8 o9 o10 o12++l.kn v)) (oD v.w k.Z k.I) (tS k) (qW k os) bP:=by
 intro A s R hA _ hk hR
 refine h.loop1 k os hos hel hA s.heap.objs.size os 0 CM [] ce none o8 o9 o10 o12 s R (Nat.le_refl _) (λh=>absurd h (Nat.lt_irrefl 0)) rfl (Nat.zero_le _) rfl trivial hk λCM' ce' b' o8' o9' o10' o12' s' hC F K=>?_
 refine hR ⟨CM',ce',b',o8',o9',o10',o12'⟩ s' F ((K.pkA [0,6,7,8,9,10,11,12] rfl).sub (List.sublist_append_left _ _)) (λp hp=>?_) trivial
 rw[show p=(CM',ac (aa os) ce')from List.mem_singleton.mp hp]
 exact hC hne
end
theorem pI{x:Value}{g:Nat}:oV (aj x g):=sP nofun (show Value.type "list_iterator"≠Value.type "dict" by decide)
theorem Bj{ht:Nat→Int×Tok}{n:List (Str×Value)}{e:Nat}:oV (fQ ht n e):=sP nofun (show Value.type "frame"≠Value.type "dict" by decide)
theorem lv{N:Int}(m:Nat)(cs:List Int):∀(l:List (Int×Tok)) (val:Nat→Rat),(∀c,Dv N (val c))→∀c,Dv N (hJ m cs l val c)
 |[],_,h,c=>h c
 |p::l,val,h,c=>by
  unfold hJ
  cases hp:decide (p.1∈cs)with
  |true=>exact lv m cs l val h c
  |false=>
   refine lv m cs l _ (λx=>?_) c
   by_cases e:x=p.1.toNat
   ·rw[if_pos e]
    exact(h _).add (Dv.int N 1)
   ·rw[if_neg e]
    exact h x
theorem m7(cs:List (Int×Tok))(c:Int):(cs.filter λx=>decide (x.1≠c)).map (·.1)=wo (cs.map (·.1)) c:=by
 unfold wo
 rw[List.filter_map]
 rfl
theorem re(z:Sz)(tc:Nat→Tok):∀p∈z.cl tc,0≤p.1:=λp hp=>(cl_ok z tc p hp).1
theorem jd(z:Sz)(tc:Nat→Tok):((z.cl tc).map (·.1)).Nodup∧∀o:Nat,o<z.n→(o:Int)∈(z.cl tc).map (·.1):=by
 cases z<;>exact⟨of_decide_eq_true rfl,of_decide_eq_true rfl⟩
noncomputable def EW(v:WV)(l:LS)(k:L1)(I CM:Nat)(cs:List (Int×Tok))(ce:Nat)(o11:Option Value)(i:Nat)(tc:Tok)(now:Int)(t0:Tok)(TL:Nat)(items:Array Value)(te g:Nat)(sc:Int)(k1:Int)(t1:Tok):Cn:=EX v l.z l.x k.Z I k.OR k.SC l.Pf l.q.f l.BK CM k.ht k.tm l.tn k.va k.vw (cU l.x) k.ts cs ce o11 i tc now t0 TL items te g sc k1 t1
theorem tP v l k I CM cs ce o11 i tc now t0 TL items te g sc k1 t1:(EW v l k I CM cs ce o11 i tc now t0 TL items te g sc k1 t1).G v:=y6 v l.z l.x k.Z I k.OR k.SC l.Pf l.q.f l.BK CM k.ht k.tm l.tn k.va k.vw (cU l.x) k.ts cs ce o11 i tc now t0 TL items te g sc k1 t1
noncomputable def EY(v:WV)(l:LS)(k:L1)(I CM:Nat)(cs:List (Int×Tok))(ce:Nat)(o11:Option Value)(i:Nat)(tc:Tok)(now:Int)(t0:Tok)(TL:Nat)(items:Array Value)(te g:Nat)(sc:Int)(a b:Nat)(ht2:Nat→Int×Tok)(r1:Rat)(tn2 td2:Tok):Cn:=EZ v l.z l.x k.Z I k.OR k.SC l.Pf l.q.f l.BK CM k.ht k.tm l.tn k.va k.vw (cU l.x) k.ts cs ce o11 i tc now t0 TL items te g sc a b ht2 r1 (r1*(cU l.x:Rat)) tn2 td2
theorem tQ v l k I CM cs ce o11 i tc now t0 TL items te g sc a b ht2 r1 tn2 td2:(EY v l k I CM cs ce o11 i tc now t0 TL items te g sc a b ht2 r1 tn2 td2).G v:=y7 v l.z l.x k.Z I k.OR k.SC l.Pf l.q.f l.BK CM k.ht k.tm l.tn k.va k.vw (cU l.x) k.ts cs ce o11 i tc now t0 TL items te g sc a b ht2 r1 (r1*(cU l.x:Rat)) tn2 td2
noncomputable def IM(v:WV)(l:LS)(k:L1)(I CM:Nat)(cs:List (Int×Tok))(ce:Nat)(o11:Option Value)(c:Int)(tc:Tok)(now:Int)(RV:Nat)(os:List (Int×Tok))(oe g:Nat)(o8 o9 o10:Option Value):Cn:=E0 v l.z l.x k.Z I k.OR k.SC l.Pf l.q.f l.BK CM k.ht k.tm l.tn k.va k.vw (cU l.x) k.ts cs ce o11 c tc now RV (aa os) oe g o8 o9 o10
theorem zb v l k I CM cs ce o11 c tc now RV os oe g o8 o9 o10:(IM v l k I CM cs ce o11 c tc now RV os oe g o8 o9 o10).G v:=za v l.z l.x k.Z I k.OR k.SC l.Pf l.q.f l.BK CM k.ht k.tm l.tn k.va k.vw (cU l.x) k.ts cs ce o11 c tc now RV (aa os) oe g o8 o9 o10
section
variable {v:WV} {l:LS} (h:l.ok v) (k:L1)
include h
theorem LS.ok.gaR_dv(ms:List Int)(hm:ms.length≤4)(c:Int):Dv (cU l.x) (lV l.x (λb=>ap b ms) c l.bals):=Mine.gaR_dv l.x _ c l.bals λb hb j=>Nat.le_trans (bp (h.bnd b hb) ms) hm
theorem LS.ok.valR_dv{ms:List Int}(hm:ms.length≤4)(c:Nat):Dv (cU l.x) (l.valR ms c):=lv _ _ _ _ (λc=>h.gaR_dv ms hm c) c
theorem LS.ok.valR_N{ms:List Int}(hm:ms.length≤4){i:Nat}(hi:(i:Int)∈ms):l.valR ms i*(cU l.x:Rat)=((dk l.x ms l.bals-dk l.x (wo ms i) l.bals:Int):Rat):=by
 unfold LS.valR
 rw[lu _ _ _ hi _ (re l.z l.tc),sE l.x hi l.bals h.bnd]
 exact mY l.x _ _ l.bals λb hb j=>Nat.le_trans (bp (h.bnd b hb) ms) hm
theorem LS.ok.valR_lt{ms:List Int}{i o:Nat}(hi:(i:Int)∈ms)(him:i<l.z.n)(ho:(o:Int)∉ms)(hom:o<l.z.n):l.valR ms i<l.valR ms o:=by
 have e:l.valR ms i=(λc:Nat=>lV l.x (λb=>ap b ms) c l.bals) i:=lu _ _ _ hi _ (re l.z l.tc) _
 have:=iI _ (by omega) ms i o him hi ho _ (re l.z l.tc) (jd l.z l.tc).1 ((jd l.z l.tc).2 o hom) λc:Nat=>lV l.x (λb=>ap b ms) c l.bals
 rw[e]
 exact this
omit h
noncomputable def nP(l:LS)(k:L1)(I CM TL:Nat)(cs:List (Int×Tok))(ce:Nat)(items:Array Value)(te:Nat)(now:Int)(t0:Tok)(o11:Option Value)(g:Nat):List (Addr×Obj):=
 [(I,aj (.ref CM) g),(CM,ac (aa cs) ce),(k.Z,cP k.ht k.SC l.z.n k.tm l.Pf k.va k.vw l.q.f k.OR),(k.Z+2,af (.str l.x.s l.tn)),(k.Z+3,af (.int (cU l.x) k.ts)),(k.Z+5,af (.ref l.BK)),(k.Z+6,af (.ref CM)),(k.Z+9,af (.ref TL)),(k.Z+10,af (.int now t0)),(k.Z+11,aY o11),(TL,ac items te)]
include h
theorem LS.ok.turn3(I CM TL:Nat)(cs:List (Int×Tok))(ce:Nat)(items:Array Value)(te:Nat)(t0:Tok)(o11:Option Value)(g i:Nat)(tc:Tok)(hg:cs[g]?=some ((i:Int),tc))(hlen:cs.length≤4)(him:i<l.z.n)
  {A:Around} (hA:cp A 390) {s:Shared} {R:Result→Shared→Prop} (hN:bq v.w s items l.z.n (l.valR (cs.map (·.1)))) (hk:Kn (KB v.w) s (nP l k I CM TL cs ce items te (dk l.x (cs.map (·.1)) l.bals) t0 o11 g++l.kn v))
  (H:∀s',ah s s' [I,k.Z+11]→Kn (KB v.w) s' (nP l k I CM TL cs ce items te (dk l.x (cs.map (·.1)) l.bals) t0 (some (.int i tc)) (g+1)++l.kn v)→codeAny (model pr v.w) A (r8 v.w k.Z I) R s'):
  codeAny (model pr v.w) A (r8 v.w k.Z I) R s:=by
 have hz4:l.z.n≤4:=by cases l.z<;>decide
 have hcm:((i:Int),tc)∈cs:=List.mem_of_getElem? hg
 have hms:(i:Int)∈cs.map (·.1):=List.mem_map.mpr ⟨_,hcm,rfl⟩
 have hm4:(cs.map (·.1)).length≤4:=by rw[List.length_map];exact hlen
 have hne:(!cs.isEmpty)=true:=by cases cs with|nil=>simp at hg|cons=>rfl
 have hWin:∀x∈[I,k.Z+11],x∈(nP l k I CM TL cs ce items te (dk l.x (cs.map (·.1)) l.bals) t0 o11 g).map (·.1):=cN [0,9] rfl
 have hk0:=hk.sub (List.sublist_append_left _ _)
 have hgi:(aa cs)[g]?=some (.int i tc):=qt hg
 have nf:jh s [I,k.Z+11]:=jh.kn (hk0.pk [0,9] rfl) ⟨pI,dO,trivial⟩
 have Cot:∀n ht,Ct v.w 60 [(n,aj (.ref CM) 0),(n+1,ac #[] 0),(n+2,bO ht [] 0),(CM,ac (aa cs) ce),(k.Z+11,af (.int i tc))] aK (gN true v.w k.Z n (n+1) (n+2)) [n,n+1,n+2] (bV n (n+1) (n+2) aG cs.length true) (λy j j=>y.ys=cs.filter λx=>decide (x.1≠(i:Int))):=λn ht=>hne▸FY v k.Z i tc n (n+1) (n+2) CM cs ce ht hlen
 have Csc:∀(a:Nat) (ys:List (Int×Tok)),ys=cs.filter (λx=>decide (x.1≠(i:Int)))→Ct v.w 200 [(a,ac (aa ys) ys.length)] (λs=>Kn (KB v.w) s ((a,ac (aa ys) ys.length)::l.kn v)) (.call (.ref 540) ⟨[.str l.x.s l.tn,.ref l.BK,.ref a],[]⟩) [] (aw (dk l.x (wo (cs.map (·.1)) i) l.bals)) bP:=λa ys e=>by
  have:=h.C_sc a ys ys.length
  rw[show ys.map (·.1)=wo (cs.map (·.1)) i by rw[e,m7]]at this
  exact this
 have Cmo:∀n ht,Ct v.w 235 (yC l.z k.Z n (n+1) (n+2) TL CM items te cs ce i tc ht) (λs=>bq v.w s items l.z.n (l.valR (cs.map (·.1)))) (cJ true v.w k.Z n (n+1) (n+2)) [n,n+1,n+2] (c8 l.z n (n+1) (n+2) aG) bP:=λn ht=>
  Ag v l.z k.Z n (n+1) (n+2) TL CM items te cs ce i tc (cf l.x).1 (cf l.x).2 (λc j=>h.valR_dv hm4 c) him (λo ho hn=>h.valR_lt hms him hn ho) ht
 have hsz:=hN.sz
 have g1:items[((i:Nat):Int).toNat]?=some items[i]:=by simp
 have G1:∀t,aS v.w 20 [(TL,ac items te)] (.call (.builtin "list.__getitem__") ⟨[.ref TL,.int i t],[]⟩) [] (aW (.ok (.ret items[i]))):=λt=>bB v.w (by omega) (by omega) g1
 have n1:=hN.num i (by omega)
 have e1:=h.valR_N hm4 hms
 have d1:=Int.lt_of_le_of_lt ((h.valR_dv hm4 i).den (cf l.x).1) (cf l.x).2
 have mb:=cf l.x
 generalize hnow:dk l.x (cs.map (·.1)) l.bals=now at*
 generalize hsc:dk l.x (wo (cs.map (·.1)) i) l.bals=sc at*
 generalize items[i]=x1 at n1 G1
 generalize l.valR (cs.map (·.1)) i=r1 at n1 e1 d1
 cases n1 with
 |int k1 t1=>
  rw[←Rat.intCast_mul]at e1
  have e2:=Rat.intCast_inj.mp e1
  refine(tP v l k I CM cs ce o11 i tc now t0 TL items te g sc k1 t1).go (W:=[I,k.Z+11]) hA hk0 [0,9] <| kc (λj=>aP v.w hgi) λj j j j=>oO (λj=>G1 _) λj j j s4 G4 j j j=>?_
  have hn:∀i,s.heap.objs.size≤s4.heap.objs.size+i:=λi=>Nat.le_trans G4.size (Nat.le_add_right _ i)
  exact kc (hps:=⟨az (by omega) (by omega),trivial⟩) (λj=>Cot _ _) fun(w:sd) _ _ hw=>dF (λj=>Csc (s4.heap.objs.size+1) w.ys hw) (λj j F K=>hk.join F hWin K ⟨.inr (hn 1),trivial⟩) λj j j j=>
   dF (hps:=⟨e2,trivial⟩) (λj=>Cmo _ _) (λj j F K=>hN.keepD F K.nil nf) λj j j j=>kt λE sc F K=>H sc F (hk.step F hWin K rfl)
 |fr a b _ ht2 tn2 td2 f=>
  refine(tQ v l k I CM cs ce o11 i tc now t0 TL items te g sc a b ht2 r1 tn2 td2).go (W:=[I,k.Z+11]) hA (hk0.frac f (eB.mem ⟨pI,dB,Bj,dC,dC,dC,dC,dC,dC,dO,dB,trivial⟩)) [0,9] <| kc (λj=>aP v.w hgi) λj j j j=>kc (λj=>G1 _) λj j j j=>oO (λj=>rJ v d1 (cU l.x) k.ts ⟨by omega,by omega⟩) λj j j s6 G6 j j j=>?_
  have hn:∀i,s.heap.objs.size≤s6.heap.objs.size+i:=λi=>Nat.le_trans G6.size (Nat.le_add_right _ i)
  exact kc (λj=>Cot _ _) fun(w:sd) _ _ hw=>dF (λj=>Csc (s6.heap.objs.size+1) w.ys hw) (λj j F K=>hk.join F hWin K ⟨.inr (hn 1),trivial⟩) λj j j j=>
   kc (λj=>rV v _ _ _ _ _ _ _ _ _ (by rw[e1];exact(decide_eq_true ⟨rfl,rfl⟩).symm)) λj j j j=>dF (λj=>Cmo _ _) (λj j F K=>hN.keepD F K.nil nf) λj j j j=>kt λE sc F K=>H sc F (hk.step F hWin K rfl)
theorem LS.ok.loop3(I CM TL:Nat)(cs:List (Int×Tok))(ce:Nat)(items:Array Value)(te:Nat)(t0:Tok)(hlen:cs.length≤4)(hel:∀p∈cs,0≤p.1∧p.1<(l.z.n:Int)){A:Around}(hA:cp A 390):∀(rest:List (Int×Tok)) (g:Nat) (o11:Option Value) (s:Shared) (R:Result→Shared→Prop),cs.drop g=rest→g≤cs.length→
  bq v.w s items l.z.n (l.valR (cs.map (·.1)))→Kn (KB v.w) s (nP l k I CM TL cs ce items te (dk l.x (cs.map (·.1)) l.bals) t0 o11 g++l.kn v)→
  (∀o s',ah s s' [I,k.Z+11]→Kn (KB v.w) s' [(I,aj .none cs.length),(k.Z+11,aY o)]→R (.ok .next) s')→
  codeAny (model pr v.w) A (r8 v.w k.Z I) R s:=by
 intro rest
 induction rest with
 |nil=>
  intro g o11 s R hd hg hN hk H
  have hg':=cq hd hg
  subst hg'
  have hk0:=hk.sub (List.sublist_append_left _ _)
  refine(y8 v k.Z I CM cs ce cs.length).go (W:=[I]) (hA.le (Nat.le_of_ble_eq_true rfl)) (hk0.pk [0,1] rfl) [0] ?_
  refine kc (λj=>bE v.w (qv cs)) λj s1 s2 j=>?_
  refine kf λE s0 G K0 j=>?_
  exact H o11 s0 (G.mono λj h=>.inl (List.mem_singleton.mp h▸.head _)) (Kn.step (a:=[(I,aj (.ref CM) cs.length)]) (ex:=[(k.Z+11,aY o11)]) (hk0.pk [0,9] rfl) G (cN [0] rfl) K0 rfl)
 |cons p rest ih=>
  intro g o11 s R hd hg hN hk H
  obtain⟨hg',hx,hd'⟩:=bQ hd
  have hp:=hel p (hx▸List.getElem_mem hg')
  obtain⟨i,hi⟩:∃i:Nat,p.1=(i:Int):=⟨p.1.toNat,by omega⟩
  have hgg:cs[g]?=some ((i:Int),p.2):=by rw[List.getElem?_eq_getElem hg',hx,←hi]
  have nf:jh s [I,k.Z+11]:=jh.kn ((hk.sub (List.sublist_append_left _ _)).pk [0,9] rfl) ⟨pI,dO,trivial⟩
  refine h.turn3 k I CM TL cs ce items te t0 o11 g i p.2 hgg hlen (by omega) hA hN hk λs' F K=>?_
  exact ih (g+1) _ s' R hd' hg' (hN.keepD F K.nil nf) K λo s2 F2 K2=>H o s2 ((F.trans F2).mono λa ha=>.inl ((List.mem_append.mp ha).elim id id)) K2
theorem LS.ok.C_l3(I CM TL:Nat)(cs:List (Int×Tok))(ce:Nat)(items:Array Value)(te:Nat)(t0:Tok)(hlen:cs.length≤4)(hel:∀p∈cs,0≤p.1∧p.1<(l.z.n:Int))(o11:Option Value):
  Ct v.w 390 (nP l k I CM TL cs ce items te (dk l.x (cs.map (·.1)) l.bals) t0 o11 0) (λs=>bq v.w s items l.z.n (l.valR (cs.map (·.1)))∧Kn (KB v.w) s (nP l k I CM TL cs ce items te (dk l.x (cs.map (·.1)) l.bals) t0 o11 0++l.kn v)) (r8 v.w k.Z I) [I,k.Z+11] (qU I k.Z cs.length) bP:=
 λA s R hA j hp hR=>h.loop3 k I CM TL cs ce items te t0 hlen hel hA cs 0 o11 s R rfl (Nat.zero_le _) hp.1 hp.2 λo s' F K=>hR ⟨o⟩ s' F K (by simp[qU]) trivial
omit h
noncomputable def gB(l:LS)(k:L1)(I RV:Nat)(os:List (Int×Tok))(oe g CM:Nat)(cs:List (Int×Tok))(ce:Nat)(o8 o9 o10 o11:Option Value):List (Addr×Obj):=
 [(I,aj (.ref RV) g),(RV,ac (aa os) oe),(k.Z,cP k.ht k.SC l.z.n k.tm l.Pf k.va k.vw l.q.f k.OR),(k.Z+2,af (.str l.x.s l.tn)),(k.Z+3,af (.int (cU l.x) k.ts)),(k.Z+5,af (.ref l.BK)),(k.Z+6,af (.ref CM)),(k.Z+8,aY o8),(k.Z+9,aY o9),(k.Z+10,aY o10),(k.Z+11,aY o11),(CM,ac (aa cs) ce)]
noncomputable def y9(k:L1)(I:Nat):List Addr:=[I,k.Z+6,k.Z+8,k.Z+9,k.Z+10,k.Z+11]
include h
theorem LS.ok.turn2(I RV:Nat)(os:List (Int×Tok))(oe g CM:Nat)(cs:List (Int×Tok))(ce:Nat)(o8 o9 o10 o11:Option Value)(c:Int)(tc:Tok)(hg:os[g]?=some (c,tc))(hlen:cs.length≤4)(hcs:∀p∈cs,0≤p.1∧p.1<(l.z.n:Int))(hne:cs≠[])
  {A:Around} (hA:cp A 420) {s:Shared} {R:Result→Shared→Prop} (hk:Kn (KB v.w) s (gB l k I RV os oe g CM cs ce o8 o9 o10 o11++l.kn v))
  (H:∀(N ne:Nat) (o9' o10' o11':Option Value) s',ah s s' (y9 k I)→s.heap.objs.size≤N→Kn (KB v.w) s' (gB l k I RV os oe (g+1) N (cs.filter λx=>decide (x.1≠c)) ne (some (.int c tc)) o9' o10' o11'++l.kn v)→codeAny (model pr v.w) A (uE v.w k.Z I) R s'):
  codeAny (model pr v.w) A (uE v.w k.Z I) R s:=by
 have hz4:l.z.n≤4:=by cases l.z<;>decide
 have hnb:(!cs.isEmpty)=true:=by cases cs with|nil=>exact absurd rfl hne|cons=>rfl
 have hk0:=hk.sub (List.sublist_append_left _ _)
 have hWin:∀x∈y9 k I,x∈(gB l k I RV os oe g CM cs ce o8 o9 o10 o11).map (·.1):=cN [0,6,7,8,9,10] rfl
 have hp:∀{s1:Shared},ah s s1 (y9 k I)→Kn (KB v.w) s1 ((CM,ac (aa cs) ce)::l.kn v):=λF=>Kn.keepR (a:=eV (gB l k I RV os oe g CM cs ce o8 o9 o10 o11) [0,6,7,8,9,10]) (ex:=(CM,ac (aa cs) ce)::l.kn v) (hk.pkA [0,6,7,8,9,10,11] rfl) F λx hx=>hx
 have Crem:=h.C_rem CM cs ce hlen hcs
 have Csc:=h.C_sc CM cs ce
 have Cl3:=λI TL items t0=>h.C_l3 k I CM TL cs ce items 0 t0 hlen hcs o11
 generalize hnow:dk l.x (cs.map (·.1)) l.bals=now at Csc Cl3
 refine(zb v l k I CM cs ce o11 c tc now RV os oe g o8 o9 o10).go (W:=y9 k I) hA hk0 [0,6,7,8,9,10] ?_
 refine vL (λj=>aP v.w (qt hg)) EL λ_ _ s1 s2 (F1:ah s s1 []) F2 _ _ _ _=>?_
 refine vL (λj=>Crem) (λj j F j=>hp F) λ_ (T:NY) s3 s4 (F3:ah s2 s3 [k.Z+8]) F4 _ _ a4 hN=>?_
 have nf4:jh s4 [k.Z+9,k.Z+10]:=jh.kn (kn:=[(k.Z+9,aY o9),(k.Z+10,aY o10)]) (Kn.keepR (a:=eV (gB l k I RV os oe g CM cs ce o8 o9 o10 o11) [0,7]) ((hk.pkA [0,7,8,9] rfl).sub (List.sublist_append_left _ _)) (((F1.trans F2).trans F3).trans F4) (cN [0,1] rfl)) ⟨dO,dO,trivial⟩
 refine vL (λj=>Csc) (λj j F j=>hp F) λ_ t3 s5 s6 (F5:ah s4 s5 [k.Z+9]) F6 G6 _ _ _=>?_
 have l06:=G6.size
 have lT:s.heap.objs.size≤T.a:=a4 _ (.head _)
 refine kX (λj A' s' R' hA j=>Cl3 s6.heap.objs.size T.a T.items t3 A' s' R' hA) (λ_ s7 F (L:ah s6 s7 [k.Z+10]) K _ _ _=>⟨hN.keepD (((ah.refl s4|>.mono (W':=[k.Z+9,k.Z+10]) λj h=>nomatch h).ext F5 ⟨.inl (mN 0 rfl),trivial⟩).ext F6 trivial|>.ext L ⟨.inl (mN 1 rfl),trivial⟩) K.nil nf4,hk.join F hWin K ⟨.inr l06,.inl (mN 11 rfl),.inl (mN 2 rfl),.inl (mN 3 rfl),.inl (mN 4 rfl),.inl (mN 5 rfl),.inl (mN 6 rfl),.inl (mN 8 rfl),.inl (mN 9 rfl),.inl (mN 10 rfl),.inr lT,trivial⟩⟩) λ_ (y:Ij) s7 s8 _ _ _ _ _ _ G8 _ _ _=>?_
 have hn8:∀i,s.heap.objs.size≤s8.heap.objs.size+i:=λi=>Nat.le_trans G8.size (Nat.le_add_right _ i)
 refine kc (λj=>hnb▸Gb v k.Z c tc s8.heap.objs.size (s8.heap.objs.size+1) (s8.heap.objs.size+2) CM cs ce _ hlen) fun(w:sd) s9 s10 hw=>kt λE sc F K=>?_
 have:=hk.join F hWin K ⟨.inl (mN 0 rfl),.inl (mN 1 rfl),.inl (mN 2 rfl),.inl (mN 3 rfl),.inl (mN 4 rfl),.inl (mN 5 rfl),.inl (mN 6 rfl),.inl (mN 7 rfl),.inl (mN 8 rfl),.inl (mN 9 rfl),.inl (mN 10 rfl),.inr (hn8 1),trivial⟩
 refine H (s8.heap.objs.size+1) w.ys.length (some (.ref T.a)) (some (.int now t3)) y.o sc F (hn8 1) ?_
 rw[←hw]
 exact this
theorem LS.ok.loop2(I RV:Nat)(os:List (Int×Tok))(oe:Nat)(hnd:(os.map (·.1)).Nodup){A:Around}(hA:cp A 420)(n0:Nat):∀(rest:List (Int×Tok)) (g CM:Nat) (cs:List (Int×Tok)) (ce:Nat) (o8 o9 o10 o11:Option Value) (s:Shared) (R:Result→Shared→Prop),
  n0≤s.heap.objs.size→(0<g→n0≤CM)→os.drop g=rest→g≤os.length→cs.length≤4→(∀p∈cs,0≤p.1∧p.1<(l.z.n:Int))→(∀q,q∈cs.map (·.1)↔q∈rest.map (·.1))→Kn (KB v.w) s (gB l k I RV os oe g CM cs ce o8 o9 o10 o11++l.kn v)→
  (∀CM' ce' o8' o9' o10' o11' s',(0<os.length→n0≤CM')→ah s s' (y9 k I)→Kn (KB v.w) s' (((I,aj .none os.length)::(gB l k I RV os oe g CM' [] ce' o8' o9' o10' o11').tail)++l.kn v)→R (.ok .next) s')→
  codeAny (model pr v.w) A (uE v.w k.Z I) R s:=by
 intro rest
 induction rest with
 |nil=>
  intro g CM cs ce o8 o9 o10 o11 s R h0 h1 hd hg hl4 hcs hset hk H
  have hg':=cq hd hg
  subst hg'
  obtain rfl:cs=[]:=by
   cases cs with
   |nil=>rfl
   |cons p l=>exact absurd ((hset p.1).mp (by simp)) (by simp)
  refine(zd v k.Z I RV (aa os) oe os.length).go (W:=[I]) (hA.le (Nat.le_of_ble_eq_true rfl)) ((hk.pkA [0,1] rfl).sub (List.sublist_append_left _ _)) [0] ?_
  refine kc (λj=>bE v.w (qv os)) λj s1 s2 j=>?_
  refine kf λE s0 G K0 j=>?_
  exact H CM ce o8 o9 o10 o11 s0 h1 (G.mono λj h=>.inl (List.mem_singleton.mp h▸.head _)) (Kn.step (a:=[(I,aj (.ref RV) os.length)]) (ex:=(gB l k I RV os oe os.length CM [] ce o8 o9 o10 o11).tail++l.kn v) hk G (cN [0] rfl) K0 rfl)
 |cons p rest ih=>
  intro g CM cs ce o8 o9 o10 o11 s R h0 h1 hd hg hl4 hcs hset hk H
  obtain⟨hg',hx,hd'⟩:=bQ hd
  have hgg:os[g]?=some (p.1,p.2):=by rw[List.getElem?_eq_getElem hg',hx]
  have hne:cs≠[]:=λe=>by
   have:=(hset p.1).mpr (by simp)
   rw[e]at this
   simp at this
  have hpr:p.1∉rest.map (·.1):=by
   have h2:(((p::rest).map (·.1))).Nodup:=by
    rw[←hd,List.map_drop]
    exact hnd.sublist (List.drop_sublist _ _)
   rw[List.map_cons,List.nodup_cons]at h2
   exact h2.1
  refine h.turn2 k I RV os oe g CM cs ce o8 o9 o10 o11 p.1 p.2 hgg hl4 hcs hne hA hk λN ne o9' o10' o11' s' F hN K=>?_
  refine ih (g+1) N _ ne _ o9' o10' o11' s' R (Nat.le_trans h0 F.size) (λj=>Nat.le_trans h0 hN) hd' hg' (Nat.le_trans (List.length_filter_le _ _) hl4) (λq hq=>hcs q (List.mem_filter.mp hq).1) (λq=>?_) K λCM' ce' o8' o9' o10' o11' s2 hc F2 K2=>H CM' ce' o8' o9' o10' o11' s2 hc ((F.trans F2).mono λa ha=>.inl ((List.mem_append.mp ha).elim id id)) K2
  rw[m7,wo,List.mem_filter,hset q,List.map_cons,List.mem_cons,decide_eq_true_iff]
  constructor
  ·rintro ⟨h1|h1,h2⟩
   ·exact absurd h1 h2
   ·exact h1
  ·intro h1
   exact⟨.inr h1,λe=>hpr (e▸h1)⟩
structure I5 where
 CM:Nat
 ce:Nat
 o8:Option Value
 o9:Option Value
 o10:Option Value
 o11:Option Value
noncomputable def qV(k:L1)(I:Nat)(os:List (Int×Tok)):bS I5:={res:=λj=>.ok .next,upd:=λy=>[(I,aj .none os.length),(k.Z+6,af (.ref y.CM)),(k.Z+8,aY y.o8),(k.Z+9,aY y.o9),(k.Z+10,aY y.o10),(k.Z+11,aY y.o11)],add:=λy=>[(y.CM,ac (aa []) y.ce)]}
omit h in
theorem Gg(h:l.ok v)(I RV:Nat)(os:List (Int×Tok))(oe:Nat)(hne:0<os.length)(hnd:(os.map (·.1)).Nodup)(CM:Nat)(cs:List (Int×Tok))(ce:Nat)(hl4:cs.length≤4)(hcs:∀p∈cs,0≤p.1∧p.1<(l.z.n:Int))(hset:∀q,q∈cs.map (·.1)↔q∈os.map (·.1))(o8 o9 o10 o11:Option Value):
  Ct v.w 420 (gB l k I RV os oe 0 CM cs ce o8 o9 o10 o11) (λs=>Kn (KB v.w) s (gB l k I RV os oe 0 CM cs ce o8 o9 o10 o11++l.kn v)) (uE v.w k.Z I) (y9 k I) (qV k I os) bP:=by
 intro A s R hA _ hk hR
 refine h.loop2 k I RV os oe hnd hA s.heap.objs.size os 0 CM cs ce o8 o9 o10 o11 s R (Nat.le_refl _) (λh=>absurd h (Nat.lt_irrefl 0)) rfl (Nat.zero_le _) hl4 hcs hset hk λCM' ce' o8' o9' o10' o11' s' hC F K=>?_
 refine hR ⟨CM',ce',o8',o9',o10',o11'⟩ s' F ((K.pkA [0,6,7,8,9,10,11] rfl).sub (List.sublist_append_left _ _)) (λp hp=>?_) trivial
 rw[show p=(CM',ac (aa []) ce')from List.mem_singleton.mp hp]
 exact hC hne
end
noncomputable def l2(n:Nat):Obj:={cls:=.ref 260,data:=.fields #[.ref n,.none,.none,.none,.bool false,.none]}
noncomputable def gK(x:Value):bS Nat:={res:=λn=>.ok (.ret (.ref (n+1))),add:=λn=>[(n,aO #[x] 0),(n+1,l2 n)]}
theorem rU(v:WV)(x:Value):Ct v.w 20 [] aK (.builtin "ValueError.__new__" ⟨[.ref 260,x],[]⟩) [] (gK x) (λy s s'=>y=s.heap.objs.size):=by
 intro A s R hA hk _ hR
 have hC:s.heap.get? 260=some (nl v.w.params):=hk.base 260 _ (by kernel_rfl)
 obtain⟨h,g,d,t,os⟩:=s
 refine codeAny_exc_new_sub F.excBase_ValueError (rest:=[x]) (C:=260) (h:=h) (by rw[hC];rfl) ?_
 let s1:Shared:=⟨(h.push (aO #[x] 0)).push (l2 h.objs.size),g,d,t,os⟩
 have Fr:ah ⟨h,g,d,t,os⟩ s1 []:=⟨λh=>h,rfl,rfl,by show h.objs.size≤(Heap.push (Heap.push _ _) _).objs.size;rw[Heap.size_push,Heap.size_push];omega,Nat.le_refl _,λb o e j=>Heap.get?_push_of_some _ (Heap.get?_push_of_some _ e)⟩
 have g1:s1.heap.get? h.objs.size=some (aO #[x] 0):=Heap.get?_push_of_some _ (Heap.get?_push_size h (o:=aO #[x] 0) rfl)
 have g2:s1.heap.get? (h.objs.size+1)=some (l2 h.objs.size):=by
  have:=Heap.get?_push_size (h.push (aO #[x] 0)) (o:=l2 h.objs.size) rfl
  rw[Heap.size_push]at this
  exact this
 refine hR h.objs.size s1 Fr ⟨λx o e=>Fr.keep x o (hk.base x o e) (by simp),λp hp=>?_,λp hp=>?_,?_,hk.toks⟩ ?_ rfl
 ·simp only[gK,List.nil_append,List.mem_cons,List.not_mem_nil,or_false]at hp
  rcases hp with rfl|rfl
  ·exact g1
  ·exact g2
 ·simp only[gK,List.nil_append,List.mem_cons,List.not_mem_nil,or_false]at hp
  rcases hp with rfl|rfl
  ·exact bM hk (Nat.le_refl _)
  ·exact bM hk (Nat.le_succ _)
 ·simp only[gK,List.nil_append,List.map_cons,List.map_nil,List.nodup_cons,List.mem_singleton,List.not_mem_nil,not_false_eq_true,List.nodup_nil,and_true]
  exact Nat.ne_of_lt (Nat.lt_succ_self _)
 ·intro p hp
  simp only[gK,List.mem_cons,List.not_mem_nil,or_false]at hp
  rcases hp with rfl|rfl
  ·exact Nat.le_refl _
  ·exact Nat.le_succ _
noncomputable def kJ(a:Nat)(x:Value):bS Unit:={res:=λj=>.ok (.ret (.ref (a+1))),add:=λj=>[(a,aO #[x] 0),(a+1,l2 a)]}
theorem mx(v:WV)(a:Nat)(x:Value):Ct v.w 20 [] (λs=>s.heap.objs.size=a) (.builtin "ValueError.__new__" ⟨[.ref 260,x],[]⟩) [] (kJ a x) bP:=by
 intro A s R hA hk hs hR
 exact rU v x A s R hA hk trivial λn s' F K ha e=>by
  subst hs
  subst e
  exact hR () s' F K ha trivial
inductive Uk|kP|kE
noncomputable def Ch:En Uk:=oq [.kP,.kE] Uk.ctorIdx (λt=>by cases t<;>rfl)
noncomputable def Uk.s:Uk→Str|.kP=>⟨#[112,97,118,115]⟩|.kE=>⟨#[]⟩
noncomputable def i6(w:World):FuncData:=m6 (rf w.params)
noncomputable def oj(w:World):FuncData:=m6 (ro w.params)
noncomputable def ow(w:World)(L:Addr):Env:=cR (i6 w) 552 L
noncomputable def l7(w:World)(L:Addr):Env:=cR (oj w) 271 L
set_option backward.match.sparseCases false in
noncomputable def AM(w:World):List Stmt:=match((aH (i6 w))[0]?:Option Stmt)with|some (.Try b _ _ _ _)=>b|_=>[]
noncomputable def xI(w:World):List ExceptHandler:=match((aH (i6 w))[0]?:Option Stmt)with|some (.Try _ h _ _ _)=>h|_=>[]
noncomputable def IQ(w:World):Expr:=match((xI w)[0]?:Option ExceptHandler)with|some (.ExceptHandler (some e) _ _ _)=>e|_=>default
noncomputable def vW(ht:Nat→Int×Tok)(n:Str)(x:Value)(sl:Array (Option Value)):Obj:={fQ ht [(n,x)] 1 with slots:=sl}
noncomputable def da(o:Obj)(sl:Array (Option Value)):Obj:={o with slots:=sl}
noncomputable def kG(Z:Addr)(oZ:Obj):bS (Array (Option Value)):={res:=λj=>.ok (.ret (.bool true)),upd:=λy=>[(Z,da oZ y)]}
structure HQ where
 e:Addr
 T:Addr
 sL:Array (Option Value)
 sZ:Array (Option Value)
noncomputable def kF(L Z:Addr)(oL oZ:Obj):bS HQ:={res:=λy=>.error (.ref y.e),upd:=λy=>[(L,da oL y.sL),(Z,da oZ y.sZ)]}
noncomputable def Aq(l:List Stmt)(env:Env):Sem PySem.Fin:=R.bindR (Fast.tw12563942051412417395 l env) λf=>.pure (.done f)
noncomputable def Gn(v:WV)(nm:Uk)(tn:Tok)(Z:Addr)(oZ:Obj):Cn:=⟨120,[(Z,oZ)],.call (.ref 552) ⟨[.str nm.s tn],[]⟩,λzn zu=>.tail {js:=[1,0],i:=1,u:=1,N:=12,orc:=(dz 5 4227072)} (.func (aH (i6 v.w)) (ow v.w zn)) (λE=>[(zn,vW (aq (E.lk 1)) aV (.str nm.s tn) #[]),(Z,oZ)])⟩
theorem xF v nm tn Z oZ:(Gn v nm tn Z oZ).G v:=Cn.k2 Ch (f:=λnm v=>Gn v nm tn Z oZ) (λj j j j j j=>by kernel_rfl) nm v
noncomputable def It(v:WV)(nm:Uk)(tn:Tok)(Z L:Addr)(oZ:Obj)(ht:Nat→Int×Tok):Cn:=⟨120,[(L,vW ht aV (.str nm.s tn) #[]),(Z,oZ)],.func (aH (i6 v.w)) (ow v.w L),λzn zu=>.cut {js:=[0,1],ju:=[0,1],K:=1,N:=12,orc:=(dz 3 128),fr:=some [ow v.w L]} (.call (.ref 271) ⟨[.str nm.s tn],[]⟩) (λE=>[(L,vW ht aV (.str nm.s tn) #[]),(Z,oZ)]) (λj=>kF L Z (vW ht aV (.str nm.s tn) #[]) oZ) λy n1 u1=>.fin {js:=[0,1],N:=5} (.error (.ref y.e)) (λE=>[(L,da (vW ht aV (.str nm.s tn) #[]) y.sL),(Z,da oZ y.sZ)])⟩
theorem xE v nm tn Z L oZ ht:(It v nm tn Z L oZ ht).GT (Aq (AM v.w) (ow v.w L)) v:=by
 obtain⟨w0,b1,b2,b3⟩:=v;intro zn zu;cases b1<;>cases nm<;>kernel_rfl
noncomputable def Gm(v:WV)(nm:Uk)(tn:Tok)(Z L:Addr)(oZ oL:Obj):Cn:=⟨100,[(L,oL),(Z,oZ)],.call (.ref 271) ⟨[.str nm.s tn],[]⟩,λzn zu=>.tail {js:=[2,0,1],i:=1,u:=2,N:=17,orc:=(dz 8 13298030346240)} (.func (aH (oj v.w)) (l7 v.w zn)) (λE=>[(zn,fQ (aq (E.lk 2)) [(bc,.str nm.s tn),(bI,.none)] 2),(L,oL),(Z,oZ)])⟩
theorem xD v nm tn Z L oZ oL:(Gm v nm tn Z L oZ oL).G v:=Cn.k2 Ch (f:=λnm v=>Gm v nm tn Z L oZ oL) (λj j j j j j=>by kernel_rfl) nm v
noncomputable def Is(v:WV)(nm:Uk)(tn:Tok)(L2:Addr)(ht:Nat→Int×Tok):Cn:=⟨100,[(L2,fQ ht [(bc,.str nm.s tn),(bI,.none)] 2)],.func (aH (oj v.w)) (l7 v.w L2),λzn zu=>.cut {i:=2,u:=9,K:=6,cnt:=22,N:=115,orc:=(dz 32 5193255082608220220335664404643969)} (.builtin "ValueError.__new__" ⟨[.ref 260,.str nm.s tn],[]⟩) (λE=>[]) (λj=>kJ (zn+2) (.str nm.s tn)) λj n1 u1=>.fin {ws:=[4],js:=[0,4],i:=4,u:=(match nm with|.kP=>8|.kE=>7),cnt:=24,N:=146,orc:=(dz 65 3634417168078724724865407698336770348443355704996495303932220367121829516551911271063354272323885114163247785792892004306913064810266629),wa:=[zn+2+1]} (.error (.ref (zn+3))) (λE=>[(L2,fQ ht [(bc,.str nm.s tn),(bI,.none)] 2),(zn+3,l2 (n1+3))])⟩
theorem xC v nm tn L2 ht:(Is v nm tn L2 ht).GTB 300 (Aq (aH (oj v.w)) (l7 v.w L2)) v:=by
 obtain⟨w0,b1,b2,b3⟩:=v;refine⟨rfl,λzn zu=>?_⟩;cases b1<;>cases nm<;>kernel_rfl
theorem o5{w:World}{A:Around}{c:Code}{l:List Stmt}{env:Env}{R:Result→Shared→Prop}{s:Shared}(h:fG (model pr w) A R c .top (Aq l env) s):
  wpAny (model pr w) (A.under c) (execs l env) (λf s'=>R (.ok f) s') (λe s'=>R (.error e) s') s:=by
 have e:Aq l env=(execs l env>>=λf=>pure (PySem.Fin.done f)):=by
  unfold Aq
  rw[←PySem.W.R.bindR_eq,←Fast.te12563942051412417395]
  rfl
 unfold fG at h
 rw[e]at h
 intro Γ p hΓ
 have h:=h Γ p hΓ
 rw[Sem.wp_bind']at h
 exact h
theorem sf{w:World}{A:Around}{c:Code}{l:List Stmt}{env:Env}{P:Value→Shared→Prop}{Q:Flow→Shared→Prop}{s:Shared}(h:fG (model pr w) A (λr s'=>match r with|.ok _=>False|.error x=>P x s') c .top (Aq l env) s):
  wpAny (model pr w) (A.under c) (execs l env) Q P s:=wpAny_mono (o5 h) (λj j h=>h.elim) λj j h=>h
theorem FlyingW.keep{base h h':Heap}{l:List Env}{e:Addr}{c a0:Value}(f:Heap.FlyingW base l e c a0 h)(k:∀b o,h.get? b=some o→h'.get? b=some o):Heap.FlyingW base l e c a0 h':=by
 obtain⟨f1,f2,f3,oe,vs,T,oT,ts,a1,a2,a3,a4,a5,a6,a7,a8,a9⟩:=f
 exact⟨λb o q=>k b o (f1 b o q),f2,f3.of_keeps λb o q j=>⟨o,k b o q,rfl⟩,oe,vs,T,oT,ts,k _ _ a1,a2,a3,a4,a5,a6,k _ _ a7,a8,a9⟩
theorem f6{A:Around}{env:Env}{l:List Env}(h:A.frames=some l):(A.deeper env).frames=some (env::l):=by
 show A.frames.map _=_
 rw[h]
 rfl
set_option backward.match.sparseCases false in
noncomputable def Au(o:Obj):Array DictEntry:=match o.data with|.dict es _=>es|_=>#[]
noncomputable def EE(es:Array DictEntry):Bool:=es.toList.all λe=>match e.key with|.str _ _=>true|_=>false
theorem sy{es:Array DictEntry}(h:EE es=true):StrKeys es:=λe he=>by
 have:=List.all_eq_true.mp h e (Array.mem_toList_iff.mpr he)
 cases hk:e.key<;>rw[hk]at this<;>first|exact⟨_,_,rfl⟩|cases this
theorem rk(v:WV):StrKeys (Au (oU v.w.params)):=sy (by kernel_rfl)
section
variable (v:WV) (nm:Uk) (tn:Tok)
theorem FH{A:Around}(hA:cp A 100){s:Shared}{R:Result→Shared→Prop}{outer:List Env}(hfr:A.frames=some outer){base:Heap}(hkb:base.StaysIn s.heap)(hl:s.heap.FunFrames base outer)(L2:Addr)(ht:Nat→Int×Tok)
  (hk:Kn (KB v.w) s [(L2,fQ ht [(bc,.str nm.s tn),(bI,.none)] 2)]) (hbL:base.get? L2=none)
  (hR:∀e a0 s',s.heap.objs.size≤e→Heap.FlyingW base outer e (.ref 260) a0 s'.heap→(∀b o,s.heap.get? b=some o→(∀vs,o.data≠.fields vs)→∃sl,s'.heap.get? b=some {o with slots:=sl})→(AllBare s.gens→AllBare s'.gens)→s'.drawn=s.drawn→s'.os=s.os→s.toks≤s'.toks→R (.error (.ref e)) s'):
  codeAny (model pr v.w) A (.func (aH (oj v.w)) (l7 v.w L2)) R s:=by
 refine codeAny_func (wpAny_mono (o5 (A:=A) (c:=.func (aH (oj v.w)) (l7 v.w L2)) (R:=λr s'=>match r with
  |.ok _=>False
  |.error x=>wpAny (model pr v.w) (A.deeper (l7 v.w L2)) (leaving (l7 v.w L2) x) (λj s''=>R (.error x) s'') (λe' s''=>R (.error e') s'') s') ((xC v nm tn L2 ht).go (W:=[]) hA hk [] ?_)) (λj j h=>h.elim) λj j h=>h)
 refine kX (λE A' s' R' hA j=>mx v _ _ A' s' R' hA) (λE s1 j j j z j j=>z) λj j s1 s2 j j j j j j j j j j=>kf λE s3 F K3 j=>?_
 have he:=K3.obj (s.heap.objs.size+3,l2 (s2.heap.objs.size+3)) (mN 1 rfl)
 have keep:∀b o,s.heap.get? b=some o→s3.heap.get? b=some o:=λb o e=>F.keep b o e (λx=>nomatch x)
 have hbs:∀b o,base.get? b=some o→b<s.heap.objs.size:=λb o e=>Heap.lt_size (hkb b o e)
 have hnone:∀b,s.heap.objs.size≤b→base.get? b=none:=λb hb=>by
  cases q:base.get? b with
  |none=>rfl
  |some o=>exact absurd (hbs b o q) (Nat.not_lt.mpr hb)
 refine wpAny_leaving_firstW (base:=base) (outer:=outer) (L:=L2) (f6 hfr) ⟨nofun,⟨L2,_,rfl,hbL,K3.obj (L2,fQ ht [(bc,.str nm.s tn),(bI,.none)] 2) (List.mem_cons_self ..),λvs h=>nomatch h⟩,hl.of_keeps λb o e j=>⟨o,keep b o e,rfl⟩⟩ rfl he (λb o e=>keep b o (hkb b o e)) (hnone _ (Nat.le_add_right _ 3)) rfl rfl rfl λh' hL=>?_
 obtain⟨k1,k2,k3,k4⟩:=hL
 exact hR _ _ {s3 with heap:=h'} (Nat.le_add_right _ 3) ⟨k1,hnone _ (Nat.le_add_right _ 3),k2.2.2,k3⟩ (λb o e hn=>k4 b o (keep b o e) hn) F.gens F.drawn F.os F.toks
theorem uX(Z L:Addr)(oZ oL:Obj)(hnZ:∀vs,oZ.data≠.fields vs)(hnL:∀vs,oL.data≠.fields vs)(e1 eZ:Env)(h1:e1.frame=some L∧e1.scope.kind≠.module)(h2:eZ.frame=some Z∧eZ.scope.kind≠.module)(Q:Around→Prop)(hQ:∀A,Q A→A.frames=some [e1,eZ]):
  Ew v.w 100 [(L,oL),(Z,oZ)] aK (.call (.ref 271) ⟨[.str nm.s tn],[]⟩) [L,Z] (kF L Z oL oZ) (λy s s'=>∃a0,Heap.FlyingW (hideAll s.heap [L,Z]) [e1,eZ] y.e (.ref 260) a0 s'.heap∧s.heap.objs.size≤y.e) Q:=by
 intro A s R hA hq hk _ hR
 refine(xD v nm tn Z L oZ oL).go (W:=[]) hA hk [] <| kt λE s1 F1 K1=>?_
 have oL1:=K1.obj (L,oL) (mN 1 rfl)
 have oZ1:=K1.obj (Z,oZ) (mN 2 rfl)
 have keep:∀b o,s.heap.get? b=some o→s1.heap.get? b=some o:=λb o e=>F1.keep b o e (λx=>nomatch x)
 have hst:(hideAll s.heap [L,Z]).StaysIn s1.heap:=λb o e=>keep b o (of_hideAll _ e)
 refine FH v nm tn hA (hQ A hq) (base:=hideAll s.heap [L,Z]) hst ⟨h1.2,⟨L,oL,h1.1,hideAll_none _ (by simp),oL1,hnL⟩,h2.2,⟨Z,oZ,h2.1,hideAll_none _ (by simp),oZ1,hnZ⟩,trivial⟩ s.heap.objs.size _ (K1.pk [0] rfl) ?_ λe a0 s' he hfl hup hg hd ho ht=>?_
 ·cases q:(hideAll s.heap [L,Z]).get? s.heap.objs.size with
  |none=>rfl
  |some o=>exact absurd (Heap.lt_size (of_hideAll _ q)) (Nat.lt_irrefl _)
 ·obtain⟨slL,eL⟩:=hup L oL oL1 hnL
  obtain⟨slZ,eZ'⟩:=hup Z oZ oZ1 hnZ
  have hes:s.heap.objs.size≤e:=Nat.le_trans F1.size he
  obtain⟨ob,hob,_⟩:=hfl.there
  have Fr:ah s s' [L,Z]:=⟨λh=>hg (F1.gens h),hd.trans F1.drawn,ho.trans F1.os,Nat.le_trans hes (Nat.le_of_lt (Heap.lt_size hob)),Nat.le_trans F1.toks ht,λb o e hb=>hfl.1 b o (hideAll_get _ e hb)⟩
  refine hR ⟨e,0,slL,slZ⟩ s' Fr (hk.chg Fr (by simp) (by simp[kF]) λp hp=>?_) (by simp[kF]) ⟨a0,hfl,hes⟩
  simp only[kF,List.append_nil,List.mem_cons,List.not_mem_nil,or_false]at hp
  rcases hp with rfl|rfl
  ·exact eL
  ·exact eZ'
set_option backward.match.sparseCases false in
noncomputable def ED(w:World):Pos:=match((aH (i6 w))[0]?:Option Stmt)with|some (.Try _ _ _ _ p)=>p|_=>default
noncomputable def E7(w:World):Stmt:=match((xI w)[0]?:Option ExceptHandler)with|some (.ExceptHandler _ _ b _)=>(match b with|x::_=>x|[]=>default)|_=>default
noncomputable def hps(w:World):Pos:=match((xI w)[0]?:Option ExceptHandler)with|some (.ExceptHandler _ _ _ p)=>p|_=>default
set_option backward.match.sparseCases false in
noncomputable def IP(w:World):Pos:=match IQ w with|.Name _ p=>p|_=>default
set_option backward.match.sparseCases false in
noncomputable def IT(w:World):Pos:=match E7 w with|.Return _ p=>p|_=>default
set_option backward.match.sparseCases false in
noncomputable def IS(w:World):Pos:=match E7 w with|.Return (some (.Constant _ _ p)) _=>p|_=>default
noncomputable def IU(w:World):Nat:=match E7 w with|.Return (some (.Constant _ n _)) _=>n|_=>0
noncomputable def vu:Str:=⟨#[85,110,107,110,111,119,110,83,99,111,114,101,70,117,110,99,116,105,111,110,69,114,114,111,114]⟩
theorem uF(v:WV):aH (i6 v.w)=.Try (AM v.w) [.ExceptHandler (some (.Name vu (IP v.w))) none [.Return (some (.Constant (.bool true) (IU v.w) (IS v.w))) (IT v.w)] (hps v.w)] [] [] (ED v.w)::(aH (i6 v.w)).tail:=by kernel_rfl
theorem Dy(Z:Addr)(oZ:Obj)(hnZ:∀vs,oZ.data≠.fields vs)(eZ:Env)(h2:eZ.frame=some Z∧eZ.scope.kind≠.module){A:Around}(hA:cp A 120)(hfr:A.frames=some [eZ]){s:Shared}{R:Result→Shared→Prop}(hk:Kn (KB v.w) s [(Z,oZ)])
  (hR:∀sl s',ah s s' [Z]→Kn (KB v.w) s' [(Z,da oZ sl)]→R (.ok (.ret (.bool true))) s'):codeAny (model pr v.w) A (.call (.ref 552) ⟨[.str nm.s tn],[]⟩) R s:=by
 refine(xF v nm tn Z oZ).go (W:=[]) hA hk [] <| kt λE s1 F1 K1=>?_
 replace K1:Kn (KB v.w) s1 [(s.heap.objs.size,vW (aq (E.lk 1)) aV (.str nm.s tn) #[]),(Z,oZ)]:=K1
 generalize aq (E.lk 1)=ht at K1
 generalize hL:s.heap.objs.size=L at K1 ⊢
 refine codeAny_func ?_
 rw[uF v]
 refine wpAny_execs_cons (wpAny_Try_except ?_)
 refine sf (A:=A) (c:=.func (aH (i6 v.w)) (ow v.w L)) ((xE v nm tn Z L oZ ht).go (W:=[L,Z]) hA K1 [0,1] ?_)
 refine kX (λE=>uX v nm tn Z L oZ (vW ht aV (.str nm.s tn) #[]) hnZ (λvs h=>nomatch h) (ow v.w L) eZ ⟨rfl,nofun⟩ h2 _ λA' hq=>hq _ _ rfl hfr) (λj j j j j j j j=>trivial) λ_ (y:HQ) s2 s3 _ (F2:ah s1 s2 []) (K2:Kn (KB v.w) s2 [(L,vW ht aV (.str nm.s tn) #[]),(Z,oZ)]) _ _ F3 _ _ _ hP=>?_
 obtain⟨a0,hfl,hes⟩:=hP
 refine Em λE s4 _ (F4:ah s3 s4 []) K4 _=>?_
 have hfl4:=FlyingW.keep hfl λb o e=>F4.keep b o e (λx=>nomatch x)
 refine wpAny_looks_onW (f6 hfr) rfl hfl4 λh4 hheld4 hsm4=>?_
 refine wpAny_landsW hheld4 λh5 hfl5 hsm5=>?_
 obtain⟨ob,hob,hobc⟩:=hfl5.there
 have kb:∀x o,(KB v.w).get x=some o→(hideAll s2.heap [L,Z]).get? x=some o:=λx o e=>hideAll_get _ (K2.base x o e) λhm=>by
  rw[K2.offA (a:=x) (by simpa using hm)]at e
  cases e
 have e3:=hfl5.1 _ _ (kb 3 _ (by kernel_rfl:(KB v.w).get 3=some (oU v.w.params)))
 have eC:=hfl5.1 _ _ (kb 260 _ (by kernel_rfl:(KB v.w).get 260=some (nl v.w.params)))
 refine wpAny_noRaise (wpAny_handleBy_cons (codeAny_handlers_test (Calls.Name_function_global rfl (by kernel_rfl) (Calls.loadGlobal_global (mg:=λn=>nsFind (Au (oU v.w.params)) n) ⟨_,_,_,e3,rfl,rk v,λj=>rfl⟩ (by kernel_rfl:nsFind (Au (oU v.w.params)) vu=some (.ref 260)) ?_) (by decide))) nofun)
 refine wpAny_excMatches_sub_self (C:=260) eC hob hobc (by kernel_rfl) (codeAny_handlers_suite ?_)
 refine lands_againW hfl5 λh6 hfl6 hsm6=>?_
 refine wpAny_execs_cons (wpAny_Return_some (wpAny_Constant_bool ?_))
 obtain⟨sl,hsl⟩:=((hsm4.trans hsm5).trans hsm6) Z _ (K4.obj (Z,da oZ y.sZ) (mN 1 rfl)) hnZ
 obtain⟨oe,hoe,_⟩:=hfl6.there
 have hesz:s.heap.objs.size≤y.e:=Nat.le_trans (Nat.le_trans F1.size F2.size) hes
 have F03:=((F1.trans F2).trans F3).trans F4
 have Fr:ah s {s4 with heap:=h6} [Z]:=⟨F03.gens,F03.drawn,F03.os,Nat.le_trans hesz (Nat.le_of_lt (Heap.lt_size hoe)),F03.toks,λb o e hb=>hfl6.1 b o (hideAll_get _ (F2.keep b o (F1.keep b o e λx=>nomatch x) λx=>nomatch x) λhm=>by
  simp only[List.mem_cons,List.not_mem_nil,or_false]at hm
  rcases hm with rfl|rfl
  ·exact absurd (hL▸Heap.lt_size e) (Nat.lt_irrefl _)
  ·exact hb (.head _))⟩
 exact hR sl _ Fr (hk.chg Fr (by simp) rfl λp hp=>by rw[List.mem_singleton.mp hp];exact hsl)
end
theorem mE(x:Nm)(wt:Int):∀(n g:Nat) (r:Rat),g+n≤4→em (gY x.j) wt n g r*(cU x:Rat)=r*(cU x:Rat)+((wt*(gV x (g+n)-gV x g):Int):Rat)
 |0,g,r,_=>by
  unfold em
  rw[Nat.add_zero,Int.sub_self,Int.mul_zero]
  exact(Rat.add_zero _).symm
 |n+1,g,r,h=>by
  unfold em
  rw[mE x wt n (g+1) _ (by omega),Rat.add_mul,Rat.add_assoc]
  congr 1
  rw[Rat.mul_assoc,Rat.mul_comm (wt:Rat),←Rat.mul_assoc,pX x (g+1) (by omega),←Rat.intCast_mul,←Rat.intCast_add]
  congr 1
  rw[show g+1+n=g+(n+1) by omega]
  have:gV x (g+1)=gV x g+gA x (g+1):=rfl
  rw[this,Int.mul_comm (gA x (g+1)) wt,←Int.mul_add]
  congr 1
  omega
theorem mD(x:Nm)(cnt:VM→Nat)(ms:List Int):∀(vl:List VM) (r:Rat),(∀y∈vl,cnt y≤4∧cnt y=ap y.x.L ms)→dy (gY x.j) cnt vl r*(cU x:Rat)=r*(cU x:Rat)+((dk x ms (vl.map gv):Int):Rat)
 |[],r,_=>by
  unfold dy
  exact(Rat.add_zero _).symm
 |y::l,r,h=>by
  obtain⟨h1,h2⟩:=h y (List.mem_cons_self ..)
  unfold dy
  rw[mD x cnt ms l _ λz hz=>h z (List.mem_cons_of_mem _ hz),mE x y.x.wt (cnt y) 0 r (by omega),Rat.add_assoc,←Rat.intCast_add]
  congr 2
  have e3:dk x ms ((y::l).map gv)=y.x.wt*gV x (ap y.x.L ms)+dk x ms (l.map gv):=rfl
  rw[e3,Nat.zero_add,h2,show gV x 0=0 from rfl,Int.sub_zero]
theorem rP(v:WV){D:Nat}{kn:List (Addr×Obj)}{c:Code}{Pre:Shared→Prop}{r:Rat}(C:Ct v.w D kn Pre c [] fR (λy s s'=>cw v.w s.heap.objs.size s' y r∧iV y=true)):
  Ct v.w D kn Pre c [] (aw r.num) (λj j j=>r=(r.num:Rat)):=by
 intro A s R hA hkn hp hR
 refine C A s R hA hkn hp λy s' F K ha hy=>?_
 obtain⟨h1,h2⟩:=hy
 cases h1 with
 |int k t=>exact hR t s' F (by simpa [aw,fR]using K) (by simp[aw]) rfl
 |fr=>cases h2
theorem Ae(v:WV){D:Nat}{kn:List (Addr×Obj)}{c:Code}{Pre:Shared→Prop}{r:Rat}(C:Ct v.w D kn Pre c [] fR (λy s s'=>cw v.w s.heap.objs.size s' y r∧iV y=false)):
  Ct v.w D kn Pre c [] (ar r) bP:=by
 intro A s R hA hkn hp hR
 refine C A s R hA hkn hp λy s' F K ha hy=>?_
 obtain⟨h1,h2⟩:=hy
 cases h1 with
 |int=>cases h2
 |fr a b _ ht tn td f hab=>
  refine hR ⟨a,b,ht,tn,td⟩ s' F f (λp hp=>?_) trivial
  simp only[ar,aJ,List.mem_cons,List.not_mem_nil,or_false]at hp
  rcases hp with rfl|rfl
  ·exact hab.1
  ·exact hab.2
namespace LS
section
variable {v:WV} {l:LS} (h:l.ok v)
include h
theorem ok.preT{s:Shared}{CM:Addr}{o:Obj}(k:Kn (KB v.w) s ((CM,o)::l.kn v)):Kn (KB v.w) s ([(l.Pf,dJ l.PD),(l.PD,dK l.pht l.CL l.NL l.VL),(l.VL,ac (bC l.vl) l.ve),(CM,o)]++((match l.x.isP with|false=>cH v l.x l.q|true=>[])++dj l.vl)):=by
 have k1:=Kn.pkA (a:=[(CM,o),(l.Pf,dJ l.PD),(l.PD,dK l.pht l.CL l.NL l.VL),(l.CL,ac (aa (l.z.cl l.tc)) l.cle),(l.VL,ac (bC l.vl) l.ve)]) (ex:=cH v l.x l.q++(dj l.vl++cB l.BK l.bl l.be)) k [1,2,4,0] rfl
 refine k1.sub (List.Sublist.append (List.Sublist.refl _) (List.Sublist.append ?_ (List.sublist_append_left _ _)))
 cases l.x.isP with
 |false=>exact List.Sublist.refl _
 |true=>exact List.nil_sublist _
theorem ok.C_th(CM:Addr)(cs:List (Int×Tok))(ce:Nat)(l1:List Nat)(cnt:VM→Nat)(Cs:aS v.w 100 [(CM,ac (aa cs) ce)] (.call (.type "set") ⟨[.ref CM],[]⟩) [] (f7 l1 (!v.b3)))
  (Ca:∀y∈l.vl,∀X tx,Ct v.w 80 [(X,ba (ai l1 tx) l1.length (ak l1 (!v.b3))),(y.x.S,y.x.so)] aK (dx X y.x.S) [] br (λx2 o o=>∃P sl,bh v x2.a (ba x2.es x2.ep x2.t) x2.es x2.ep x2.t P sl∧P.length=cnt y∧∀y∈P,∃(c:Nat) (t:Tok),y=Value.int c t))
  (hcnt:∀y∈l.vl,cnt y≤4) (hcs:cs.length≤4):
  Ct v.w 290 [(CM,ac (aa cs) ce)] (λs=>Kn (KB v.w) s ((CM,ac (aa cs) ce)::l.kn v)) (.call (.ref 278) ⟨[.str l.x.s l.tn,.ref l.Pf,.ref CM],[]⟩) [] fR
   (λy s s'=>cw v.w s.heap.objs.size s' y (dy (gY l.x.j) cnt l.vl 0)∧iV y=fg (iU l.x.j) cnt l.vl true):=by
 intro A s R hA hk hp hR
 have C:=rN v l.x l.q h.q l.tn l.Pf l.PD l.CL l.NL l.VL CM l.pht l.vl l.ve cs ce l1 cnt Cs Ca hcnt (λy hy=>(h.set y hy).wt) h.ne hcs
 have K:=h.preT hp
 refine C A s R hA (K.sub (List.sublist_append_left _ _)) ?_ hR
 rw[←List.append_assoc]at K
 exact K
noncomputable def cntF(y:VM):Nat:=y.b.l.length
noncomputable def thF(l:LS):Rat:=dy (gY l.x.j) cntF l.vl 0
noncomputable def kdF(l:LS):Bool:=fg (iU l.x.j) cntF l.vl true
theorem ok.so{y:VM}(hy:y∈l.vl):y.x.so=ao y.x.SD (ai y.b.l y.tk) y.x.ep (ak y.b.l (!v.b3)):=by
 unfold VR.so
 rw[(h.es y hy).1,(h.es y hy).2.1]
theorem ok.thF_N{cs:List (Int×Tok)}(hc:∀c:Nat,c<l.z.n→(c:Int)∈cs.map (·.1)):l.thF*(cU l.x:Rat)=((dk l.x (cs.map (·.1)) l.bals:Int):Rat):=by
 unfold thF
 rw[mD l.x cntF (cs.map (·.1)) l.vl 0 λy hy=>⟨y.b.l_le,?_⟩,h.bal,Rat.zero_mul,Rat.zero_add]
 unfold cntF ap
 rw[(h.es y hy).2.2,List.filter_eq_self.mpr,List.length_map]
 intro k hk
 obtain⟨c,hc',rfl⟩:=List.mem_map.mp hk
 exact decide_eq_true (hc c (h.lt y hy c hc'))
theorem ok.C_thF(CM:Addr)(cs:List (Int×Tok))(ce:Nat){t0:Nat→Tok}(hp:cs.Perm (l.z.cl t0)):
  Ct v.w 290 [(CM,ac (aa cs) ce)] (λs=>Kn (KB v.w) s ((CM,ac (aa cs) ce)::l.kn v)) (.call (.ref 278) ⟨[.str l.x.s l.tn,.ref l.Pf,.ref CM],[]⟩) [] fR
   (λy s s'=>cw v.w s.heap.objs.size s' y l.thF∧iV y=l.kdF):=by
 have hr:∀c∈l.z.r,c<4:=by cases l.z<;>decide
 have hrl:l.z.r.length=l.z.n:=by cases l.z<;>rfl
 have hrm:∀c,c<l.z.n→c∈l.z.r:=by cases l.z<;>decide
 refine h.C_th CM cs ce l.z.r cntF (DH v l.z hp CM ce) (λy hy X tx=>?_) (λy j=>y.b.l_le) (by rw[hp.length_eq];cases l.z<;>simp[Sz.cl])
 rw[h.so hy]
 have hsub:∀c∈y.b.l,c∈l.z.r:=λc hc=>hrm c (h.lt y hy c hc)
 exact D8 v y.b X y.x.S y.x.SD l.z.r tx y.tk _ _ hr (by cases l.z<;>decide) (by cases l.z<;>decide) (by cases l.z<;>kernel_rfl) hsub (by
  have e:=bp (h.nd hy) (l.z.r.map fun(c:Nat)=>(c:Int))
  unfold ap at e
  rw[List.filter_eq_self.mpr λk hk=>?_,(h.es y hy).2.2,List.length_map,List.length_map]at e
  ·exact e
  ·rw[(h.es y hy).2.2]at hk
   obtain⟨c,hc,rfl⟩:=List.mem_map.mp hk
   exact decide_eq_true (List.mem_map_of_mem (hsub c hc)))
theorem ok.C_th0(CM:Addr)(ce:Nat):Ct v.w 290 [(CM,ac (aa []) ce)] (λs=>Kn (KB v.w) s ((CM,ac (aa []) ce)::l.kn v)) (.call (.ref 278) ⟨[.str l.x.s l.tn,.ref l.Pf,.ref CM],[]⟩) [] (aw 0) bP:=by
 have e1:∀vl:List VM,dy (gY l.x.j) (λo=>0) vl 0=0:=λvl=>by
  induction vl with
  |nil=>rfl
  |cons y vl ih=>exact ih
 have e2:∀vl:List VM,fg (iU l.x.j) (λo=>0) vl true=true:=λvl=>by
  induction vl with
  |nil=>rfl
  |cons y vl ih=>exact ih
 have C:=h.C_th CM [] ce [] (λo=>0) (DI v CM ce) (λy hy X tx=>by rw[h.so hy];exact Ap v y.b X y.x.S y.x.SD tx y.tk _ _) (λo o=>Nat.zero_le _) (Nat.zero_le _)
 rw[e1,e2]at C
 intro A s R hA hk hp hR
 exact rP v C A s R hA hk hp λy s' F K ha o=>hR y s' F K ha trivial
end
end LS
noncomputable def jg(a:Int):Int:=1+(a.fdiv 32).fmod 3
noncomputable def r9(st:Bool)(w:World)(Z I D C:Nat):Code:=hE st (rt ((aH (nY w))[5]?)) (eh w Z) [(mO,Z+1),(ic,Z+4)] I D C
structure r6 where
 ht:Nat→Int×Tok
 cv:Value
 T:Nat→Addr
 w:Nat→Tok
noncomputable def Fv(n:Nat)(D:Nat→Addr)(a:Nat→Int×Tok)(y:r6):List (Addr×Obj):=(List.range n).map λk=>(y.T k,aO #[.ref (D k),.int (jg (a (3+k)).1) (y.w k)] 0)
noncomputable def Fw(n:Nat)(y:r6):Array Value:=((List.range n).map λk=>Value.ref (y.T k)).toArray
noncomputable def ir(n:Nat)(Dd:Nat→Addr)(a:Nat→Int×Tok)(I D C:Addr):bS r6:={res:=λj=>.ok .next,upd:=λy=>[(I,ay n 0),(D,ac (Fw n y) n),(C,aB y.ht EN (some y.cv))],add:=Fv n Dd a}
noncomputable def gW(n:Nat)(D:Nat→Addr):Array Value:=((List.range n).map λk=>Value.ref (D k)).toArray
noncomputable def CC(v:WV)(Z I D C DR BL:Nat)(a:Nat→Int×Tok)(Dd:Nat→Addr)(de be:Nat)(ht:Nat→Int×Tok):Cn:=⟨80,[(I,ay 0 2),(D,ac #[] 0),(C,bO ht [] 0),(Z+1,af (.ref DR)),(Z+4,af (.ref BL)),(DR,ac (aa (kl 6 a)) de),(BL,ac (gW 2 Dd) be)],r9 true v.w Z I D C,λzn zu=>.tail {js:=[0,1,2,3,4,5,6],cnt:=(match v.b2 with|true=>0|false=>2),N:=(match v.b2 with|true=>6|false=>16),orc:=(match v.b2 with|true=>([])|false=>(dz 4 2113665))} (r9 false v.w Z I D C) (λE=>[(I,ay 0 2),(D,ac #[] 0),(C,bO ht [] 0),(Z+1,af (.ref DR)),(Z+4,af (.ref BL)),(DR,ac (aa (kl 6 a)) de),(BL,ac (gW 2 Dd) be)])⟩
theorem uK v Z I D C DR BL a Dd de be ht:(CC v Z I D C DR BL a Dd de be ht).G v:=Cn.h1 (f:=λv=>CC v Z I D C DR BL a Dd de be ht) (λj j j j=>by kernel_rfl) v
noncomputable def CE(v:WV)(Z I D C DR BL:Nat)(a:Nat→Int×Tok)(Dd:Nat→Addr)(de be:Nat)(ht:Nat→Int×Tok):Cn:=⟨60,[(I,ay 0 2),(D,ac #[] 0),(C,bO ht [] 0),(Z+1,af (.ref DR)),(Z+4,af (.ref BL)),(DR,ac (aa (kl 6 a)) de),(BL,ac (gW 2 Dd) be)],r9 false v.w Z I D C,λzn zu=>.fin {ws:=[0,2,1],js:=[0,1,2,7,8],i:=4,u:=20,cnt:=28,N:=169,orc:=(dz 68 16779206421251568629704691808971070971131170333800923470070412360134168838018355738144662492551072568441144167295750179102754570203987103989889),ps:=[(3:Int)≠(0:Int),(32:Int)≠(0:Int)∧Builtin.divisionGoesByPylong ((λi=>(λi=>(λi=>(λi=>a (i+(1:Nat))) (i+(1:Nat))) (i+(1:Nat))) (i+(1:Nat))) (0:Nat)).fst (32:Int)=false,(3:Int)≠(0:Int),(32:Int)≠(0:Int)∧Builtin.divisionGoesByPylong ((λi=>(λi=>(λi=>a (i+(1:Nat))) (i+(1:Nat))) (i+(1:Nat))) (0:Nat)).fst (32:Int)=false],wa:=[I,C,D]} (.ok .next) (λE=>[(I,ay 2 0),(D,ac (Fw 2 ⟨ht,.none,λk=>zn+k,λk=>zu+(10*k+9)⟩) 2),(C,aB (aq (E.lk 2)) EN (some (.int (2-1:Nat) (zu+10))))]++Fv 2 Dd a ⟨ht,.none,λk=>zn+k,λk=>zu+(10*k+9)⟩)⟩
theorem uM v Z I D C DR BL a Dd de be ht:(CE v Z I D C DR BL a Dd de be ht).G v:=Cn.g1 (f:=λv=>CE v Z I D C DR BL a Dd de be ht) (λj j j j j=>by kernel_rfl) v
noncomputable def CB(v:WV)(Z I D C DR BL:Nat)(a:Nat→Int×Tok)(Dd:Nat→Addr)(de be:Nat)(ht:Nat→Int×Tok):Cn:=⟨80,[(I,ay 0 3),(D,ac #[] 0),(C,bO ht [] 0),(Z+1,af (.ref DR)),(Z+4,af (.ref BL)),(DR,ac (aa (kl 6 a)) de),(BL,ac (gW 3 Dd) be)],r9 true v.w Z I D C,λzn zu=>.tail {js:=[0,1,2,3,4,5,6],cnt:=(match v.b2 with|true=>0|false=>2),N:=(match v.b2 with|true=>6|false=>16),orc:=(match v.b2 with|true=>([])|false=>(dz 4 2113665))} (r9 false v.w Z I D C) (λE=>[(I,ay 0 3),(D,ac #[] 0),(C,bO ht [] 0),(Z+1,af (.ref DR)),(Z+4,af (.ref BL)),(DR,ac (aa (kl 6 a)) de),(BL,ac (gW 3 Dd) be)])⟩
theorem uJ v Z I D C DR BL a Dd de be ht:(CB v Z I D C DR BL a Dd de be ht).G v:=Cn.h1 (f:=λv=>CB v Z I D C DR BL a Dd de be ht) (λj j j j=>by kernel_rfl) v
noncomputable def CD(v:WV)(Z I D C DR BL:Nat)(a:Nat→Int×Tok)(Dd:Nat→Addr)(de be:Nat)(ht:Nat→Int×Tok):Cn:=⟨60,[(I,ay 0 3),(D,ac #[] 0),(C,bO ht [] 0),(Z+1,af (.ref DR)),(Z+4,af (.ref BL)),(DR,ac (aa (kl 6 a)) de),(BL,ac (gW 3 Dd) be)],r9 false v.w Z I D C,λzn zu=>.fin {ws:=[0,2,1],js:=[0,1,2,7,8,9],i:=5,u:=30,cnt:=41,N:=244,orc:=(dz 99 3855166577850785233454857765166248973481968604882072835975405693191838803216501525062290212745219372667866489842989051730592180110420313967559931601659362771060598696467331995265470685357491842815599732342913),ps:=[(3:Int)≠(0:Int),(32:Int)≠(0:Int)∧Builtin.divisionGoesByPylong ((λi=>(λi=>(λi=>(λi=>(λi=>a (i+(1:Nat))) (i+(1:Nat))) (i+(1:Nat))) (i+(1:Nat))) (i+(1:Nat))) (0:Nat)).fst (32:Int)=false,(3:Int)≠(0:Int),(32:Int)≠(0:Int)∧Builtin.divisionGoesByPylong ((λi=>(λi=>(λi=>(λi=>a (i+(1:Nat))) (i+(1:Nat))) (i+(1:Nat))) (i+(1:Nat))) (0:Nat)).fst (32:Int)=false,(3:Int)≠(0:Int),(32:Int)≠(0:Int)∧Builtin.divisionGoesByPylong ((λi=>(λi=>(λi=>a (i+(1:Nat))) (i+(1:Nat))) (i+(1:Nat))) (0:Nat)).fst (32:Int)=false],wa:=[I,C,D]} (.ok .next) (λE=>[(I,ay 3 0),(D,ac (Fw 3 ⟨ht,.none,λk=>zn+k,λk=>zu+(10*k+9)⟩) 3),(C,aB (aq (E.lk 2)) EN (some (.int (3-1:Nat) (zu+20))))]++Fv 3 Dd a ⟨ht,.none,λk=>zn+k,λk=>zu+(10*k+9)⟩)⟩
theorem uL v Z I D C DR BL a Dd de be ht:(CD v Z I D C DR BL a Dd de be ht).G v:=Cn.g1 (f:=λv=>CD v Z I D C DR BL a Dd de be ht) (λj j j j j=>by kernel_rfl) v
theorem D0(v:WV)(Z I D C DR BL:Nat)(a:Nat→Int×Tok)(Dd:Nat→Addr)(de be:Nat)(ht:Nat→Int×Tok):aS v.w 80 [(I,ay 0 2),(D,ac #[] 0),(C,bO ht [] 0),(Z+1,af (.ref DR)),(Z+4,af (.ref BL)),(DR,ac (aa (kl 6 a)) de),(BL,ac (gW 2 Dd) be)] (r9 true v.w Z I D C) [I,D,C] (ir 2 Dd a I D C):=by
 exact(uK v Z I D C DR BL a Dd de be ht).ct [0,1,2] λA s R hA j j hR=>kT hR hA [0,1,2] λj=>(uM v Z I D C DR BL a Dd de be ht).ct (Pre:=aK) (F:=ir 2 Dd a I D C) (P:=bP) [0,1,2] λA s R j j j hR=>kr hR (hps:=⟨by decide,⟨by decide,PyProof.noPylong_small (by decide)⟩,by decide,⟨by decide,PyProof.noPylong_small (by decide)⟩,trivial⟩) λE=>⟨aq (E.lk 2),_,λk=>s.heap.objs.size+k,λk=>s.toks+(10*k+9)⟩
theorem DZ(v:WV)(Z I D C DR BL:Nat)(a:Nat→Int×Tok)(Dd:Nat→Addr)(de be:Nat)(ht:Nat→Int×Tok):aS v.w 80 [(I,ay 0 3),(D,ac #[] 0),(C,bO ht [] 0),(Z+1,af (.ref DR)),(Z+4,af (.ref BL)),(DR,ac (aa (kl 6 a)) de),(BL,ac (gW 3 Dd) be)] (r9 true v.w Z I D C) [I,D,C] (ir 3 Dd a I D C):=by
 exact(uJ v Z I D C DR BL a Dd de be ht).ct [0,1,2] λA s R hA j j hR=>kT hR hA [0,1,2] λj=>(uL v Z I D C DR BL a Dd de be ht).ct (Pre:=aK) (F:=ir 3 Dd a I D C) (P:=bP) [0,1,2] λA s R j j j hR=>kr hR (hps:=⟨by decide,⟨by decide,PyProof.noPylong_small (by decide)⟩,by decide,⟨by decide,PyProof.noPylong_small (by decide)⟩,by decide,⟨by decide,PyProof.noPylong_small (by decide)⟩,trivial⟩) λE=>⟨aq (E.lk 2),_,λk=>s.heap.objs.size+k,λk=>s.toks+(10*k+9)⟩
noncomputable def yF(v:WV)(b:Bm)(y:lq)(tk:Nat→Tok)(wt:Int)(twt:Tok):VM:=
 {x:={V:=y.V,VD:=y.VD,S:=y.S,SD:=y.SD,htv:=y.ht,es:=ai b.l tk,ep:=oE b,t:=ak b.l (!v.b3),wt:=wt,twt:=twt,P:=Classical.choose (gQ v b y.S y.SD (oE b) tk),sl:=Classical.choose (Classical.choose_spec (gQ v b y.S y.SD (oE b) tk)),L:=b.l.map fun(c:Nat)=>(c:Int)},b:=b,tk:=tk}
noncomputable def f3{α:Type}(a b c:α):Nat→α
 |0=>a
 |1=>b
 |_=>c
noncomputable def vG(v:WV)(x:Nm)(z:Sz)(q:np)(p:uT)(n:Nat)(pm:Nat→Bm)(r:Nat→lq)(t:Nat→Nat→Tok)(a:Nat→Int×Tok)(Dd:Nat→Addr)(bk:r6)(BK:Addr)(tn:Tok):LS:=
 {x:=x,q:=q,z:=z,Pf:=p.Pf,PD:=p.PD,CL:=p.CL,NL:=p.NL,VL:=p.VL,BK:=BK,pht:=p.ht,tc:=p.tc,cle:=p.ep,ve:=n,be:=n,
  vl:=(List.range n).map λk=>yF v (pm k) (r k) (t k) (jg (a (3+k)).1) (bk.w k),
  bl:=(List.range n).map λk=>{T:=bk.T k,AL:=Dd k,xs:=(pm k).xs (t k),ae:=(pm k).l.length,te:=0,w:=jg (a (3+k)).1,tw:=bk.w k},tn:=tn}
noncomputable def LS.knC(v:WV)(l:LS)(b:Bool):List (Addr×Obj):=[(l.Pf,dJ l.PD),(l.PD,dK l.pht l.CL l.NL l.VL),(l.CL,ac (aa (l.z.cl l.tc)) l.cle),(l.VL,ac (bC l.vl) l.ve)]++((match b with|false=>[]|true=>[(l.q.f,dM l.x.ff l.q.t (l.q.d+2)),(l.q.t,aO #[] 0),(l.q.d+2,lm l.q.ht l.x.pn l.x.pk l.q.tk)])++(dj l.vl++cB l.BK l.bl l.be))
noncomputable def iq(x:Nm)(b:Bool):bS np:={res:=λq=>.ok (.ret (.ref q.f)),add:=λq=>match b with|false=>[]|true=>[(q.f,dM x.ff q.t (q.d+2)),(q.t,aO #[] 0),(q.d+2,lm q.ht x.pn x.pk q.tk)]}
theorem Gf(v:WV)(x:Nm){b:Bool}(hb:x.isP=b)(tn:Tok):Ct v.w 120 [] aK (.call (.ref 271) ⟨[.str x.s tn],[]⟩) [] (iq x b) (λq j j=>q.ok x):=by
 subst hb
 intro A s R hA hk _ hR
 cases hx:x.isP with
 |false=>exact Al v x hx tn A s R hA hk trivial λj s' F K j j=>hR ⟨x.f,0,0,λj=>(0,0),0⟩ s' F (by simp only[iq,hx];exact K.nil) (by simp[iq,hx]) λj=>rfl
 |true=>exact Ak v x hx tn A s R hA hk trivial λg s' F K ha j=>hR ⟨g.a,g.t,g.d,g.ht,g.tk⟩ s' F (by simp only[iq,hx];exact K) (by simp only[iq,hx];exact ha) λh=>by rw[hx]at h;cases h
theorem iH(a:Int):0<jg a∧jg a≤3:=by
 unfold jg
 have h1:0≤(a.fdiv 32).fmod 3:=by rw[Int.fmod_eq_emod_of_nonneg _ (by omega)];omega
 have h2:(a.fdiv 32).fmod 3<3:=by rw[Int.fmod_eq_emod_of_nonneg _ (by omega)];omega
 omega
theorem uI(w:World)(b:Bm)(t:Nat→Tok)(led:Bool)(SD:Addr)(ep:Nat):d9 w (ao SD (ai b.l t) ep (ak b.l led)) (ai b.l t) ep (ak b.l led) (b.l.map fun(c:Nat)=>(c:Int)):=by
 have hm:∀e:Int×Value,e∈(ai b.l t).toList↔∃c∈b.l,((c:Int),Value.int c (t c))=e:=λe=>by
  simp[ai]
 have hz:=b.l_le
 have hh:∀c:Nat,c<4→(c:Int)=hashInt (c:Int):=λc h=>by
  match c,h with
  |0,_=>decide+kernel
  |1,_=>decide+kernel
  |2,_=>decide+kernel
  |3,_=>decide+kernel
  |c+4,h=>omega
 refine⟨rfl,fD ..,λe he=>?_,λk=>?_,?_,?_,?_,?_⟩
 ·obtain⟨c,hc,rfl⟩:=(hm e).mp he
  exact⟨⟨(c:Int),(show Value.isInt (c:Int) (.int (c:Int) (t c))=true by simp[Value.isInt]),hh c (b.l_lt c hc)⟩,rfl⟩
 ·rw[List.mem_map]
  constructor
  ·rintro ⟨c,hc,rfl⟩
   exact⟨_,(hm _).mpr ⟨c,hc,rfl⟩,(show Value.isInt (c:Int) (.int (c:Int) (t c))=true by simp[Value.isInt])⟩
  ·rintro ⟨e,he,h⟩
   obtain⟨c,hc,rfl⟩:=(hm e).mp he
   have h:Value.isInt k (.int c (t c))=true:=h
   exact⟨c,hc,by simpa [Value.isInt]using h⟩
 ·rw[eE];show b.l.length<4096;omega
 ·rw[eE];show b.l.length+1<4096;omega
 ·rw[eE,List.length_map]
 ·cases b<;>decide
theorem ty(v:WV)(b:Bm)(y:lq)(tk:Nat→Tok)(wt:Int)(twt:Tok)(m:Nat)(hb:∀c∈b.l,c<m)(hw:0<wt∧wt≤3):(yF v b y tk wt twt).x.ok v m:=by
 have h:=Classical.choose_spec (Classical.choose_spec (gQ v b y.S y.SD (oE b) tk))
 refine⟨h.1,?_,λx hx=>?_,by show-(2 ^ 64)<wt∧wt<2 ^ 64;omega⟩
 ·exact uI v.w b tk (!v.b3) y.SD (oE b)
 ·obtain⟨c,hc,e⟩:=h.2 x hx
  exact⟨c,tk c,e,hb c hc⟩
noncomputable def jp(a b c:Value):Obj:={cls:=.type "slice",dict:=none,data:=.fields #[a,b,c]}
theorem nq(w:World){l sl:Addr}{items:Array Value}{ep:Nat}{a b c:Value}{lo hi st:Option Int}(ha:IsPart a lo)(hb:IsPart b hi)(hc:IsPart c st)(h0:st≠some 0)(hsz:items.size≤sizeLine):
  aS w 20 [(l,ac items ep),(sl,jp a b c)] (.call (.builtin "list.__getitem__") ⟨[.ref l,.ref sl],[]⟩) [] (aD (ac (slicePick items lo hi st) 0)):=by
 intro A s R hA hkn _ hR
 have ho:=hkn.obj (l,ac items ep) (by simp)
 have hos:=hkn.obj (sl,jp a b c) (by simp)
 have hTs:s.TypeIs (.ref sl) "slice":=⟨_,hos,rfl⟩
 refine codeAny_call_builtin slot_list_getitem.plain entry_list_getitem (slot_list_getitem.check _ _ _ _ _ _ _ _ ⟨_,ho,rfl⟩ (args_list_getitem _ _) ?_)
 show wpAny _ _ (Builtin.List.listSubscript? (.ref sl)>>=_) _ _ s
 unfold Builtin.List.listSubscript?
 refine wpAny_bind (wpAny_bind (wpAny_specialOf hTs slice_no_index ?_))
 simp only[Option.isNone_none,if_true]
 refine wpAny_pure ?_
 show wpAny _ _ (typeOf (.ref sl)>>=_) _ _ s
 refine wpAny_bind (wpAny_typeOf hTs ?_)
 rw[if_neg (by decide),listSliceParts_eq]
 refine wpAny_bind (wpAny_bind (wpAny_field hos rfl (x:=c) rfl (wpAny_bind (wpAny_listPart hc ?_))))
 rw[if_neg (by cases st with|none=>decide|some k=>exact λh=>h0 (by have h:=eq_of_beq h;simp only[rawPart,rawInt,Value.int.injEq]at h;rw[h.1]))]
 refine wpAny_bind (wpAny_field hos rfl (x:=a) rfl (wpAny_bind (wpAny_listPart ha ?_)))
 refine wpAny_bind (wpAny_field hos rfl (x:=b) rfl (wpAny_bind (wpAny_listPart hb (wpAny_pure ?_))))
 refine wpAny_bind (m:=Builtin.List.listItems (.ref l)) ?_
 unfold Builtin.List.listItems
 refine wpAny_bind (wpAny_seqItems ho rfl (wpAny_pure ?_))
 refine wpAny_bind (wpAny_of_eq (sliceIndices_raw lo hi st items.size h0) ?_)
 refine wpAny_bind (wpAny_newObj_type ?_ (Nat.le_trans (slicePick_size_le items lo hi st) hsz))
 have n1:=Heap.get?_push_size s.heap (o:=ac (slicePick items lo hi st) 0) rfl
 have Fr:ah s {s with heap:=s.heap.push (ac (slicePick items lo hi st) 0)} []:=⟨λh=>h,rfl,rfl,by rw[Heap.size_push];exact Nat.le_succ _,Nat.le_refl _,λb o e j=>Heap.get?_push_of_some _ e⟩
 refine wpAny_pure (hR s.heap.objs.size _ Fr ⟨λx o e=>Fr.keep x o (hkn.base x o e) (by simp),λp hp=>?_,λp hp=>?_,by simp[aD],hkn.toks⟩ (by simp[aD]) trivial)
 ·rw[show p=(s.heap.objs.size,ac (slicePick items lo hi st) 0)from List.mem_singleton.mp hp]
  exact n1
 ·rw[show p=(s.heap.objs.size,ac (slicePick items lo hi st) 0)from List.mem_singleton.mp hp]
  exact bM hkn (Nat.le_refl _)
noncomputable def EH(t:Tok):Obj:=jp .none .none (.int (-1) t)
theorem DC(w:World){l sl:Addr}{items:Array Value}{ep:Nat}{t:Tok}(hsz:items.size≤sizeLine):
  aS w 20 [(l,ac items ep),(sl,EH t)] (.call (.builtin "list.__getitem__") ⟨[.ref l,.ref sl],[]⟩) [] (aD (ac items.toList.reverse.toArray 0)):=
 krv_pick items▸nq w (l:=l) (sl:=sl) (items:=items) (ep:=ep) .none .none (.int (-1) t) (by decide) hsz
noncomputable def km(M N:Int)(l:LS)(k:L1)(os:List (Int×Tok))(CM:Nat):List (Addr×Obj):=
 [(k.I,aj (.ref k.OR) 0),(k.OR,ac (aa os) k.oe),(k.Z,cP k.ht k.SC M k.tm l.Pf k.va k.vw l.q.f k.OR),(k.Z+2,af (.str l.x.s l.tn)),(k.Z+3,af (.int N k.ts)),(k.Z+5,af (.ref l.BK)),(k.Z+6,af (.ref CM)),(k.Z+7,af .none),(k.Z+8,aY none),(k.Z+9,aY none),(k.Z+10,aY none),(k.Z+12,aY none),(CM,ac (aa []) 0)]
noncomputable def kj(M N:Int)(l:LS)(k:L1)(I RV:Nat)(os:List (Int×Tok))(oe CM:Nat)(cs:List (Int×Tok))(ce:Nat)(o8 o9 o10 o11:Option Value):List (Addr×Obj):=
 [(I,aj (.ref RV) 0),(RV,ac (aa os) oe),(k.Z,cP k.ht k.SC M k.tm l.Pf k.va k.vw l.q.f k.OR),(k.Z+2,af (.str l.x.s l.tn)),(k.Z+3,af (.int N k.ts)),(k.Z+5,af (.ref l.BK)),(k.Z+6,af (.ref CM)),(k.Z+8,aY o8),(k.Z+9,aY o9),(k.Z+10,aY o10),(k.Z+11,aY o11),(CM,ac (aa cs) ce)]
theorem Ct.sub{Y:Type}{w:World}{D:Nat}{kn kn':List (Addr×Obj)}{Pre:Shared→Prop}{c:Code}{W:List Addr}{F:bS Y}{P:Y→Shared→Shared→Prop}(C:Ct w D kn Pre c W F P)(h:kn.Sublist kn'):Ct w D kn' Pre c W F P:=
 λA s R hA hk hp hR=>C A s R hA (hk.sub h) hp hR
noncomputable abbrev ld(o:Obj):Prop:=o.cls≠.type "function"
theorem LS.knC_fn(v:WV)(l:LS)(b:Bool):∀p∈l.knC v b,ld p.2:=by
 have fn:∀{o:Obj} {c:Value},o.cls=c→c≠.type "function"→ld o:=λe h=>by rw[ld,e];exact h
 intro p hp
 unfold LS.knC at hp
 rcases List.mem_append.mp hp with hp|hp
 ·simp only[List.mem_cons,List.not_mem_nil,or_false]at hp
  rcases hp with rfl|rfl|rfl|rfl
  ·exact fn (c:=.ref 477) rfl nofun
  ·exact fn (c:=.type "dict") rfl (by decide)
  ·exact fn (c:=.type "list") rfl (by decide)
  ·exact fn (c:=.type "list") rfl (by decide)
 ·rcases List.mem_append.mp hp with hp|hp
  ·cases b with
   |false=>cases hp
   |true=>
    simp only[List.mem_cons,List.not_mem_nil,or_false]at hp
    rcases hp with rfl|rfl|rfl
    ·exact fn (c:=.type "functools.partial") rfl (by decide)
    ·exact fn (c:=.type "tuple") rfl (by decide)
    ·exact fn (c:=.type "dict") rfl (by decide)
  ·rcases List.mem_append.mp hp with hp|hp
   ·obtain⟨y,_,hp⟩:=List.mem_flatMap.mp hp
    simp only[VR.kn,List.mem_cons,List.not_mem_nil,or_false]at hp
    rcases hp with rfl|rfl|rfl|rfl
    ·exact fn (c:=.ref 514) rfl nofun
    ·exact fn (c:=.type "dict") rfl (by decide)
    ·exact fn (c:=.ref 75) rfl nofun
    ·exact fn (c:=.type "dict") rfl (by decide)
   ·rcases List.mem_cons.mp hp with rfl|hp
    ·exact fn (c:=.type "list") rfl (by decide)
    ·obtain⟨e,_,hp⟩:=List.mem_flatMap.mp hp
     simp only[ef.kn,List.mem_cons,List.not_mem_nil,or_false]at hp
     rcases hp with rfl|rfl
     ·exact fn (c:=.type "tuple") rfl (by decide)
     ·exact fn (c:=.type "list") rfl (by decide)
theorem zM(v:WV)(x:Nm)(hx:x.isP=false):(x.bo v).cls=.type "function":=by
 rw[←v3 v x hx]
theorem LS.full{v:WV}{l:LS}{b:Bool}(hb:l.x.isP=b){s:Shared}{a:List (Addr×Obj)}(K:Kn (KB v.w) s (a++l.knC v b))(hf:l.x.isP=false→Kn (KB v.w) s [(l.q.f,l.x.bo v)])(ha:∀p∈a,ld p.2):Kn (KB v.w) s (a++l.kn v):=by
 have h2:∀p∈a++l.knC v b,ld p.2:=λp hp=>(List.mem_append.mp hp).elim (ha p) (LS.knC_fn v l b p)
 unfold LS.knC at K h2
 unfold LS.kn cH
 rw[hb]
 cases b with
 |true=>exact K
 |false=>
  have hx:=hb
  have K2:=K.app (hf hx) λp hp q hq e=>by
   rw[List.mem_singleton.mp hq]at e
   have o1:=K.obj p hp
   rw[e,(hf hx).obj _ (List.mem_singleton.mpr rfl)]at o1
   exact h2 p hp ((congrArg Obj.cls (Option.some.inj o1)).symm.trans (zM v l.x hx))
  refine K2.perm ?_
  rw[List.append_assoc]
  refine List.Perm.append_left a ?_
  rw[List.append_assoc]
  refine List.Perm.append_left _ ?_
  exact List.perm_append_comm
theorem oY(b:Bm)(t:Nat→Tok):(b.xs t).map (·.1)=b.l.map fun(c:Nat)=>(c:Int):=by
 unfold Bm.xs
 rw[List.map_map]
 rfl
theorem yN(v:WV)(x:Nm)(z:Sz)(q:np)(p:uT)(n:Nat)(pm:Nat→Bm)(r:Nat→lq)(t:Nat→Nat→Tok)(a:Nat→Int×Tok)(Dd:Nat→Addr)(bk:r6)(BK:Addr)(tn:Tok)(hq:q.ok x)(hn:0<n)(hp:∀k<n,∀c∈(pm k).l,c<z.n):
  (vG v x z q p n pm r t a Dd bk BK tn).ok v:=by
 have hv:∀y∈(vG v x z q p n pm r t a Dd bk BK tn).vl,∃k<n,yF v (pm k) (r k) (t k) (jg (a (3+k)).1) (bk.w k)=y:=λy hy=>by
  obtain⟨k,hk,e⟩:=List.mem_map.mp hy
  exact⟨k,List.mem_range.mp hk,e⟩
 refine⟨hq,λy hy=>?_,λy hy=>?_,λy hy=>?_,λy hy=>?_,?_,?_⟩
 ·obtain⟨k,hk,rfl⟩:=hv y hy
  exact ty v _ _ _ _ _ _ (hp k hk) (iH _)
 ·obtain⟨k,hk,rfl⟩:=hv y hy
  exact⟨rfl,rfl,rfl⟩
 ·obtain⟨k,hk,rfl⟩:=hv y hy
  exact hp k hk
 ·obtain⟨k,hk,rfl⟩:=hv y hy
  exact Int.le_of_lt (iH _).1
 ·intro e
  have:=congrArg List.length e
  simp[vG]at this
  omega
 ·unfold LS.bals
  show((List.range n).map _).map gv=((List.range n).map _).map k6
  rw[List.map_map,List.map_map]
  refine List.map_congr_left λk j=>?_
  show((pm k).l.map (fun(c:Nat)=>(c:Int)),jg (a (3+k)).1)=(((pm k).xs (t k)).map (·.1),jg (a (3+k)).1)
  rw[oY]
noncomputable def Ir:VR:={V:=0,VD:=0,S:=0,SD:=0,htv:=λj=>(0,0),es:=#[],ep:=0,t:=ak [] true,wt:=0,twt:=0,P:=[],sl:=λj=>0,L:=[]}
noncomputable def Gl(n:Nat)(pm:Nat→Bm)(a:Nat→Int×Tok):List VM:=(List.range n).map λk=>{x:={Ir with wt:=jg (a (3+k)).1},b:=pm k,tk:=λj=>0}
noncomputable def As(x:Nm)(n:Nat)(pm:Nat→Bm)(a:Nat→Int×Tok):Bool:=fg (iU x.j) LS.cntF (Gl n pm a) true
noncomputable def AQ(x:Nm)(n:Nat)(pm:Nat→Bm)(a:Nat→Int×Tok):Rat:=dy (gY x.j) LS.cntF (Gl n pm a) 0
noncomputable def A2(x:Nm)(z:Sz)(n:Nat)(pm:Nat→Bm)(a:Nat→Int×Tok):Int:=dk x ((List.range z.n).map fun(c:Nat)=>(c:Int)) ((List.range n).map λk=>((pm k).l.map (fun(c:Nat)=>(c:Int)),jg (a (3+k)).1))
noncomputable def gS:List (Addr×Obj)→Prop
 |[]=>True
 |p::l=>ld p.2∧gS l
theorem gS.mem:∀{l:List (Addr×Obj)},gS l→∀p∈l,ld p.2
 |[],_,_,h=>nomatch h
 |_::_,h,q,hq=>by
  rcases List.mem_cons.mp hq with rfl|hq
  ·exact h.1
  ·exact gS.mem h.2 q hq
theorem Bk{o:Obj}(c:String)(e:o.cls=.type c)(h:Value.type c≠.type "function"):ld o:=by rw[ld,e];exact h
theorem vr{x:Value}{g:Nat}:ld (aj x g):=Bk "list_iterator" rfl (by decide)
theorem j8{a:Array Value}{n:Nat}:ld (ac a n):=Bk "list" rfl (by decide)
theorem fb{x:Value}:ld (af x):=Bk "cell" rfl (by decide)
theorem dP{x:Option Value}:ld (aY x):=Bk "cell" rfl (by decide)
theorem vt{ht:Nat→Int×Tok}{n:List (Str×Value)}{e:Nat}:ld (fQ ht n e):=Bk "frame" rfl (by decide)
theorem BQ(M N:Int)(l:LS)(k:L1)(os:List (Int×Tok))(CM:Nat):∀p∈km M N l k os CM,ld p.2:=gS.mem ⟨vr,j8,vt,fb,fb,fb,fb,fb,dP,dP,dP,dP,j8,trivial⟩
theorem BO(M N:Int)(l:LS)(k:L1)(I RV:Nat)(os:List (Int×Tok))(oe CM:Nat)(cs:List (Int×Tok))(ce:Nat)(o8 o9 o10 o11:Option Value):∀p∈kj M N l k I RV os oe CM cs ce o8 o9 o10 o11,ld p.2:=gS.mem ⟨vr,j8,vt,fb,fb,fb,fb,dP,dP,dP,dP,j8,trivial⟩
theorem qc{a:Addr}{x:Array Value}{n:Nat}:∀p∈[(a,ac x n)],ld p.2:=gS.mem ⟨j8,trivial⟩
structure lf (z:Sz) (ys:List (Int×Tok)):Prop where
 len:ys.length=z.n
 el:∀p∈ys,0≤p.1∧p.1<(z.n:Int)
 nd:(ys.map (·.1)).Nodup
 mem:∀c:Nat,c<z.n→(c:Int)∈ys.map (·.1)
theorem lf.of{z:Sz}{ys:List (Int×Tok)}{t:Nat→Tok}(h:ys.Perm (z.cl t)):lf z ys:=
 ⟨by rw[h.length_eq];cases z<;>rfl,λp hp=>cl_ok z t p (h.mem_iff.mp hp),((h.map _).nodup_iff).mpr (jd z t).1,λc hc=>((h.map _).mem_iff).mpr ((jd z t).2 c hc)⟩
theorem tB(v:WV)(x:Nm)(z:Sz)(q:np)(p:uT)(n:Nat)(pm:Nat→Bm)(r:Nat→lq)(t:Nat→Nat→Tok)(a:Nat→Int×Tok)(Dd:Nat→Addr)(bk:r6)(BK:Addr)(tn:Tok){ys:List (Int×Tok)}(h:lf z ys):
  dk x (ys.map (·.1)) (vG v x z q p n pm r t a Dd bk BK tn).bals=A2 x z n pm a:=by
 have e1:(vG v x z q p n pm r t a Dd bk BK tn).bals=(List.range n).map λk=>((pm k).l.map (fun(c:Nat)=>(c:Int)),jg (a (3+k)).1):=by
  show((List.range n).map _).map k6=_
  rw[List.map_map]
  refine List.map_congr_left λk j=>?_
  show(((pm k).xs (t k)).map (·.1),jg (a (3+k)).1)=_
  rw[oY]
 rw[e1]
 refine fI x (λk=>?_) _
 rw[List.mem_map (f:=fun(c:Nat)=>(c:Int))]
 constructor
 ·intro hk
  obtain⟨p,hp,rfl⟩:=List.mem_map.mp hk
  have:=h.el p hp
  exact⟨p.1.toNat,List.mem_range.mpr (by omega),by omega⟩
 ·rintro ⟨c,hc,rfl⟩
  exact h.mem c (List.mem_range.mp hc)
theorem iz(v:WV)(Z:Nat):(eh v.w Z).scope.kind≠.module:=by
 have:(eh v.w Z).scope.kind=.function:=by kernel_rfl
 rw[this]
 exact nofun
theorem rM(v:WV)(nm:Uk)(tn:Tok)(Z:Addr)(oZ:Obj)(hnZ:∀vs,oZ.data≠.fields vs)(eZ:Env)(h2:eZ.frame=some Z∧eZ.scope.kind≠.module)(Q:Around→Prop)(hQ:∀A,Q A→A.frames=some [eZ]):
  Ew v.w 120 [(Z,oZ)] aK (.call (.ref 552) ⟨[.str nm.s tn],[]⟩) [Z] (kG Z oZ) bP Q:=
 λA s R hA hq hk j hR=>Dy v nm tn Z oZ hnZ eZ h2 hA (hQ A hq) hk λsl s' F K=>hR sl s' F (by simpa [kG]using K) (by simp[kG]) trivial
theorem qe(l:LS)(k:L1)(os:List (Int×Tok))(CM:Nat):kq l k os 0 CM [] 0 none none none none none=km l.z.n (cU l.x) l k os CM:=rfl
theorem qd(l:LS)(k:L1)(I RV:Nat)(os:List (Int×Tok))(oe CM:Nat)(cs:List (Int×Tok))(ce:Nat)(o8 o9 o10 o11:Option Value):gB l k I RV os oe 0 CM cs ce o8 o9 o10 o11=kj l.z.n (cU l.x) l k I RV os oe CM cs ce o8 o9 o10 o11:=rfl
theorem Ec{v:WV}{l:LS}(h:l.ok v)(b:Bool){N:Int}(hN:cU l.x=N)(k:L1)(ht:Nat→Int×Tok)(os:List (Int×Tok))(hos:os.length≤4)(hne:0<os.length)(hel:∀p∈os,0≤p.1∧p.1<(l.z.n:Int))(CM:Nat):
  Ct v.w 420 (km l.z.n N l {k with ht:=ht} os CM++l.knC v b) (λs=>∃ht',Kn (KB v.w) s (km l.z.n N l {k with ht:=ht'} os CM++l.kn v)) (oD v.w k.Z k.I) (tS k) (qW k os) bP:=by
 subst hN
 intro A s R hA _ ⟨ht',hk⟩ hR
 have C:=Gh {k with ht:=ht'} h os hos hne hel CM 0 none none none none
 rw[qe]at C
 exact C A s R hA (hk.sub (List.sublist_append_left _ _)) hk hR
theorem Eb{v:WV}{l:LS}(h:l.ok v)(b:Bool){N:Int}(hN:cU l.x=N)(k:L1)(ht:Nat→Int×Tok)(I RV:Nat)(os:List (Int×Tok))(oe:Nat)(hne:0<os.length)(hnd:(os.map (·.1)).Nodup)(CM:Nat)(cs:List (Int×Tok))(ce:Nat)(hl4:cs.length≤4)(hcs:∀p∈cs,0≤p.1∧p.1<(l.z.n:Int))(hset:∀q,q∈cs.map (·.1)↔q∈os.map (·.1))(o8 o9 o10 o11:Option Value):
  Ct v.w 420 (kj l.z.n N l {k with ht:=ht} I RV os oe CM cs ce o8 o9 o10 o11++l.knC v b) (λs=>∃ht',Kn (KB v.w) s (kj l.z.n N l {k with ht:=ht'} I RV os oe CM cs ce o8 o9 o10 o11++l.kn v)) (uE v.w k.Z I) (y9 k I) (qV k I os) bP:=by
 subst hN
 intro A s R hA _ ⟨ht',hk⟩ hR
 have C:=Gg {k with ht:=ht'} h I RV os oe hne hnd CM cs ce hl4 hcs hset o8 o9 o10 o11
 rw[qd]at C
 exact C A s R hA (hk.sub (List.sublist_append_left _ _)) hk hR
theorem m4{ht:Nat→Int×Tok}{SC:Addr}{m:Int}{tm:Tok}{Pf:Addr}{va vw:Value}{f OR:Addr}:∀vs,(cP ht SC m tm Pf va vw f OR).data≠.fields vs:=λvs h=>by
 unfold cP fQ at h
 cases h
theorem qB{ht:Nat→Int×Tok}{SC:Addr}{m:Int}{tm:Tok}{Pf:Addr}{va vw:Value}{f OR:Addr}{sl:Array (Option Value)}:∀vs,(da (cP ht SC m tm Pf va vw f OR) sl).data≠.fields vs:=λvs h=>m4 (ht:=ht) (SC:=SC) (m:=m) (tm:=tm) (Pf:=Pf) (va:=va) (vw:=vw) (f:=f) (OR:=OR) vs h
noncomputable def b1(b:Bool):Nat:=match b with|false=>0|true=>1
noncomputable def eg(x:Str):bS Tok:={res:=λt=>.ok (.ret (.str x t))}
theorem DW(w:World)(nb:Bool)(R sl:Addr)(d:Nat→Int×Tok){k:Int}(hk:k=5+(b1 nb:Nat))(t1 t2:Tok):aS w 20 [(R,ac (aa (kl 6 d)) 6),(sl,jp (.int 3 t1) (.int k t2) .none)] (.call (.builtin "list.__getitem__") ⟨[.ref R,.ref sl],[]⟩) [] (aD (ac (aa (kl (2+b1 nb) λi=>d (3+i))) 0)):=by
 subst hk
 have h:=nq w (l:=R) (sl:=sl) (items:=aa (kl 6 d)) (ep:=6) (.int 3 t1) (.int (5+(b1 nb:Nat)) t2) .none nofun (Nat.le_trans (m:=6) (Nat.le_refl _) (by decide))
 rw[show slicePick (aa (kl 6 d)) (some 3) (some (5+(b1 nb:Nat))) none=aa (kl (2+b1 nb) λi=>d (3+i)) by cases nb<;>kernel_rfl]at h
 exact h
noncomputable def Bh(u:Nat):Array Value:=#[.str Nm.npav.s u,.str Nm.nslav.s (u+1),.str Nm.nadams.s (u+2),.str Nm.ncc.s (u+3),.str Nm.nav.s (u+4),.str Nm.ngeom2.s (u+5),.str Nm.ngeom3.s (u+6),.str Nm.natleast2.s (u+7)]
theorem FZ(w:World)(x:Nm)(T:Addr)(u:Nat){k:Int}(hk:k=Int.ofNat x.j)(t:Tok):aS w 20 [(T,aO (Bh u) 0)] (.call (.builtin "tuple.__getitem__") ⟨[.ref T,.int k t],[]⟩) [] (eg x.s):=by
 subst hk
 intro A s R hA hkn _ hR
 have ho:s.heap.get? T=some (aO (Bh u) 0):=hkn.obj (T,aO (Bh u) 0) (List.mem_cons_self ..)
 refine cA PyProof.Rows.slot_tuple_getitem ⟨_,ho,rfl⟩ PyProof.Rows.entry_tuple_getitem (PyProof.Rows.args_tuple_getitem _ _) (MeetsSeq.tuple_getitem_at T (Bh u) 0 _ t x.j (.str x.s (u+x.j)) ?_ ?_ ?_ ?_) ⟨ho,hR (u+x.j) s (ah.refl s) ⟨hkn.base,by simp[eg],by simp[eg],by simp[eg],hkn.toks⟩ (by simp[eg]) trivial⟩
 ·cases x<;>decide
 ·cases x<;>decide
 ·cases x<;>rfl
 ·cases x<;>rfl
noncomputable def Nm.s4(x:Nm):Str:=match x with|.npav=>Nm.npav.s|.nslav=>Nm.nslav.s|.nadams=>⟨#[97,100,97,109]⟩|.ncc=>Nm.ncc.s|.nav=>Nm.nav.s|.ngeom2|.ngeom3=>⟨#[103,101,111,109]⟩|.natleast2=>⟨#[97,116,108,101]⟩
noncomputable def Nm.geo(x:Nm):Bool:=match x with|.ngeom2|.ngeom3=>true|_=>false
theorem Ga(w:World)(x:Nm)(sl:Addr)(tn t4:Tok):aS w 20 [(sl,jp .none (.int 4 t4) .none)] (.call (.builtin "str.__getitem__") ⟨[.str x.s tn,.ref sl],[]⟩) [] (eg x.s4):=by
 intro A s R hA hk _ hR
 have ho:=hk.obj (sl,jp .none (.int 4 t4) .none) (List.mem_cons_self ..)
 have old:R (.ok (.ret (.str x.s4 tn))) s:=hR tn s (ah.refl s) ⟨hk.base,by simp[eg],by simp[eg],by simp[eg],hk.toks⟩ (by simp[eg]) trivial
 have new:R (.ok (.ret (.str x.s4 s.toks))) {s with toks:=s.toks+1}:=hR s.toks {s with toks:=s.toks+1} ⟨λh=>h,rfl,rfl,Nat.le_refl _,Nat.le_succ _,λb o e j=>e⟩ ⟨hk.base,by simp[eg],by simp[eg],by simp[eg],Nat.lt_of_lt_of_le hk.toks (Nat.le_succ _)⟩ (by simp[eg]) trivial
 refine cA F.slot_str_getitem (typeIs_str s _ _) F.entry_str_getitem (F.args_str_getitem_2 _ _) (meets_str_getitem_slice x.s tn sl none (some (4,t4)) none rfl) ⟨⟨_,ho,rfl,rfl⟩,?_⟩
 cases x<;>first|exact old|exact⟨Nat.le_of_ble_eq_true rfl,new⟩
theorem DG(w:World)(x:Nm)(t u:Tok):aS w 20 [] (.call (.builtin "str.__eq__") ⟨[.str x.s4 t,.str ⟨#[103,101,111,109]⟩ u],[]⟩) [] (aM x.geo):=by
 refine jc λA s R hA hkn hR=>?_
 refine aR F.slot_str_eq (typeIs_str s _ _) F.entry_str_eq (F.args_str_eq_2 _ _) (gives_str_eq x.s4 ⟨#[103,101,111,109]⟩ t u) ?_
 cases x<;>exact hR
inductive Cl|pl|ge|al
noncomputable def Cl.P:Cl→Bool|.pl=>false|_=>true
noncomputable def Cl.g:Cl→Bool|.ge=>true|_=>false
noncomputable def Cl.N:Cl→Int|.ge=>1296|_=>1260
noncomputable def Nm.cl:Nm→Cl|.ngeom2|.ngeom3=>.ge|.natleast2=>.al|_=>.pl
theorem Nm.cl_ok(x:Nm):x.isP=x.cl.P∧x.geo=x.cl.g∧cU x=x.cl.N:=by cases x<;>exact⟨rfl,rfl,rfl⟩
noncomputable def gO(C D E m:Nat):List Nat:=List.replicate 4 C++List.replicate 5 D++(List.replicate m (C::List.replicate 6 D)).flatten++[C,D,D,E]
noncomputable def fO(F:Nat):List Nat:=[3,3,3,3,3,F,0,0,0,F,0,0,0,F,0,0,0,0,F,F+1,0,3,3,0,0]
noncomputable def Cl.p3(c:Cl):Nat:=match c.P with|false=>0|true=>3
section
variable (v:WV) (x:Nm) (kb:Bool) (l:LS) (k:L1) (T:Array Value) (d:Nat) (Lk:List Nat) (M:Int) (c:Cl) (os:List (Int×Tok)) (sc:Int) (r:Rat)
noncomputable def yM(e:FV)(h:Nat)(oc:List Nat)(ps:List Prop)(n u:Nat):Dp:=
 .cut {js:=[d+63,d+h],i:=1,u:=2,K:=1,cnt:=2,N:=23,orc:=oc++[3,d+64,d+64,d+64],ps:=ps,big:=true} (.call (.builtin "list.__getitem__") ⟨[.ref k.OR,.ref n],[]⟩) (λE=>[(k.OR,ac (aa os) k.oe),(n,EH (u+1))]) (λj=>aD (ac (aa os.reverse) 0)) λw n u=>
 .cut {js:=(d+h+2)::(d+h+1)::[2,4,5,7,8,10,11,12,13,d+65]++Lk,ju:=[d+h+2,8,10,11,12,13],i:=1,K:=1,cnt:=2,N:=16,orc:=[d+h+2,d+h+2,d+h+2,d+h+3],big:=true} (uE v.w k.Z n) (λE=>kj M c.N l {k with ht:=aq (E.lk 2)} n w os.reverse 0 e.CM os e.ce e.o8 e.o9 e.o10 none++l.knC v c.P) (λj=>qV k n os.reverse) λg n u=>
 .cut {js:=[2],ju:=[2],u:=1,K:=1,N:=11,orc:=[0,0],big:=true,fr:=some [eh v.w k.Z]} (.call (.ref 552) ⟨[.str Uk.kP.s u],[]⟩) (λE=>[(k.Z,cP (aq (E.lk 2)) k.SC M k.tm l.Pf k.va k.vw l.q.f k.OR)]) (λE=>kG k.Z (cP (aq (E.lk 2)) k.SC M k.tm l.Pf k.va k.vw l.q.f k.OR)) λt n u=>
 .cut {js:=[2],ju:=[2],u:=1,K:=1,N:=12,orc:=[0,0],big:=true,fr:=some [eh v.w k.Z]} (.call (.ref 552) ⟨[.str Uk.kE.s u],[]⟩) (λE=>[(k.Z,da (cP (aq (E.lk 2)) k.SC M k.tm l.Pf k.va k.vw l.q.f k.OR) t)]) (λE=>kG k.Z (da (cP (aq (E.lk 2)) k.SC M k.tm l.Pf k.va k.vw l.q.f k.OR) t)) λj n u=>
 .cut {js:=(d+h+3)::Lk,K:=1,N:=17,orc:=[0,5,3,9,0],big:=true} (.call (.ref 278) ⟨[.str l.x.s l.tn,.ref l.Pf,.ref g.CM],[]⟩) (λE=>(g.CM,ac (aa []) g.ce)::l.knC v c.P) (λj=>aw 0) λj n u=>
 .fin {js:=[1],u:=1,cnt:=2,N:=12,orc:=[0],big:=true} (.ok (.ret (.bool true))) (λE=>[(52,dE T)])
noncomputable def EQ(C n:Nat):Dp:=
 .cut {ws:=[2],js:=(d+64)::(d+63)::[2,4,5,7,8,9,10,11,12,14,d+58]++Lk,ju:=[d+64,8,9,10,11,12,14],i:=1,u:=1,K:=1,cnt:=2,N:=26,orc:=[3,3,3,d+64,d+64,d+64,d+65],wa:=[k.Z],big:=true} (oD v.w k.Z n) (λE=>km M c.N l {k with I:=n,ht:=aq (E.lk 2)} os C++l.knC v c.P) (λo=>qW {k with I:=n} os) λe n u=>
 match kb with
 |false=>
  .cut {js:=(d+65)::Lk,K:=1,N:=16,orc:=[0,5,3,9,0],big:=true} (.call (.ref 278) ⟨[.str l.x.s l.tn,.ref l.Pf,.ref e.CM],[]⟩) (λE=>(e.CM,ac (aa os) e.ce)::l.knC v c.P) (λo=>ar r) λh n u=>
  .cut {js:=[d+66,d+67],K:=1,N:=25,orc:=[6,d+67,0,0,0,0,0,0,0,0,0,0,d+67,0,0,0,0],big:=true} (.call (.ref 178) ⟨[.ref h.a,.int c.N k.ts],[]⟩) (λE=>aJ h.a h.b h.ht r.num h.tn r.den h.td) (λo=>ar (r*(c.N:Rat))) λi n u=>
  .cut {js:=(d+65)::Lk,K:=1,N:=15,orc:=[0,5,8,9,0],big:=true} (.call (.ref 540) ⟨[.str l.x.s l.tn,.ref l.BK,.ref e.CM],[]⟩) (λE=>(e.CM,ac (aa os) e.ce)::l.knC v c.P) (λo=>aw sc) λj n u=>
  .cut {js:=[d+68,d+69],K:=1,N:=14,orc:=[d+69,d+69,0,0,0,0],big:=true} (.call (.ref 206) ⟨[.ref i.a,.int sc j],[]⟩) (λE=>aJ i.a i.b i.ht (r*(c.N:Rat)).num i.tn (r*(c.N:Rat)).den i.td) (λo=>aM true) λo n u=>yM v l k T d Lk M c os e 70 [] [] n u
 |true=>
  .cut {js:=(d+65)::Lk,K:=1,N:=16,orc:=[0,5,3,9,0],big:=true} (.call (.ref 278) ⟨[.str l.x.s l.tn,.ref l.Pf,.ref e.CM],[]⟩) (λE=>(e.CM,ac (aa os) e.ce)::l.knC v c.P) (λo=>aw r.num) λh n u=>
  .cut {js:=(d+65)::Lk,u:=1,K:=1,N:=20,orc:=[6,1,0,5,8,9,0],ps:=[IntMulOk r.num c.N],big:=true} (.call (.ref 540) ⟨[.str l.x.s l.tn,.ref l.BK,.ref e.CM],[]⟩) (λE=>(e.CM,ac (aa os) e.ce)::l.knC v c.P) (λo=>aw sc) λj n u=>yM v l k T d Lk M c os e 66 [1] [r.num*c.N=sc] n u
end
section
variable (v:WV) (z:Sz) (x:Nm) (c:Cl) (nb kb:Bool) (SC:Nat) (pm:Nat→Bm) (sc:(Nat→Int×Tok)→Int) (rF:(Nat→Int×Tok)→Rat) (zn mt tn ts:Nat) (y:xm)
noncomputable def Ek(t:Nat)(Dd:Nat→Addr)(tt:Nat→Nat→Tok)(k:r6)(p:uT)(j:Nat)(ws:List Nat)(wa:List Addr)(i u cnt:Nat)(oc:List Nat)(vs:Array Value)(g0:Array Value)(g1:Addr→Array Value)(g2:Addr→Addr→Array Value)(nx:lq→lq→Nat→Nat→Dp):Dp:=
 .cut {ws:=ws,js:=[21+j,1],ju:=[1],i:=i,u:=u,K:=2,cnt:=cnt,N:=129,orc:=oc++(List.replicate 4 (34+2*t)++(26+t)::List.replicate 3 (34+2*t)++gO (28+t+j) (35+2*t+11*j) (37+2*t+11*j) 2++fO (30+2*t)),wa:=wa,big:=true} (.call (.ref 514) ⟨[.ref (Dd j)],[(dg,.int (jg (y.d (3+j)).1) (k.w j))]⟩) (λE=>[(Dd j,ac (aa ((pm j).xs (tt j))) (pm j).l.length),(52,dE g0)]) (λo=>vY g1 (jg (y.d (3+j)).1) (k.w j) (ai (pm j).l (tt j)) (pm j).l.length (ak (pm j).l (!v.b3))) λq n u=>
 .cut {js:=[29+2*t,30+2*t,31+2*t,32+2*t,37+2*t+11*j,38+2*t+11*j,39+2*t+11*j,1],ju:=[2*t+32,1],K:=2,N:=8,orc:=[0],big:=true} (.call (.ref 390) ⟨[.ref p.Pf,.ref q.V],[]⟩) (λE=>[(p.Pf,dJ p.PD),(p.PD,dK p.ht p.CL p.NL p.VL),(p.CL,ac (aa (z.cl p.tc)) p.ep),(p.VL,ac vs j),(q.V,bT q.VD),(q.VD,bU q.ht q.S (jg (y.d (3+j)).1) (k.w j)),(q.S,ao q.SD (ai (pm j).l (tt j)) (pm j).l.length (ak (pm j).l (!v.b3))),(52,dE (g1 q.K))]) (λo=>v0 p.VL vs j (g2 q.K) (jg (y.d (3+j)).1) (k.w j) (ai (pm j).l (tt j)) (oE (pm j)) (ak (pm j).l (!v.b3))) λr n u=>nx q r n u
noncomputable def ER(t m:Nat)(Dd:Nat→Addr)(tt:Nat→Nat→Tok)(k:r6)(p:uT)(n2 n4:Nat)(rr:Nat→lq)(T:Array Value):Dp:=
 .cut {ws:=[2*t+33],i:=2,K:=1,cnt:=4,N:=33,orc:=List.replicate 4 (34+2*t)++[26+t,34+2*t,34+2*t,58+13*t,0,5,0],wa:=[n4],big:=true} (.call (.ref 271) ⟨[.str x.s tn],[]⟩) (λE=>[]) (λj=>iq x c.P) λq n9 u=>
 .cut {ws:=[2,8,9],i:=5,u:=2,K:=1,cnt:=12,N:=101,orc:=gO (60+13*t+c.p3) (61+13*t+c.p3) (63+13*t+c.p3) 3++[3,3,9,9,10,10,0,4,16,16,16,16,16,3,0],wa:=[zn,zn+6,zn+7],big:=true} (.call (.ref 545) ⟨[.int (y.d 2).1 (y.d 2).2,.int (2+(y.d 0).1.fmod 3) mt],[]⟩) (λE=>[]) (λj=>qT) λo n u=>
 EQ v kb (vG v x z q p m pm rr tt y.d Dd k (n2+2) tn) ⟨zn,n,o.F,SC,λj=>(0,0),mt,.ref (Dd (1+t)),.int (jg (y.d (4+t)).1) (k.w (1+t)),o.fe,ts⟩ T (13*t+c.p3)
  ([29+2*t,30+2*t,31+2*t,32+2*t]++(match c.P with|false=>[]|true=>[58+13*t,59+13*t,60+13*t])++[41+2*t,42+2*t,43+2*t,44+2*t,52+2*t,53+2*t,54+2*t,55+2*t]++(match nb with|false=>[25,27,21,28,22]|true=>[65,66,67,68,26,28,21,29,22,30,23]))
  (2+(y.d 0).1.fmod 3) c o.ys (sc y.d) (rF y.d) n9 n
noncomputable def EV(t m:Nat)(RB:Addr)(Dd:Nat→Addr)(tt:Nat→Nat→Tok)(n2:Nat):Dp:=
 .cut {ws:=[6],js:=[24+t,25+t,26+t,3,6,15,20],ju:=[t+24,t+25,t+26],i:=4,u:=4,K:=1,cnt:=12,N:=68,orc:=[7,7,0,0,0,0,7,21,21,21]++List.replicate 10 (24+t)++[25+t],wa:=[zn+4],big:=true} (r9 true v.w zn (n2+1) (n2+2) (n2+3)) (λE=>[(n2+1,ay 0 m),(n2+2,ac #[] 0),(n2+3,bO (λj=>(0,0)) [] 0),(zn+1,af (.ref y.R)),(zn+4,af (.ref RB)),(y.R,ac (aa (kl 6 y.d)) 6),(RB,ac (gW m Dd) m)]) (λj=>ir m Dd y.d (n2+1) (n2+2) (n2+3)) λk n u=>
 .cut {ws:=[t+26,7],K:=1,N:=23,orc:=[27+t,27+t,27+t,8,8,0,3,0,0],wa:=[n2+3,zn+5],big:=true} (.call (.ref 477) ⟨[.int (2+(y.d 0).1.fmod 3) mt],[]⟩) (λE=>[]) (λj=>qS z) λp n4 u=>
 Ek v z pm y t Dd tt k p 0 [2] [zn] 4 3 13 ([3,3,8,26+t,26+t,26+t,34+2*t]) #[] #[] AU iJ λq0 r0 n u=>
 Ek v z pm y t Dd tt k p 1 [2*t+33,2] [n4,zn] 3 2 11 [] #[.ref r0.V] (iJ q0.K r0.K) (λj=>iJ q0.K r0.K) (λj j=>iJ q0.K r0.K) λj r1 n u=>
 match nb with
 |false=>ER v z x c nb kb SC pm sc rF zn mt tn ts y t m Dd tt k p n2 n4 (f3 r0 r1 r1) (iJ q0.K r0.K)
 |true=>Ek v z pm y t Dd tt k p 2 [2*t+33,2] [n4,zn] 3 2 11 [] #[.ref r0.V,.ref r1.V] (iJ q0.K r0.K) (λj=>iJ q0.K r0.K) (λj j=>iJ q0.K r0.K) λj r2 n u=>ER v z x c nb kb SC pm sc rF zn mt tn ts y t m Dd tt k p n2 n4 (f3 r0 r1 r2) (iJ q0.K r0.K)
noncomputable def GY(u1 n1:Nat):Dp:=
 .cut {ws:=[3,2],js:=[16],i:=1,u:=17,K:=1,cnt:=6,N:=70,orc:=[4,4,4,16,16,16,16,16,1,3,3,4,16,16,16,16,16,1,17,17,17],ps:=[(8:Int)≠0,(3:Int)≠0],wa:=[zn+1,zn],big:=true} (.call (.builtin "tuple.__getitem__") ⟨[.ref n1,.int ((y.d 1).1.fmod 8) (u1+16)],[]⟩) (λE=>[(n1,aO (Bh (u1+6)) 0)]) (λj=>eg x.s) λtn n2 u2=>
 .cut {ws:=[4],js:=[17],i:=1,u:=1,K:=1,cnt:=1,N:=18,orc:=[5,5,5],wa:=[zn+2],big:=true} (.call (.builtin "str.__getitem__") ⟨[.str x.s tn,.ref n2],[]⟩) (λE=>[(n2,jp .none (.int 4 u2) .none)]) (λj=>eg x.s4) λt4 n3 u3=>
 .cut {u:=1,K:=1,N:=8,big:=true} (.call (.builtin "str.__eq__") ⟨[.str x.s4 t4,.str ⟨#[103,101,111,109]⟩ u3],[]⟩) (λE=>[]) (λj=>aM c.g) λj n4 u4=>
 .cut {ws:=[5],js:=[15,18],i:=1,u:=9,K:=1,cnt:=4,N:=46,orc:=[6,6,0,4,4,16,16,16,16,16,1,1,16,16,16],ps:=[(2:Int)≠0,(3:Int)≠0∧Builtin.divisionGoesByPylong (y.d 0).1 3=false],wa:=[zn+3],big:=true} (.call (.builtin "list.__getitem__") ⟨[.ref y.R,.ref n4],[]⟩) (λE=>[(y.R,ac (aa (kl 6 y.d)) 6),(n4,jp (.int 3 (u4+1)) (.int (5+((y.d 0).1.fdiv 3).fmod 2) (u4+8)) .none)]) (λj=>aD (ac (aa (kl (2+b1 nb) λi=>y.d (3+i))) 0)) λdl n5 u5=>
 let g:Sg:={js:=[19],K:=1,N:=10,orc:=[3,0],big:=true}
 let c1:Code:=.call (.ref 528) ⟨[.ref dl,.int (2+(y.d 0).1.fmod 3) (u1+4)],[]⟩
 let k1:List (Addr×Obj):=[(dl,ac (aa (kl (2+b1 nb) λi=>y.d (3+i))) 0)]
 match nb with
 |false=>.cut g c1 (λE=>k1) (λj=>lZ (pm 0) (pm 1)) λb n j=>EV v z x c nb kb SC pm sc rF zn (u1+4) tn u4 y 0 2 b.R (f3 b.D1 b.D2 b.D2) (f3 b.t1 b.t2 b.t2) n
 |true=>.cut g c1 (λE=>k1) (λj=>lY (pm 0) (pm 1) (pm 2)) λb n j=>EV v z x c nb kb SC pm sc rF zn (u1+4) tn u4 y 1 3 b.R (f3 b.D1 b.D2 b.D3) (f3 b.t1 b.t2 b.t3) n
noncomputable def Bx(xs:List (Int×Tok))(se:Nat):Cn:=⟨480,[(SC,ac (aa xs) se),(52,dE #[])],.call (.ref 557) ⟨[.ref SC],[]⟩,λzn zu=>.cut {js:=[0],i:=13,u:=2,K:=1,cnt:=1,N:=34,orc:=(dz 8 13194145873920),big:=true} (.call (.ref 523) ⟨[.ref SC,.int 6 (zu+1)],[]⟩) (λE=>[(SC,ac (aa xs) se)]) (λj=>qY) λy n u=>GY v z x c nb kb SC pm sc rF zn y u n⟩
end
theorem yS v z x c SC pm sc rF xs se:(Bx v z x c false false SC pm sc rF xs se).GB 76 v:=by
 obtain⟨w0,b1,b2,b3⟩:=v;refine⟨rfl,λzn zu=>?_⟩;cases b1<;>cases c<;>kernel_rfl
theorem yR v z x c SC pm sc rF xs se:(Bx v z x c false true SC pm sc rF xs se).GB 76 v:=by
 obtain⟨w0,b1,b2,b3⟩:=v;refine⟨rfl,λzn zu=>?_⟩;cases b1<;>cases c<;>kernel_rfl
theorem yP v z x c SC pm sc rF xs se:(Bx v z x c true false SC pm sc rF xs se).GB 76 v:=by
 obtain⟨w0,b1,b2,b3⟩:=v;refine⟨rfl,λzn zu=>?_⟩;cases b1<;>cases c<;>kernel_rfl
theorem yO v z x c SC pm sc rF xs se:(Bx v z x c true true SC pm sc rF xs se).GB 76 v:=by
 obtain⟨w0,b1,b2,b3⟩:=v;refine⟨rfl,λzn zu=>?_⟩;cases b1<;>cases c<;>kernel_rfl
theorem yQ v z x c nb kb SC pm sc rF xs se:(Bx v z x c nb kb SC pm sc rF xs se).GB 76 v:=by
 cases nb<;>cases kb
 ·exact yS ..
 ·exact yR ..
 ·exact yP ..
 ·exact yO ..
theorem Aa(w:World){F sl:Addr}{os:List (Int×Tok)}{fe:Nat}{t:Tok}(ol:os.length≤4):aS w 20 [(F,ac (aa os) fe),(sl,EH t)] (.call (.builtin "list.__getitem__") ⟨[.ref F,.ref sl],[]⟩) [] (aD (ac (aa os.reverse) 0)):=by
 have h:=DC w (l:=F) (sl:=sl) (items:=aa os) (ep:=fe) (t:=t) (Nat.le_trans (m:=4) (by simpa [aa]using ol) (by decide))
 rw[show(aa os).toList.reverse.toArray=aa os.reverse by simp[aa]]at h
 exact h
section
variable {v:WV} {l:LS} (h:l.ok v) {k:L1} {T:Array Value} {d:Nat} {Lk:List Nat} {c:Cl} (hP:l.x.isP=c.P) (hN:cU l.x=c.N) {os:List (Int×Tok)} {A:Around} {R:Result→Shared→Prop} {s0:Shared} (hfr:A.frames=some []) (io:lf l.z os)
 (hf:∀s1,ah s0 s1 [52]→l.x.isP=false→Kn (KB v.w) s1 [(l.q.f,l.x.bo v)]) (H:∀s',ah s0 s' [52]→Kn (KB v.w) s' [(52,dE T)]→R (.ok (.ret (.bool true))) s')
include h hP hN hfr io hf H
theorem mP{e:FV}{j:Nat}{oc:List Nat}{ps:List Prop}(hps:cT ps){s:Shared}{n u:Nat}:(yM v l k T d Lk l.z.n c os e j oc ps n u).ok2 v.w 480 A R s0 [52] [1] 2 s:=by
 have ol:os.length≤4:=io.len▸(by cases l.z<;>decide)
 have o0:0<os.length:=by rw[io.len];cases l.z<;>decide
 refine kc (hps:=hps) (λo=>Aa v.w ol) λw s1 s2 o=>?_
 refine dF (λE=>Eb h c.P hN k (aq (E.lk 2)) _ w os.reverse 0 (by rw[List.length_reverse];exact o0) (by rw[List.map_reverse];exact((List.reverse_perm _).nodup_iff).mpr io.nd) e.CM os e.ce ol io.el (λq=>by rw[List.map_reverse,List.mem_reverse]) e.o8 e.o9 e.o10 none)
  (λE s3 F K=>⟨aq (E.lk 2),LS.full hP K (hf s3 F) (BO _ _ _ _ _ _ _ _ _ _ _ _ _ _ _)⟩) λg s3 s4 o=>?_
 refine kX (λo=>rM v .kP _ k.Z _ m4 (eh v.w k.Z) ⟨rfl,iz v _⟩ _ λA' hq=>hq _ _ rfl hfr) (λo o o o o o o o=>trivial) λo t s5 s6 o o o o o o o o o o=>?_
 refine kX (λo=>rM v .kE _ k.Z _ qB (eh v.w k.Z) ⟨rfl,iz v _⟩ _ λA' hq=>hq _ _ rfl hfr) (λo o o o o o o o=>trivial) λo t s7 s8 o o o o o o o o o o=>?_
 refine dF (λo=>(h.C_th0 g.CM g.ce).sub (.cons_cons _ (List.nil_sublist _))) (λo s9 F K=>LS.full hP K (hf s9 F) qc) λo s9 s10 o=>?_
 exact kf λo s' F K o=>H s' F K
theorem yL{kb:Bool}{sc:Int}{r:Rat}{t0:Nat→Tok}(ho:os.Perm (l.z.cl t0))(hkd:l.kdF=kb)(hr:l.thF=r)(hsc:dk l.x (os.map (·.1)) l.bals=sc){s:Shared}{C n:Nat}:(EQ v kb l k T d Lk l.z.n c os sc r C n).ok2 v.w 480 A R s0 [52] [1] 2 s:=by
 have ol:os.length≤4:=io.len▸(by cases l.z<;>decide)
 have o0:0<os.length:=by rw[io.len];cases l.z<;>decide
 have hb:=cf l.x
 rw[hN]at hb
 refine dF (λE=>Ec h c.P hN {k with I:=n} (aq (E.lk 2)) os ol o0 io.el C) (λE s3 F K=>⟨aq (E.lk 2),LS.full hP K (hf s3 F) (BQ _ _ _ _ _ _)⟩) λe s3 s4 j=>?_
 have eth:l.thF*(c.N:Rat)=((sc:Int):Rat):=hN▸hsc▸h.thF_N io.mem
 have Cth:=h.C_thF e.CM os e.ce ho
 have Csc:Ct v.w 200 [(e.CM,ac (aa os) e.ce)] (λs=>Kn (KB v.w) s ((e.CM,ac (aa os) e.ce)::l.kn v)) (.call (.ref 540) ⟨[.str l.x.s l.tn,.ref l.BK,.ref e.CM],[]⟩) [] (aw sc) bP:=hsc▸h.C_sc e.CM os e.ce
 subst hr
 rw[hkd]at Cth
 cases kb with
 |false=>
  have hden:((l.thF).den:Int)<2 ^ 14:=Int.lt_of_le_of_lt (Dv.den hb.1 ⟨_,eth⟩) hb.2
  refine dF (λj=>(Ae v Cth).sub (.cons_cons _ (List.nil_sublist _))) (λj s5 F K=>LS.full hP K (hf s5 F) qc) λj s5 s6 j=>?_
  refine kc (λj=>rJ v hden c.N _ ⟨by omega,by omega⟩) λj s7 s8 j=>?_
  refine dF (λj=>Csc.sub (.cons_cons _ (List.nil_sublist _))) (λj s5 F K=>LS.full hP K (hf s5 F) qc) λj s9 s10 j=>?_
  refine kc (λj=>rV v _ _ _ _ _ _ _ _ _ (by rw[eth];exact(decide_eq_true ⟨rfl,rfl⟩).symm)) λj s11 s12 j=>?_
  exact mP h hP hN hfr io hf H (ps:=[]) trivial
 |true=>
  refine dF (λj=>(rP v Cth).sub (.cons_cons _ (List.nil_sublist _))) (λj s5 F K=>LS.full hP K (hf s5 F) qc) λj s5 s6 hr=>?_
  refine dF (hps:=⟨az (by omega) (by omega),trivial⟩) (λj=>Csc.sub (.cons_cons _ (List.nil_sublist _))) (λj s5 F K=>LS.full hP K (hf s5 F) qc) λj s9 s10 j=>?_
  refine mP h hP hN hfr io hf H (ps:=[_]) ⟨?_,trivial⟩
  have e:=eth
  rw[show l.thF=(l.thF.num:Rat)from hr,←Rat.intCast_mul]at e
  exact Rat.intCast_inj.mp e
end
theorem Ac(v:WV)(z:Sz){M:Int}(h:M=z.n)(N:Int)(tN tm:Tok):Ct v.w 150 [] aK (.call (.ref 545) ⟨[.int N tN,.int M tm],[]⟩) [] qT (λy j j=>∃t,y.ys.Perm (z.cl t)):=h▸DF v z N tN tm
theorem Ab(v:WV)(z:Sz){M:Int}(h:M=z.n)(tm:Tok):aS v.w 120 [] (.call (.ref 477) ⟨[.int M tm],[]⟩) [] (qS z):=h▸DD v z tm
section
variable {v:WV} {z:Sz} {x:Nm} {c:Cl} {nb kb:Bool} {SC:Nat} {pm:Nat→Bm} {zn mt tn ts:Nat} {y:xm} {A:Around} {R:Result→Shared→Prop} {s0:Shared} (hfr:A.frames=some []) (hP:x.isP=c.P) (hN:cU x=c.N) (hz:2+(y.d 0).1.fmod 3=(z.n:Int))
 (hf:∀s1,ah s0 s1 [52]→x.isP=false→Kn (KB v.w) s1 [(x.f,x.bo v)]) (H:∀s',ah s0 s' [52]→(∃X,s'.heap.get? 52=some (dE X))→R (.ok (.ret (.bool true))) s')
include hfr hP hN hz hf H
theorem pZ{t m:Nat}{Dd:Nat→Addr}{tt:Nat→Nat→Tok}{k:r6}{p:uT}{n2 n4:Nat}{rr:Nat→lq}{T:Array Value}(m0:0<m)(hp:∀k<m,∀c∈(pm k).l,c<z.n)(hkd:As x m pm y.d=kb)(hm:∀q p BK tn,(vG v x z q p m pm rr tt y.d Dd k BK tn).kdF=As x m pm y.d∧(vG v x z q p m pm rr tt y.d Dd k BK tn).thF=AQ x m pm y.d){s:Shared}:
  (ER v z x c nb kb SC pm (A2 x z m pm) (AQ x m pm) zn mt tn ts y t m Dd tt k p n2 n4 rr T).ok2 v.w 480 A R s0 [52] [1] 2 s:=by
 refine kc (λj=>Gf v x hP _) fun(q:np) s1 s2 hq=>?_
 refine kc (λj=>Ac v z hz _ _ _) fun(o:Id) s3 s4 ho=>?_
 obtain⟨_,ho⟩:=ho
 have io:=lf.of ho
 have hok:=yN v x z q p m pm rr tt y.d Dd k (n2+2) tn hq m0 hp
 show(EQ _ _ _ _ _ _ _ (2+(y.d 0).1.fmod 3) _ _ _ _ _ _).ok2 _ _ _ _ _ _ _ _ _
 rw[hz]
 exact yL hok hP hN hfr io (λs1 F e=>by show Kn _ s1 [(q.f,x.bo v)];rw[hq e];exact hf s1 F e) (λs' F K=>H s' F ⟨_,K.obj _ (List.mem_cons_self ..)⟩) ho ((hm ..).1.trans hkd) (hm ..).2 (tB v x z q p m pm rr tt y.d Dd k (n2+2) tn io)
omit hfr hP hN hz hf H in
theorem lQ{t:Nat}{Dd:Nat→Addr}{tt:Nat→Nat→Tok}{k:r6}{p:uT}{j:Nat}{ws:List Nat}{wa:List Addr}{i u cnt:Nat}{oc:List Nat}{vs g0:Array Value}{g1:Addr→Array Value}{g2:Addr→Addr→Array Value}{nx:lq→lq→Nat→Nat→Dp}
  (hb:∀c∈(pm j).l,(c:Int)<(z.n:Int)) (hvs:vs.size<4) (hws:ws.all (fit [1] 2)=true)
  (CL:∀AL ae,aS v.w 250 [(AL,ac (aa ((pm j).xs (tt j))) ae),(52,dE g0)] (.call (.ref 75) ⟨[.ref AL],[(ax,.none)]⟩) [52] (eA g1 (ai (pm j).l (tt j)) (pm j).l.length (ak (pm j).l (!v.b3))))
  (CS:∀K S SD ep n tn,(∀c∈(pm j).l,(c:Int)<n)→aS v.w 250 [(S,ao SD (ai (pm j).l (tt j)) ep (ak (pm j).l (!v.b3))),(52,dE (g1 K))] (.call (.ref 75) ⟨[.ref S],[(ax,.int n tn)]⟩) [52] (eA (g2 K) (ai (pm j).l (tt j)) (oE (pm j)) (ak (pm j).l (!v.b3))))
  (hn:∀q r (s:Shared),(nx q r s.heap.objs.size s.toks).ok2 v.w 480 A R s0 [52] [1] 2 s) {s:Shared}:(Ek v z pm y t Dd tt k p j ws wa i u cnt oc vs g0 g1 g2 nx).ok2 v.w 480 A R s0 [52] [1] 2 s:=by
 have zc:((aa (z.cl p.tc)).size:Int)=(z.n:Int):=by cases z<;>rfl
 have z4:z.n≤4:=by cases z<;>decide
 refine kc (hc:=?_) (λo=>Dx v (iH _).1 (CL _ _)) fun(q:lq) s1 s2 _=>?_
 rotate_left
 ·show(true&&Nat.ble (2+300) 480&&((ws++[1])++[]).all (fit [1] 2))=true
  rw[List.append_nil,List.all_append,hws]
  rfl
 refine kc (λo=>Dw v (iH _).1 zc (by omega) (Nat.le_trans (Nat.le_of_lt hvs) (by decide)) λo=>CS q.K _ _ _ _ _ hb) fun(r:lq) s3 s4 _=>hn q r s4
omit hP hN hz hf H hfr in
theorem DY(v:WV)(m:Nat)(hm:m=2∨m=3)(Z I D C DR BL:Nat)(a:Nat→Int×Tok)(Dd:Nat→Addr)(de be:Nat)(ht:Nat→Int×Tok):aS v.w 80 [(I,ay 0 m),(D,ac #[] 0),(C,bO ht [] 0),(Z+1,af (.ref DR)),(Z+4,af (.ref BL)),(DR,ac (aa (kl 6 a)) de),(BL,ac (gW m Dd) be)] (r9 true v.w Z I D C) [I,D,C] (ir m Dd a I D C):=by
 rcases hm with rfl|rfl
 ·exact D0 v Z I D C DR BL a Dd de be ht
 ·exact DZ v Z I D C DR BL a Dd de be ht
theorem p6{m:Nat}{RB:Addr}{Dd:Nat→Addr}{tt:Nat→Nat→Tok}{n2:Nat}(hm:m=2+b1 nb)(hp:∀k<m,∀c∈(pm k).l,c<z.n)(hkd:As x m pm y.d=kb){s:Shared}:
  (EV v z x c nb kb SC pm (A2 x z m pm) (AQ x m pm) zn mt tn ts y (b1 nb) m RB Dd tt n2).ok2 v.w 480 A R s0 [52] [1] 2 s:=by
 have m2:2≤m:=by omega
 have hl:∀k<m,∀c∈(pm k).l,(c:Int)<(z.n:Int):=λk hk c hc=>Int.ofNat_lt.mpr (hp k hk c hc)
 refine kc (λj=>DY v m (by cases nb<;>simp[hm,b1]) zn _ _ _ _ _ _ _ _ _ _) fun(k:r6) s1 s2 _=>?_
 refine kc (λj=>Ab v z hz _) fun(p:uT) s3 s4 _=>?_
 refine lQ (hl 0 (by omega)) (by decide) rfl (λj j=>Ao v (pm 0) _ _ _) (λj j j j j u h=>An v (pm 0) _ _ _ _ _ u _ h) λq0 r0 s5=>?_
 refine lQ (hl 1 (by omega)) (by simp) rfl (λj j=>rX v (pm 1) _ _ _ _ _) (λj j j j j u h=>rW v (pm 1) _ _ _ _ _ u _ _ h) λq1 r1 s6=>?_
 cases nb with
 |false=>subst hm;exact pZ hfr hP hN hz hf H (by decide) hp hkd λj j j j=>⟨rfl,rfl⟩
 |true=>
  subst hm
  exact lQ (hl 2 (by decide)) (by simp) rfl (λj j=>rX v (pm 2) _ _ _ _ _) (λj j j j j u h=>rW v (pm 2) _ _ _ _ _ u _ _ h) λq2 r2 s7=>pZ hfr hP hN hz hf H (by decide) hp hkd λj j j j=>⟨rfl,rfl⟩
end
theorem Dp.runC{w:World}{D:Nat}{A:Around}{R:Result→Shared→Prop}(hA:cp A D){c:Code}{kn:List (Addr×Obj)}{s:Shared}(k:Kn (KB w) s kn){g:Sg}{c1:Code}{kn1:aU→List (Addr×Obj)}{Y:Type}{F:aU→bS Y}{next:Y→Nat→Nat→Dp}(y0:Y)(wi:List Nat)
  (hs:∀y:Y,∃nx:Y→Nat→Nat→Dp,nx y=next y∧tL w D (.cut g c1 kn1 F nx) c s.heap.objs.size s.toks kn=tR w D (.cut g c1 kn1 F nx) c s.heap.objs.size s.toks kn)
  (H:(Dp.cut g c1 kn1 F next).ok2 w D A R s (eV (kn.map (·.1)) wi) wi kn.length s):codeAny (model pr w) A c R s:=by
 have hh:∀y:Y,∃nx:Y→Nat→Nat→Dp,nx y=next y∧cY kn 0 .nil .nil=true∧(Dp.cut g c1 kn1 F nx).holds w D (eU.kn kn) (Fa (PW w D) g.N g.orc g.cnt c s.heap.objs.size s.toks kn) s.heap.objs.size s.toks:=λy=>by
  obtain⟨nx,e,h⟩:=hs y
  exact⟨nx,e,congrArg Prod.fst h,Dp.holds_of _ _ _ _ _ (congrArg Prod.snd h)⟩
 obtain⟨nx0,_,ok,h0⟩:=hh y0
 refine Dp.start2H hA k (.cut g c1 kn1 F next) wi ok ⟨h0.1,h0.2.1,h0.2.2.1,λx n1 t1=>?_⟩ H
 obtain⟨nx,e,_,h1⟩:=hh x
 have h2:=h1.2.2.2 x n1 t1
 rw[e]at h2
 exact h2
structure Dr where
 z:Sz
 x:Nm
 pm:Nat→Bm
 n3:Bool
 kb:Bool
noncomputable def Dr.n(i:Dr):Nat:=2+b1 i.n3
noncomputable def Gd(v:WV)(y:xm)(i:Dr):Prop:=
 2+(y.d 0).1.fmod 3=(i.z.n:Int)∧(y.d 1).1.fmod 8=Int.ofNat i.x.j∧((y.d 0).1.fdiv 3).fmod 2=Int.ofNat (b1 i.n3)∧(∀k<i.n,∀c∈(i.pm k).l,c<i.z.n)∧As i.x i.n i.pm y.d=i.kb∧match i.n3 with
  |false=>∀DL de tm,aS v.w 150 [(DL,ac (aa (kl 2 λi=>y.d (3+i))) de)] (.call (.ref 528) ⟨[.ref DL,.int (2+(y.d 0).1.fmod 3) tm],[]⟩) [] (lZ (i.pm 0) (i.pm 1))
  |true=>∀DL de tm,aS v.w 150 [(DL,ac (aa (kl 3 λi=>y.d (3+i))) de)] (.call (.ref 528) ⟨[.ref DL,.int (2+(y.d 0).1.fmod 3) tm],[]⟩) [] (lY (i.pm 0) (i.pm 1) (i.pm 2))
theorem eN(a:Int)(m:Nat)(hm:0<m):∃r:Nat,r<m∧a.fmod m=Int.ofNat r:=by
 have e:a.fmod m=a % m:=Int.fmod_eq_emod_of_nonneg _ (by omega)
 have h1:=Int.emod_nonneg a (show(m:Int)≠0 by omega)
 have h2:=Int.emod_lt_of_pos a (show(0:Int)<m by omega)
 exact⟨(a % m).toNat,by omega,by rw[e];show _=((a % m).toNat:Int);omega⟩
theorem IJ{P:Nat→Prop}(h0:P 0)(h1:P 1):∀k<2,P k
 |0,_=>h0
 |1,_=>h1
theorem II{P:Nat→Prop}(h0:P 0)(h1:P 1)(h2:P 2):∀k<3,P k
 |0,_=>h0
 |1,_=>h1
 |2,_=>h2
noncomputable def ly(r:Nat):Sz:=[.s2,.s3,.s4].getD r .s2
noncomputable def nK(j:Nat):Nm:=[.npav,.nslav,.nadams,.ncc,.nav,.ngeom2,.ngeom3,.natleast2].getD j .npav
theorem vQ(v:WV)(y:xm):∃i,Gd v y i:=by
 obtain⟨r,hr,er⟩:=eN (y.d 0).1 3 (by decide)
 obtain⟨j,hj,ej⟩:=eN (y.d 1).1 8 (by decide)
 obtain⟨b,hb,eb⟩:=eN ((y.d 0).1.fdiv 3) 2 (by decide)
 have hz:2+r=(ly r).n:=(by decide:∀r<3,2+r=(ly r).n) r hr
 have hx:j=(nK j).j:=(by decide:∀j<8,j=(nK j).j) j hj
 have hb:b=b1 (Nat.beq b 1):=(by decide:∀b<2,b=b1 (Nat.beq b 1)) b hb
 rw[hb]at eb
 rw[hx]at ej
 have h1:2+(y.d 0).1.fmod 3=((ly r).n:Int):=by
  rw[show(y.d 0).1.fmod 3=Int.ofNat r from er,←hz]
  exact(Int.natCast_add 2 r).symm
 cases hq:Nat.beq b 1 with
 |false=>
  rw[hq]at eb
  obtain⟨p1,p2,c1,c2,C⟩:=D6 v (ly r) λi=>y.d (3+i)
  exact⟨⟨ly r,nK j,f3 p1 p2 p2,false,As (nK j) 2 (f3 p1 p2 p2) y.d⟩,h1,ej,eb,IJ c1 c2,rfl,h1▸C⟩
 |true=>
  rw[hq]at eb
  obtain⟨p1,p2,p3,c1,c2,c3,C⟩:=D5 v (ly r) λi=>y.d (3+i)
  exact⟨⟨ly r,nK j,f3 p1 p2 p3,true,As (nK j) 3 (f3 p1 p2 p3) y.d⟩,h1,ej,eb,II c1 c2 c3,rfl,h1▸C⟩
theorem p8(v:WV)(SC:Nat)(xs:List (Int×Tok))(se:Nat)(hlen:xs.length≤63){A:Around}(hA:cp A 480)(hfr:A.frames=some []){s:Shared}{R:Result→Shared→Prop}
  (hk:Kn (KB v.w) s [(SC,ac (aa xs) se),(52,dE #[])]) (h5:∀x:Nm,x.isP=false→Kn (KB v.w) s [(x.f,x.bo v)]) (H:∀s',ah s s' [52]→(∃X,s'.heap.get? 52=some (dE X))→R (.ok (.ret (.bool true))) s'):
  codeAny (model pr v.w) A (.call (.ref 557) ⟨[.ref SC],[]⟩) R s:=by
 obtain⟨zz,ez⟩:=Kn.big 76 (by decide) hk
 let ch:xm→Dr:=λy=>Classical.choose (vQ v y)
 let nx:Dr→xm→Nat→Nat→Dp:=λi y n u=>GY v i.z i.x i.x.cl i.n3 i.kb SC i.pm (A2 i.x i.z i.n i.pm) (AQ i.x i.n i.pm) s.heap.objs.size y u n
 refine Dp.runC hA hk (g:={js:=[0],i:=13,u:=2,K:=1,cnt:=1,N:=34,orc:=(dz 8 13194145873920),big:=true}) (c1:=.call (.ref 523) ⟨[.ref SC,.int 6 (s.toks+1)],[]⟩) (kn1:=λE=>[(SC,ac (aa xs) se)]) (F:=λj=>qY) (next:=λy=>nx (ch y) y) ⟨0,λj=>(0,0)⟩ [1] (λy=>⟨nx (ch y),rfl,?_⟩) ?_
 ·generalize ch y=i
  obtain⟨z,x,pm,n3,kb⟩:=i
  have h:=(yQ v z x x.cl n3 kb SC pm (A2 x z (2+b1 n3) pm) (AQ x (2+b1 n3) pm) xs se).2 zz s.toks
  rw[←ez]at h
  exact h
 ·refine kc (λj=>uZ v SC xs se _ hlen) fun(y:xm) s1 s2 hy=>?_
  have hg:Gd v y (ch y):=Classical.choose_spec (vQ v y)
  show(nx (ch y) y s2.heap.objs.size s2.toks).ok2 v.w 480 A R s [52] [1] 2 s2
  generalize ch y=i at hg
  obtain⟨z,x,pm,n3,kb⟩:=i
  obtain⟨g1,g2,g3,g4,g5,g6⟩:=hg
  have k52:Kn (KB v.w) s [(52,dE #[])]:=hk.pk [1] rfl
  have hf:∀s1,ah s s1 [52]→x.isP=false→Kn (KB v.w) s1 [(x.f,x.bo v)]:=λs1 G e=>(h5 x e).after G (λa ha=>by rw[List.mem_singleton.mp ha];exact k52.offA (by simp)) λp hp h=>by
   rw[List.mem_singleton.mp hp]at h
   have:x.f=52:=List.mem_singleton.mp h
   cases x<;>first|exact absurd this (by decide)|exact absurd e (by decide)
  obtain⟨hP,hg,hN⟩:=x.cl_ok
  refine kc (hps:=⟨by decide,by decide,trivial⟩) (λj=>FZ v.w x _ _ g2 _) λtn s3 s4 j=>?_
  refine kc (λj=>Ga v.w x _ _ _) λt4 s5 s6 j=>?_
  refine kc (λj=>hg▸DG v.w x _ _) λj s7 s8 j=>?_
  refine kc (hps:=⟨by decide,⟨by decide,PyProof.noPylong_small (by decide)⟩,trivial⟩) (λj=>DW v.w n3 _ _ _ (by rw[g3];rfl) _ _) λdl s9 s10 j=>?_
  cases n3 with
  |false=>exact kc (λj=>g6 _ _ _) λb s3 s4 j=>p6 hfr hP hN g1 hf H rfl g4 g5
  |true=>exact kc (λj=>g6 _ _ _) λb s3 s4 j=>p6 hfr hP hN g1 hf H rfl g4 g5
noncomputable def El:List Obj→Nat→BT→BT
 |[],_,T=>T
 |o::l,n,T=>El l (n+1) (T.ins n o)
noncomputable def ig:List Obj→Nat→BT→Bool
 |[],_,_=>true
 |o::l,n,T=>match((T.ins n o).get n).isSome with
  |true=>ig l (n+1) (T.ins n o)
  |false=>false
set_option tactic.hygienic true in
theorem ga(life:Life):∀(l:List Obj) (n:Nat) (T:BT),ig l n T=true→absHeap (El l n T) (n+l.length) life=l.foldl Heap.push (absHeap T n life)
 |[],_,_,_=>rfl
 |o::l,n,T,h=>by
  unfold ig at h
  split at h
  ·rename_i h1
   have:=ga life l (n+1) (T.ins n o) h
   rw[absHeap_ins h1]at this
   rw[List.length_cons,show n+(l.length+1)=n+1+l.length by omega]
   exact this
  ·cases h
theorem im(life:Life):∀(l:List Obj) (a:Array Obj),l.foldl Heap.push ⟨a,life⟩=⟨a++l.toArray,life⟩
 |[],a=>by simp
 |o::l,a=>by
  show l.foldl Heap.push ⟨a.push o,life⟩=_
  rw[im life l]
  simp
noncomputable def tJ(s:Shared):SharedT:=⟨El s.heap.objs.toList 0 .nil,s.heap.objs.toList.length,s.heap.life,s.gens,s.drawn,s.toks,s.os⟩
theorem kh(s:Shared)(h:ig s.heap.objs.toList 0 .nil=true):(tJ s).abs=s:=by
 have:=ga s.heap.life _ 0 .nil h
 unfold tJ SharedT.abs
 rw[Nat.zero_add]at this
 have e0:absHeap .nil 0 s.heap.life=⟨#[],s.heap.life⟩:=rfl
 rw[e0,im]at this
 show(⟨absHeap (El s.heap.objs.toList 0 .nil) s.heap.objs.toList.length s.heap.life,s.gens,s.drawn,s.toks,s.os⟩:Shared)=s
 rw[this]
 simp
theorem Ck:fu=denote treeTable:=by
 funext c
 rw[←table_eq_tree]
 exact gr c
noncomputable def tW(p:Program)(w:World):Nat→SharedT→Thread→Option SharedT
 |0,_,_=>none
 |n+1,s,t=>match t.atExitBegin with
  |some l=>match l with
   |[]=>some s
   |_::_=>none
  |none=>match stepT fu p w s t with
   |some x=>match x with
    |(s',t')=>tW p w n s' t'
   |none=>none
theorem mT{p:Program}{w:World}:∀{n:Nat} {s s':SharedT} {t:Thread},tW p w n s t=some s'→importEnds treeTable p w n s.abs t=some s'.abs
 |0,_,_,_,h=>by cases h
 |n+1,s,s',t,h=>by
  unfold tW at h
  unfold importEnds
  cases he:t.atExitBegin with
  |some l=>
   rw[he]at h
   cases l with
   |nil=>cases h;rfl
   |cons _ _=>cases h
  |none=>
   rw[he]at h
   rw[Ck]at h
   cases hs:stepT (denote treeTable) p w s t with
   |none=>rw[hs]at h;cases h
   |some r=>obtain⟨s₂,t₂⟩:=r;rw[hs]at h;rw[stepT_spec hs];exact mT h
noncomputable def sp(p:Program)(w:World)(n₀:Nat)(ann:Option Value):Nat→SharedT→Thread→Option SharedT
 |0,_,_=>none
 |n+1,s,t=>match through t with
  |true=>some s
  |false=>match stepOk n₀ ann t with
   |false=>none
   |true=>match stepT fu p w s t with
    |some x=>match x with
     |(s',t')=>sp p w n₀ ann n s' t'
    |none=>none
theorem mB{p:Program}{w:World}{n₀:Nat}{ann:Option Value}:∀{n:Nat} {s s':SharedT} {t:Thread},sp p w n₀ ann n s t=some s'→topRun treeTable p w n₀ ann n s.abs t=some s'.abs
 |0,_,_,_,h=>by cases h
 |n+1,s,s',t,h=>by
  unfold sp at h
  unfold topRun
  cases he:through t with
  |true=>rw[he]at h;cases h;rfl
  |false=>
   rw[he]at h
   cases hk:stepOk n₀ ann t with
   |false=>rw[hk]at h;cases h
   |true=>
    rw[hk]at h
    rw[Ck]at h
    cases hs:stepT (denote treeTable) p w s t with
    |none=>rw[hs]at h;cases h
    |some r=>obtain⟨s₂,t₂⟩:=r;rw[hs]at h;rw[stepT_spec hs];exact mB h
noncomputable def pc{β:Type}(p:Program)(w:World)(N:Nat)(f:Shared→β):Option β:=
 match ig (start (opening p)).1.heap.objs.toList 0 .nil with
 |false=>none
 |true=>match tW (opening p) w N (tJ (start (opening p)).1) (start (opening p)).2 with
  |none=>none
  |some s1=>match fenceModules? p s1.abs with
   |none=>none
   |some s0=>match ig s0.heap.objs.toList 0 .nil with
    |false=>none
    |true=>match s0.heap.isNs mainGlobals&&s0.gens.size==0 with
     |false=>none
     |true=>match sp p w s0.heap.objs.size (s0.heap.nsMap mainGlobals "__annotations__") N (tJ s0) (topStub p)with
      |none=>none
      |some s2=>match staticsOk (importedModules p.main.body) s0.heap s2.abs.heap&&namesBound p s2.abs.heap&&gensDone s2.abs&&laidKept s0.heap s2.abs.heap with
       |true=>some (f s2.abs)
       |false=>none
set_option tactic.hygienic true in
theorem pb{β:Type}{p:Program}{w:World}{N:Nat}{f:Shared→β}{x:β}(h:pc p w N f=some x):(openEnds treeTable p w N).map f=some x:=by
 unfold pc at h
 split at h
 ·cases h
 rename_i h1
 split at h
 ·cases h
 rename_i s1 h2
 split at h
 ·cases h
 rename_i s0 h3
 split at h
 ·cases h
 rename_i h4
 split at h
 ·cases h
 rename_i h5
 split at h
 ·cases h
 rename_i s2 h6
 split at h
 ·rename_i h7
  have e1:=mT h2
  rw[kh _ h1]at e1
  have e2:=mB h6
  rw[kh _ h4]at e2
  unfold openEnds fencedOpening
  rw[e1]
  show((fenceModules? p s1.abs).bind (topFrom treeTable p w N)).map f=some x
  rw[h3]
  show(topFrom treeTable p w N s0).map f=some x
  unfold topFrom
  rw[h5]
  show((topRun treeTable p w s0.heap.objs.size (s0.heap.nsMap mainGlobals "__annotations__") N s0 (topStub p)).bind _).map f=some x
  rw[e2]
  show(match staticsOk (importedModules p.main.body) s0.heap s2.abs.heap&&namesBound p s2.abs.heap&&gensDone s2.abs&&laidKept s0.heap s2.abs.heap with
   |true=>some s2.abs
   |false=>none).map f=some x
  rw[h7]
  exact h
 ·cases h
end Mine
open PySem PySem.W PyProof.Rows PySem.W.X
namespace Mine
noncomputable def vw:Program:=view PySem.Challenge.pw_ba0002_01 [30]
noncomputable def G3:List Str:=["partial","_wall","CandidateSet","str_set_of_candidates","fraction_parts","Fraction","UnknownScoreFunctionError","get_marginal_scorefct","thiele_score","geometric_marginal_score_fct","pav_score_fct","adams_score_fct","slav_score_fct","av_score_fct","cc_score_fct","at_least_ell_fct","marginal_thiele_scores_add","marginal_thiele_scores_remove","Profile","Voter","_law_draws","_law_ballots","_law_marginal","_law_score","_law_order","_law_unknown"].map Str.ofString
theorem left:LeftO PySem.Challenge.pw_ba0002_01 vw G3 (λj=>true) (obsZ FD) (valZ Ax 558 927) 6400:=λw=>pb (by kernel_rfl)
end Mine
open PySem PySem.W PySem.W.X PyProof.Rows
namespace Mine
theorem jb:(defOf vw (Str.ofString "law")).isSome=true:=by kernel_rfl
noncomputable def uv:DefRec:=((defOf vw (Str.ofString "law")).get jb).1
noncomputable def vK:List (Str×Expr):=((defOf vw (Str.ofString "law")).get jb).2
theorem oy:uv.name=Str.ofString "law":=by kernel_rfl
theorem y4(P:Params):nsFind (Au (oU P)) (Str.ofString "law")=some (.ref 557):=by kernel_rfl
theorem zK(P:Params){es:Array DictEntry}{ep:Nat}(h:(oU P).data=.dict es ep):Au (oU P)=es:=by unfold Au;rw[h]
theorem fV{h:Heap}:∀{a b:Frag},AllIn h (a++b)→AllIn h a∧AllIn h b
 |[],_,x=>⟨trivial,x⟩
 |_::_,_,x=>⟨⟨x.1,(fV x.2).1⟩,(fV x.2).2⟩
theorem mS:∀{vs:List Value} {ns:List Int},IntsAre vs ns→∃xs:List (Int×Tok),vs.toArray=aa xs∧xs.length=ns.length
 |_,_,.nil=>⟨[],rfl,rfl⟩
 |_,_,.cons n t r=>by
  obtain⟨xs,e,l⟩:=mS r
  refine⟨(n,t)::xs,?_,congrArg (·+1) l⟩
  have e':=congrArg Array.toList e
  have:∀(a:Value) (l:List Value) (m:List (Int×Tok)),l=(m.map λp=>Value.int p.1 p.2)→(a::l).toArray=(a::m.map λp=>Value.int p.1 p.2).toArray:=λa l m h=>by rw[h]
  exact this _ _ _ (by simpa [aa]using e')
set_option backward.match.sparseCases false in
noncomputable def qP(o:Obj):Array Value:=match o.data with|.fields vs=>vs|_=>#[]
theorem IW(P:Params):(qP (k5 P))[11]?=some (.ref 52):=by kernel_rfl
theorem rd(P:Params):(k5 P).cls=.type "code"∧(k5 P).data=.fields (qP (k5 P)):=⟨by kernel_rfl,by kernel_rfl⟩
theorem FC(P:Params):(bK P).get 56=some (k5 P):=by kernel_rfl
theorem pF(w:World):(KB w).get 558=none∧(KB w).get 52=none:=⟨by kernel_rfl,by kernel_rfl⟩
theorem EJ(w:World):∀x:Nm,x.isP=false→(KB w).get x.f=none
 |.npav,_=>by kernel_rfl
 |.nslav,_=>by kernel_rfl
 |.nadams,_=>by kernel_rfl
 |.ncc,_=>by kernel_rfl
 |.nav,_=>by kernel_rfl
theorem A0{h:Heap}(v:WV)(Z2:AllIn h [(52,uH v.w.params),(292,fC v.w.params),(299,dX v.w.params),(306,fB v.w.params),(313,fA v.w.params),(320,fz v.w.params)]):h.get? 52=some (uH v.w.params)∧∀x:Nm,x.isP=false→h.get? x.f=some (x.bo v):=
 ⟨Z2.1,λx hx=>match x,hx with
 |.npav,_=>Z2.2.1
 |.nslav,_=>Z2.2.2.2.1
 |.nadams,_=>Z2.2.2.1
 |.ncc,_=>Z2.2.2.2.2.2.1
 |.nav,_=>Z2.2.2.2.2.1⟩
theorem xg{h:Heap}(P:Params)(x:AllIn h (Ax P)):AllIn h (bF P)∧AllIn h [(52,uH P),(292,fC P),(299,dX P),(306,fB P),(313,fA P),(320,fz P)]:=by
 unfold Ax at x
 exact fV x
theorem I6{h:Heap}{K:Frag}{t:KT}(e:KT.of K=t)(x:AllIn h K):∀a o,t.get a=some o→h.get? a=some o:=λj j g=>kt_at (e▸holds_of x) g
theorem Ik{h:Heap}(P:Params)(x:AllIn h (bF P)):∀a o,(bK P).get a=some o→h.get? a=some o:=I6 (CG P) x
theorem IY(P:Params):(bK P).get 3=some (oU P):=by kernel_rfl
theorem IF(a:Addr)(o:Obj):(([(a,o)]:List (Addr×Obj)).map (·.1)).Nodup:=by simp
theorem IE(o p:Obj):(([(558,o),(52,p)]:List (Addr×Obj)).map (·.1)).Nodup:=by simp
theorem zs(v:WV){s₀ s₁:Shared}(hk:∀b o,s₀.heap.get? b=some o→s₁.heap.get? b=some o)(ZA:AllIn s₀.heap (Ax v.w.params))(ht:927≤s₁.toks){xs:List (Int×Tok)}{se:Nat}
  (h1:s₁.heap.get? 558=some (ac (aa xs) se)) (hlen:xs.length≤63) {R:Result→Shared→Prop} (H:∀s',ah s₁ s' [52]→OldK s₁.heap s'.heap→R (.ok (.ret (.bool true))) s'):
  codeAny (model pr v.w) callerA (.call (.ref 557) ⟨[.ref 558],[]⟩) R s₁:=by
 have Z:=xg v.w.params ZA
 have hK:∀a o,(KB v.w).get a=some o→s₁.heap.get? a=some o:=λa o e=>hk a o (Ik v.w.params Z.1 a o e)
 have Z6:=A0 v Z.2
 have a52:=Z6.1
 have mk:∀l:List (Addr×Obj),(∀p∈l,s₁.heap.get? p.1=some p.2)→(∀p∈l,(KB v.w).get p.1=none)→(l.map (·.1)).Nodup→Kn (KB v.w) s₁ l:=λl a b c=>⟨hK,a,b,c,Nat.lt_of_lt_of_le (by decide) ht⟩
 refine p8 v 558 xs se hlen ⟨rfl,by decide,by decide⟩ rfl (mk _ ?_ ?_ ?_) (λx hx=>mk _ ?_ ?_ ?_) λs' F e52=>H s' F ?_
 ·intro p hp
  rcases List.mem_cons.mp hp with e|hp
  ·rw[e];exact h1
  ·rw[List.mem_singleton.mp hp];exact hk _ _ a52
 ·intro p hp
  rcases List.mem_cons.mp hp with e|hp
  ·rw[e];exact(pF v.w).1
  ·rw[List.mem_singleton.mp hp];exact(pF v.w).2
 ·exact IE _ _
 ·intro p hp
  rw[List.mem_singleton.mp hp]
  exact hk _ _ (Z6.2 x hx)
 ·intro p hp
  rw[List.mem_singleton.mp hp]
  exact EJ v.w x hx
 ·exact IF _ _
 ·obtain⟨X,e⟩:=e52
  refine⟨λb o hb=>?_,λb o hb=>?_⟩
  ·by_cases q:b=52
   ·rw[q]at hb ⊢
    have:o=dE #[]:=Option.some.inj (hb.symm.trans (hk _ _ a52))
    rw[this]
    exact .inr (.inl ⟨⟨56,k5 v.w.params,_,hK _ _ (FC _),(rd _).1,(rd _).2,IW _⟩,rfl,#[],X,rfl,by rw[e,Array.empty_append];rfl⟩)
   ·exact .inl (F.keep b o hb λh=>q (List.mem_singleton.mp h))
  ·by_cases q:b=52
   ·exact⟨_,q▸e⟩
   ·exact⟨o,F.keep b o hb λh=>q (List.mem_singleton.mp h)⟩
set_option tactic.hygienic true in
theorem qQ:WalkX vw G3 (λj j=>True) (obsZ FD) (valZ Ax 558 927) PySem.Challenge.rw_ba0002_01.row.toRowW uv vK λf vs=>PySem.call f vs:=by
 intro w s₀ s₁ mg mb G y fa o pm cd doc dV kV ho hd hcd hD hmg hg args vals as L hpre hlay hrd hwl hlo
 obtain⟨ZA,-,ZN,ZT⟩:=z_facts CH y
 have hk:=L.keeps
 wrow_args hpre hlay hrd hwl hlo
 rename_i ns _ _ _ _ _ _ _ _ _ hL _ _ _ hI _ hc _
 obtain⟨hat,hsz⟩:=script_at L
 have htk:=script_toks L ZT
 have hob:=script_obj L hL
 rw[ZN]at hat
 subst hat
 obtain⟨xs,ex,hl⟩:=mS hI
 rw[ex]at hob
 obtain⟨v,rfl⟩:∃v:WV,v.w=w:=⟨⟨w,_,_,_⟩,uQ w⟩
 have hfa:fa=557:=by
  obtain⟨o3,es,ep,e1,e2,_,e3⟩:=G.T.g
  have b3:s₁.heap.get? 3=some (oU v.w.params):=hk _ _ (Ik v.w.params (xg v.w.params ZA).1 _ _ (IY _))
  have:o3=oU v.w.params:=Option.some.inj (e1.symm.trans b3)
  subst this
  have e4:=(e3 uv.name).trans hmg
  rw[oy,←zK _ e2,y4]at e4
  cases e4;rfl
 subst hfa
 refine wpAny_call (zs v hk ZA htk hob (by omega) λs' F K=>?_)
 exact⟨.inl ⟨_,.bool true,[],rfl,λj=>rfl,.bool _,by wrow_post,λj=>⟨List.nodup_nil,nofun⟩⟩,K,F.os,F.gens (by rw[hg];exact λj h=>nomatch h)⟩
theorem final:PySem.Challenge.rw_ba0002_01.Holds:=by
 refine A7 λsaid=>holds_openX (d:=uv) (kwd:=vK) (Xt:=λj=>true) (XP:=λj j=>True) (left:=left) (λj j=>trivial) (λj j j j j=>trivial) ?_ ?_ ?_ (λs j=>recFacts_nil rfl) rfl said ?_ ?_ ?_ qQ
 ·exact(Option.some_get jb).symm
 ·kernel_rfl
 ·kernel_rfl
 ·kernel_rfl
 ·exact⟨rfl,rfl,rfl,rfl,rfl,by kernel_rfl⟩
 ·w_witness2
end Mine
theorem PySem.Challenge.cw_ba0002_01_holds : PySem.Challenge.rw_ba0002_01.Holds :=
 Mine.final
