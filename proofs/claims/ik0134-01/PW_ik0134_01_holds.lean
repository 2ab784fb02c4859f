import PyProof.Rows.All
import PyProof.Comp
import PyProof.FString2
import PyProof.FString5
import PyProof.ListIndex
import PyProof.SliceList
import PyProof.CallStr
import PyProof.EqAt
import PyProof.NeKinds
import PyProof.SliceStr
import PyProof.StrOps
import PyProof.WalksMore
import PyProof.ListIndexNeg
import PyProof.Rows.StrInSeq
import PyProof.StrCalls2
import PyProof.Rows.RuleN_abs
import PyProof.Rows.SumAny
import PyProof.StrReplace2
import PyProof.SetRoads
import PyProof.Rows.SetFrom
import Open.TreeImp
import OpenK.XOpen
import Wide.FinOn
import OpenK.AllK
import Wide.All
import Lean
import PySem.Challenge.RW_ik0134_01
set_option maxRecDepth 100000
set_option maxHeartbeats 0
set_option Elab.async false
set_option linter.all false
namespace Mine
section
def K0:=0x103b13b03b181630303353515254521413303033535152545213101287330303353515254527173707773303033535152545274303033535152545274390390391391390391b3030335351525452743030335351525452743030335351525452753030335351525452742f02f02f12f12f02f1b3030335351525452743030335351525452743030335351525452743030335351525452743030335351525452733030335351525452743030335351525451b3150535452753150535452733030335351525452743030335351525452743030335351525452737330303353515254527173303033535152545271743030335351525452717373707181f01f01f329729129229182922b32d182d72d32d32d02d61f129029729182922d62d02d22d02d182b21f02942972972912b32b31f01f01f329729129229182922b41f01f01f329729129229182922b41f01f01f329729129229182922b12b1b2b52b182b72b22b1b2b52b62b02b22b02b22b02b1b291295d1d1e1d71d61d01d21d01d21d01d5a71f71970727072707270727071b5154e11151610121012101
def K1:=0x146044474743210003040251f21000304021b61b01b2b04025520202303010204025155210003040251821000304025151a2100030402196190192b04025151821000304025151821000304025154210003040251821000304025151821000304025151b51a210003040255210003040251a210003040251853505
def K2:=0x146044474743210003040251f2100030402196190192b04025520202303010204025420202303010204025151821000304025151821000304025154210003040251821000304025151821000304025151b51a210003040255210003040251a210003040251853505
def K3:=0x146044474743210003040251f21000304021d61d01d2b0402552020230301020401853210003040251821000304025154210003040251921000304025151b535051b210003040253210003040251a210003040255210003040251a210003040251853505
def K4:=0x146044474743210003040251f21000304021f61f01f2b0402552020230301020401853210003040251821000304025154210003040251921000304025151b535051b210003040253210003040251a210003040255210003040251a210003040251853505
def K5:=0x146044474743210003040251f2100030402296290292b0402552020230301020401853210003040251821000304025154210003040251921000304025151b535051b210003040253210003040251a210003040255210003040251a210003040251853505
def K6:=0x146044474743210003040251f21000304022d62d02d2b0402552020230301020401853210003040251821000304025154210003040251921000304025151b535051b210003040253210003040251a210003040255210003040251a210003040251853505
def K7:=0x13ec998811f21000304021113101631a210003040232821000304023136210003040233303651a210003040253542100030402532020230301020402545056210003040251f210003040253202023030102040251b210003040251821000304025151b5
def K8:=0x13ec9988133030335351525452132100030402141a1180183184182133030335351525452132100030402141a1180183184182143030335351525452141e0601e162601e0631a11801831841821321000304021430303353515254521
def K9:=0x146044474743210003040251f21000304022b62b02b2b040255202023030102040256210003040251921000304025151b535051b210003040253210003040251a210003040255210003040251a210003040251853505
def K10:=0x146044474743210003040251f21000304021d61d01d2b040255202023030102040256210003040251921000304025151b535051b210003040253210003040251a210003040255210003040251a210003040251853505
def K11:=0x146044474743210003040251f21000304021f61f01f2b040255202023030102040256210003040251921000304025151b535051b210003040253210003040251a210003040255210003040251a210003040251853505
def K12:=0x146044474743210003040251f21000304022f62f02f2b040255202023030102040256210003040251921000304025151b535051b210003040253210003040251a210003040255210003040251a210003040251853505
def K13:=0x146044474743210003040251f21000304023d63d03d2b040255202023030102040256210003040251921000304025151b535051b210003040253210003040251a210003040255210003040251a210003040251853505
def K14:=0x12464141843404540441d4190192190191191191190191190191191191190191190191191190191a717071707171727194340454044541011180101111111010180101111111010180101111101318218018018
def K15:=0x13ec998811f21000304021113101631a210003040232821000304023136210003040233303651a210003040253542100030402532020230301020402545056210003040255202023030102040251b5
def K16:=0x146044474743210003040251f21000304022b62b02b2b04025520202303010204025151821000304025154210003040251a210003040251821000304025151821000304025151b5
def K17:=0x146044474743210003040251f21000304023b63b03b2b04025520202303010204025151821000304025154210003040251a210003040251821000304025151821000304025151b5
def K18:=0x146044474743210003040251f2100030402767072b0402565057505195051920040303013718118118118018321000304023630319200403030116101
def K19:=0x146044474743210003040251f2100030402767072b040256505750519505192004030301371811811811801832100030402363031920040303011
def K20:=0x131a118018318418211c1011830303353515254527330303353515254527430303353515254527630303353515254527187071a5154f1012101
def K21:=0x101b01b721000304025182100030402532100030402518210003040253210003040251a210003040255210003040251a210003040251853505
def K22:=0x102d02d721000304025182100030402532100030402518210003040253210003040251a210003040255210003040251a210003040251853505
def K23:=0x101f01f721000304025182100030402532100030402518210003040253210003040251a210003040255210003040251a210003040251853505
def K24:=0x1029029721000304025182100030402532100030402518210003040253210003040251a210003040255210003040251a210003040251853505
def K25:=0x1039039721000304025182100030402532100030402518210003040253210003040251a210003040255210003040251a210003040251853505
def K26:=0x103f03f721000304025182100030402532100030402518210003040253210003040251a210003040255210003040251a210003040251853505
def K27:=0x101d3020001131011830303353515254527330303353515254527430303353515254527630303353515254527187071a5154f1012101
def K28:=0x13210007018021610162100070180217210007018025650519200407070113101631d37333032831e31930323031915161012101
def K29:=0x12464141843404540442b41f01f21f01f11f11f11f01f11f01f11f11f11f01f11f01f11f11f01f1a7170717071717
def K30:=0x12464141843404540443942d02d22d02d12d12d12d02d12d02d12d12d12d02d12d02d12d12d02d1a7170717071717
def K31:=0x10193727071a4045404454101118010111111101018010111111101018010111110131821801801810
def K32:=0x14513b03b03b03b03b03b45353513d63d03d1b5350503b03b03b03b
def K33:=0x100000032127111110101121b20261c01c01c01c01c01c01c11c11c
def K34:=0x142912912902921f342404721000304021628328028028128128
def K35:=0x131d11d11d11f01f01f01f01f01f11d01d01d21d21d01d01d
def K36:=0x131811811801801812121241a01a01a01a12418018018118
def K37:=0x12000000000000010100000001000120212021212001010
def K38:=0x13ec99881912951d43031003031313671717119019019
def K39:=0x121b41b01b5303000303131361d11d11d11f01f01f
def K40:=0x101f12f52b4303100303131361d11d11d11f01f01f
def K41:=0x121a11a11a01a01a12126202600000000000001010
def K42:=0x137171711901901901901901917070727270707
def K43:=0x101912951d43031003031313671717119019019
def K44:=0x121d21d21d01d01d71b01b2c33020001119101
def K45:=0x11922180180180181246060616222606060614
def K46:=0x125450553030003031313671717119019019
def K47:=0x1318118118018018121226161606061214
def K48:=0x111e01801e2431c11a01a31a41a243404
def K49:=0x13ec99881912951d4303100303131323
def K50:=0x1272727070775051933020001119101
def K51:=0x101c01c21a11a11a01a01a218162606
def K52:=0x13ec9988133030335351525452111
def K53:=0x1360606061418433d470727071717
def K54:=0x13606060614184329470727071717
def K55:=0x1384362404620202020202021212
def K56:=0x101e01e21a11a11a01a01a21816
def K57:=0x121b41b01b5303000303131323
def K58:=0x1053424043210003040213101
def K59:=0x1033424043210003040213101
def K60:=0x1040432100030402161011a0
def K61:=0x12421c01a41a31a31a143606
def K62:=0x12545055303000303131323
def K63:=0x11419631c11a01a31a41a24
def K64:=0x131362606241414040422
def K65:=0x131e01c41c31c31c14
def K66:=0x15630000000163606
def K67:=0x16630000000163606
def K68:=0x1220218202423202
def K69:=0x12131821801814
def K70:=0x121a01a01a11a
def K71:=0x1130703550515
def K72:=0x1142606060614
def K73:=0x14513b03b03b
def K74:=0x13ec998818
def K75:=0x1028028028
def K76:=0x13ec99882
def K77:=0x114143404
def K78:=0x101a01a14
def K79:=0x1343404
def K80:=0x1362606
def K81:=0x1443404
def K82:=0x102
def K83:=0x100
end
section
open PySem PySem.W PyProof.Rows
abbrev aX (s:String):Str:=Str.ofString s
abbrev aD (x:Array Value) (l:List Str):Prop:=StrsAre x.toList l
abbrev ej:List GenState:=[.finished]
abbrev ei:List GenState:=[.finished,.finished]
abbrev ij:List GenState:=[.finished,.finished,.finished]
theorem bT {a b c:Nat} (h:a≤b) (k:b≤c):a≤c:=Nat.le_trans h k
theorem Y1 {α:Type} {a0 a1:α} {l:List α}:a1∈a0 :: a1 :: l:=.tail _ (.head _)
theorem Y2 {α:Type} {a0 a1 a2:α} {l:List α}:a2∈a0 :: a1 :: a2 :: l:=.tail _ (.tail _ (.head _))
theorem Y3 {α:Type} {a0 a1 a2 a3:α} {l:List α}:a3∈a0 :: a1 :: a2 :: a3 :: l:=.tail _ (.tail _ (.tail _ (.head _)))
theorem Y4 {α:Type} {a0 a1 a2 a3 a4:α} {l:List α}:a4∈a0 :: a1 :: a2 :: a3 :: a4 :: l:=.tail _ (.tail _ (.tail _ (.tail _ (.head _))))
theorem Y5 {α:Type} {a0 a1 a2 a3 a4 a5:α} {l:List α}:a5∈a0 :: a1 :: a2 :: a3 :: a4 :: a5 :: l:=.tail _ (.tail _ (.tail _ (.tail _ (.tail _ (.head _)))))
theorem Y6 {α:Type} {a0 a1 a2 a3 a4 a5 a6:α} {l:List α}:a6∈a0 :: a1 :: a2 :: a3 :: a4 :: a5 :: a6 :: l:=.tail _ (.tail _ (.tail _ (.tail _ (.tail _ (.tail _ (.head _))))))
theorem Y7 {α:Type} {a0 a1 a2 a3 a4 a5 a6 a7:α} {l:List α}:a7∈a0 :: a1 :: a2 :: a3 :: a4 :: a5 :: a6 :: a7 :: l:=.tail _ (.tail _ (.tail _ (.tail _ (.tail _ (.tail _ (.tail _ (.head _)))))))
theorem Y8 {α:Type} {a0 a1 a2 a3 a4 a5 a6 a7 a8:α} {l:List α}:a8∈a0 :: a1 :: a2 :: a3 :: a4 :: a5 :: a6 :: a7 :: a8 :: l:=.tail _ (.tail _ (.tail _ (.tail _ (.tail _ (.tail _ (.tail _ (.tail _ (.head _))))))))
end
section
open PySem PySem.W
noncomputable abbrev rf (a:Addr):Value:=.ref a
noncomputable abbrev sv (s:String) (n:Nat):Value:=.str (Str.ofString s) n
noncomputable abbrev nv (x n:Nat):Value:=.int (.ofNat x) n
noncomputable abbrev fO (s:String) (l:List Value):Obj:=⟨.type s,none,.fields ⟨l⟩,#[]⟩
noncomputable abbrev sO (s:String) (l:List Value) (n:Nat):Obj:=⟨.type s,none,.seq ⟨l⟩ n,#[]⟩
end
section
open PySem PySem.W PySem.W.X PyProof.Rows
noncomputable abbrev jB (l:List Nat):Bool:=PySem.W.Fast.tw13343964577679436407 (PySem.W.Fast.tw2368527892694137696 PySem.Challenge.rw_ik0134_01).prog (PySem.W.Fast.tw2368527892694137696 PySem.Challenge.rw_ik0134_01).prog.main.body ⟨⟨l⟩⟩
theorem rdOut1:jB [118,97,114,115]=false:=by kernel_rfl
theorem rdOut2:jB [100,105,114]=false:=by kernel_rfl
theorem rdOut3:jB [108,111,99,97,108,115]=false:=by kernel_rfl
theorem noneOf3 {α:Type} {p:α→Bool} {a b c:α} (h1:p a=false) (h2:p b=false) (h3:p c=false):R.filterR p [a,b,c]=[]:=by
  rw [← R.filterR_eq]
  simp [h1,h2,h3]
theorem ka:(PySem.Challenge.rw_ik0134_01).wellSaid=true:=by
  rw [PySem.W.Fast.te9446332074065402090]
  unfold PySem.W.Fast.tw9446332074065402090 PySem.W.Fast.tw17960256430627541270 PySem.W.Fast.tw2436336058641802641 PySem.W.Fast.tw12908688711261696721
  rw [noneOf3 (p:=PySem.W.Fast.tw13343964577679436407 (PySem.W.Fast.tw2368527892694137696 PySem.Challenge.rw_ik0134_01).prog (PySem.W.Fast.tw2368527892694137696 PySem.Challenge.rw_ik0134_01).prog.main.body) rdOut1 rdOut2 rdOut3]
  repeat' with_reducible refine look_both ?_ ?_
  all_goals as_aux_lemma=>kernel_rfl
end
section
open PySem PySem.W PySem.W.X

noncomputable abbrev den:Code→Sem Fin:=PySem.W.Fast.tw11892475500146522536 PySem.W.Fast.tw14364793385576792824
theorem fj:denote table=den:=by
  show denote table=PySem.W.Fast.tw11892475500146522536 PySem.W.Fast.tw14364793385576792824
  rw [← PySem.W.Fast.te11892475500146522536,← PySem.W.Fast.te14364793385576792824,PySem.table_eq_tree]

inductive Fm where
  | ret (Γ:Ctx) (p:Pos) (k:Result→Sem Fin) (rw:Option (Value→Value))
  | gen (g:Nat) (Γ:Ctx) (p:Pos) (k:GenResult→Sem Fin)

noncomputable abbrev ax:=List (Addr×Obj)

structure Ys where
  n:Nat→Nat
  v:Nat→Value
  a:Nat→Array Value
  s:Nat→Str
  d:Nat→Data

structure Hk where
  req:List Nat
  res:ax→Ys→Result
  objs:ax→Ys→List Obj
  adds:ax→Ys→ax
  tabs:ax→Ys→Ch
  gn:Nat
  ok:ax→Ys→Prop

inductive Item where
  | o (j:Nat)
  | n (j:Nat)
  | rw (v:Value→Value)
  | hook (h:Hk)
  | free (h:Hk)
  | hookF (h:Code→Hk)
  | freeF (h:Code→Hk)
  | tree (t:Sem Fin)
  | rest (h:Hk)
  | stop
  | cut

structure Tr where
  Γ:Ctx
  p:Pos
  t:Sem Fin
  t':Sem Fin
  all:Bool

inductive Res where
  | stuck (n x:Nat)
  | done (r:Result) (X:ax) (b t:Nat) (ch:Ch) (gl:List GenState) (obs exp:List Addr) (rws:List (Value×Value)) (trs:List Tr)
  | again (c:Code) (p:Pos) (X:ax) (b t:Nat) (ch:Ch) (gl:List GenState) (obs exp:List Addr) (rws:List (Value×Value)) (trs:List Tr)
  | hook (h:Hk) (Γ:Ctx) (p:Pos) (pre:ax) (b t:Nat) (ch:Ch) (gl:List GenState) (obs exp:List Addr) (rws:List (Value×Value)) (trs:List Tr) (f:Nat→Nat→Ys→Res)
  | free (h:Hk) (c:Code) (pre:ax) (b t:Nat) (ch:Ch) (gl:List GenState) (obs exp:List Addr) (rws:List (Value×Value)) (trs:List Tr) (f:Nat→Nat→Ys→Res)
  | cut (t:Sem Fin) (Γ:Ctx) (p:Pos) (X:ax) (b tk:Nat) (ch:Ch) (gl:List GenState) (obs exp:List Addr) (rws:List (Value×Value)) (trs:List Tr)
  | rest (h:Hk) (t:Sem Fin) (Γ:Ctx) (p:Pos) (pre:ax) (b tk:Nat) (ch:Ch) (gl:List GenState) (obs exp:List Addr) (rws:List (Value×Value)) (trs:List Tr) (f:Nat→Nat→Ys→Res)

noncomputable def leaf:Result→Sem Fin
  | .ok f=>.pure (.done f)
  | .error e=>.raise e

noncomputable def cU:List (Nat×Addr)→Nat→Addr
  | [],_=>0
  | p :: B,j=>match Nat.ble p.1 j with
    | true=>p.2+(j - p.1)
    | false=>cU B j

noncomputable def fy (X:ax) (T:BT) (B:List (Nat×Addr)) (c:Nat):Option (Addr×Obj):=match Nat.beq (c % 2) 0 with
  | true=>X[c / 2]?
  | false=>match T.get (c / 2) with
    | some o=>some (cU B (c / 2),o)
    | none=>none
noncomputable def cM (X:ax) (T:BT) (B:List (Nat×Addr)):List Nat→Option ax
  | []=>some []
  | c :: l=>match fy X T B c with
    | some x=>match cM X T B l with
      | some r=>some (x :: r)
      | none=>none
    | none=>none
noncomputable def c6:ax→Nat→Obj→ax
  | [],_,_=>[]
  | x :: l,0,o=>(x.1,o) :: l
  | x :: l,n+1,o=>x :: c6 l n o
noncomputable def dG (X:ax) (T:BT):List Nat→List Obj→ax×BT
  | c :: l,o :: os=>match Nat.beq (c % 2) 0 with
    | true=>dG (c6 X (c / 2) o) T l os
    | false=>dG X (T.set (c / 2) fun _=>o) l os
  | _,_=>(X,T)
noncomputable def db (gl:List GenState):Nat→List GenState
  | 0=>gl
  | n+1=>gl++List.replicate (n+1) .finished
noncomputable def ba (ch:Ch):Ch→Ch
  | []=>ch
  | p :: l=>ba (chPut ch p.1 p.2) l

noncomputable def gI (c:Code) (n:Nat):Value:=match c with
  | .call _ as=>as.pos.getD n .none
  | _=>.none
structure Vw where
  prog:Program
  w:World
  kt:KT
  n₁:Nat

noncomputable def jp (kt:KT) (ch:Ch) (a:Addr):Option (Array Value):=match chLook ch a with
  | some vs=>some vs
  | none=>match kt.get a with
    | some o=>tabOf o
    | none=>none

noncomputable def oR {α:Type} (o:Option α) (a b:Nat) (k:α→Res):Res:=match o with
  | some x=>k x
  | none=>.stuck a b
noncomputable def bR (c:Bool) (a b:Nat) (r:Res):Res:=match c with
  | true=>r
  | false=>.stuck a b
noncomputable def ldA (kt:KT) (ch:Ch) (a:Addr):Option Obj:=match chLook ch a with
  | some vs=>some (tableObj vs)
  | none=>kt.get a
noncomputable def pkI (X:ax) (T:BT) (B:List (Nat×Addr)):Item→Option (Addr×Obj)
  | .o j=>X[j]?
  | .n j=>match T.get j with
    | some o=>some (cU B j,o)
    | none=>none
  | _=>none
noncomputable def rcR (it:Item) (a:Hk→Res) (b c:Res):Res:=match it with
  | .rest h=>a h
  | .cut=>b
  | _=>c
noncomputable def isRet:List Fm→Bool
  | .gen .. :: _=>true
  | _=>false
noncomputable def go (V:Vw) (outs:List Nat):Nat→Nat→List (Item×Nat)→Ctx→Pos→List Fm→Sem Fin→ax→BT→List (Nat×Addr)→Nat→Nat→Nat→Ch→List GenState→List Addr→List Addr→List (Value×Value)→List Tr→Res
  | 0,_,_,_,_,_,_,_,_,_,m,i,_,_,_,_,_,_,_=>.stuck 0 (m+i)
  | f+1,g,O,Γ,p,κ,t,X,T,B,m,tb,i,ch,gl,obs,exp,rws,trs=>match g with
    | g+1=>match t with
      | .pure fin=>match fin with
        | .done fl=>match κ with
          | []=>oR (cM X T B outs) 1 0 fun Y=>.done (.ok fl) Y (cU B m) (tb+i) ch gl obs exp rws trs
          | fm :: κ=>match fm with
            | .ret Γ' p' k rw=>match rw with
              | none=>go V outs f g O Γ' p' κ (k (.ok fl)) X T B m tb i ch gl obs exp rws trs
              | some v'=>match fl with
                | .ret v=>go V outs f g O Γ' p' κ (k (.ok (.ret (v' v)))) X T B m tb i ch gl obs exp ((v,v' v) :: rws) trs
                | _=>.stuck 2 0
            | .gen gi Γ' p' k=>go V outs f g O Γ' p' κ (k (.returned (match fl with | .ret v=>v | _=>.none))) X T B m tb i ch (gl.set gi .finished) obs exp rws trs
        | .again c'=>bR c'.quiet 3 0 (go V outs f g O (Γ.goto c') p κ (den c') X T B m tb i ch gl obs exp rws trs)
      | .raise e=>match κ with
        | []=>oR (cM X T B outs) 1 0 fun Y=>.done (.error e) Y (cU B m) (tb+i) ch gl obs exp rws trs
        | fm :: κ=>match fm with
          | .ret Γ' p' k rw=>match rw with
            | none=>go V outs f g O Γ' p' κ (k (.error e)) X T B m tb i ch gl obs exp rws trs
            | some _=>.stuck 2 1
          | .gen gi Γ' p' k=>go V outs f g O Γ' p' κ (k (.raised e)) X T B m tb i ch (gl.set gi .finished) obs exp rws trs
      | .rule _ k=>go V outs f g O Γ p κ (k ()) X T B m tb i ch gl obs exp rws trs
      | .at p k=>go V outs f g O Γ p κ (k ()) X T B m tb i ch gl obs exp rws trs
      | .point _ k=>go V outs f g O Γ p κ (k ()) X T B m tb i ch gl obs exp rws trs
      | .ask k=>go V outs f g O Γ p κ (k ⟨V.prog,V.w.params⟩) X T B m tb i ch gl obs exp rws trs
      | .load a _ k=>oR (ldA V.kt ch a) 4 a fun o=>go V outs f g O Γ p κ (k o) X T B m tb i ch gl obs exp rws trs
      | .loadIfAlive a k=>oR (ldA V.kt ch a) 4 a fun o=>go V outs f g O Γ p κ (k (some o)) X T B m tb i ch gl obs exp rws trs
      | .alloc o k=>bR (!o.isFreed) 5 0 (oR ((T.ins m o).get m) 6 m fun _=>go V outs f g O Γ p κ (k (cU B m)) X (T.ins m o) B (m+1) tb i ch gl obs exp rws trs)
      | .update a _ fn k=>oR (jp V.kt ch a) 9 a fun vs=>oR (tabOf (fn (tableObj vs))) 8 a fun vs'=>go V outs f g O Γ p κ (k ()) X T B m tb i (chPut ch a vs') gl obs exp rws trs
      | .fresh k=>go V outs f g O Γ p κ (k (tb+i)) X T B m tb (i+1) ch gl obs exp rws trs
      | .handled own k=>go V outs f g O Γ p κ (k (match own with | true=>Γ.own | false=>Γ.handled)) X T B m tb i ch gl obs exp rws trs
      | .stack k=>go V outs f g O Γ p κ (k ((Γ.code,p) :: Γ.below)) X T B m tb i ch gl obs exp rws trs
      | .call c' hd _ _ k=>go V outs f g O (Γ.enter c' hd p) p (.ret Γ p k none :: κ) (den c') X T B m tb i ch gl obs exp rws trs
      | .newGen c' k=>go V outs f g O Γ p κ (k gl.length) X T B m tb i ch (gl++[.fresh c']) obs exp rws trs
      | .genState gi k=>oR gl[gi]? 10 gi fun gs=>go V outs f g O Γ p κ (k gs.seen) X T B m tb i ch gl obs exp rws trs
      | .resume gi r _ k=>oR gl[gi]? 14 gi fun gs=>match gs with
          | .fresh c₀=>match r with
            | .send v=>match v with
              | .none=>go V outs f g O (Γ.wake c₀ p) p (.gen gi Γ p k :: κ) (den c₀) X T B m tb i ch (gl.set gi .running) obs exp rws trs
              | _=>.stuck 11 gi
            | .throw _=>.stuck 11 gi
          | .suspended k₀ _ c₀ p₀ fs₀ _=>match fs₀ with
            | []=>go V outs f g O (Γ.wake c₀ p) p₀ (.gen gi Γ p k :: κ) (k₀ r) X T B m tb i ch (gl.set gi .running) obs exp rws trs
            | _ :: _=>.stuck 12 gi
          | _=>.stuck 13 gi
      | .yield v gd l kk=>match κ with
        | []=>.stuck 15 0
        | fm :: κ=>match fm with
          | .ret ..=>.stuck 15 1
          | .gen gi Γ' p' k=>bR (!gd) 15 2 (go V outs f g O Γ' p' κ (k (.yielded v)) X T B m tb i ch (gl.set gi (.suspended kk l Γ.code p [] false)) obs exp rws trs)
      | _=>.stuck 16 0
    | 0=>match O with
      | []=>.stuck 17 0
      | x :: O=>rcR x.1
        (fun h=>oR (cM X T B h.req) 21 1 fun pre=>.rest h t Γ p pre (cU B m) (tb+i) ch gl obs exp rws trs fun b' t' ys=>match dG X T h.req (h.objs pre ys) with
            | (X',T')=>go V outs f x.2 O Γ p κ (leaf (h.res pre ys)) (X'++h.adds pre ys) T' ((m,b') :: B) m t' 0 (ba ch (h.tabs pre ys)) (db gl h.gn) [] [] [] [])
        (match κ with
          | []=>oR (cM X T B outs) 1 0 fun Y=>.cut t Γ p Y (cU B m) (tb+i) ch gl obs exp rws trs
          | _ :: _=>.stuck 22 1)
        (match t with
        | .load a _ k=>oR (pkI X T B x.1) 18 a fun y=>go V outs f x.2 O Γ p κ (k y.2) X T B m tb i ch gl (a :: obs) (y.1 :: exp) rws trs
        | .loadIfAlive a k=>oR (pkI X T B x.1) 18 a fun y=>go V outs f x.2 O Γ p κ (k (some y.2)) X T B m tb i ch gl (a :: obs) (y.1 :: exp) rws trs
        | .update a _ fn k=>match x.1 with
          | .o j=>oR X[j]? 18 j fun y=>bR (!(fn y.2).isFreed) 5 1 (go V outs f x.2 O Γ p κ (k ()) (c6 X j (fn y.2)) T B m tb i ch gl (a :: obs) (y.1 :: exp) rws trs)
          | .n j=>oR (T.get j) 19 j fun o=>bR (!(fn o).isFreed) 5 2 (go V outs f x.2 O Γ p κ (k ()) X (T.set j fn) B m tb i ch gl (a :: obs) (cU B j :: exp) rws trs)
          | _=>.stuck 20 0
        | .call c' hd _ _ k=>match x.1 with
          | .rw v=>go V outs f x.2 O (Γ.enter c' hd p) p (.ret Γ p k (some v) :: κ) (den c') X T B m tb i ch gl obs exp rws trs
          | .tree t'=>go V outs f x.2 O (Γ.enter c' hd p) p (.ret Γ p k none :: κ) t' X T B m tb i ch gl obs exp rws (⟨Γ.enter c' hd p,p,den c',t',false⟩ :: trs)
          | .hook h=>oR (cM X T B h.req) 21 0 fun pre=>.hook h (Γ.enter c' hd p) p pre (cU B m) (tb+i) ch gl obs exp rws trs fun b' t' ys=>match dG X T h.req (h.objs pre ys) with
              | (X',T')=>go V outs f x.2 O Γ p κ (k (h.res pre ys)) (X'++h.adds pre ys) T' ((m,b') :: B) m t' 0 (ba ch (h.tabs pre ys)) (db gl h.gn) [] [] [] []
          | .free h=>match hd with
            | some _=>.stuck 25 0
            | none=>oR (cM X T B h.req) 21 2 fun pre=>.free h c' pre (cU B m) (tb+i) ch gl obs exp rws trs fun b' t' ys=>match dG X T h.req (h.objs pre ys) with
                | (X',T')=>go V outs f x.2 O Γ p κ (k (h.res pre ys)) (X'++h.adds pre ys) T' ((m,b') :: B) m t' 0 (ba ch (h.tabs pre ys)) (db gl h.gn) [] [] [] []
          | .hookF hf=>oR (cM X T B (hf c').req) 21 0 fun pre=>.hook (hf c') (Γ.enter c' hd p) p pre (cU B m) (tb+i) ch gl obs exp rws trs fun b' t' ys=>match dG X T (hf c').req ((hf c').objs pre ys) with
              | (X',T')=>go V outs f x.2 O Γ p κ (k ((hf c').res pre ys)) (X'++(hf c').adds pre ys) T' ((m,b') :: B) m t' 0 (ba ch ((hf c').tabs pre ys)) (db gl (hf c').gn) [] [] [] []
          | .freeF hf=>match hd with
            | some _=>.stuck 25 0
            | none=>oR (cM X T B (hf c').req) 21 2 fun pre=>.free (hf c') c' pre (cU B m) (tb+i) ch gl obs exp rws trs fun b' t' ys=>match dG X T (hf c').req ((hf c').objs pre ys) with
                | (X',T')=>go V outs f x.2 O Γ p κ (k ((hf c').res pre ys)) (X'++(hf c').adds pre ys) T' ((m,b') :: B) m t' 0 (ba ch ((hf c').tabs pre ys)) (db gl (hf c').gn) [] [] [] []
          | _=>.stuck 20 1
        | .pure fin=>match fin with
          | .again c'=>bR c'.quiet 3 1 (match x.1 with
              | .stop=>match κ with
                | []=>oR (cM X T B outs) 1 0 fun Y=>.again c' p Y (cU B m) (tb+i) ch gl obs exp rws trs
                | _ :: _=>.stuck 22 0
              | .tree t'=>go V outs f x.2 O (Γ.goto c') p κ t' X T B m tb i ch gl obs exp rws (⟨Γ.goto c',p,den c',t',isRet κ⟩ :: trs)
              | _=>.stuck 20 2)
          | .done _=>.stuck 23 0
        | .resume gi r _ k=>oR gl[gi]? 14 gi fun gs=>match gs with
            | .fresh c₀=>match r with
              | .send v=>match v with
                | .none=>match x.1 with
                  | .tree t'=>go V outs f x.2 O (Γ.wake c₀ p) p (.gen gi Γ p k :: κ) t' X T B m tb i ch (gl.set gi .running) obs exp rws (⟨Γ.wake c₀ p,p,den c₀,t',true⟩ :: trs)
                  | _=>.stuck 20 3
                | _=>.stuck 11 gi
              | .throw _=>.stuck 11 gi
            | _=>.stuck 13 gi
        | _=>.stuck 24 0)

noncomputable abbrev cg (V:Vw):Model:=⟨den,V.prog,V.w⟩
theorem dv (V:Vw):model V.prog V.w=cg V:=by
  unfold model
  rw [fj]

structure At (V:Vw) (X:ax) (b t:Nat) (ch:Ch) (gl:List GenState) (s:Shared):Prop where
  base:∀ a o,V.kt.get a=some o→chLook ch a=none→s.heap.get? a=some o
  tab:∀ a vs,chLook ch a=some vs→a < V.n₁∧s.heap.get? a=some (tableObj vs)
  olds:∀ x∈X,s.heap.get? x.1=some x.2
  nd:(X.map (·.1)).Nodup
  hi:∀ x∈X,V.n₁≤x.1∧x.1 < b
  size:s.heap.objs.size=b
  toks:s.toks=t
  gens:s.gens=⟨gl⟩
  lo:V.n₁≤b

structure Fr (A:List Addr) (ch':Ch) (s s':Shared):Prop where
  keep:∀ a o,s.heap.get? a=some o→a∉A→chLook ch' a=none→s'.heap.get? a=some o
  size:s.heap.objs.size≤s'.heap.objs.size
  toks:s.toks≤s'.toks
  os:s'.os=s.os
  drawn:s'.drawn=s.drawn

noncomputable def ig (ch ch':Ch):Prop:=∀ a,chLook ch' a=none→chLook ch a=none

noncomputable def an (V:Vw) (h:Hk) (Γ:Ctx) (p:Pos) (pre:ax) (b t:Nat) (ch:Ch) (gl:List GenState):Prop :=
  ∀ s,At V pre b t ch gl s→∃ ys b' t' s',h.ok pre ys∧Returns (cg V) Γ p s (h.res pre ys) s'∧(h.objs pre ys).length=pre.length ∧
    At V (List.zipWith (fun x o=>(x.1,o)) pre (h.objs pre ys)++h.adds pre ys) b' t' (ba ch (h.tabs pre ys)) (db gl h.gn) s' ∧
    Fr (pre.map (·.1)) (ba ch (h.tabs pre ys)) s s'∧ig ch (ba ch (h.tabs pre ys))∧∀ x∈h.adds pre ys,b≤x.1

noncomputable def fK (V:Vw) (h:Hk) (t:Sem Fin) (Γ:Ctx) (p:Pos) (pre:ax) (b tk:Nat) (ch:Ch) (gl:List GenState):Prop :=
  ∀ s,At V pre b tk ch gl s→∃ ys b' t' s',h.ok pre ys∧Runs (cg V) Γ p t [] s (.ret (h.res pre ys)) s'∧(h.objs pre ys).length=pre.length ∧
    At V (List.zipWith (fun x o=>(x.1,o)) pre (h.objs pre ys)++h.adds pre ys) b' t' (ba ch (h.tabs pre ys)) (db gl h.gn) s' ∧
    Fr (pre.map (·.1)) (ba ch (h.tabs pre ys)) s s'∧ig ch (ba ch (h.tabs pre ys))∧∀ x∈h.adds pre ys,b≤x.1

noncomputable def dK (V:Vw) (x:Tr):Prop:=∀ s e s',(x.all=true∨∃ r,e = .ret r)→Runs (cg V) x.Γ x.p x.t' [] s e s'→Runs (cg V) x.Γ x.p x.t [] s e s'
theorem dK.eq {V:Vw} {Γ:Ctx} {p:Pos} {t t':Sem Fin} {b:Bool} (h:t=t'):dK V ⟨Γ,p,t,t',b⟩:=fun _ _ _ _ r=>by subst h;exact r

noncomputable def dx (V:Vw) (A:List Addr) (Γ₀:Ctx) (s₀:Shared) (Φ:Result→Shared→Prop):Res→Prop
  | .stuck _ _=>False
  | .done r X b t ch gl obs exp rws trs=>obs=exp∧(∀ x∈rws,x.1=x.2)∧(∀ x∈trs,dK V x)∧∀ s,At V X b t ch gl s→Fr A ch s₀ s→Φ r s
  | .again c p X b t ch gl obs exp rws trs=>obs=exp∧(∀ x∈rws,x.1=x.2)∧(∀ x∈trs,dK V x)∧∀ s,At V X b t ch gl s→Fr A ch s₀ s→wpCode (cg V) (Γ₀.goto c) Φ p s
  | .cut t Γ p X b tk ch gl obs exp rws trs=>obs=exp∧(∀ x∈rws,x.1=x.2)∧(∀ x∈trs,dK V x)∧∀ s,At V X b tk ch gl s→Fr A ch s₀ s→∃ r s',Runs (cg V) Γ p t [] s (.ret r) s'∧Φ r s'
  | .hook h Γ p pre b t ch gl obs exp rws trs f=>obs=exp∧(∀ x∈rws,x.1=x.2)∧(∀ x∈trs,dK V x)∧h.req.Nodup∧an V h Γ p pre b t ch gl ∧
      ∀ b' t' ys,b≤b'→t≤t'→h.ok pre ys→(∀ x∈h.adds pre ys,b≤x.1∧x.1 < b')→dx V A Γ₀ s₀ Φ (f b' t' ys)
  | .free h c pre b t ch gl obs exp rws trs f=>obs=exp∧(∀ x∈rws,x.1=x.2)∧(∀ x∈trs,dK V x)∧h.req.Nodup∧(∀ (Γ:Ctx) p,an V h (Γ.enter c none p) p pre b t ch gl) ∧
      ∀ b' t' ys,b≤b'→t≤t'→h.ok pre ys→(∀ x∈h.adds pre ys,b≤x.1∧x.1 < b')→dx V A Γ₀ s₀ Φ (f b' t' ys)
  | .rest h t Γ p pre b tk ch gl obs exp rws trs f=>obs=exp∧(∀ x∈rws,x.1=x.2)∧(∀ x∈trs,dK V x)∧h.req.Nodup∧fK V h t Γ p pre b tk ch gl ∧
      ∀ b' t' ys,b≤b'→tk≤t'→h.ok pre ys→(∀ x∈h.adds pre ys,b≤x.1∧x.1 < b')→dx V A Γ₀ s₀ Φ (f b' t' ys)

noncomputable def Pst (M:Model) (Φ:Result→Shared→Prop):List Fm→End→Shared→Prop
  | [],e,s=>∃ r,e = .ret r∧Φ r s
  | .ret Γ p k _ :: κ,e,s=>∃ r,e = .ret r∧∃ e' s',Runs M Γ p (k r) [] s e' s'∧Pst M Φ κ e' s'
  | .gen g Γ p k :: κ,e,s=>e.quiet=true∧∃ e' s',Runs M Γ p (k e.result) [] (s.setGen g e.genState) e' s'∧Pst M Φ κ e' s'
noncomputable def Cur (M:Model) (Φ:Result→Shared→Prop) (κ:List Fm) (Γ:Ctx) (p:Pos) (t:Sem Fin) (s:Shared):Prop :=
  ∃ e s',Runs M Γ p t [] s e s'∧Pst M Φ κ e s'
noncomputable def Fm.ctx:Fm→Ctx
  | .ret Γ _ _ _=>Γ
  | .gen _ Γ _ _=>Γ
noncomputable def Bot (Γ₀:Ctx):List Fm→Ctx→Prop
  | [],Γ=>∀ c,Γ.goto c=Γ₀.goto c
  | fm :: κ,_=>Bot Γ₀ κ fm.ctx

structure dr (V:Vw) (A:List Addr) (s₀:Shared) (X:ax) (T:BT) (B:List (Nat×Addr)) (m tb i:Nat) (ch:Ch) (gl:List GenState) (s:Shared):Prop where
  base:∀ a o,V.kt.get a=some o→chLook ch a=none→s.heap.get? a=some o
  tab:∀ a vs,chLook ch a=some vs→a < V.n₁∧s.heap.get? a=some (tableObj vs)
  olds:∀ x∈X,s.heap.get? x.1=some x.2
  news:∀ j o,T.get j=some o→j < m∧s.heap.get? (cU B j)=some o
  nd:(X.map (·.1)++(List.range m).map (cU B)).Nodup
  hi:∀ a∈X.map (·.1)++(List.range m).map (cU B),V.n₁≤a∧a < s.heap.objs.size
  size:s.heap.objs.size=cU B m
  top:∃ m₀ b B',B=(m₀,b) :: B'∧m₀≤m
  lo:V.n₁≤s.heap.objs.size
  toks:s.toks=tb+i
  gens:s.gens=⟨gl⟩
  fr:Fr A ch s₀ s
  xa:∀ x∈X,x.1∈A∨s₀.heap.objs.size≤x.1
  na:∀ j,j < m→s₀.heap.objs.size≤cU B j
section

theorem je {m b:Nat} {B:List (Nat×Addr)} {j:Nat} (h:j < m):cU ((m,b) :: B) j=cU B j:=by
  have q:Nat.ble m j=false:=by
    cases e:Nat.ble m j with
    | false=>rfl
    | true=>exact absurd (Nat.le_of_ble_eq_true e) (Nat.not_le.mpr h)
  show (match Nat.ble m j with | true=>b+(j - m) | false=>cU B j)=_
  rw [q]
theorem fp {m b:Nat} {B:List (Nat×Addr)} {j:Nat} (h:m≤j):cU ((m,b) :: B) j=b+(j - m):=by
  show (match Nat.ble m j with | true=>b+(j - m) | false=>cU B j)=_
  rw [Nat.ble_eq_true_of_le h]

theorem ft (X:ax):∀ (j:Nat) (o:Obj),(c6 X j o).map (·.1)=X.map (·.1):=by
  induction X with
  | nil=>intros;rfl
  | cons x l ih =>
    intro j o
    cases j with
    | zero=>rfl
    | succ n=>simp only [c6,List.map_cons,ih]
theorem f8:∀ {X:ax} {j:Nat} {o:Obj} {y:Addr×Obj} {x:Addr×Obj},X[j]?=some y→x∈c6 X j o→x=(y.1,o)∨∃ i,i≠j∧X[i]?=some x
  | [],_,_,_,_,h,_=>by cases h
  | z :: l,0,o,y,x,h,hx=>by
    simp only [List.getElem?_cons_zero,Option.some.injEq] at h
    subst h
    simp only [c6,List.mem_cons] at hx
    rcases hx with rfl | hx
    · exact .inl rfl
    · obtain ⟨i,hi⟩:=List.mem_iff_getElem?.mp hx
      exact .inr ⟨i+1,by omega,by simpa using hi⟩
  | z :: l,j+1,o,y,x,h,hx=>by
    simp only [List.getElem?_cons_succ] at h
    simp only [c6,List.mem_cons] at hx
    rcases hx with rfl | hx
    · exact .inr ⟨0,by omega,by simp⟩
    · rcases f8 h hx with q | ⟨i,hi,hx⟩
      · exact .inl q
      · exact .inr ⟨i+1,by omega,by simpa using hx⟩
theorem eO {α:Type} {l r:List α} (h:(l++r).Nodup):l.Nodup:=(List.nodup_append.mp h).1
theorem g7 {X:ax} (h:(X.map (·.1)).Nodup) {i j:Nat} {x y:Addr×Obj} (hi:X[i]?=some x) (hj:X[j]?=some y) (ne:i≠j):x.1≠y.1:=by
  intro e
  apply ne
  have hi':(X.map (·.1))[i]?=some x.1:=by rw [List.getElem?_map,hi];rfl
  have hj':(X.map (·.1))[j]?=some x.1:=by rw [List.getElem?_map,hj,e];rfl
  have li:i < (X.map (·.1)).length:=(List.getElem?_eq_some_iff.mp hi').1
  exact (List.getElem?_inj li h).mp (hi'.trans hj'.symm)

section
variable {V:Vw} {A:List Addr} {s₀ s:Shared} {X:ax} {T:BT} {B:List (Nat×Addr)} {m tb i:Nat} {ch:Ch} {gl:List GenState}

theorem dr.low (R:dr V A s₀ X T B m tb i ch gl s) {a:Addr} (ha:V.n₁≤a):chLook ch a=none:=by
  cases h:chLook ch a with
  | none=>rfl
  | some vs=>exact absurd (R.tab a vs h).1 (Nat.not_lt.mpr ha)
theorem dr.ox (R:dr V A s₀ X T B m tb i ch gl s) {j:Nat} {y:Addr×Obj} (h:X[j]?=some y):s.heap.get? y.1=some y.2:=R.olds y (List.mem_of_getElem? h)
theorem dr.xhi (R:dr V A s₀ X T B m tb i ch gl s) {y:Addr×Obj} (h:y∈X):V.n₁≤y.1∧y.1 < s.heap.objs.size:=R.hi _ (List.mem_append_left _ (List.mem_map_of_mem h))
theorem dr.nhi (R:dr V A s₀ X T B m tb i ch gl s) {j:Nat} (h:j < m):V.n₁≤cU B j∧cU B j < s.heap.objs.size:=R.hi _ (List.mem_append_right _ (List.mem_map_of_mem (List.mem_range.mpr h)))
theorem dr.xn (R:dr V A s₀ X T B m tb i ch gl s) {y:Addr×Obj} (h:y∈X) {j:Nat} (hj:j < m):y.1≠cU B j:=by
  have:=(List.nodup_append.mp R.nd).2.2 y.1 (List.mem_map_of_mem h) (cU B j) (List.mem_map_of_mem (List.mem_range.mpr hj))
  exact this
theorem dr.nn (R:dr V A s₀ X T B m tb i ch gl s) {j k:Nat} (hj:j < m) (hk:k < m) (ne:j≠k):cU B j≠cU B k:=by
  intro e
  have h:=(List.nodup_append.mp R.nd).2.1
  have hi':((List.range m).map (cU B))[j]?=some (cU B j):=by simp [hj]
  have hj':((List.range m).map (cU B))[k]?=some (cU B j):=by simp [hk,e]
  exact ne ((List.getElem?_inj (List.getElem?_eq_some_iff.mp hi').1 h).mp (hi'.trans hj'.symm))

theorem dr.tok (R:dr V A s₀ X T B m tb i ch gl s):dr V A s₀ X T B m tb (i+1) ch gl { s with toks:=s.toks+1 } :=
  { R with toks:=by show s.toks+1=_;rw [R.toks,Nat.add_assoc],fr:={ R.fr with toks:=Nat.le_succ_of_le R.fr.toks } }
theorem dr.gen (R:dr V A s₀ X T B m tb i ch gl s) (g:Nat) (x:GenState):dr V A s₀ X T B m tb i ch (gl.set g x) (s.setGen g x) :=
  { R with gens:=by show s.gens.setIfInBounds g x=_;rw [R.gens];simp,fr:={ R.fr with } }
theorem dr.genPush (R:dr V A s₀ X T B m tb i ch gl s) (x:GenState):dr V A s₀ X T B m tb i ch (gl++[x]) { s with gens:=s.gens.push x } :=
  { R with gens:=by show s.gens.push x=_;rw [R.gens];simp,fr:={ R.fr with } }

theorem dr.alloc (R:dr V A s₀ X T B m tb i ch gl s) {o:Obj} (hf:o.isFreed=false) (hg:((T.ins m o).get m).isSome=true) :
    dr V A s₀ X (T.ins m o) B (m+1) tb i ch gl { s with heap:=s.heap.push o }:=by
  have hsz:(s.heap.push o).objs.size=s.heap.objs.size+1:=Heap.size_push ..
  have hnew:(s.heap.push o).get? (cU B m)=some o:=by rw [← R.size];exact Heap.get?_push_size _ hf
  obtain ⟨m₀,b,B',rfl,hm⟩:=R.top
  refine ⟨fun a o' e q=>Heap.get?_push_of_some _ (R.base a o' e q),fun a vs e=>⟨(R.tab a vs e).1,Heap.get?_push_of_some _ (R.tab a vs e).2⟩,fun x hx=>Heap.get?_push_of_some _ (R.olds x hx),fun j o' e=>?_,?_,fun a ha=>?_,?_,⟨m₀,b,B',rfl,Nat.le_succ_of_le hm⟩,?_,R.toks,R.gens,?_,R.xa,fun j hj=>?_⟩
  · rw [BT.get_ins o T m hg] at e
    by_cases hj:j=m
    · subst hj
      rw [if_pos rfl] at e
      cases e
      exact ⟨Nat.lt_succ_self _,hnew⟩
    · rw [if_neg hj] at e
      have:=R.news j o' e
      exact ⟨Nat.lt_succ_of_lt this.1,Heap.get?_push_of_some _ this.2⟩
  · rw [List.range_succ,List.map_append,← List.append_assoc]
    refine List.nodup_append.mpr ⟨R.nd,by simp,fun a ha c hc=>?_⟩
    simp only [List.map_cons,List.map_nil,List.mem_singleton] at hc
    subst hc
    have:=(R.hi a ha).2
    rw [R.size] at this
    exact Nat.ne_of_lt this
  · rw [List.range_succ,List.map_append,← List.append_assoc] at ha
    rw [hsz]
    rcases List.mem_append.mp ha with ha | ha
    · exact ⟨(R.hi a ha).1,Nat.lt_succ_of_lt (R.hi a ha).2⟩
    · simp only [List.map_cons,List.map_nil,List.mem_singleton] at ha
      subst ha
      rw [← R.size]
      exact ⟨R.lo,Nat.lt_succ_self _⟩
  · show (s.heap.push o).objs.size=_
    rw [hsz,R.size,fp hm,fp (Nat.le_succ_of_le hm)]
    omega
  · show V.n₁≤(s.heap.push o).objs.size
    rw [hsz];exact Nat.le_succ_of_le R.lo
  · exact ⟨fun a o' e q1 q2=>Heap.get?_push_of_some _ (R.fr.keep a o' e q1 q2),by show _≤(s.heap.push o).objs.size;rw [hsz];exact Nat.le_succ_of_le R.fr.size,R.fr.toks,R.fr.os,R.fr.drawn⟩
  · by_cases h:j=m
    · subst h;rw [← R.size];exact R.fr.size
    · exact R.na j (by omega)

theorem bc {h:Heap} {a b:Addr} {f:Obj→Obj} (ne:b≠a):(h.update a f).get? b=h.get? b:=Heap.get?_update_ne _ _ _ _ ne
theorem du {h:Heap} {a:Addr} {f:Obj→Obj} {o:Obj} (ho:h.get? a=some o) (hf:(f o).isFreed=false):(h.update a f).get? a=some (f o):=by
  first | exact Heap.get?_update_self f ho hf | exact Heap.get?_update_self _ ho hf
theorem e9 (h:Heap) (a:Addr) (f:Obj→Obj):(h.update a f).objs.size=h.objs.size:=(show Heap.SameBut a h (h.update a f) from Heap.SameBut.update ..).1

theorem dr.updO (hk:∀ a o,V.kt.get a=some o→a < V.n₁) (R:dr V A s₀ X T B m tb i ch gl s) {j:Nat} {y:Addr×Obj} (hy:X[j]?=some y) {f:Obj→Obj} (hf:(f y.2).isFreed=false) :
    dr V A s₀ (c6 X j (f y.2)) T B m tb i ch gl { s with heap:=s.heap.update y.1 f }:=by
  have hm:=List.mem_of_getElem? hy
  have h1:=R.xhi hm
  have ho:=R.ox hy
  have sz:({ s with heap:=s.heap.update y.1 f }:Shared).heap.objs.size=s.heap.objs.size:=e9 ..
  refine ⟨fun a o e q=>(bc (Nat.ne_of_lt (Nat.lt_of_lt_of_le (hk a o e) h1.1))).trans (R.base a o e q),fun a vs e=>⟨(R.tab a vs e).1,(bc (Nat.ne_of_lt (Nat.lt_of_lt_of_le (R.tab a vs e).1 h1.1))).trans (R.tab a vs e).2⟩,fun x hx=>?_,fun k o e=>?_,by rw [ft];exact R.nd,by rw [ft,sz];exact R.hi,sz.trans R.size,R.top,by rw [sz];exact R.lo,R.toks,R.gens,?_,fun x hx=>?_,R.na⟩
  · rcases f8 hy hx with rfl | ⟨k,hk,hx⟩
    · exact du ho hf
    · exact (bc (g7 (eO R.nd) hx hy hk)).trans (R.ox hx)
  · have:=R.news k o e
    exact ⟨this.1,(bc (R.xn hm this.1).symm).trans this.2⟩
  · refine ⟨fun a o e q1 q2=>(bc ?_).trans (R.fr.keep a o e q1 q2),by rw [sz];exact R.fr.size,R.fr.toks,R.fr.os,R.fr.drawn⟩
    rintro rfl
    rcases R.xa y hm with q | q
    · exact q1 q
    · exact absurd (Heap.lt_size e) (Nat.not_lt.mpr q)
  · have:x.1∈(c6 X j (f y.2)).map (·.1):=List.mem_map_of_mem hx
    rw [ft] at this
    obtain ⟨z,hz,e⟩:=List.mem_map.mp this
    rw [← e];exact R.xa z hz
theorem dr.updN (hk:∀ a o,V.kt.get a=some o→a < V.n₁) (R:dr V A s₀ X T B m tb i ch gl s) {j:Nat} {o:Obj} (hy:T.get j=some o) {f:Obj→Obj} (hf:(f o).isFreed=false) :
    dr V A s₀ X (T.set j f) B m tb i ch gl { s with heap:=s.heap.update (cU B j) f }:=by
  have hm:=R.news j o hy
  have h1:=R.nhi hm.1
  have sz:({ s with heap:=s.heap.update (cU B j) f }:Shared).heap.objs.size=s.heap.objs.size:=e9 ..
  refine ⟨fun a o e q=>(bc (Nat.ne_of_lt (Nat.lt_of_lt_of_le (hk a o e) h1.1))).trans (R.base a o e q),fun a vs e=>⟨(R.tab a vs e).1,(bc (Nat.ne_of_lt (Nat.lt_of_lt_of_le (R.tab a vs e).1 h1.1))).trans (R.tab a vs e).2⟩,fun x hx=>(bc (R.xn hx hm.1)).trans (R.olds x hx),fun k o' e=>?_,R.nd,by rw [sz];exact R.hi,sz.trans R.size,R.top,by rw [sz];exact R.lo,R.toks,R.gens,?_,R.xa,R.na⟩
  · rw [BT.get_set] at e
    by_cases hj:k=j
    · subst hj
      rw [if_pos rfl,hy] at e
      cases e
      exact ⟨hm.1,du hm.2 hf⟩
    · rw [if_neg hj] at e
      have:=R.news k o' e
      exact ⟨this.1,(bc (R.nn this.1 hm.1 hj)).trans this.2⟩
  · refine ⟨fun a o' e q1 q2=>(bc ?_).trans (R.fr.keep a o' e q1 q2),by rw [sz];exact R.fr.size,R.fr.toks,R.fr.os,R.fr.drawn⟩
    rintro rfl
    exact absurd (Heap.lt_size e) (Nat.not_lt.mpr (R.na j hm.1))
theorem dr.updT (hk:∀ a o,V.kt.get a=some o→a < V.n₁) (R:dr V A s₀ X T B m tb i ch gl s) {a:Addr} {vs vs':Array Value} (hn:jp V.kt ch a=some vs) {f:Obj→Obj} (hf:f (tableObj vs)=tableObj vs') :
    s.heap.get? a=some (tableObj vs)∧dr V A s₀ X T B m tb i (chPut ch a vs') gl { s with heap:=s.heap.update a f }:=by
  have key:a < V.n₁∧s.heap.get? a=some (tableObj vs):=by
    unfold jp at hn
    cases c:chLook ch a with
    | some x=>rw [c] at hn;cases hn;exact R.tab a _ c
    | none =>
      rw [c] at hn
      cases k:V.kt.get a with
      | none=>rw [k] at hn;cases hn
      | some o =>
        rw [k] at hn
        have e:o=tableObj vs:=tabOf_eq hn
        subst e
        exact ⟨hk a _ k,R.base a _ k c⟩
  refine ⟨key.2,?_⟩
  have hfr:(f (tableObj vs)).isFreed=false:=by rw [hf];rfl
  have self:(s.heap.update a f).get? a=some (tableObj vs'):=by rw [du key.2 hfr,hf]
  have sz:({ s with heap:=s.heap.update a f }:Shared).heap.objs.size=s.heap.objs.size:=e9 ..
  refine ⟨fun c o e q=>?_,fun c us e=>?_,fun x hx=>(bc (Nat.ne_of_gt (Nat.lt_of_lt_of_le key.1 (R.xhi hx).1))).trans (R.olds x hx),fun k o e=>?_,R.nd,by rw [sz];exact R.hi,sz.trans R.size,R.top,by rw [sz];exact R.lo,R.toks,R.gens,?_,R.xa,R.na⟩
  · rw [chPut_look] at q
    by_cases h:a=c
    · rw [if_pos h] at q;cases q
    · rw [if_neg h] at q
      exact (bc (Ne.symm h)).trans (R.base c o e q)
  · rw [chPut_look] at e
    by_cases h:a=c
    · rw [if_pos h] at e;cases e;subst h;exact ⟨key.1,self⟩
    · rw [if_neg h] at e
      exact ⟨(R.tab c us e).1,(bc (Ne.symm h)).trans (R.tab c us e).2⟩
  · have:=R.news k o e
    exact ⟨this.1,(bc (Nat.ne_of_gt (Nat.lt_of_lt_of_le key.1 (R.nhi this.1).1))).trans this.2⟩
  · refine ⟨fun c o e q1 q2=>?_,by rw [sz];exact R.fr.size,R.fr.toks,R.fr.os,R.fr.drawn⟩
    rw [chPut_look] at q2
    by_cases h:a=c
    · rw [if_pos h] at q2;cases q2
    · rw [if_neg h] at q2
      exact (bc (Ne.symm h)).trans (R.fr.keep c o e q1 q2)

noncomputable def jX (XA:List Addr) (B:List (Nat×Addr)) (c:Nat):Addr:=match Nat.beq (c % 2) 0 with
  | true=>XA.getD (c / 2) 0
  | false=>cU B (c / 2)
theorem c2 {c:Nat} {x:Addr×Obj} (h:fy X T B c=some x):x.1=jX (X.map (·.1)) B c∧((c % 2=0∧X[c / 2]?=some x)∨(c % 2=1∧T.get (c / 2)=some x.2∧x.1=cU B (c / 2))):=by
  unfold fy at h
  unfold jX
  cases q:Nat.beq (c % 2) 0 with
  | true =>
    rw [q] at h
    have hc:c % 2=0:=Nat.eq_of_beq_eq_true q
    have h:X[c / 2]?=some x:=h
    refine ⟨?_,.inl ⟨hc,h⟩⟩
    show x.1=(X.map (·.1)).getD (c / 2) 0
    rw [List.getD_eq_getElem?_getD,List.getElem?_map,h];rfl
  | false =>
    rw [q] at h
    have hc:c % 2=1:=by have:=Nat.ne_of_beq_eq_false q;omega
    cases e:T.get (c / 2) with
    | none=>rw [e] at h;cases h
    | some o =>
      rw [e] at h
      cases h
      exact ⟨rfl,.inr ⟨hc,rfl,rfl⟩⟩
theorem dm:∀ {l:List Nat} {pre:ax},cM X T B l=some pre→pre.map (·.1)=l.map (jX (X.map (·.1)) B)∧∀ x∈pre,∃ c∈l,fy X T B c=some x
  | [],pre,h=>by cases h;exact ⟨rfl,fun x hx=>by cases hx⟩
  | c :: l,pre,h=>by
    unfold cM at h
    cases e:fy X T B c with
    | none=>rw [e] at h;cases h
    | some x =>
      rw [e] at h
      cases e':cM X T B l with
      | none=>rw [e'] at h;cases h
      | some r =>
        rw [e'] at h
        cases h
        obtain ⟨h1,h2⟩:=dm e'
        refine ⟨by simp only [List.map_cons,h1,(c2 e).1],fun y hy=>?_⟩
        rcases List.mem_cons.mp hy with rfl | hy
        · exact ⟨c,.head _,e⟩
        · obtain ⟨d,hd,q⟩:=h2 y hy
          exact ⟨d,.tail _ hd,q⟩
theorem kc (R:dr V A s₀ X T B m tb i ch gl s) {c:Nat} {x:Addr×Obj} (h:fy X T B c=some x):s.heap.get? x.1=some x.2∧V.n₁≤x.1∧x.1 < s.heap.objs.size:=by
  obtain ⟨_,⟨_,hx⟩ | ⟨_,hx,e⟩⟩:=c2 h
  · exact ⟨R.ox hx,R.xhi (List.mem_of_getElem? hx)⟩
  · have:=R.news _ _ hx
    rw [e];exact ⟨this.2,R.nhi this.1⟩
theorem pick_ne (R:dr V A s₀ X T B m tb i ch gl s) {c d:Nat} {x y:Addr×Obj} (h:fy X T B c=some x) (h':fy X T B d=some y) (ne:c≠d):x.1≠y.1:=by
  obtain ⟨_,⟨c0,hx⟩ | ⟨c1,hx,e⟩⟩:=c2 h <;> obtain ⟨_,⟨d0,hy⟩ | ⟨d1,hy,e'⟩⟩:=c2 h'
  · exact g7 (eO R.nd) hx hy (by omega)
  · rw [e'];exact R.xn (List.mem_of_getElem? hx) (R.news _ _ hy).1
  · rw [e];exact (R.xn (List.mem_of_getElem? hy) (R.news _ _ hx).1).symm
  · rw [e,e'];exact R.nn (R.news _ _ hx).1 (R.news _ _ hy).1 (by omega)
theorem gz (R:dr V A s₀ X T B m tb i ch gl s):∀ {l:List Nat} {pre:ax},cM X T B l=some pre→l.Nodup→(pre.map (·.1)).Nodup
  | [],pre,h,_=>by cases h;exact List.nodup_nil
  | c :: l,pre,h,hn=>by
    unfold cM at h
    cases e:fy X T B c with
    | none=>rw [e] at h;cases h
    | some x =>
      rw [e] at h
      cases e':cM X T B l with
      | none=>rw [e'] at h;cases h
      | some r =>
        rw [e'] at h
        cases h
        obtain ⟨hc,hl⟩:=List.nodup_cons.mp hn
        rw [List.map_cons]
        refine List.nodup_cons.mpr ⟨fun hm=>?_,gz R e' hl⟩
        obtain ⟨y,hy,q⟩:=List.mem_map.mp hm
        obtain ⟨d,hd,hp⟩:=(dm e').2 y hy
        exact pick_ne R e hp (by rintro rfl;exact hc hd) q.symm

theorem dr.at (R:dr V A s₀ X T B m tb i ch gl s) {l:List Nat} {pre:ax} (h:cM X T B l=some pre) (hn:l.Nodup):At V pre (cU B m) (tb+i) ch gl s :=
  ⟨R.base,R.tab,fun x hx=>by obtain ⟨c,_,hc⟩:=(dm h).2 x hx;exact (kc R hc).1,gz R h hn,
    fun x hx=>by obtain ⟨c,_,hc⟩:=(dm h).2 x hx;rw [← R.size];exact (kc R hc).2,R.size,R.toks,R.gens,by rw [← R.size];exact R.lo⟩

theorem im:∀ {X:ax} {j k:Nat} {o:Obj},(c6 X j o)[k]?=if k=j then (X[k]?).map (fun x=>(x.1,o)) else X[k]?
  | [],j,k,o=>by simp [c6]
  | x :: l,0,k,o=>by
    cases k with
    | zero=>simp [c6]
    | succ k=>simp [c6]
  | x :: l,j+1,k,o=>by
    cases k with
    | zero=>simp [c6]
    | succ k=>simp only [c6,List.getElem?_cons_succ,im,Nat.add_right_cancel_iff]

structure Known (P:Addr→Obj→Prop) (rem:List Addr) (X:ax) (T:BT) (B:List (Nat×Addr)):Prop where
  xs:∀ x∈X,x.1∉rem→P x.1 x.2
  ts:∀ j o,T.get j=some o→cU B j∉rem→P (cU B j) o
theorem fH {P:Addr→Obj→Prop}:∀ {req:List Nat} {os:List Obj} {X:ax} {T:BT} {m:Nat},
    (∀ j o,T.get j=some o→j < m)→(X.map (·.1)++(List.range m).map (cU B)).Nodup→(∀ c∈req,∃ x,fy X T B c=some x)→os.length=req.length →
    (∀ z∈List.zip (req.map (jX (X.map (·.1)) B)) os,P z.1 z.2)→Known P (req.map (jX (X.map (·.1)) B)) X T B→req.Nodup →
    Known P [] (dG X T req os).1 (dG X T req os).2 B∧(dG X T req os).1.map (·.1)=X.map (·.1)∧∀ j o,(dG X T req os).2.get j=some o→j < m
  | [],os,X,T,m,ht,_,_,_,_,K,_=>by
    have e:dG X T [] os=(X,T):=by simp only [dG]
    rw [e]
    exact ⟨K,rfl,ht⟩
  | c :: l,[],X,T,m,_,_,_,hl,_,_,_=>by simp at hl
  | c :: l,o :: os,X,T,m,ht,nd,hp,hl,hz,K,hn=>by
    obtain ⟨hc,hnl⟩:=List.nodup_cons.mp hn
    obtain ⟨x,hx⟩:=hp c (.head _)
    obtain ⟨hxa,hxx⟩:=c2 hx
    have hPc:P (jX (X.map (·.1)) B c) o:=hz (jX (X.map (·.1)) B c,o) (by simp)
    simp only [List.length_cons,Nat.add_right_cancel_iff] at hl
    have xnd:=eO nd
    have nnd:=(List.nodup_append.mp nd).2.1
    have xn:∀ y∈X,∀ j,j < m→y.1≠cU B j:=fun y hy j hj=>(List.nodup_append.mp nd).2.2 y.1 (List.mem_map_of_mem hy) (cU B j) (List.mem_map_of_mem (List.mem_range.mpr hj))
    have nn:∀ j k,j < m→k < m→j≠k→cU B j≠cU B k:=fun j k hj hk ne e=>by
      have hi':((List.range m).map (cU B))[j]?=some (cU B j):=by simp [hj]
      have hj':((List.range m).map (cU B))[k]?=some (cU B j):=by simp [hk,e]
      exact ne ((List.getElem?_inj (List.getElem?_eq_some_iff.mp hi').1 nnd).mp (hi'.trans hj'.symm))
    rcases hxx with ⟨c0,hX⟩ | ⟨c1,hT,ea⟩
    · have q:Nat.beq (c % 2) 0=true:=by rw [c0];rfl
      have e:dG X T (c :: l) (o :: os)=dG (c6 X (c / 2) o) T l os:=by simp only [dG,q]
      rw [e]
      have em:(c6 X (c / 2) o).map (·.1)=X.map (·.1):=ft ..
      have r:=fH (P:=P) (req:=l) (os:=os) (X:=c6 X (c / 2) o) (T:=T) (m:=m) ht (by rw [em];exact nd) (fun d hd=>?_) hl (by rw [em];exact fun z hz'=>hz z (by simp only [List.map_cons,List.zip_cons_cons];exact .tail _ hz')) ?_ hnl
      · rw [em] at r;exact r
      · obtain ⟨y,hy⟩:=hp d (.tail _ hd)
        obtain ⟨_,⟨d0,hY⟩ | ⟨d1,hY,e'⟩⟩:=c2 hy
        · have q':Nat.beq (d % 2) 0=true:=by rw [d0];rfl
          have ne:d / 2≠c / 2:=by intro h;exact hc (by rw [show c=d by omega];exact hd)
          exact ⟨y,by simp only [fy,q',im,if_neg ne,hY]⟩
        · have q':Nat.beq (d % 2) 0=false:=by rw [d1];rfl
          exact ⟨y,by simp only [fy,q',hY];rw [← e']⟩
      · rw [em]
        refine ⟨fun y hy hr=>?_,fun j o' h hr=>K.ts j o' h ?_⟩
        · rcases f8 hX hy with rfl | ⟨k,hk,hy⟩
          · show P x.1 o
            rw [hxa];exact hPc
          · refine K.xs y (List.mem_of_getElem? hy) ?_
            rw [List.map_cons,List.mem_cons,not_or]
            refine ⟨?_,hr⟩
            rw [← hxa]
            exact g7 xnd hy hX hk
        · rw [List.map_cons,List.mem_cons,not_or]
          refine ⟨?_,hr⟩
          rw [← hxa]
          exact (xn x (List.mem_of_getElem? hX) j (ht j o' h)).symm
    · have q:Nat.beq (c % 2) 0=false:=by rw [c1];rfl
      have e:dG X T (c :: l) (o :: os)=dG X (T.set (c / 2) fun _=>o) l os:=by simp only [dG,q]
      rw [e]
      have ht':∀ j o',(T.set (c / 2) fun _=>o).get j=some o'→j < m:=fun j o' h=>by
        rw [BT.get_set] at h
        by_cases hj:j=c / 2
        · rw [hj];exact ht _ _ hT
        · rw [if_neg hj] at h;exact ht _ _ h
      refine fH (P:=P) (req:=l) (os:=os) (X:=X) (T:=T.set (c / 2) fun _=>o) (m:=m) ht' nd (fun d hd=>?_) hl (fun z hz'=>hz z (by simp only [List.map_cons,List.zip_cons_cons];exact .tail _ hz')) ?_ hnl
      · obtain ⟨y,hy⟩:=hp d (.tail _ hd)
        obtain ⟨_,⟨d0,hY⟩ | ⟨d1,hY,e'⟩⟩:=c2 hy
        · have q':Nat.beq (d % 2) 0=true:=by rw [d0];rfl
          exact ⟨y,by simp only [fy,q',hY]⟩
        · have q':Nat.beq (d % 2) 0=false:=by rw [d1];rfl
          have ne:d / 2≠c / 2:=by intro h;exact hc (by rw [show c=d by omega];exact hd)
          exact ⟨y,by simp only [fy,q',BT.get_set,if_neg ne,hY];rw [← e']⟩
      · refine ⟨fun y hy hr=>K.xs y hy ?_,fun j o' h hr=>?_⟩
        · rw [List.map_cons,List.mem_cons,not_or]
          refine ⟨?_,hr⟩
          rw [← hxa,ea]
          exact xn y hy _ (ht _ _ hT)
        · rw [BT.get_set] at h
          by_cases hj:j=c / 2
          · subst hj
            rw [if_pos rfl,hT] at h
            cases h
            rw [← ea,hxa];exact hPc
          · rw [if_neg hj] at h
            refine K.ts j o' h ?_
            rw [List.map_cons,List.mem_cons,not_or]
            refine ⟨?_,hr⟩
            rw [← hxa,ea]
            exact nn _ _ (ht _ _ h) (ht _ _ hT) hj

theorem iq:∀ {l:List Nat} {pre:ax},cM X T B l=some pre→∀ c∈l,∃ x,fy X T B c=some x
  | [],_,_,c,hc=>by cases hc
  | d :: l,pre,h,c,hc=>by
    unfold cM at h
    cases e:fy X T B d with
    | none=>rw [e] at h;cases h
    | some x =>
      rw [e] at h
      cases e':cM X T B l with
      | none=>rw [e'] at h;cases h
      | some r =>
        rcases List.mem_cons.mp hc with rfl | hm
        · exact ⟨x,e⟩
        · exact iq e' c hm
theorem gu:∀ (pre:ax) (os:List Obj),List.zipWith (fun (x:Addr×Obj) o=>(x.1,o)) pre os=List.zip (pre.map (·.1)) os
  | [],os=>by simp
  | x :: pre,[]=>by simp
  | x :: pre,o :: os=>by simp only [List.zipWith_cons_cons,List.map_cons,List.zip_cons_cons,gu pre os]

theorem dr.hook (R:dr V A s₀ X T B m tb i ch gl s) {h:Hk} {pre:ax} (hp:cM X T B h.req=some pre) (hn:h.req.Nodup) {ys:Ys} {b' t':Nat} {s':Shared}
    (hl:(h.objs pre ys).length=pre.length)
    (H:At V (List.zipWith (fun x o=>(x.1,o)) pre (h.objs pre ys)++h.adds pre ys) b' t' (ba ch (h.tabs pre ys)) (db gl h.gn) s')
    (F:Fr (pre.map (·.1)) (ba ch (h.tabs pre ys)) s s') (hc:ig ch (ba ch (h.tabs pre ys))) (ha:∀ x∈h.adds pre ys,cU B m≤x.1) :
    dr V A s₀ ((dG X T h.req (h.objs pre ys)).1++h.adds pre ys) (dG X T h.req (h.objs pre ys)).2 ((m,b') :: B) m t' 0 (ba ch (h.tabs pre ys)) (db gl h.gn) s':=by
  have e1:=(dm hp).1
  have lowT:∀ a,V.n₁≤a→chLook (ba ch (h.tabs pre ys)) a=none:=fun a q=>by
    cases c:chLook (ba ch (h.tabs pre ys)) a with
    | none=>rfl
    | some vs=>exact absurd (H.tab a vs c).1 (Nat.not_lt.mpr q)
  have hlen:(h.objs pre ys).length=h.req.length:=by
    rw [hl]
    have:=congrArg List.length e1
    simpa using this
  obtain ⟨K,em,ht⟩:=fH (P:=fun a o=>s'.heap.get? a=some o) (req:=h.req) (os:=h.objs pre ys) (X:=X) (T:=T) (B:=B) (m:=m) (fun j o e=>(R.news j o e).1) R.nd
    (iq hp) hlen
    (fun z hz=>by
      rw [← e1,← gu] at hz
      exact H.olds z (List.mem_append_left _ hz))
    ⟨fun x hx hr=>F.keep _ _ (R.olds x hx) (by rw [e1];exact hr) (lowT _ (R.xhi hx).1),fun j o e hr=>F.keep _ _ (R.news j o e).2 (by rw [e1];exact hr) (lowT _ (R.nhi (R.news j o e).1).1)⟩ hn
  have hsz:s'.heap.objs.size=b':=H.size
  have adj:∀ j,j < m→cU ((m,b') :: B) j=cU B j:=fun j hj=>je hj
  have emap:(List.range m).map (cU ((m,b') :: B))=(List.range m).map (cU B):=List.map_congr_left fun j hj=>adj j (List.mem_range.mp hj)
  have hadd:∀ x∈h.adds pre ys,s.heap.objs.size≤x.1:=fun x hx=>by rw [R.size];exact ha x hx
  refine ⟨H.base,H.tab,fun x hx=>?_,fun j o e=>⟨ht j o e,by rw [adj j (ht j o e)];exact K.ts j o e (by simp)⟩,?_,fun a ha'=>?_,by rw [hsz,fp (Nat.le_refl m)];omega,⟨m,b',B,rfl,Nat.le_refl m⟩,by rw [hsz];exact H.lo,by rw [H.toks];rfl,H.gens,⟨fun a o e q1 q2=>?_,Nat.le_trans R.fr.size F.size,Nat.le_trans R.fr.toks F.toks,F.os.trans R.fr.os,F.drawn.trans R.fr.drawn⟩,fun x hx=>?_,fun j hj=>by rw [adj j hj];exact R.na j hj⟩
  · rcases List.mem_append.mp hx with hx | hx
    · exact K.xs x hx (by simp)
    · exact H.olds x (List.mem_append_right _ hx)
  · rw [emap,List.map_append,em]
    have ndA:((h.adds pre ys).map (·.1)).Nodup:=by
      have:=H.nd
      rw [List.map_append] at this
      exact (List.nodup_append.mp this).2.1
    have big:∀ a∈X.map (·.1)++(List.range m).map (cU B),∀ c∈(h.adds pre ys).map (·.1),a≠c:=fun a ha' c hc' e=>by
      obtain ⟨x,hx,rfl⟩:=List.mem_map.mp hc'
      exact Nat.lt_irrefl _ (Nat.lt_of_lt_of_le (R.hi a ha').2 (e ▸ hadd x hx))
    refine List.nodup_append.mpr ⟨List.nodup_append.mpr ⟨eO R.nd,ndA,fun a ha' c hc'=>big a (List.mem_append_left _ ha') c hc'⟩,(List.nodup_append.mp R.nd).2.1,fun a ha' c hc'=>?_⟩
    rcases List.mem_append.mp ha' with ha' | ha'
    · exact (List.nodup_append.mp R.nd).2.2 a ha' c hc'
    · exact (big c (List.mem_append_right _ hc') a ha').symm
  · rw [emap,List.map_append,em] at ha'
    have old:a∈X.map (·.1)++(List.range m).map (cU B)→V.n₁≤a∧a < s'.heap.objs.size:=fun q=>⟨(R.hi a q).1,Nat.lt_of_lt_of_le (R.hi a q).2 F.size⟩
    rcases List.mem_append.mp ha' with q | q
    · rcases List.mem_append.mp q with q | q
      · exact old (List.mem_append_left _ q)
      · obtain ⟨x,hx,rfl⟩:=List.mem_map.mp q
        have:=H.hi x (List.mem_append_right _ hx)
        rw [hsz];exact this
    · exact old (List.mem_append_right _ q)
  · have q3:=hc a q2
    refine F.keep a o (R.fr.keep a o e q1 q3) (fun hm=>?_) q2
    obtain ⟨x,hx,rfl⟩:=List.mem_map.mp hm
    obtain ⟨c,_,hc'⟩:=(dm hp).2 x hx
    have lt:=Heap.lt_size e
    obtain ⟨_,⟨_,hX⟩ | ⟨_,hT,ea⟩⟩:=c2 hc'
    · rcases R.xa x (List.mem_of_getElem? hX) with z | z
      · exact q1 z
      · exact Nat.lt_irrefl _ (Nat.lt_of_lt_of_le lt z)
    · have:=R.na _ (R.news _ _ hT).1
      rw [← ea] at this
      exact Nat.lt_irrefl _ (Nat.lt_of_lt_of_le lt this)
  · rcases List.mem_append.mp hx with hx | hx
    · have:x.1∈(dG X T h.req (h.objs pre ys)).1.map (·.1):=List.mem_map_of_mem hx
      rw [em] at this
      obtain ⟨z,hz,e⟩:=List.mem_map.mp this
      rw [← e];exact R.xa z hz
    · exact .inr (Nat.le_trans R.fr.size (hadd x hx))

theorem Cur.step {M:Model} {Φ:Result→Shared→Prop} {κ:List Fm} {Γ Γ':Ctx} {p p':Pos} {t t':Sem Fin} {s s':Shared} (h:Cur M Φ κ Γ' p' t' s') (f:∀ e s'',Runs M Γ' p' t' [] s' e s''→Runs M Γ p t [] s e s''):Cur M Φ κ Γ p t s :=
  let ⟨e,s'',r,q⟩:=h
  ⟨e,s'',f e s'' r,q⟩

noncomputable def Inv (M:Model) (Γ:Ctx) (p:Pos) (t:Sem Fin) (fs:List Frame) (s:Shared) (e:End) (s':Shared):Prop:=match fs with
  | []=>match t with
    | .pure (.done f)=>e = .ret (.ok f)∧s'=s
    | .pure (.again c)=>Code.quiet c=true∧Runs M (Γ.goto c) p (M.den c) [] s e s'
    | .raise x=>e = .ret (.error x)∧s'=s
    | .at p' k=>Runs M Γ p' (k ()) [] s e s'
    | .load a _ k=>∃ o,s.heap.get? a=some o∧Runs M Γ p (k o) [] s e s'
    | .unsupported _=>False
    | _=>True
  | _ :: _=>True
theorem inv {M:Model} {Γ:Ctx} {p:Pos} {t:Sem Fin} {fs:List Frame} {e:End} {s s':Shared} (h:Runs M Γ p t fs s e s'):Inv M Γ p t fs s e s':=by
  refine Runs.casesOn (motive:=fun Γ p t fs s e s' _=>Inv M Γ p t fs s e s') h ?_ ?_ ?_ ?_ ?_ ?_ ?_ ?_ ?_ ?_ ?_ ?_ ?_ ?_ ?_ ?_ ?_ ?_ ?_ ?_ ?_ ?_ ?_ ?_ ?_ ?_ ?_ ?_ ?_ ?_ ?_ ?_ <;> intros <;> first | exact trivial | exact ⟨rfl,rfl⟩ | assumption | exact ⟨‹_›,‹_›⟩ | exact ⟨_,‹_›,‹_›⟩
theorem kQ {M:Model} {Γ:Ctx} {p:Pos}:∀ {r:Result} {e:End} {s s':Shared},Runs M Γ p (leaf r) [] s e s'→e = .ret r∧s'=s
  | .ok _,_,_,_,h=>inv h
  | .error _,_,_,_,h=>inv h
theorem oG {A:List Addr} {Γ:Ctx} {s:Shared} {Φ:Result→Shared→Prop} {α:Type} {o:Option α} {a b:Nat} {k:α→Res} (H:dx V A Γ s Φ (oR o a b k)):∃ x,o=some x∧dx V A Γ s Φ (k x):=by
  cases o with
  | none=>exact H.elim
  | some x=>exact ⟨x,rfl,H⟩
theorem bG {A:List Addr} {Γ:Ctx} {s:Shared} {Φ:Result→Shared→Prop} {c:Bool} {a b:Nat} {r:Res} (H:dx V A Γ s Φ (bR c a b r)):c=true∧dx V A Γ s Φ r:=by
  cases c with
  | false=>exact H.elim
  | true=>exact ⟨rfl,H⟩
theorem rcG {A:List Addr} {Γ:Ctx} {s:Shared} {Φ:Result→Shared→Prop} {it:Item} {a:Hk→Res} {b c:Res} (H:dx V A Γ s Φ (rcR it a b c)):(∃ h,it = .rest h∧dx V A Γ s Φ (a h))∨(it = .cut∧dx V A Γ s Φ b)∨dx V A Γ s Φ c:=by
  cases it with
  | rest h=>exact .inl ⟨h,rfl,H⟩
  | cut=>exact .inr (.inl ⟨rfl,H⟩)
  | _=>exact .inr (.inr H)
theorem mO {M:Model} {Φ:Result→Shared→Prop}:∀ {κ:List Fm} {e:End} {s:Shared},Pst M Φ κ e s→isRet κ=true∨∃ r,e = .ret r
  | [],_,_,⟨r,e,_⟩=>.inr ⟨r,e⟩
  | .ret .. :: _,_,_,⟨r,e,_⟩=>.inr ⟨r,e⟩
  | .gen .. :: _,_,_,_=>.inl rfl
theorem nF {b:Bool} (h:(!b)=true):b=false:=by cases b <;> first | rfl | cases h
theorem dr.ld (R:dr V A s₀ X T B m tb i ch gl s) {a:Addr} {o:Obj} (h:ldA V.kt ch a=some o):s.heap.get? a=some o:=by
  unfold ldA at h
  cases c:chLook ch a with
  | some vs=>rw [c] at h;cases h;exact (R.tab a vs c).2
  | none=>rw [c] at h;exact R.base a o h c
theorem dr.pk (R:dr V A s₀ X T B m tb i ch gl s):∀ {it:Item} {y:Addr×Obj},pkI X T B it=some y→s.heap.get? y.1=some y.2
  | .o _,_,h=>R.ox h
  | .n j,y,h=>by
    unfold pkI at h
    cases e:T.get j with
    | none=>simp only [e] at h;cases h
    | some o=>simp only [e] at h;cases h;exact (R.news j o e).2
  | .rw _,_,h | .hook _,_,h | .free _,_,h | .hookF _,_,h | .freeF _,_,h | .tree _,_,h | .rest _,_,h | .stop,_,h | .cut,_,h=>nomatch h
end
section
variable (V:Vw) (A:List Addr) (s₀:Shared) (Γ₀:Ctx) (Φ:Result→Shared→Prop)
noncomputable def Sn (κ:List Fm) (Γ:Ctx) (p:Pos) (t:Sem Fin) (X:ax) (T:BT) (B:List (Nat×Addr)) (m tb i:Nat) (ch:Ch) (gl:List GenState) (obs exp:List Addr) (rws:List (Value×Value)) (trs:List Tr):Prop :=
  obs=exp∧(∀ x∈rws,x.1=x.2)∧(∀ x∈trs,dK V x)∧∀ s,Bot Γ₀ κ Γ→dr V A s₀ X T B m tb i ch gl s→Cur (cg V) Φ κ Γ p t s
end
section
variable {V:Vw} {A:List Addr} {s₀:Shared} {Γ₀:Ctx} {Φ:Result→Shared→Prop} {κ κ':List Fm} {Γ Γ':Ctx} {p p':Pos} {t t':Sem Fin} {X X':ax} {T T':BT} {B B':List (Nat×Addr)} {m tb i m' tb' i':Nat} {ch ch':Ch} {gl gl':List GenState} {obs exp:List Addr} {rws:List (Value×Value)} {trs:List Tr}
theorem Sn.to (h:Sn V A s₀ Γ₀ Φ κ' Γ' p' t' X' T' B' m' tb' i' ch' gl' obs exp rws trs)
    (f:∀ s,Bot Γ₀ κ Γ→dr V A s₀ X T B m tb i ch gl s→∃ s',Bot Γ₀ κ' Γ'∧dr V A s₀ X' T' B' m' tb' i' ch' gl' s'∧(Cur (cg V) Φ κ' Γ' p' t' s'→Cur (cg V) Φ κ Γ p t s)) :
    Sn V A s₀ Γ₀ Φ κ Γ p t X T B m tb i ch gl obs exp rws trs :=
  ⟨h.1,h.2.1,h.2.2.1,fun s b R=>have ⟨s',b',R',g⟩:=f s b R;g (h.2.2.2 s' b' R')⟩
theorem Sn.sm (h:Sn V A s₀ Γ₀ Φ κ Γ p' t' X T B m tb i ch gl obs exp rws trs)
    (f:∀ s,dr V A s₀ X T B m tb i ch gl s→∀ e s'',Runs (cg V) Γ p' t' [] s e s''→Runs (cg V) Γ p t [] s e s'') :
    Sn V A s₀ Γ₀ Φ κ Γ p t X T B m tb i ch gl obs exp rws trs:=h.to fun s b R=>⟨s,b,R,fun c=>c.step (f s R)⟩
theorem Sn.ob {a a':Addr} (h:Sn V A s₀ Γ₀ Φ κ Γ p t X T B m tb i ch gl (a :: obs) (a' :: exp) rws trs):a=a'∧Sn V A s₀ Γ₀ Φ κ Γ p t X T B m tb i ch gl obs exp rws trs :=
  ⟨(List.cons.inj h.1).1,(List.cons.inj h.1).2,h.2⟩
theorem Sn.tr {x:Tr} (h:Sn V A s₀ Γ₀ Φ κ Γ p t X T B m tb i ch gl obs exp rws (x :: trs)):dK V x∧Sn V A s₀ Γ₀ Φ κ Γ p t X T B m tb i ch gl obs exp rws trs :=
  ⟨h.2.2.1 x (.head _),h.1,h.2.1,fun y hy=>h.2.2.1 y (.tail _ hy),h.2.2.2⟩
theorem Bot.goto {c:Code} (b:Bot Γ₀ κ Γ):Bot Γ₀ κ (Γ.goto c):=by
  cases κ with
  | nil=>exact fun c=>b c
  | cons _ _=>exact b
theorem Sn.pop {r:Result} {k:Result→Sem Fin} {q:Option (Value→Value)} (h:Sn V A s₀ Γ₀ Φ κ Γ' p' (k r) X T B m tb i ch gl obs exp rws trs) (f:∀ s,Runs (cg V) Γ p t [] s (.ret r) s) :
    Sn V A s₀ Γ₀ Φ (.ret Γ' p' k q :: κ) Γ p t X T B m tb i ch gl obs exp rws trs:=h.to fun s b R=>⟨s,b,R,fun c=>⟨_,s,f s,r,rfl,c⟩⟩
theorem Sn.gpop {e:End} {k:GenResult→Sem Fin} {g:Nat} (h:Sn V A s₀ Γ₀ Φ κ Γ' p' (k e.result) X T B m tb i ch (gl.set g e.genState) obs exp rws trs) (q:e.quiet=true) (f:∀ s,Runs (cg V) Γ p t [] s e s) :
    Sn V A s₀ Γ₀ Φ (.gen g Γ' p' k :: κ) Γ p t X T B m tb i ch gl obs exp rws trs:=h.to fun s b R=>⟨_,b,R.gen g _,fun c=>⟨e,s,f s,q,c⟩⟩
theorem Sn.call {c:Code} {hd:Option Value} {gd:Bool} {l:List Value} {k:Result→Sem Fin} {q:Option (Value→Value)} (h:Sn V A s₀ Γ₀ Φ (.ret Γ p k q :: κ) (Γ.enter c hd p) p t' X T B m tb i ch gl obs exp rws trs)
    (f:∀ s r s',Runs (cg V) (Γ.enter c hd p) p t' [] s (.ret r) s'→Runs (cg V) (Γ.enter c hd p) p (den c) [] s (.ret r) s'):Sn V A s₀ Γ₀ Φ κ Γ p (.call c hd gd l k) X T B m tb i ch gl obs exp rws trs :=
  h.to fun s b R=>⟨s,b,R,fun ⟨e,s',r,r',er,e2,s2,r2,q⟩=>by subst er;exact ⟨e2,s2,.call (f _ _ _ r) r2,q⟩⟩
theorem Sn.resume {c:Code} {g:Nat} {r:Resume} {l:List Value} {k:GenResult→Sem Fin} {st:GenState} (h:Sn V A s₀ Γ₀ Φ (.gen g Γ p k :: κ) (Γ.wake c p) p' t' X T B m tb i ch (gl.set g .running) obs exp rws trs) (hg:gl[g]?=some st)
    (f:∀ s e s',s.gens[g]?=some st→Runs (cg V) (Γ.wake c p) p' t' [] (s.setGen g .running) e s'→e.quiet=true→∀ e2 s2,Runs (cg V) Γ p (k e.result) [] (s'.setGen g e.genState) e2 s2→Runs (cg V) Γ p (.resume g r l k) [] s e2 s2):Sn V A s₀ Γ₀ Φ κ Γ p (.resume g r l k) X T B m tb i ch gl obs exp rws trs :=
  h.to fun s b R=>⟨_,b,R.gen g .running,fun ⟨e1,s1,r1,hq,e2,s2,r2,q⟩=>⟨e2,s2,f s _ _ (by rw [R.gens];simpa using hg) r1 hq _ _ r2,q⟩⟩
theorem Sn.done {Y:ax} {outs:List Nat} {r:Result} (ho:outs.Nodup) (e:cM X T B outs=some Y) (H:dx V A Γ₀ s₀ Φ (.done r Y (cU B m) (tb+i) ch gl obs exp rws trs)) (f:∀ s,Runs (cg V) Γ p t [] s (.ret r) s):Sn V A s₀ Γ₀ Φ [] Γ p t X T B m tb i ch gl obs exp rws trs :=
  ⟨H.1,H.2.1,H.2.2.1,fun s _ R=>⟨_,s,f s,r,rfl,H.2.2.2 s (R.at e ho) R.fr⟩⟩
theorem Sn.skip {h:Hk} {pre:ax} {Q:Result→Shared→Shared→Prop} {K:Result→Sem Fin} {rs:Nat→Nat→Ys→Res} (e:cM X T B h.req=some pre)
    (IH:∀ b' t' ys,dx V A Γ₀ s₀ Φ (rs b' t' ys)→Sn V A s₀ Γ₀ Φ κ Γ p (K (h.res pre ys)) ((dG X T h.req (h.objs pre ys)).1++h.adds pre ys) (dG X T h.req (h.objs pre ys)).2 ((m,b') :: B) m t' 0 (ba ch (h.tabs pre ys)) (db gl h.gn) [] [] [] [])
    (H:obs=exp∧(∀ x∈rws,x.1=x.2)∧(∀ x∈trs,dK V x)∧h.req.Nodup ∧
      (∀ s,At V pre (cU B m) (tb+i) ch gl s→∃ ys b' t' s',h.ok pre ys∧Q (h.res pre ys) s s'∧(h.objs pre ys).length=pre.length ∧
        At V (List.zipWith (fun x o=>(x.1,o)) pre (h.objs pre ys)++h.adds pre ys) b' t' (ba ch (h.tabs pre ys)) (db gl h.gn) s' ∧
        Fr (pre.map (·.1)) (ba ch (h.tabs pre ys)) s s'∧ig ch (ba ch (h.tabs pre ys))∧∀ x∈h.adds pre ys,cU B m≤x.1) ∧
      ∀ b' t' ys,cU B m≤b'→tb+i≤t'→h.ok pre ys→(∀ x∈h.adds pre ys,cU B m≤x.1∧x.1 < b')→dx V A Γ₀ s₀ Φ (rs b' t' ys))
    (f:∀ r s s',Q r s s'→∀ e s2,Runs (cg V) Γ p (K r) [] s' e s2→Runs (cg V) Γ p t [] s e s2):Sn V A s₀ Γ₀ Φ κ Γ p t X T B m tb i ch gl obs exp rws trs :=
  ⟨H.1,H.2.1,H.2.2.1,fun s b R=>by
    obtain ⟨ys,b',t',s',hk,hr,hl,ha,hf,hc,hd'⟩:=H.2.2.2.2.1 s (R.at e H.2.2.2.1)
    have hb:cU B m≤b':=by rw [← R.size,← ha.size];exact hf.size
    have ht:tb+i≤t':=by rw [← R.toks,← ha.toks];exact hf.toks
    exact ((IH b' t' ys (H.2.2.2.2.2 b' t' ys hb ht hk fun x hx=>⟨hd' x hx,(ha.hi x (List.mem_append_right _ hx)).2⟩)).2.2.2 s' b (R.hook e H.2.2.2.1 hl ha hf hc hd')).step (f _ _ _ hr)⟩
end
section
variable {V:Vw} {A:List Addr} {s₀:Shared} {Γ₀:Ctx} {Φ:Result→Shared→Prop} {outs:List Nat}
theorem go_sn (hk:∀ a o,V.kt.get a=some o→a < V.n₁) (ho:outs.Nodup):∀ (f g:Nat) (O:List (Item×Nat)) (Γ:Ctx) (p:Pos) (κ:List Fm) (t:Sem Fin) (X:ax) (T:BT) (B:List (Nat×Addr)) (m tb i:Nat) (ch:Ch) (gl:List GenState) (obs exp:List Addr) (rws:List (Value×Value)) (trs:List Tr),
    dx V A Γ₀ s₀ Φ (go V outs f g O Γ p κ t X T B m tb i ch gl obs exp rws trs)→Sn V A s₀ Γ₀ Φ κ Γ p t X T B m tb i ch gl obs exp rws trs:=by
  intro f
  induction f with
  | zero=>intros;rename_i H;exact H.elim
  | succ f IH0 =>
  have IH:=fun {g O Γ p κ t X T B m tb i ch gl obs exp rws trs}=>IH0 g O Γ p κ t X T B m tb i ch gl obs exp rws trs
  clear IH0
  intro g O Γ p κ t X T B m tb i ch gl obs exp rws trs H
  cases g with
  | succ g =>
    cases t with
    | pure fin =>
      cases fin with
      | done fl =>
        cases κ with
        | nil=>have ⟨Y,e,H⟩:=oG H;exact .done ho e H fun _=>.done
        | cons fm κ =>
          cases fm with
          | ret Γ' p' k q =>
            cases q with
            | none=>exact (IH H).pop fun _=>.done
            | some v' =>
              cases fl with
              | ret v =>
                have h:=IH H
                have ev:v=v' v:=h.2.1 (v,v' v) (.head _)
                exact Sn.pop (r:=.ok (.ret v)) ⟨h.1,fun x hx=>h.2.1 x (.tail _ hx),h.2.2.1,(congrArg (fun z=>∀ s,Bot Γ₀ κ Γ'→dr V A s₀ X T B m tb i ch gl s→Cur (cg V) Φ κ Γ' p' (k (.ok (.ret z))) s) ev).mpr h.2.2.2⟩ fun _=>.done
              | _=>exact H.elim
          | gen gi Γ' p' k=>exact Sn.gpop (e:=.ret (.ok fl)) (IH H) rfl fun _=>.done
      | again c'=>have ⟨q,H⟩:=bG H;exact (IH H).to fun s b R=>⟨s,b.goto,R,fun c=>c.step fun _ _ r=>.again q r⟩
    | raise e =>
      cases κ with
      | nil=>have ⟨Y,e,H⟩:=oG H;exact .done ho e H fun _=>.raise
      | cons fm κ =>
        cases fm with
        | ret Γ' p' k q =>
          cases q with
          | none=>exact (IH H).pop fun _=>.raise
          | some v'=>exact H.elim
        | gen gi Γ' p' k=>exact Sn.gpop (e:=.ret (.error e)) (IH H) rfl fun _=>.raise
    | rule tag k=>exact (IH H).sm fun _ _ _ _ r=>.rule r
    | «at» q k=>exact (IH H).to fun s b R=>⟨s,b,R,fun c=>c.step fun _ _ r=>.at r⟩
    | point l k=>exact (IH H).sm fun _ _ _ _ r=>.point r
    | ask k=>exact (IH H).sm fun _ _ _ _ r=>.ask r
    | load a q k=>have ⟨o,e,H⟩:=oG H;exact (IH H).sm fun _ R _ _ r=>.load (R.ld e) r
    | loadIfAlive a k=>have ⟨o,e,H⟩:=oG H;exact (IH H).sm fun s R _ _ r=>.loadIfAlive (by rw [R.ld e];exact r)
    | alloc o k =>
      have ⟨hf,H⟩:=bG H
      have ⟨o',e,H⟩:=oG H
      exact (IH H).to fun s b R=>⟨_,b,R.alloc (nF hf) (by rw [e];rfl),fun c=>c.step fun _ _ r=>.alloc (by rw [R.size];exact r)⟩
    | update a q fn k =>
      have ⟨vs,e,H⟩:=oG H
      have ⟨vs',e2,H⟩:=oG H
      exact (IH H).to fun s b R=>have z:=R.updT hk e (tabOf_eq e2);⟨_,b,z.2,fun c=>c.step fun _ _ r=>.update (by rw [z.1];rfl) r⟩
    | fresh k=>exact (IH H).to fun s b R=>⟨_,b,R.tok,fun c=>c.step fun _ _ r=>.fresh (by have e:k s.toks=k (tb+i):=congrArg k R.toks;rw [e];exact r)⟩
    | handled own k=>exact (IH H).sm fun _ _ _ _ r=>.handled (by cases own <;> exact r)
    | stack k=>exact (IH H).sm fun _ _ _ _ r=>.stack r
    | call c' hd gd l k=>exact (IH H).call fun _ _ _ r=>r
    | newGen c' k=>exact (IH H).to fun s b R=>⟨_,b,R.genPush (.fresh c'),fun c=>c.step fun _ _ r=>.newGen (by have e:k s.gens.size=k gl.length:=congrArg k (by rw [R.gens];simp);rw [e];exact r)⟩
    | genState gi k=>have ⟨gs,e,H⟩:=oG H;exact (IH H).sm fun s R _ _ r=>.genState (by rw [R.gens];simpa using e) r
    | resume gi r l k =>
      have ⟨gs,e,H⟩:=oG H
      cases gs with
      | fresh c₀ =>
        cases r with
        | throw x=>exact H.elim
        | send v =>
          cases v with
          | none=>exact (IH H).resume e fun _ _ _ q r1 hq _ _ r2=>.resumeFresh q r1 hq r2
          | _=>exact H.elim
      | suspended k₀ l₀ c₀ p₀ fs₀ cl =>
        cases fs₀ with
        | cons _ _=>exact H.elim
        | nil=>exact (IH H).resume e fun _ _ _ q r1 hq _ _ r2=>.resumeSuspended q r1 hq r2
      | running=>exact H.elim
      | finished=>exact H.elim
    | «yield» v gd l kk =>
      cases κ with
      | nil=>exact H.elim
      | cons fm κ =>
        cases fm with
        | ret=>exact H.elim
        | gen gi Γ' p' k=>have ⟨q,H⟩:=bG H;cases nF q;exact Sn.gpop (e:=.susp v false l kk Γ.code p []) (IH H) rfl fun _=>.yield
    | _=>exact H.elim
  | zero =>
  cases O with
  | nil=>exact H.elim
  | cons x O =>
  obtain ⟨it,gap⟩:=x
  rcases rcG H with ⟨h,_,H⟩ | ⟨_,H⟩ | H
  · have ⟨pre,e,H⟩:=oG H
    exact Sn.skip (K:=leaf) (Q:=fun r s s'=>Runs (cg V) Γ p t [] s (.ret r) s') e (fun _ _ _=>IH) H fun _ _ _ hr _ _ r=>by
      obtain ⟨rfl,rfl⟩:=kQ r
      exact hr
  · cases κ with
    | cons _ _=>exact H.elim
    | nil =>
      have ⟨Y,e,H⟩:=oG H
      exact ⟨H.1,H.2.1,H.2.2.1,fun s b R=>have ⟨r,s',hr,hq⟩:=H.2.2.2 s (R.at e ho) R.fr;⟨_,s',hr,r,rfl,hq⟩⟩
  cases t with
  | load a q k=>have ⟨y,e,H⟩:=oG H;have ⟨ea,h⟩:=(IH H).ob;exact h.sm fun _ R _ _ r=>.load (ea ▸ R.pk e) r
  | loadIfAlive a k=>have ⟨y,e,H⟩:=oG H;have ⟨ea,h⟩:=(IH H).ob;exact h.sm fun s R _ _ r=>.loadIfAlive (by rw [ea,R.pk e];exact r)
  | update a q fn k =>
    cases it with
    | o j =>
      have ⟨y,e,H⟩:=oG H
      have ⟨hf,H⟩:=bG H
      have ⟨ea,h⟩:=(IH H).ob
      subst ea
      exact h.to fun s b R=>⟨_,b,R.updO hk e (nF hf),fun c=>c.step fun _ _ r=>.update (by rw [R.ox e];rfl) r⟩
    | n j =>
      have ⟨y,e,H⟩:=oG H
      have ⟨hf,H⟩:=bG H
      have ⟨ea,h⟩:=(IH H).ob
      subst ea
      exact h.to fun s b R=>⟨_,b,R.updN hk e (nF hf),fun c=>c.step fun _ _ r=>.update (by rw [(R.news j y e).2];rfl) r⟩
    | _=>exact H.elim
  | call c' hd gd l k =>
    cases it with
    | rw v=>exact (IH H).call fun _ _ _ r=>r
    | tree t'=>have ⟨et,h⟩:=(IH H).tr;exact h.call fun _ _ _=>et _ _ _ (.inr ⟨_,rfl⟩)
    | hook h =>
      have ⟨pre,e,H⟩:=oG H
      exact Sn.skip (K:=k) (Q:=fun r s s'=>Returns (cg V) (Γ.enter c' hd p) p s r s') e (fun _ _ _=>IH) H fun _ _ _ hr _ _ r=>.call hr r
    | free h =>
      cases hd with
      | some _=>exact H.elim
      | none =>
        have ⟨pre,e,H⟩:=oG H
        exact Sn.skip (K:=k) (Q:=fun r s s'=>Returns (cg V) (Γ.enter c' none p) p s r s') e (fun _ _ _=>IH) ⟨H.1,H.2.1,H.2.2.1,H.2.2.2.1,H.2.2.2.2.1 Γ p,H.2.2.2.2.2⟩ fun _ _ _ hr _ _ r=>.call hr r
    | hookF hf =>
      have ⟨pre,e,H⟩:=oG H
      exact Sn.skip (h:=hf c') (K:=k) (Q:=fun r s s'=>Returns (cg V) (Γ.enter c' hd p) p s r s') e (fun _ _ _=>IH) H fun _ _ _ hr _ _ r=>.call hr r
    | freeF hf =>
      cases hd with
      | some _=>exact H.elim
      | none =>
        have ⟨pre,e,H⟩:=oG H
        exact Sn.skip (h:=hf c') (K:=k) (Q:=fun r s s'=>Returns (cg V) (Γ.enter c' none p) p s r s') e (fun _ _ _=>IH) ⟨H.1,H.2.1,H.2.2.1,H.2.2.2.1,H.2.2.2.2.1 Γ p,H.2.2.2.2.2⟩ fun _ _ _ hr _ _ r=>.call hr r
    | _=>exact H.elim
  | pure fin =>
    cases fin with
    | done _=>exact H.elim
    | again c' =>
      have ⟨q,H⟩:=bG H
      cases it with
      | stop =>
        cases κ with
        | cons _ _=>exact H.elim
        | nil =>
          have ⟨Y,e,H⟩:=oG H
          exact ⟨H.1,H.2.1,H.2.2.1,fun s b R=>have ⟨r,s',hr,hq⟩:=H.2.2.2 s (R.at e ho) R.fr;⟨_,s',.again q (by rw [b c'];exact hr),r,rfl,hq⟩⟩
      | tree t' =>
        have ⟨et,h⟩:=(IH H).tr
        exact h.to fun s b R=>⟨s,b.goto,R,fun ⟨e,s',r,z⟩=>⟨e,s',.again q (et _ _ _ (mO z) r),z⟩⟩
      | _=>exact H.elim
  | resume gi r l k =>
    have ⟨gs,e,H⟩:=oG H
    cases gs with
    | fresh c₀ =>
      cases r with
      | throw x=>exact H.elim
      | send v =>
        cases v with
        | none =>
          cases it with
          | tree t'=>have ⟨et,h⟩:=(IH H).tr;exact h.resume e fun _ _ _ q r1 hq _ _ r2=>.resumeFresh q (et _ _ _ (.inl rfl) r1) hq r2
          | _=>exact H.elim
        | _=>exact H.elim
    | _=>exact H.elim
  | _=>exact H.elim
theorem mZ (hk:∀ a o,V.kt.get a=some o→a < V.n₁) (ho:outs.Nodup) (f g:Nat) (O:List (Item×Nat)) (Γ:Ctx) (p:Pos) (κ:List Fm) (t:Sem Fin) (X:ax) (T:BT) (B:List (Nat×Addr)) (m tb i:Nat) (ch:Ch) (gl:List GenState) (obs exp:List Addr) (rws:List (Value×Value)) (trs:List Tr)
    (H:dx V A Γ₀ s₀ Φ (go V outs f g O Γ p κ t X T B m tb i ch gl obs exp rws trs)):obs=exp∧(∀ x∈rws,x.1=x.2)∧(∀ x∈trs,dK V x)∧∀ s,Bot Γ₀ κ Γ→dr V A s₀ X T B m tb i ch gl s→Cur (cg V) Φ κ Γ p t s :=
  go_sn hk ho f g O Γ p κ t X T B m tb i ch gl obs exp rws trs H
end
end
noncomputable abbrev pw:Program:=PySem.Challenge.pw_ik0134_01
noncomputable def top:List Stmt:=pw.main.body
noncomputable def bt (l:List Stmt) (i:Nat):Stmt:=l.getD i (.Pass ⟨0,0,0,0⟩)
noncomputable def cBody:Stmt→List Stmt
  | .ClassDef _ _ _ b _ _ _ _ _ _ _=>b
  | _=>[]
noncomputable def eu (l:List Stmt) (i:Nat):List Stmt:=cBody (bt l i)
noncomputable def cY (l:List Stmt) (i:Nat):Stmt:=bt l i
noncomputable def fArgs:Stmt→Arguments
  | .FunctionDef _ a _ _ _ _ _ _ _ _=>a
  | _=>default
noncomputable def az:Stmt→List Stmt
  | .FunctionDef _ _ b _ _ _ _ _ _ _=>b
  | _=>[]
noncomputable def nb:Stmt→Scope
  | .FunctionDef _ _ _ _ _ _ s _ _ _=>s
  | _=>default
noncomputable def fn (s:Stmt) (name qual:Str) (globals:Addr) (closure:List (Str×Addr)) (dfl kwd doc pm:Value) (ann:Option Addr) (code ct:Value) (blt:Addr):FuncData :=
  { name:=name,qualname:=qual,params:=fArgs s,body:=.stmts (az s),scope:=nb s,globals:=globals,closure:=closure,defaults:=dfl,kwdefaults:=kwd,doc:=doc,pyModule:=pm,annotations:=ann,code:=code,closureTuple:=ct,builtins:=blt }
noncomputable def nk (P:Params) (k:Str) (t:Nat) (v:Value):DictEntry:=⟨PyData.keyHash P k,.str k t,v⟩
noncomputable def aq (P:Params) (k:String) (t:Nat) (v:Value):DictEntry:=⟨PyData.keyHash P (Str.ofString k),.str (Str.ofString k) t,v⟩
noncomputable def o0 (P:Params):Obj:=⟨.type "dict",none,.dict #[aq P "__name__" 1 (.str "builtins" 160),aq P "__doc__" 2 (.builtin "builtins.__doc__:str#opaque"),aq P "__package__" 3 (.builtin "builtins.__package__:str#opaque"),aq P "__loader__" 4 (.builtin "builtins.__loader__:shared#opaque"),aq P "__spec__" 5 (.builtin "builtins.__spec__#opaque"),aq P "__build_class__" 6 (.builtin "__build_class__"),aq P "__import__" 7 (.builtin "__import__"),aq P "abs" 8 (.builtin "abs"),aq P "all" 9 (.builtin "all"),aq P "any" 10 (.builtin "any"),aq P "ascii" 11 (.builtin "ascii"),aq P "bin" 12 (.builtin "bin"),aq P "breakpoint" 13 (.builtin "breakpoint"),aq P "callable" 14 (.builtin "callable"),aq P "chr" 15 (.builtin "chr"),aq P "compile" 16 (.builtin "compile"),aq P "delattr" 17 (.builtin "delattr"),aq P "dir" 18 (.builtin "dir"),aq P "divmod" 19 (.builtin "divmod"),aq P "eval" 20 (.builtin "eval"),aq P "exec" 21 (.builtin "exec"),aq P "format" 22 (.builtin "format"),aq P "getattr" 23 (.builtin "getattr"),aq P "globals" 24 (.builtin "globals"),aq P "hasattr" 25 (.builtin "hasattr"),aq P "hash" 26 (.builtin "hash"),aq P "hex" 27 (.builtin "hex"),aq P "id" 28 (.builtin "id"),aq P "input" 29 (.builtin "input"),aq P "isinstance" 30 (.builtin "isinstance"),aq P "issubclass" 31 (.builtin "issubclass"),aq P "iter" 32 (.builtin "iter"),aq P "aiter" 33 (.builtin "aiter"),aq P "len" 34 (.builtin "len"),aq P "locals" 35 (.builtin "locals"),aq P "max" 36 (.builtin "max"),aq P "min" 37 (.builtin "min"),aq P "next" 38 (.builtin "next"),aq P "anext" 39 (.builtin "anext"),aq P "oct" 40 (.builtin "oct"),aq P "ord" 41 (.builtin "ord"),aq P "pow" 42 (.builtin "pow"),aq P "print" 43 (.builtin "print"),aq P "repr" 44 (.builtin "repr"),aq P "round" 45 (.builtin "round"),aq P "setattr" 46 (.builtin "setattr"),aq P "sorted" 47 (.builtin "sorted"),aq P "sum" 48 (.builtin "sum"),aq P "vars" 49 (.builtin "vars"),aq P "None" 50 .none,aq P "Ellipsis" 51 .ellipsis,aq P "NotImplemented" 52 .notImplemented,aq P "False" 53 (.bool false),aq P "True" 54 (.bool true),aq P "bool" 55 (.type "bool"),aq P "memoryview" 56 (.type "memoryview"),aq P "bytearray" 57 (.type "bytearray"),aq P "bytes" 58 (.type "bytes"),aq P "classmethod" 59 (.type "classmethod"),aq P "complex" 60 (.type "complex"),aq P "dict" 61 (.type "dict"),aq P "enumerate" 62 (.type "enumerate"),aq P "filter" 63 (.type "filter"),aq P "float" 64 (.type "float"),aq P "frozenset" 65 (.type "frozenset"),aq P "property" 66 (.type "property"),aq P "int" 67 (.type "int"),aq P "list" 68 (.type "list"),aq P "map" 69 (.type "map"),aq P "object" 70 (.type "object"),aq P "range" 71 (.type "range"),aq P "reversed" 72 (.type "reversed"),aq P "set" 73 (.type "set"),aq P "slice" 74 (.type "slice"),aq P "staticmethod" 75 (.type "staticmethod"),aq P "str" 76 (.type "str"),aq P "super" 77 (.type "super"),aq P "tuple" 78 (.type "tuple"),aq P "type" 79 (.type "type"),aq P "zip" 80 (.type "zip"),aq P "__debug__" 81 (.bool true),aq P "BaseException" 82 (.type "BaseException"),aq P "BaseExceptionGroup" 83 (.type "BaseExceptionGroup"),aq P "Exception" 84 (.type "Exception"),aq P "GeneratorExit" 85 (.type "GeneratorExit"),aq P "KeyboardInterrupt" 86 (.type "KeyboardInterrupt"),aq P "SystemExit" 87 (.type "SystemExit"),aq P "ArithmeticError" 88 (.type "ArithmeticError"),aq P "AssertionError" 89 (.type "AssertionError"),aq P "AttributeError" 90 (.type "AttributeError"),aq P "BufferError" 91 (.type "BufferError"),aq P "EOFError" 92 (.type "EOFError"),aq P "ImportError" 93 (.type "ImportError"),aq P "LookupError" 94 (.type "LookupError"),aq P "MemoryError" 95 (.type "MemoryError"),aq P "NameError" 96 (.type "NameError"),aq P "OSError" 97 (.type "OSError"),aq P "ReferenceError" 98 (.type "ReferenceError"),aq P "RuntimeError" 99 (.type "RuntimeError"),aq P "StopAsyncIteration" 100 (.type "StopAsyncIteration"),aq P "StopIteration" 101 (.type "StopIteration"),aq P "SyntaxError" 102 (.type "SyntaxError"),aq P "SystemError" 103 (.type "SystemError"),aq P "TypeError" 104 (.type "TypeError"),aq P "ValueError" 105 (.type "ValueError"),aq P "Warning" 106 (.type "Warning"),aq P "FloatingPointError" 107 (.type "FloatingPointError"),aq P "OverflowError" 108 (.type "OverflowError"),aq P "ZeroDivisionError" 109 (.type "ZeroDivisionError"),aq P "BytesWarning" 110 (.type "BytesWarning"),aq P "DeprecationWarning" 111 (.type "DeprecationWarning"),aq P "EncodingWarning" 112 (.type "EncodingWarning"),aq P "FutureWarning" 113 (.type "FutureWarning"),aq P "ImportWarning" 114 (.type "ImportWarning"),aq P "PendingDeprecationWarning" 115 (.type "PendingDeprecationWarning"),aq P "ResourceWarning" 116 (.type "ResourceWarning"),aq P "RuntimeWarning" 117 (.type "RuntimeWarning"),aq P "SyntaxWarning" 118 (.type "SyntaxWarning"),aq P "UnicodeWarning" 119 (.type "UnicodeWarning"),aq P "UserWarning" 120 (.type "UserWarning"),aq P "BlockingIOError" 121 (.type "BlockingIOError"),aq P "ChildProcessError" 122 (.type "ChildProcessError"),aq P "ConnectionError" 123 (.type "ConnectionError"),aq P "FileExistsError" 124 (.type "FileExistsError"),aq P "FileNotFoundError" 125 (.type "FileNotFoundError"),aq P "InterruptedError" 126 (.type "InterruptedError"),aq P "IsADirectoryError" 127 (.type "IsADirectoryError"),aq P "NotADirectoryError" 128 (.type "NotADirectoryError"),aq P "PermissionError" 129 (.type "PermissionError"),aq P "ProcessLookupError" 130 (.type "ProcessLookupError"),aq P "TimeoutError" 131 (.type "TimeoutError"),aq P "IndentationError" 132 (.type "IndentationError"),aq P "_IncompleteInputError" 133 (.type "_IncompleteInputError"),aq P "IndexError" 134 (.type "IndexError"),aq P "KeyError" 135 (.type "KeyError"),aq P "ModuleNotFoundError" 136 (.type "ModuleNotFoundError"),aq P "NotImplementedError" 137 (.type "NotImplementedError"),aq P "PythonFinalizationError" 138 (.type "PythonFinalizationError"),aq P "RecursionError" 139 (.type "RecursionError"),aq P "UnboundLocalError" 140 (.type "UnboundLocalError"),aq P "UnicodeError" 141 (.type "UnicodeError"),aq P "BrokenPipeError" 142 (.type "BrokenPipeError"),aq P "ConnectionAbortedError" 143 (.type "ConnectionAbortedError"),aq P "ConnectionRefusedError" 144 (.type "ConnectionRefusedError"),aq P "ConnectionResetError" 145 (.type "ConnectionResetError"),aq P "TabError" 146 (.type "TabError"),aq P "UnicodeDecodeError" 147 (.type "UnicodeDecodeError"),aq P "UnicodeEncodeError" 148 (.type "UnicodeEncodeError"),aq P "UnicodeTranslateError" 149 (.type "UnicodeTranslateError"),aq P "ExceptionGroup" 150 (.type "ExceptionGroup"),aq P "EnvironmentError" 151 (.type "OSError"),aq P "IOError" 152 (.type "OSError"),aq P "open" 153 (.builtin "open"),aq P "quit" 154 (.builtin "builtins.quit#opaque"),aq P "exit" 155 (.builtin "builtins.exit#opaque"),aq P "copyright" 156 (.builtin "builtins.copyright#opaque"),aq P "credits" 157 (.builtin "builtins.credits#opaque"),aq P "license" 158 (.builtin "builtins.license#opaque"),aq P "help" 159 (.builtin "builtins.help#opaque")] 159,#[]⟩
noncomputable def o2 (P:Params):Obj:=⟨.none,none,.dict #[nk P (Str.mk #[105,109,112,111,114,116,46,108,111,97,100,101,100,46,95,115,114,101]) 183 (.bool true),aq P "class._frozen_importlib.BuiltinImporter" 185 (rf 14),nk P (Str.mk #[119,97,116,99,104,101,100,46,105,109,112,111,114,116]) 206 (rf 18),aq P "class._frozen_importlib.ModuleSpec" 216 (rf 22),aq P "sys.modules.booked-epoch" 245 (.int 4 0),nk P (Str.mk #[105,109,112,111,114,116,46,108,97,116,101,114,45,108,97,105,100,46,95,115,114,101]) 270 (.bool true),aq P "watched.library" 272 (rf 27),aq P "watched.library-objects" 0 (.str (Str.mk #[12,30]) 0),aq P "watched.library-deep._sre" 273 (.str (Str.mk #[4,0,0,11,4,0,0,11,4,0,0,3,4,0,0,11,8,4,100,105,99,116,2]) 0),nk P (Str.mk #[105,109,112,111,114,116,46,108,111,97,100,101,100,46,95,99,111,108,108,101,99,116,105,111,110,115]) 280 (.bool true),aq P "sys.modules.landed._collections" 294 (.bool true),nk P (Str.mk #[105,109,112,111,114,116,46,108,97,116,101,114,45,108,97,105,100,46,95,99,111,108,108,101,99,116,105,111,110,115]) 309 (.bool true),aq P "watched.library-deep._collections" 311 (.str (Str.mk #[4,0,0,29,4,0,0,29,4,0,0,3,4,0,0,29,8,4,100,105,99,116,2]) 0),aq P "type.__subclasses__.OSError.0" 476 (.int 122 0),aq P "type.__subclasses__.OSError.n" 477 (.int 1 0)] 15,#[]⟩
noncomputable abbrev o2w (w:World):=o2 w.params
noncomputable def o3 (P:Params):Obj:=⟨.type "dict",none,.dict #[aq P "__name__" 165 (.str "law_ik0134_01" 1409),aq P "__doc__" 166 .none,aq P "__package__" 167 .none,aq P "__loader__" 168 (.builtin "__main__.__loader__#opaque"),aq P "__spec__" 169 .none,aq P "__annotations__" 170 (rf 6),aq P "__builtins__" 171 (rf 4),aq P "__file__" 173 (.str "/claim/cut.py" 172),aq P "__cached__" 174 .none,aq P "_sre" 275 (rf 12),aq P "deque" 317 (.type "collections.deque"),aq P "_wall" 330 (rf 44),aq P "Entry" 390 (rf 82),aq P "merge_entries" 399 (rf 93),aq P "_twin_re_1" 439 (rf 98),aq P "_whence" 449 (rf 105),aq P "_index" 457 (rf 112),aq P "UnsupportedOperation" 479 (rf 122),aq P "IOBase" 511 (rf 142),aq P "BufferedIOBase" 529 (rf 157),aq P "TextIOBase" 547 (rf 169),aq P "BytesIO" 809 (rf 399),aq P "StringIO" 1096 (rf 646),aq P "_kind" 1107 (rf 655),aq P "_fspath" 1116 (rf 662),aq P "_check_arg_types" 1126 (rf 669),aq P "isabs" 1133 (rf 676),aq P "join" 1144 (rf 800),aq P "join_path" 1145 (rf 683),aq P "dirname" 1155 (rf 690),aq P "shlex" 1296 (rf 781),aq P "split" 1306 (rf 793),aq P "join_shlex" 1314 (rf 800),aq P "_find_unsafe" 1316 (rf 801),aq P "quote" 1323 (rf 808),aq P "S_IFMT" 1332 (rf 815),aq P "S_IFDIR" 1334 (.int 16384 1333),aq P "S_IFCHR" 1336 (.int 8192 1335),aq P "S_IFBLK" 1338 (.int 24576 1337),aq P "S_IFREG" 1340 (.int 32768 1339),aq P "S_IFIFO" 1342 (.int 4096 1341),aq P "S_IFLNK" 1344 (.int 40960 1343),aq P "S_IFSOCK" 1346 (.int 49152 1345),aq P "S_ISUID" 1348 (.int 2048 1347),aq P "S_ISGID" 1350 (.int 1024 1349),aq P "S_ISVTX" 1352 (.int 512 1351),aq P "S_IRUSR" 1354 (.int 256 1353),aq P "S_IWUSR" 1356 (.int 128 1355),aq P "S_IXUSR" 1358 (.int 64 1357),aq P "S_IRGRP" 1360 (.int 32 1359),aq P "S_IWGRP" 1362 (.int 16 1361),aq P "S_IXGRP" 1364 (.int 8 1363),aq P "S_IROTH" 1366 (.int 4 1365),aq P "S_IWOTH" 1368 (.int 2 1367),aq P "S_IXOTH" 1370 (.int 1 1369),aq P "_filemode_table" 1396 (rf 848),aq P "filemode" 1408 (rf 855),aq P "_law_entry" 1420 (rf 862),aq P "_law_told" 1426 (rf 867),aq P "law" 1432 (rf 872)] 60,#[]⟩
noncomputable abbrev o3w (w:World):=o3 w.params
noncomputable def o4 (P:Params):Obj:=⟨.type "module",some 0,.plain,#[]⟩
noncomputable def o57 (P:Params):Obj:=fO "code" [.str "__init__" 345,.str "Entry.__init__" 346,.str "/claim/cut.py" 347,.int 9 0,.int 1 0,.int 0 0,.int 0 0,.int 3 0,rf 52,.bool true,.int 318 0,rf 53,.none,rf 54,rf 55,rf 56,.int 349 0,.int 9 0,.str "/claim/cut.py" 350]
noncomputable def o58 (P:Params):Obj:=⟨.type "function",none,.func (fn (cY (eu top 4) 0) "__init__" "Entry.__init__" 3 [] .none .none .none (.str "cpy313.urllib.robotparser" 331) none (rf 57) .none 0),#[]⟩
noncomputable def o64 (P:Params):Obj:=fO "code" [.str "__str__" 352,.str "Entry.__str__" 353,.str "/claim/cut.py" 354,.int 15 0,.int 1 0,.int 0 0,.int 0 0,.int 3 0,rf 59,.bool true,.int 318 0,rf 60,.none,rf 61,rf 62,rf 63,.int 359 0,.int 15 0,.str "/claim/cut.py" 360]
noncomputable def o65 (P:Params):Obj:=⟨.type "function",none,.func (fn (cY (eu top 4) 1) "__str__" "Entry.__str__" 3 [] .none .none .none (.str "cpy313.urllib.robotparser" 331) none (rf 64) .none 0),#[]⟩
noncomputable def o71 (P:Params):Obj:=fO "code" [.str "applies_to" 362,.str "Entry.applies_to" 363,.str "/claim/cut.py" 364,.int 32 0,.int 2 0,.int 0 0,.int 0 0,.int 3 0,rf 66,.bool true,.int 318 0,rf 67,.none,rf 68,rf 69,rf 70,.int 368 0,.int 32 0,.str "/claim/cut.py" 369]
noncomputable def o72 (P:Params):Obj:=⟨.type "function",none,.func (fn (cY (eu top 4) 2) "applies_to" "Entry.applies_to" 3 [] .none .none .none (.str "cpy313.urllib.robotparser" 331) none (rf 71) .none 0),#[]⟩
noncomputable def o81 (P:Params):Obj:=⟨.type "dict",none,.dict #[aq P "__module__" 340 (.str "cpy313.urllib.robotparser" 331),aq P "__firstlineno__" 344 (.int 7 343),aq P "__init__" 351 (rf 58),aq P "__str__" 361 (rf 65),aq P "applies_to" 370 (rf 72),aq P "allowance" 378 (rf 79),aq P "__static_attributes__" 383 (rf 80),aq P "__dict__" 385 (rf 83),aq P "__weakref__" 387 (rf 84),aq P "__doc__" 388 .none] 4,#[]⟩
noncomputable def o82 (P:Params):Obj:=⟨.type "type",none,.cls {name:="Entry",bases:=[.type "object"],mro:=[rf 82,.type "object"],ns:=81,qualname:="Entry",hasDict:=true,slotNames:=[],subclasses:=[],abstract:=false,collection:=none,hasDel:=false},#[none,none,some (.str "Entry" 333),some (.str "Entry" 341),some (.builtin "object.__new__"),some (.bool true)]⟩
noncomputable def o92 (P:Params):Obj:=fO "code" [.str "merge_entries" 391,.str "merge_entries" 392,.str "/claim/cut.py" 393,.int 45 0,.int 2 0,.int 0 0,.int 0 0,.int 3 0,rf 87,.bool true,.int 318 0,rf 88,.none,rf 89,rf 90,rf 91,.int 397 0,.int 45 0,.str "/claim/cut.py" 398]
noncomputable def o93 (P:Params):Obj:=⟨.type "function",none,.func (fn (cY top 5) "merge_entries" "merge_entries" 3 [] .none .none .none (.str "cpy313.urllib.robotparser" 331) none (rf 92) .none 0),#[]⟩
noncomputable def o97 (P:Params):Obj:=sO "tuple" [.int 14 0,.int 17 0,.int 4 0,.int 1 0,.int 1 0,.int 21 0,.int 9 0,.int 0 0,.int 604043296 0,.int 1 0,.int 0 0,.int 0 0,.int 0 0,.int 0 0,.int 0 0,.int 8 0,.int 4 0,.int 0 0,.int 13 0,.int 14 0,.int 21 0,.int 9 0,.int 0 0,.int 604043296 0,.int 1 0,.int 0 0,.int 0 0,.int 0 0,.int 0 0,.int 0 0,.int 8 0,.int 4 0,.int 0 0,.int 1 0] 0
noncomputable def o98 (P:Params):Obj:=fO "re.Pattern" [.str (Str.mk #[91,94,92,119,64,37,43,61,58,44,46,47,45,93]) 401,.int 256 438,.int 0 0,.none,.none,rf 97,.int 0 0]
noncomputable def o111 (P:Params):Obj:=fO "code" [.str "_index" 450,.str "_index" 451,.str "/claim/cut.py" 452,.int 59 0,.int 2 0,.int 0 0,.int 0 0,.int 3 0,rf 106,.bool true,.int 318 0,rf 107,.none,rf 108,rf 109,rf 110,.int 455 0,.int 59 0,.str "/claim/cut.py" 456]
noncomputable def o112 (P:Params):Obj:=⟨.type "function",none,.func (fn (cY top 9) "_index" "_index" 3 [] .none .none .none (.str "io" 440) none (rf 111) .none 0),#[]⟩
noncomputable def o138 (P:Params):Obj:=fO "code" [.str "__new__" 494,.str "IOBase.__new__" 495,.str "/claim/cut.py" 496,.int 71 0,.int 1 0,.int 1 0,.int 0 0,.int 15 0,rf 133,.bool true,.int 318 0,rf 134,.none,rf 135,rf 136,rf 137,.int 500 0,.int 71 0,.str "/claim/cut.py" 501]
noncomputable def o139 (P:Params):Obj:=⟨.type "function",none,.func (fn (cY (eu top 11) 1) "__new__" "IOBase.__new__" 3 [] .none .none .none (.str "io" 440) none (rf 138) .none 0),#[]⟩
noncomputable def o141 (P:Params):Obj:=⟨.type "dict",none,.dict #[aq P "__module__" 487 (.str "io" 492),aq P "__firstlineno__" 491 (.int 68 490),aq P "__new__" 502 (rf 143),aq P "__static_attributes__" 503 (rf 140),aq P "__dict__" 506 (rf 144),aq P "__weakref__" 508 (rf 145),aq P "__doc__" 509 .none] 4,#[]⟩
noncomputable def o142 (P:Params):Obj:=⟨.type "type",none,.cls {name:="IOBase",bases:=[.type "object"],mro:=[rf 142,.type "object"],ns:=141,qualname:="IOBase",hasDict:=true,slotNames:=[],subclasses:=[rf 157,rf 169],abstract:=false,collection:=none,hasDel:=false},#[none,none,some (.str "IOBase" 480),some (.str "IOBase" 488),some .none,some (.bool true)]⟩
noncomputable def o143 (P:Params):Obj:=fO "staticmethod" [rf 139]
noncomputable def o168 (P:Params):Obj:=⟨.type "dict",none,.dict #[aq P "__module__" 537 (.str "io" 542),aq P "__firstlineno__" 541 (.int 77 540),aq P "__static_attributes__" 544 (rf 167),aq P "__doc__" 545 .none] 2,#[]⟩
noncomputable def o169 (P:Params):Obj:=⟨.type "type",none,.cls {name:="TextIOBase",bases:=[rf 142],mro:=[rf 169,rf 142,.type "object"],ns:=168,qualname:="TextIOBase",hasDict:=true,slotNames:=[],subclasses:=[rf 646],abstract:=false,collection:=none,hasDel:=false},#[some (rf 160),none,some (.str "TextIOBase" 530),some (.str "TextIOBase" 538),some .none,some (.bool true)]⟩
noncomputable def o399 (P:Params):Obj:=⟨.type "type",none,.cls {name:="BytesIO",bases:=[rf 157],mro:=[rf 399,rf 157,rf 142,.type "object"],ns:=398,qualname:="BytesIO",hasDict:=true,slotNames:=[],subclasses:=[],abstract:=false,collection:=none,hasDel:=false},#[some (rf 172),none,some (.str "BytesIO" 548),some (.str "BytesIO" 556),some .none,some (.bool true)]⟩
noncomputable def o409 (P:Params):Obj:=sO "tuple" [.str "" 824,.str (Str.mk #[10]) 825] 0
noncomputable def o415 (P:Params):Obj:=fO "code" [.str "__init__" 826,.str "StringIO.__init__" 827,.str "/claim/cut.py" 828,.int 252 0,.int 3 0,.int 0 0,.int 0 0,.int 3 0,rf 410,.bool true,.int 318 0,rf 411,.none,rf 412,rf 413,rf 414,.int 832 0,.int 252 0,.str "/claim/cut.py" 833]
noncomputable def o416 (P:Params):Obj:=⟨.type "function",none,.func (fn (cY (eu top 15) 1) "__init__" "StringIO.__init__" 3 [] (rf 409) .none .none (.str "io" 440) none (rf 415) .none 0),#[]⟩
noncomputable def o422 (P:Params):Obj:=fO "code" [.str "__translated" 835,.str "StringIO.__translated" 836,.str "/claim/cut.py" 837,.int 265 0,.int 2 0,.int 0 0,.int 0 0,.int 3 0,rf 417,.bool true,.int 318 0,rf 418,.none,rf 419,rf 420,rf 421,.int 841 0,.int 265 0,.str "/claim/cut.py" 842]
noncomputable def o423 (P:Params):Obj:=⟨.type "function",none,.func (fn (cY (eu top 15) 2) "__translated" "StringIO.__translated" 3 [] .none .none .none (.str "io" 440) none (rf 422) .none 0),#[]⟩
noncomputable def o429 (P:Params):Obj:=fO "code" [.str "__check" 844,.str "StringIO.__check" 845,.str "/claim/cut.py" 846,.int 273 0,.int 1 0,.int 0 0,.int 0 0,.int 3 0,rf 424,.bool true,.int 318 0,rf 425,.none,rf 426,rf 427,rf 428,.int 848 0,.int 273 0,.str "/claim/cut.py" 849]
noncomputable def o430 (P:Params):Obj:=⟨.type "function",none,.func (fn (cY (eu top 15) 3) "__check" "StringIO.__check" 3 [] .none .none .none (.str "io" 440) none (rf 429) .none 0),#[]⟩
noncomputable def o585 (P:Params):Obj:=sO "tuple" [.int (-1) 1017] 0
noncomputable def o591 (P:Params):Obj:=fO "code" [.str "read" 1018,.str "StringIO.read" 1019,.str "/claim/cut.py" 1020,.int 395 0,.int 2 0,.int 2 0,.int 0 0,.int 3 0,rf 586,.bool true,.int 318 0,rf 587,.none,rf 588,rf 589,rf 590,.int 1025 0,.int 395 0,.str "/claim/cut.py" 1026]
noncomputable def o592 (P:Params):Obj:=⟨.type "function",none,.func (fn (cY (eu top 15) 25) "read" "StringIO.read" 3 [] (rf 585) .none .none (.str "io" 440) none (rf 591) .none 0),#[]⟩
noncomputable def o645 (P:Params):Obj:=⟨.type "dict",none,.dict #[aq P "__module__" 817 (.str "_io" 822),aq P "__firstlineno__" 821 (.int 249 820),aq P "__init__" 834 (rf 416),aq P "_StringIO__translated" 843 (rf 423),aq P "_StringIO__check" 850 (rf 430),aq P "_StringIO__check_dot" 857 (rf 437),aq P "_StringIO__line" 872 (rf 444),aq P "closed" 880 (rf 452),aq P "line_buffering" 888 (rf 460),aq P "newlines" 896 (rf 468),aq P "encoding" 904 (rf 476),aq P "errors" 912 (rf 484),aq P "close" 919 (rf 491),aq P "__enter__" 926 (rf 498),aq P "__exit__" 934 (rf 505),aq P "readable" 941 (rf 512),aq P "writable" 948 (rf 519),aq P "seekable" 955 (rf 526),aq P "isatty" 962 (rf 533),aq P "flush" 969 (rf 540),aq P "fileno" 976 (rf 547),aq P "detach" 983 (rf 554),aq P "getvalue" 990 (rf 561),aq P "tell" 997 (rf 568),aq P "seek" 1007 (rf 576),aq P "truncate" 1015 (rf 584),aq P "read" 1027 (rf 592),aq P "readline" 1037 (rf 600),aq P "readlines" 1047 (rf 608),aq P "__iter__" 1054 (rf 615),aq P "__next__" 1062 (rf 622),aq P "write" 1074 (rf 629),aq P "writelines" 1082 (rf 636),aq P "__repr__" 1089 (rf 643),aq P "__static_attributes__" 1093 (rf 644),aq P "__doc__" 1094 .none] 2,#[]⟩
noncomputable def o646 (P:Params):Obj:=⟨.type "type",none,.cls {name:="StringIO",bases:=[rf 169],mro:=[rf 646,rf 169,rf 142,.type "object"],ns:=645,qualname:="StringIO",hasDict:=true,slotNames:=[],subclasses:=[],abstract:=false,collection:=none,hasDel:=false},#[some (rf 402),none,some (.str "StringIO" 810),some (.str "StringIO" 818),some .none,some (.bool true)]⟩
noncomputable def o698 (P:Params):Obj:=sO "tuple" [.none,.none,.bool false,.bool false] 0
noncomputable def o704 (P:Params):Obj:=fO "code" [.str "__init__" 1170,.str "shlex.__init__" 1171,.str "/claim/cut.py" 1172,.int 521 0,.int 5 0,.int 0 0,.int 0 0,.int 3 0,rf 699,.bool true,.int 318 0,rf 700,.none,rf 701,rf 702,rf 703,.int 1179 0,.int 521 0,.str "/claim/cut.py" 1180]
noncomputable def o705 (P:Params):Obj:=⟨.type "function",none,.func (fn (cY (eu top 25) 0) "__init__" "shlex.__init__" 3 [] (rf 698) .none .none (.str "cpy313.shlex" 1156) none (rf 704) .none 0),#[]⟩
noncomputable def o711 (P:Params):Obj:=fO "code" [.str "punctuation_chars" 1182,.str "shlex.punctuation_chars" 1183,.str "/claim/cut.py" 1184,.int 562 0,.int 1 0,.int 0 0,.int 0 0,.int 3 0,rf 706,.bool true,.int 318 0,rf 707,.none,rf 708,rf 709,rf 710,.int 1186 0,.int 562 0,.str "/claim/cut.py" 1187]
noncomputable def o712 (P:Params):Obj:=⟨.type "function",none,.func (fn (cY (eu top 25) 1) "punctuation_chars" "shlex.punctuation_chars" 3 [] .none .none .none (.str "cpy313.shlex" 1156) none (rf 711) .none 0),#[]⟩
noncomputable def o713 (P:Params):Obj:=fO "property" [rf 712,.none,.none,.none,.str "punctuation_chars" 1189,.bool false]
noncomputable def o741 (P:Params):Obj:=fO "code" [.str "get_token" 1214,.str "shlex.get_token" 1215,.str "/claim/cut.py" 1216,.int 589 0,.int 1 0,.int 0 0,.int 0 0,.int 3 0,rf 736,.bool true,.int 318 0,rf 737,.none,rf 738,rf 739,rf 740,.int 1223 0,.int 589 0,.str "/claim/cut.py" 1224]
noncomputable def o742 (P:Params):Obj:=⟨.type "function",none,.func (fn (cY (eu top 25) 5) "get_token" "shlex.get_token" 3 [] .none .none .none (.str "cpy313.shlex" 1156) none (rf 741) .none 0),#[]⟩
noncomputable def o748 (P:Params):Obj:=fO "code" [.str "read_token" 1226,.str "shlex.read_token" 1227,.str "/claim/cut.py" 1228,.int 616 0,.int 1 0,.int 0 0,.int 0 0,.int 3 0,rf 743,.bool true,.int 318 0,rf 744,.none,rf 745,rf 746,rf 747,.int 1234 0,.int 616 0,.str "/claim/cut.py" 1235]
noncomputable def o749 (P:Params):Obj:=⟨.type "function",none,.func (fn (cY (eu top 25) 6) "read_token" "shlex.read_token" 3 [] .none .none .none (.str "cpy313.shlex" 1156) none (rf 748) .none 0),#[]⟩
noncomputable def o770 (P:Params):Obj:=fO "code" [.str "__iter__" 1254,.str "shlex.__iter__" 1255,.str "/claim/cut.py" 1256,.int 763 0,.int 1 0,.int 0 0,.int 0 0,.int 3 0,rf 765,.bool true,.int 318 0,rf 766,.none,rf 767,rf 768,rf 769,.int 1258 0,.int 763 0,.str "/claim/cut.py" 1259]
noncomputable def o771 (P:Params):Obj:=⟨.type "function",none,.func (fn (cY (eu top 25) 9) "__iter__" "shlex.__iter__" 3 [] .none .none .none (.str "cpy313.shlex" 1156) none (rf 770) .none 0),#[]⟩
noncomputable def o777 (P:Params):Obj:=fO "code" [.str "__next__" 1261,.str "shlex.__next__" 1262,.str "/claim/cut.py" 1263,.int 766 0,.int 1 0,.int 0 0,.int 0 0,.int 3 0,rf 772,.bool true,.int 318 0,rf 773,.none,rf 774,rf 775,rf 776,.int 1266 0,.int 766 0,.str "/claim/cut.py" 1267]
noncomputable def o778 (P:Params):Obj:=⟨.type "function",none,.func (fn (cY (eu top 25) 10) "__next__" "shlex.__next__" 3 [] .none .none .none (.str "cpy313.shlex" 1156) none (rf 777) .none 0),#[]⟩
noncomputable def o780 (P:Params):Obj:=⟨.type "dict",none,.dict #[aq P "__module__" 1165 (.str "cpy313.shlex" 1156),aq P "__firstlineno__" 1169 (.int 519 1168),aq P "__init__" 1181 (rf 705),aq P "punctuation_chars" 1189 (rf 713),aq P "push_token" 1197 (rf 720),aq P "push_source" 1206 (rf 728),aq P "pop_source" 1213 (rf 735),aq P "get_token" 1225 (rf 742),aq P "read_token" 1236 (rf 749),aq P "sourcehook" 1244 (rf 756),aq P "error_leader" 1253 (rf 764),aq P "__iter__" 1260 (rf 771),aq P "__next__" 1268 (rf 778),aq P "__static_attributes__" 1289 (rf 779),aq P "__dict__" 1291 (rf 782),aq P "__weakref__" 1293 (rf 783),aq P "__doc__" 1294 .none] 4,#[]⟩
noncomputable def o781 (P:Params):Obj:=⟨.type "type",none,.cls {name:="shlex",bases:=[.type "object"],mro:=[rf 781,.type "object"],ns:=780,qualname:="shlex",hasDict:=true,slotNames:=[],subclasses:=[],abstract:=false,collection:=none,hasDel:=false},#[none,none,some (.str "shlex" 1158),some (.str "shlex" 1166),some (.builtin "object.__new__"),some (.bool true)]⟩
noncomputable def o786 (P:Params):Obj:=sO "tuple" [.bool false,.bool true] 0
noncomputable def o792 (P:Params):Obj:=fO "code" [.str "split" 1297,.str "split" 1298,.str "/claim/cut.py" 1299,.int 771 0,.int 3 0,.int 0 0,.int 0 0,.int 3 0,rf 787,.bool true,.int 318 0,rf 788,.none,rf 789,rf 790,rf 791,.int 1304 0,.int 771 0,.str "/claim/cut.py" 1305]
noncomputable def o793 (P:Params):Obj:=⟨.type "function",none,.func (fn (cY top 26) "split" "split" 3 [] (rf 786) .none .none (.str "cpy313.shlex" 1156) none (rf 792) .none 0),#[]⟩
noncomputable def o795 (P:Params):Obj:=⟨.none,none,.fields #[],#[]⟩
noncomputable def o799 (P:Params):Obj:=fO "code" [.str "join" 1307,.str "join" 1308,.str "/claim/cut.py" 1309,.int 779 0,.int 1 0,.int 0 0,.int 0 0,.int 3 0,rf 794,.bool true,.int 318 0,rf 795,.none,rf 796,rf 797,rf 798,.int 1311 0,.int 779 0,.str "/claim/cut.py" 1312]
noncomputable abbrev o799w (w:World):=o799 w.params
noncomputable def o800 (P:Params):Obj:=⟨.type "function",none,.func (fn (cY top 27) "join" "join" 3 [] .none .none .none (.str "cpy313.shlex" 1156) none (rf 799) .none 0),#[]⟩
noncomputable def o801 (P:Params):Obj:=fO "builtin_function_or_method" [.builtin "re.Pattern.search",rf 98]
noncomputable def o807 (P:Params):Obj:=fO "code" [.str "quote" 1317,.str "quote" 1318,.str "/claim/cut.py" 1319,.int 783 0,.int 1 0,.int 0 0,.int 0 0,.int 3 0,rf 802,.bool true,.int 318 0,rf 803,.none,rf 804,rf 805,rf 806,.int 1321 0,.int 783 0,.str "/claim/cut.py" 1322]
noncomputable def o808 (P:Params):Obj:=⟨.type "function",none,.func (fn (cY top 30) "quote" "quote" 3 [] .none .none .none (.str "cpy313.shlex" 1156) none (rf 807) .none 0),#[]⟩
noncomputable def o814 (P:Params):Obj:=fO "code" [.str "S_IFMT" 1326,.str "S_IFMT" 1327,.str "/claim/cut.py" 1328,.int 790 0,.int 1 0,.int 0 0,.int 0 0,.int 3 0,rf 809,.bool true,.int 318 0,rf 810,.none,rf 811,rf 812,rf 813,.int 1330 0,.int 790 0,.str "/claim/cut.py" 1331]
noncomputable def o815 (P:Params):Obj:=⟨.type "function",none,.func (fn (cY top 32) "S_IFMT" "S_IFMT" 3 [] .none .none .none (.str "cpy313.stat" 1324) none (rf 814) .none 0),#[]⟩
noncomputable def o816 (P:Params):Obj:=sO "tuple" [.int 40960 1343,.str "l" 1371] 0
noncomputable def o817 (P:Params):Obj:=sO "tuple" [.int 49152 1345,.str "s" 1372] 0
noncomputable def o818 (P:Params):Obj:=sO "tuple" [.int 32768 1339,.str "-" 1373] 0
noncomputable def o823 (P:Params):Obj:=sO "tuple" [rf 816,rf 817,rf 818,rf 819,rf 820,rf 821,rf 822] 0
noncomputable def o824 (P:Params):Obj:=sO "tuple" [.int 256 1353,.str "r" 1378] 0
noncomputable def o825 (P:Params):Obj:=sO "tuple" [rf 824] 0
noncomputable def o826 (P:Params):Obj:=sO "tuple" [.int 128 1355,.str "w" 1379] 0
noncomputable def o827 (P:Params):Obj:=sO "tuple" [rf 826] 0
noncomputable def o828 (P:Params):Obj:=sO "tuple" [.int 2112 1380,.str "s" 1381] 0
noncomputable def o829 (P:Params):Obj:=sO "tuple" [.int 2048 1347,.str "S" 1382] 0
noncomputable def o830 (P:Params):Obj:=sO "tuple" [.int 64 1357,.str "x" 1383] 0
noncomputable def o831 (P:Params):Obj:=sO "tuple" [rf 828,rf 829,rf 830] 0
noncomputable def o832 (P:Params):Obj:=sO "tuple" [.int 32 1359,.str "r" 1384] 0
noncomputable def o833 (P:Params):Obj:=sO "tuple" [rf 832] 0
noncomputable def o834 (P:Params):Obj:=sO "tuple" [.int 16 1361,.str "w" 1385] 0
noncomputable def o835 (P:Params):Obj:=sO "tuple" [rf 834] 0
noncomputable def o836 (P:Params):Obj:=sO "tuple" [.int 1032 1386,.str "s" 1387] 0
noncomputable def o837 (P:Params):Obj:=sO "tuple" [.int 1024 1349,.str "S" 1388] 0
noncomputable def o838 (P:Params):Obj:=sO "tuple" [.int 8 1363,.str "x" 1389] 0
noncomputable def o839 (P:Params):Obj:=sO "tuple" [rf 836,rf 837,rf 838] 0
noncomputable def o840 (P:Params):Obj:=sO "tuple" [.int 4 1365,.str "r" 1390] 0
noncomputable def o841 (P:Params):Obj:=sO "tuple" [rf 840] 0
noncomputable def o842 (P:Params):Obj:=sO "tuple" [.int 2 1367,.str "w" 1391] 0
noncomputable def o843 (P:Params):Obj:=sO "tuple" [rf 842] 0
noncomputable def o844 (P:Params):Obj:=sO "tuple" [.int 513 1392,.str "t" 1393] 0
noncomputable def o845 (P:Params):Obj:=sO "tuple" [.int 512 1351,.str "T" 1394] 0
noncomputable def o846 (P:Params):Obj:=sO "tuple" [.int 1 1369,.str "x" 1395] 0
noncomputable def o847 (P:Params):Obj:=sO "tuple" [rf 844,rf 845,rf 846] 0
noncomputable def o848 (P:Params):Obj:=sO "tuple" [rf 823,rf 825,rf 827,rf 831,rf 833,rf 835,rf 839,rf 841,rf 843,rf 847] 0
noncomputable def o854 (P:Params):Obj:=fO "code" [.str "filemode" 1397,.str "filemode" 1398,.str "/claim/cut.py" 1399,.int 812 0,.int 1 0,.int 0 0,.int 0 0,.int 3 0,rf 849,.bool true,.int 318 0,rf 850,.none,rf 851,rf 852,rf 853,.int 1406 0,.int 812 0,.str "/claim/cut.py" 1407]
noncomputable def o855 (P:Params):Obj:=⟨.type "function",none,.func (fn (cY top 53) "filemode" "filemode" 3 [] .none .none .none (.str "cpy313.stat" 1324) none (rf 854) .none 0),#[]⟩
noncomputable def o861 (P:Params):Obj:=fO "code" [.str "_law_entry" 1411,.str "_law_entry" 1412,.str "/claim/cut.py" 1413,.int 830 0,.int 2 0,.int 0 0,.int 0 0,.int 3 0,rf 856,.bool true,.int 318 0,rf 857,.none,rf 858,rf 859,rf 860,.int 1418 0,.int 830 0,.str "/claim/cut.py" 1419]
noncomputable def o862 (P:Params):Obj:=⟨.type "function",none,.func (fn (cY top 55) "_law_entry" "_law_entry" 3 [] .none .none .none (.str "law_ik0134_01" 1409) none (rf 861) .none 0),#[]⟩
noncomputable def o866 (P:Params):Obj:=fO "code" [.str "_law_told" 1421,.str "_law_told" 1422,.str "/claim/cut.py" 1423,.int 836 0,.int 2 0,.int 0 0,.int 0 0,.int 3 0,rf 863,.bool true,.int 318 0,rf 864,.none,.none,.none,rf 865,.int 1424 0,.int 836 0,.str "/claim/cut.py" 1425]
noncomputable def o867 (P:Params):Obj:=⟨.type "function",none,.func (fn (cY top 56) "_law_told" "_law_told" 3 [] .none .none .none (.str "law_ik0134_01" 1409) none (rf 866) .none 0),#[]⟩
noncomputable def o871 (P:Params):Obj:=fO "code" [.str "law" 1427,.str "law" 1428,.str "/claim/cut.py" 1429,.int 843 0,.int 1 0,.int 0 0,.int 0 0,.int 3 0,rf 868,.bool true,.int 318 0,rf 869,.none,.none,.none,rf 870,.int 1430 0,.int 843 0,.str "/claim/cut.py" 1431]
noncomputable def o872 (P:Params):Obj:=⟨.type "function",none,.func (fn (cY top 57) "law" "law" 3 [] .none .none .none (.str "law_ik0134_01" 1409) none (rf 871) .none 0),#[]⟩
noncomputable def KL (P:Params):Frag:=[(0,o0 P),(2,o2 P),(3,o3 P),(4,o4 P),(57,o57 P),(58,o58 P),(64,o64 P),(65,o65 P),(71,o71 P),(72,o72 P),(81,o81 P),(82,o82 P),(92,o92 P),(93,o93 P),(97,o97 P),(98,o98 P),(111,o111 P),(112,o112 P),(138,o138 P),(139,o139 P),(141,o141 P),(142,o142 P),(143,o143 P),(168,o168 P),(169,o169 P),(399,o399 P),(409,o409 P),(415,o415 P),(416,o416 P),(422,o422 P),(423,o423 P),(429,o429 P),(430,o430 P),(585,o585 P),(591,o591 P),(592,o592 P),(645,o645 P),(646,o646 P),(698,o698 P),(704,o704 P),(705,o705 P),(711,o711 P),(712,o712 P),(713,o713 P),(741,o741 P),(742,o742 P),(748,o748 P),(749,o749 P),(770,o770 P),(771,o771 P),(777,o777 P),(778,o778 P),(780,o780 P),(781,o781 P),(786,o786 P),(792,o792 P),(793,o793 P),(795,o795 P),(799,o799 P),(800,o800 P),(801,o801 P),(807,o807 P),(808,o808 P),(814,o814 P),(815,o815 P),(816,o816 P),(817,o817 P),(818,o818 P),(823,o823 P),(824,o824 P),(825,o825 P),(826,o826 P),(827,o827 P),(828,o828 P),(829,o829 P),(830,o830 P),(831,o831 P),(832,o832 P),(833,o833 P),(834,o834 P),(835,o835 P),(836,o836 P),(837,o837 P),(838,o838 P),(839,o839 P),(840,o840 P),(841,o841 P),(842,o842 P),(843,o843 P),(844,o844 P),(845,o845 P),(846,o846 P),(847,o847 P),(848,o848 P),(854,o854 P),(855,o855 P),(861,o861 P),(862,o862 P),(866,o866 P),(867,o867 P),(871,o871 P),(872,o872 P)]
noncomputable abbrev KLw (w:World):=KL w.params
noncomputable def KA:List Addr:=[0,2,3,4,57,58,64,65,71,72,81,82,92,93,97,98,111,112,138,139,141,142,143,168,169,399,409,415,416,422,423,429,430,585,591,592,645,646,698,704,705,711,712,713,741,742,748,749,770,771,777,778,780,781,786,792,793,795,799,800,801,807,808,814,815,816,817,818,823,824,825,826,827,828,829,830,831,832,833,834,835,836,837,838,839,840,841,842,843,844,845,846,847,848,854,855,861,862,866,867,871,872]
noncomputable def mG (P:Params):KT:=KT.of (KL P)
noncomputable abbrev kh (w:World):=mG w.params
noncomputable def Vp (w:World):Vw:=⟨pw,w,kh w,873⟩
structure Sp where
  w:World
  Γ:Ctx
  p:Pos
  tree:Sem Fin
  X:ax
  b:Nat
  t:Nat
  ch:Ch
  gl:List GenState
  outs:List Nat
noncomputable def Sp.run (S:Sp) (F g:Nat) (O:List (Item×Nat)):Res:=go (Vp S.w) S.outs F g O S.Γ S.p [] S.tree S.X .nil [(0,S.b)] 0 S.t 0 S.ch S.gl [] [] [] []

theorem dO:∀ (n:Nat) (t:KT) (i j:Nat) (o x:Obj),(KT.put n t i o).get j=some x→j=i∨t.get j=some x
  | 0,t,i,j,o,x,h=>.inr h
  | n+1,.nil,i,j,o,x,h=>by
    unfold KT.put at h
    rw [BT.beq_eq,BT.beq_eq] at h
    by_cases h0:i=0
    · simp only [h0,decide_true] at h
      rw [KT.get_node] at h
      by_cases j0:j=0
      · exact .inl (by omega)
      · rw [if_neg j0] at h
        split at h <;> simp [KT.get] at h
    · by_cases p:i % 2=1
      · simp only [h0,p,decide_false,decide_true] at h
        rw [KT.get_node] at h
        by_cases j0:j=0
        · rw [if_pos j0] at h;cases h
        · rw [if_neg j0] at h
          by_cases q:j % 2=1
          · rw [if_pos q] at h
            rcases dO n .nil _ _ _ _ h with e | e
            · exact .inl (by omega)
            · simp [KT.get] at e
          · rw [if_neg q] at h;simp [KT.get] at h
      · simp only [h0,p,decide_false] at h
        rw [KT.get_node] at h
        by_cases j0:j=0
        · rw [if_pos j0] at h;cases h
        · rw [if_neg j0] at h
          by_cases q:j % 2=1
          · rw [if_pos q] at h;simp [KT.get] at h
          · rw [if_neg q] at h
            rcases dO n .nil _ _ _ _ h with e | e
            · exact .inl (by omega)
            · simp [KT.get] at e
  | n+1,.node v l r,i,j,o,x,h=>by
    unfold KT.put at h
    rw [BT.beq_eq,BT.beq_eq] at h
    by_cases h0:i=0
    · simp only [h0,decide_true] at h
      rw [KT.get_node] at h
      by_cases j0:j=0
      · exact .inl (by omega)
      · rw [if_neg j0] at h
        refine .inr ?_
        rw [KT.get_node,if_neg j0];exact h
    · by_cases p:i % 2=1
      · simp only [h0,p,decide_false,decide_true] at h
        rw [KT.get_node] at h ⊢
        by_cases j0:j=0
        · rw [if_pos j0] at h ⊢;exact .inr h
        · rw [if_neg j0] at h ⊢
          by_cases q:j % 2=1
          · rw [if_pos q] at h ⊢
            rcases dO n l _ _ _ _ h with e | e
            · exact .inl (by omega)
            · exact .inr e
          · rw [if_neg q] at h ⊢;exact .inr h
      · simp only [h0,p,decide_false] at h
        rw [KT.get_node] at h ⊢
        by_cases j0:j=0
        · rw [if_pos j0] at h ⊢;exact .inr h
        · rw [if_neg j0] at h ⊢
          by_cases q:j % 2=1
          · rw [if_pos q] at h ⊢;exact .inr h
          · rw [if_neg q] at h ⊢
            rcases dO n r _ _ _ _ h with e | e
            · exact .inl (by omega)
            · exact .inr e
theorem ga:∀ (K:Frag) (t:KT) (j:Nat) (x:Obj),(K.foldl (fun t p=>t.put 40 p.1 p.2) t).get j=some x→j∈K.map (·.1)∨t.get j=some x
  | [],t,j,x,h=>.inr h
  | p :: K,t,j,x,h=>by
    rcases ga K _ j x h with e | e
    · exact .inl (by simp [e])
    · rcases dO 40 t p.1 j p.2 x e with e | e
      · exact .inl (by simp [e])
      · exact .inr e
theorem KA_eq (P:Params):List.map (fun (p:Addr×Obj)=>p.1) (KL P)=KA:=by kernel_rfl
theorem Vp_kt (w:World):(Vp w).kt=List.foldl (fun (t:KT) (p:Addr×Obj)=>t.put 40 p.1 p.2) .nil (KLw w):=by kernel_rfl
theorem Vp_n (w:World):(Vp w).n₁=873:=by kernel_rfl
theorem ai (w:World):∀ a o,(Vp w).kt.get a=some o→a < (Vp w).n₁:=fun a o h=>by
  rw [Vp_kt] at h
  rw [Vp_n]
  rcases ga _ _ _ _ h with e | e
  · rw [KA_eq] at e
    have:KA.all (· < 873)=true:=by decide +kernel
    have:=List.all_eq_true.mp this a e
    exact of_decide_eq_true this
  · simp [KT.get] at e

theorem dr.start {V:Vw} {X:ax} {b t:Nat} {ch:Ch} {gl:List GenState} {s:Shared} (h:At V X b t ch gl s):dr V (X.map (·.1)) s X .nil [(0,b)] 0 t 0 ch gl s :=
  ⟨h.base,h.tab,h.olds,fun j o e=>(nomatch e),by simpa using h.nd,(fun a ha=>by
      simp only [List.range_zero,List.map_nil,List.append_nil] at ha
      obtain ⟨x,hx,rfl⟩:=List.mem_map.mp ha
      rw [h.size];exact h.hi x hx),by rw [h.size];rfl,⟨0,b,[],rfl,Nat.le_refl 0⟩,by rw [h.size];exact h.lo,by rw [h.toks];rfl,h.gens,
    ⟨fun a o e _ _=>e,Nat.le_refl _,Nat.le_refl _,rfl,rfl⟩,fun x hx=>.inl (List.mem_map_of_mem hx),fun j hj=>absurd hj (Nat.not_lt_zero j)⟩
theorem Sp.sound {S:Sp} {Φ:Result→Shared→Prop} {F g:Nat} {O:List (Item×Nat)} {s:Shared} (hn:S.outs.Nodup) (h:At (Vp S.w) S.X S.b S.t S.ch S.gl s)
    (H:dx (Vp S.w) (S.X.map (·.1)) S.Γ s Φ (S.run F g O)):∃ r s',Runs (cg (Vp S.w)) S.Γ S.p S.tree [] s (.ret r) s'∧Φ r s':=by
  obtain ⟨_,_,_,c⟩:=mZ (ai S.w) hn (A:=S.X.map (·.1)) (s₀:=s) (Φ:=Φ) (Γ₀:=S.Γ) F g O S.Γ S.p [] S.tree S.X .nil [(0,S.b)] 0 S.t 0 S.ch S.gl [] [] [] [] H
  obtain ⟨e,s',hr,r,rfl,hΦ⟩:=c s (fun _=>rfl) (dr.start h)
  exact ⟨r,s',hr,hΦ⟩
theorem Sp.code {S:Sp} {Φ:Result→Shared→Prop} {F g:Nat} {O:List (Item×Nat)} {s:Shared} (hn:S.outs.Nodup) (ht:S.tree=den S.Γ.code) (h:At (Vp S.w) S.X S.b S.t S.ch S.gl s)
    (H:dx (Vp S.w) (S.X.map (·.1)) S.Γ s Φ (S.run F g O)):wpCode (cg (Vp S.w)) S.Γ Φ S.p s:=by
  obtain ⟨r,s',hr,hΦ⟩:=Sp.sound hn h H
  rw [ht] at hr
  exact ⟨r,s',hr,hΦ⟩
end
section
open PySem PySem.W PySem.W.X PyProof.Rows
noncomputable def ofL:List Obj→Nat→BT→Option (BT×Nat)
  | [],n,T=>some (T,n)
  | o :: l,n,T=>match ((T.ins n o).get n).isSome with
    | true=>ofL l (n+1) (T.ins n o)
    | false=>none
noncomputable def toT (s:Shared):Option SharedT:=match ofL s.heap.objs.toList 0 .nil with
  | some x=>some ⟨x.1,x.2,s.heap.life,s.gens,s.drawn,s.toks,s.os⟩
  | none=>none
noncomputable def impT (den:Code→Sem Fin) (p:Program) (w:World):Nat→SharedT→Thread→Option SharedT
  | 0,_,_=>none
  | n+1,s,t=>match t.atExitBegin with
    | some l=>match l with
      | []=>some s
      | _ :: _=>none
    | none=>match stepT den p w s t with
      | some x=>impT den p w n x.1 x.2
      | none=>none
noncomputable def topT (den:Code→Sem Fin) (p:Program) (w:World) (n₀:Nat) (ann:Option Value):Nat→SharedT→Thread→Option SharedT
  | 0,_,_=>none
  | n+1,s,t=>match through t with
    | true=>some s
    | false=>match stepOk n₀ ann t with
      | false=>none
      | true=>match stepT den p w s t with
        | some x=>topT den p w n₀ ann n x.1 x.2
        | none=>none
theorem mo:∀ (l:List Obj) (n:Nat) (T T':BT) (n':Nat) (life:Life),ofL l n T=some (T',n')→(absHeap T' n' life).objs=(absHeap T n life).objs++l.toArray
  | [],n,T,T',n',life,h=>by cases h;simp
  | o :: l,n,T,T',n',life,h=>by
    unfold ofL at h
    cases e:((T.ins n o).get n).isSome with
    | false=>rw [e] at h;cases h
    | true =>
      rw [e] at h
      rw [mo l (n+1) _ T' n' life h,absHeap_ins e]
      show (absHeap T n life).objs.push o++_=_
      apply Array.toList_inj.mp
      simp
theorem lk {s:Shared} {t:SharedT} (h:toT s=some t):t.abs=s:=by
  unfold toT at h
  cases e:ofL s.heap.objs.toList 0 .nil with
  | none=>rw [e] at h;cases h
  | some x =>
    rw [e] at h;cases h
    have:=mo _ _ _ x.1 x.2 s.heap.life e
    have e0:(absHeap .nil 0 s.heap.life).objs = #[]:=rfl
    rw [e0] at this
    obtain ⟨⟨objs,life⟩,gens,drawn,toks,os⟩:=s
    show Shared.mk (absHeap x.1 x.2 life) gens drawn toks os=_
    have e1:absHeap x.1 x.2 life=⟨objs,life⟩:=by
      have:(absHeap x.1 x.2 life).objs=objs:=by simpa using this
      show Heap.mk _ _=_
      exact congrArg (Heap.mk · life) this
    rw [e1]
theorem kl {p:Program} {w:World}:∀ (n:Nat) (s s':SharedT) (t:Thread),impT den p w n s t=some s'→importEnds table p w n s.abs t=some s'.abs
  | 0,_,_,_,h=>by cases h
  | n+1,s,s',t,h=>by
    unfold impT at h
    unfold importEnds
    cases he:t.atExitBegin with
    | some x =>
      rw [he] at h
      cases x with
      | nil=>cases h;rfl
      | cons _ _=>cases h
    | none =>
      rw [he] at h
      cases hs:stepT den p w s t with
      | none=>rw [hs] at h;cases h
      | some r =>
        rw [hs] at h
        dsimp only
        rw [fj,stepT_spec hs]
        exact kl n _ _ _ h
theorem j7 {p:Program} {w:World} {n₀:Nat} {ann:Option Value}:∀ (n:Nat) (s s':SharedT) (t:Thread),topT den p w n₀ ann n s t=some s'→topRun table p w n₀ ann n s.abs t=some s'.abs
  | 0,_,_,_,h=>by cases h
  | n+1,s,s',t,h=>by
    unfold topT at h
    unfold topRun
    cases he:through t with
    | true=>rw [he] at h;cases h;rfl
    | false =>
      rw [he] at h
      cases hk:stepOk n₀ ann t with
      | false=>rw [hk] at h;cases h
      | true =>
        rw [hk] at h
        cases hs:stepT den p w s t with
        | none=>rw [hs] at h;cases h
        | some r =>
          rw [hs] at h
          dsimp only
          rw [fj,stepT_spec hs]
          exact j7 n _ _ _ h
noncomputable def im0 (w:World):Option SharedT:=(toT (start (opening pw)).1).bind fun s=>impT den (opening pw) w 24000 s (start (opening pw)).2
noncomputable def mY (w:World):Option SharedT:=(im0 w).bind fun si=>(fenceModules? pw si.abs).bind fun s₀=>match s₀.heap.isNs mainGlobals && s₀.gens.size == 0 with
  | true=>(toT s₀).bind fun st=>(topT den pw w s₀.heap.objs.size (s₀.heap.nsMap mainGlobals "__annotations__") 24000 st (topStub pw)).bind fun s₁=>match staticsOk (importedModules pw.main.body) s₀.heap s₁.abs.heap && namesBound pw s₁.abs.heap && gensDone s₁.abs && laidKept s₀.heap s₁.abs.heap with
    | true=>some s₁
    | false=>none
  | false=>none
theorem jO {w:World} {s:SharedT} (h:mY w=some s):openEnds treeTable pw w 24000=some s.abs:=by
  rw [← table_eq_tree]
  unfold mY at h
  obtain ⟨si,h1,h⟩:=Option.bind_eq_some_iff.mp h
  obtain ⟨s₀,h2,h⟩:=Option.bind_eq_some_iff.mp h
  unfold im0 at h1
  obtain ⟨sb,hb,h1⟩:=Option.bind_eq_some_iff.mp h1
  have h1:=kl _ _ _ _ h1
  rw [lk hb] at h1
  unfold openEnds fencedOpening
  rw [h1]
  show (fenceModules? pw si.abs).bind _=_
  rw [h2]
  show topFrom table pw w 24000 s₀=_
  unfold topFrom
  cases e:(s₀.heap.isNs mainGlobals && s₀.gens.size == 0) with
  | false=>rw [e] at h;cases h
  | true =>
    rw [e] at h
    obtain ⟨st,h3,h⟩:=Option.bind_eq_some_iff.mp h
    obtain ⟨s₁,h4,h⟩:=Option.bind_eq_some_iff.mp h
    have h4:=j7 _ _ _ _ h4
    rw [lk h3] at h4
    dsimp only
    rw [h4]
    cases e2:(staticsOk (importedModules pw.main.body) s₀.heap s₁.abs.heap && namesBound pw s₁.abs.heap && gensDone s₁.abs && laidKept s₀.heap s₁.abs.heap) with
    | false=>rw [e2] at h;cases h
    | true =>
      rw [e2] at h
      cases h
      show (match staticsOk (importedModules pw.main.body) s₀.heap s.abs.heap && namesBound pw s.abs.heap && gensDone s.abs && laidKept s₀.heap s.abs.heap with
        | true=>some s.abs
        | false=>none)=_
      rw [e2]
noncomputable def qw:Program:={ pw with main:={ pw.main with body:=[bt top 0,bt top 1,bt top 57] } }
noncomputable def jG:List PySem.Str:=pw.boundNames.filter fun x=>x != Str.ofString "law"
noncomputable abbrev modsQ:List PySem.Str:=importedModules pw.main.body
noncomputable def YfL (s:Shared):Nat×Nat×List (Option Obj):=(s.heap.objs.size,s.toks,KA.map s.heap.get?)
noncomputable def YaL (w:World):Nat×Nat×List (Option Obj):=(873,1433,KA.map (kh w).get)
theorem mX:∀ w,(mY w).map (fun s=>(openSeen qw jG modsQ (fun _=>true) true s.abs,s.n,s.toks,KA.map s.tree.get))=some (openGood qw jG,873,1433,KA.map (kh w).get):=fun w=>by kernel_rfl
noncomputable def aOk (P:Params) (a:Nat):Bool:=Nat.blt a 873 && match (mG P).get a with
  | some o=>!o.isFreed
  | none=>false
theorem ka_ok:∀ P,KA.all (aOk P)=true:=fun P=>by kernel_rfl
theorem get_abs {s:SharedT} {P:Params} {a:Nat} (h:s.n=873) (k:aOk P a=true) (e:s.tree.get a=(mG P).get a):s.abs.heap.get? a=(mG P).get a:=by
  unfold aOk at k
  obtain ⟨k1,k2⟩:=Bool.and_eq_true_iff.mp k
  cases q:(mG P).get a with
  | none=>rw [q] at k2;cases k2
  | some o =>
    rw [q] at e k2
    rw [show s.abs.heap.get? a=alive o from abs_get (by rw [h];exact Nat.blt_eq.mp k1) e]
    obtain ⟨c,d,dt,sl⟩:=o
    cases dt <;> first | rfl | cases k2
theorem left:LeftO pw qw jG (fun _=>true) YfL YaL 24000:=fun w=>by
  obtain ⟨s,h1,h2⟩:=Option.map_eq_some_iff.mp (mX w)
  rw [jO h1]
  obtain ⟨e1,h2⟩:=Prod.mk.inj h2
  obtain ⟨e2,h2⟩:=Prod.mk.inj h2
  obtain ⟨e3,e4⟩:=Prod.mk.inj h2
  refine congrArg some (Prod.ext e1 ?_)
  show (s.abs.heap.objs.size,s.toks,KA.map s.abs.heap.get?)=_
  rw [show s.abs.heap.objs.size=873 from (absHeap_size ..).trans e2,e3,List.map_congr_left fun a ha=>get_abs e2 (List.all_eq_true.mp (ka_ok w.params) a ha) (List.map_inj_left.mp e4 a ha)]
  rfl
end
section
open PySem PySem.W PySem.W.X
theorem jz {M:Model} {Γ:Ctx} {e:End} {s'':Shared} (t:Sem Fin) (p:Pos) (s:Shared)
    (h:Sem.wp M Γ t (fun fin p' s'=>∃ c,fin = .again c∧c.quiet=true∧Runs M (Γ.goto c) p' (M.den c) [] s' e s'') (fun _ _ _=>False) p s):Runs M Γ p t [] s e s'':=by
  induction t generalizing p s with
  | pure fin=>obtain ⟨c,rfl,hq,hr⟩:=h;exact .again hq hr
  | raise e=>exact h.elim
  | unsupported | finish | yield | fork | await | register=>exact h.elim
  | rule tag k ih=>exact .rule (ih _ _ _ h)
  | «at» p' k ih=>exact .at (ih _ _ _ h)
  | load a part k ih=>obtain ⟨o,ho,h⟩:=h;exact .load ho (ih _ _ _ h)
  | loadIfAlive a k ih=>exact .loadIfAlive (ih _ _ _ h)
  | point l k ih=>exact .point (ih _ _ _ h)
  | update a part f k ih=>exact .update h.1 (ih _ _ _ h.2)
  | alloc o k ih=>exact .alloc (ih _ _ _ h)
  | fresh k ih=>exact .fresh (ih _ _ _ h)
  | ask k ih=>exact .ask (ih _ _ _ h)
  | choose src n k ih=>exact .choose h.1 (ih _ _ _ h.2)
  | os q l k ih=>exact .os (ih _ _ _ h)
  | call c hh g l k ih=>obtain ⟨r₁,s₁,h₁,h₂⟩:=h;exact .call h₁ (ih _ _ _ h₂)
  | genState g k ih=>obtain ⟨st,hg,h⟩:=h;exact .genState hg (ih _ _ _ h)
  | handled own k ih=>exact .handled (ih _ _ _ h)
  | newGen c k ih=>exact .newGen (ih _ _ _ h)
  | resume g r l k ih=>obtain ⟨res,s₁,hw,h₂⟩:=h;exact (Sem.runs_resume_iff M Γ).mpr ⟨res,s₁,hw,ih _ _ _ h₂⟩
  | stack k ih=>exact .stack (ih _ _ _ h)
  | thread k ih=>exact .thread (ih _ _ _ h)
inductive Cl:Expr→Prop
  | list (elt:Expr) (g:Comprehension) (gens:List Comprehension) (sc:Scope) (q:Pos):g.is_async=0→Cl (.ListComp elt (g :: gens) sc q)
  | gen (elt:Expr) (g:Comprehension) (gens:List Comprehension) (sc:Scope) (q:Pos):g.is_async=0→Cl (.GeneratorExp elt (g :: gens) sc q)
theorem loop_at {M:Model} {Γ:Ctx} {p q:Pos} {e:Expr} (hc:Cl e) {it aj:Value} {env:Env} {s s':Shared} {E:End}
    (h:Runs M Γ p (denote table (.compLoop e 0 it aj env)) [] s E s'):Runs M Γ q (denote table (.compLoop e 0 it aj env)) [] s E s':=by
  cases hc with
  | list elt g gens sc q' ha =>
    have h:Runs M Γ p (.at (if g.is_async != 0 then q' else g.iter.pos) _) [] s E s':=h
    exact .at (inv h:Runs ..)
  | gen elt g gens sc q' ha =>
    have h:Runs M Γ p (.at (if g.is_async != 0 then q' else g.iter.pos) _) [] s E s':=h
    exact .at (inv h:Runs ..)
end
section
open PySem PySem.W PySem.W.X
open PySem.Builtin PySem.Builtin.List
noncomputable def anyB (Γ:Ctx):Around:={ handled:=Γ.handled,depth:=frameCount Γ.below+Γ.code.weight,frames:=some (Γ.code.envs++envsOf Γ.below),guards:=some (Γ.code.guards++guardsOf Γ.below),units:=Γ.units }
theorem kj (Γ:Ctx):Γ.In (anyB Γ):=⟨rfl,Nat.le_refl _,fun l h=>by cases h;rfl,fun g h=>by cases h;rfl,Nat.le_refl _⟩
noncomputable def mx (e:Value) (env:Env):Sem Unit:=match env.frame with
  | none=>unsupported "frame"
  | some f=>field e 1 >>= fun head=>if head != .none then unsupported "head" else
    frameEnvs >>= fun fs=>frameObject fs >>= fun fr=>match fr with
      | none=>unsupported "frame"
      | some fr=>stack >>= fun acts=>newFields "traceback" [head,fr,.none,rawInt f,.none,Z.cellQ 0 (Z.placeOf f (head != .none) acts),Z.cellQ 1 (Z.placeOf f (head != .none) acts),Z.cellQ 2 (Z.placeOf f (head != .none) acts),Z.cellQ 3 (Z.placeOf f (head != .none) acts),Z.cellQ 4 (Z.placeOf f (head != .none) acts),Z.cellQ 5 (Z.placeOf f (head != .none) acts)] >>= fun t=>setField e 1 t
theorem mv {M:Model} {Γ:Ctx} {p:Pos} {s:Shared} {env:Env} {e:Value} {Q:Unit→Pos→Shared→Prop} {E:Value→Pos→Shared→Prop} (hc:Γ.code.env?=some env) (hf:Γ.code.isFrame=true)
    (h:Sem.wp M Γ (mx e env) Q E p s):Sem.wp M Γ (Z.noteFrameQ e env) Q E p s:=by
  unfold mx at h
  unfold Z.noteFrameQ
  cases hq:env.frame with
  | none=>rw [hq] at h;exact h
  | some f =>
    rw [hq] at h
    simp only [Sem.wp_bind'] at h ⊢
    refine Sem.wp_mono _ _ _ ?_ (fun _ _ _ x=>x) p s h
    intro head p' s' h
    by_cases hh:(head != Value.none)=true
    · rw [if_pos hh] at h;exact h.elim
    · have hh':(head != Value.none)=false:=by simpa using hh
      rw [if_neg hh] at h
      rw [if_neg hh]
      have ed:∀ (x:Env) (l:List Env),x.frame=env.frame→List.dropWhile (fun y:Env=>y.frame != env.frame) (x :: l)=x :: l:=fun x l ex=>by
        rw [List.dropWhile_cons,if_neg (by rw [ex];simp)]
      show Sem.wp M Γ (frameOf env >>= _) Q E p' s'
      unfold frameOf
      simp only [Sem.wp_bind',frameEnvs] at h ⊢
      have el:List.filterMap (fun x:Code×Pos=>x.1.env?) (List.filter (fun x=>x.1.isFrame) ((Γ.code,p') :: Γ.below))=env :: List.filterMap (fun x:Code×Pos=>x.1.env?) (List.filter (fun x=>x.1.isFrame) Γ.below):=by
        rw [List.filter_cons_of_pos (by exact hf),List.filterMap_cons_some (by exact hc)]
      have h:Sem.wp M Γ (frameObject (List.filterMap (fun x:Code×Pos=>x.1.env?) (List.filter (fun x=>x.1.isFrame) ((Γ.code,p') :: Γ.below)))) _ E p' s':=h
      show Sem.wp M Γ (frameObject (List.dropWhile (fun x=>x.frame != env.frame) (List.filterMap (fun x:Code×Pos=>x.1.env?) (List.filter (fun x=>x.1.isFrame) ((Γ.code,p') :: Γ.below))))) _ E p' s'
      rw [el] at h ⊢
      rw [ed env _ rfl]
      refine Sem.wp_mono _ _ _ ?_ (fun _ _ _ x=>x) p' s' h
      intro fr p2 s2 h2
      cases fr with
      | none=>exact h2.elim
      | some fr=>exact h2
noncomputable def ic (body:List Stmt) (env:Env):Sem Fin :=
  point >>= fun _=>((PySem.W.Fast.tw12563942051412417395 body env).onRaise fun e=>mx e env >>= fun _=>PySem.W.Fast.tw5670386056902412789 e none) >>= fun r=>match r with
    | .ret v=>ret v
    | _=>ret .none
theorem f1 {V:Vw} {Γ:Ctx} {p:Pos} {body:List Stmt} {env:Env} (hc:Γ.code = .func body env):dK V ⟨Γ,p,den (.func body env),ic body env,false⟩:=by
  intro s e s' he h
  obtain ⟨r,rfl⟩:=he.resolve_left (by simp)
  have h':=(Sem.wp_iff_runs (M:=cg V) (Γ:=Γ) (ic body env) (fun r1 s1=>r1=r∧s1=s') p s).mpr ⟨r,s',h,rfl,rfl⟩
  have k:Sem.wp (cg V) Γ (den (.func body env)) (Sem.finPost (cg V) Γ fun r1 s1=>r1=r∧s1=s') (fun e _ s1=>(Except.error e:Result)=r∧s1=s') p s:=by
    rw [← fj]
    show Sem.wp (cg V) Γ (point >>= fun _=>((execs body env).onRaise (leaving env)) >>= fun r=>match r with
      | .ret v=>ret v
      | _=>ret .none) _ _ p s
    unfold ic at h'
    rw [← PySem.W.Fast.te12563942051412417395,← PySem.W.Fast.te5670386056902412789] at h'
    simp only [Sem.wp_bind',Sem.wp_onRaise] at h' ⊢
    refine Sem.wp_mono _ _ _ ?_ (fun _ _ _ x=>x) p s h'
    intro _ p1 s1 h1
    refine Sem.wp_mono _ _ _ (fun _ _ _ x=>x) ?_ p1 s1 h1
    intro e p2 s2 h2
    show Sem.wp (cg V) Γ (noteFrame e env >>= fun _=>setFlight e none) _ _ p2 s2
    rw [Z.noteFrameQ_eq]
    simp only [Sem.wp_bind'] at h2 ⊢
    exact mv (by rw [hc];rfl) (by rw [hc];rfl) h2
  obtain ⟨r1,s1,hr,rfl,rfl⟩:=(Sem.wp_iff_runs (M:=cg V) (Γ:=Γ) (den (.func body env)) (fun r1 s1=>r1=r∧s1=s') p s).mp k
  exact hr
theorem fk {id:String} {b:Builtin} (args:Args) (h:entryFor table id=some b):den (.builtin id args)=b args:=by
  rw [← fj]
  show (match entryFor table id with | some b=>b args | none=>unsupported ((withoutEnding? id "#data").getD id))=_
  rw [h]
noncomputable def cC (tn:String) (e:Expr) (a:Addr) (aj:Value) (env:Env):Sem Fin :=
  .load a none fun o=>if o.cls == .type tn then .pure (.again (.compLoop e 0 (.ref a) aj env)) else .unsupported "compS"
theorem kZ {V:Vw} {Γ:Ctx} {p:Pos} {tn:String} {e:Expr} {a:Addr} {aj:Value} {env:Env} {s s':Shared} {E:End} (h:Runs (cg V) Γ p (cC tn e a aj env) [] s E s') :
    s.TypeIs (.ref a) tn∧(Code.compLoop e 0 (.ref a) aj env).quiet=true∧Runs (cg V) (Γ.goto (.compLoop e 0 (.ref a) aj env)) p (den (.compLoop e 0 (.ref a) aj env)) [] s E s':=by
  obtain ⟨o,ho,h⟩:=(inv h:∃ o,_∧_)
  dsimp only at h
  by_cases q:(o.cls == Value.type tn)=true
  · rw [if_pos q] at h
    have h:=(inv h:_∧_)
    exact ⟨⟨o,ho,by simpa using q⟩,h.1,h.2⟩
  · rw [if_neg q] at h;exact (inv h:False).elim
theorem iv {V:Vw} {Γ:Ctx} {p:Pos} {tn:String} {e:Expr} {a:Addr} {aj:Value} {env:Env} {b:Bool} (hc:Cl e)
    (hi:∀ A s (Q:Value→Shared→Prop),s.TypeIs (.ref a) tn→Q (.ref a) s→wpAny (model V.prog V.w) A (pyIter (.ref a)) Q (fun _ _=>False) s) :
    dK V ⟨Γ,p,den (.compStart e 0 (.ref a) aj env),cC tn e a aj env,b⟩:=by
  intro s E s' _ h
  obtain ⟨ht,hq,h⟩:=kZ h
  show Runs (cg V) Γ p (den (.compStart e 0 (.ref a) aj env)) [] s E s'
  have hP:∀ p',Runs (cg V) (Γ.goto (.compLoop e 0 (.ref a) aj env)) p' ((cg V).den (.compLoop e 0 (.ref a) aj env)) [] s E s':=fun p'=>by
    have eD:(cg V).den=denote table:=fj.symm
    rw [eD]
    rw [← fj] at h
    exact loop_at hc h
  have hI:Sem.wp (cg V) Γ (pyIter (.ref a)) (fun v _ s2=>v = .ref a∧s2=s) (fun _ _ _=>False) p s:=by
    have z:=hi (anyB Γ) s (fun v s2=>v = .ref a∧s2=s) ht ⟨rfl,rfl⟩ Γ p (kj Γ)
    rw [dv] at z;exact z
  have hI':∀ p',Sem.wp (cg V) Γ (pyIter (.ref a)) (fun v _ s2=>v = .ref a∧s2=s) (fun _ _ _=>False) p' s:=fun p'=>by
    have z:=hi (anyB Γ) s (fun v s2=>v = .ref a∧s2=s) ht ⟨rfl,rfl⟩ Γ p' (kj Γ)
    rw [dv] at z;exact z
  rw [← fj]
  refine jz _ p s ?_
  have key:∀ (ex:Value→Pos→Shared→Prop),Sem.wp (cg V) Γ (PySem.compStart e 0 (.ref a) aj env) (fun fin p' s2=>∃ c,fin = .again c∧c.quiet=true∧Runs (cg V) (Γ.goto c) p' ((cg V).den c) [] s2 E s') ex p s:=by
    intro ex
    have fin:∀ p',(∃ c,Fin.again (.compLoop e 0 (.ref a) aj env) = .again c∧c.quiet=true∧Runs (cg V) (Γ.goto c) p' ((cg V).den c) [] s E s'):=fun p'=>⟨_,rfl,hq,hP p'⟩
    cases hc with
    | list elt g gens sc q' ha =>
      show Sem.wp (cg V) Γ (if (g.is_async != 0)=true then _ else _) _ ex p s
      rw [if_neg (by simp [ha])]
      show Sem.wp (cg V) Γ (if (V.w.params.followText "comprehension-iter-twice")=true then _ else _) _ ex p s
      split
      · exact fin p
      · show Sem.wp (cg V) Γ (pyIter (.ref a) >>= fun it=>(PySem.again (.compLoop (.ListComp elt (g :: gens) sc q') 0 it aj env):Sem PySem.Fin)) _ ex g.iter.pos s
        rw [Sem.wp_bind']
        refine Sem.wp_mono _ _ _ ?_ (fun _ _ _ x=>x.elim) _ s (hI' g.iter.pos)
        rintro v p2 s2 ⟨rfl,rfl⟩
        exact fin p2
    | gen elt g gens sc q' ha =>
      show Sem.wp (cg V) Γ (if (g.is_async != 0)=true then _ else _) _ ex p s
      rw [if_neg (by simp [ha])]
      show Sem.wp (cg V) Γ (if (V.w.params.followText "comprehension-iter-twice")=true then _ else _) _ ex p s
      split
      · exact fin p
      · show Sem.wp (cg V) Γ (pyIter (.ref a) >>= fun it=>(PySem.again (.compLoop (.GeneratorExp elt (g :: gens) sc q') 0 it aj env):Sem PySem.Fin)) _ ex g.iter.pos s
        rw [Sem.wp_bind']
        refine Sem.wp_mono _ _ _ ?_ (fun _ _ _ x=>x.elim) _ s (hI' g.iter.pos)
        rintro v p2 s2 ⟨rfl,rfl⟩
        exact fin p2
  show Sem.wp (cg V) Γ (if _ then (PySem.compStart e 0 (.ref a) aj env).onRaise _ else (PySem.compStart e 0 (.ref a) aj env).onRaise _) _ _ p s
  split
  · rw [Sem.wp_onRaise]
    exact Sem.wp_mono _ _ _ (fun _ _ _ x=>x) (fun _ _ _ x=>x.elim) p s (key fun _ _ _=>False)
  · rw [Sem.wp_onRaise]
    exact Sem.wp_mono _ _ _ (fun _ _ _ x=>x) (fun _ _ _ x=>x.elim) p s (key fun _ _ _=>False)
theorem bl {V:Vw} {Γ:Ctx} {p:Pos} {e:Expr} {a:Addr} {aj:Value} {env:Env} {b:Bool} (hc:Cl e):dK V ⟨Γ,p,den (.compStart e 0 (.ref a) aj env),cC "list_iterator" e a aj env,b⟩ :=
  iv hc fun A s Q hT h=>wpAny_pyIter_slot hT slot_listiter_iter (wpAny_call_entry slot_listiter_iter hT entry_listiter_iter (by
    show wpAny _ _ (ret (.ref a)) _ _ s
    exact wpAny_pure ⟨_,rfl,"list_iterator",_,hT,slot_listiter_next.lookup,h⟩) (args_listiter_iter _))
theorem jc {V:Vw} {Γ:Ctx} {p:Pos} {e:Expr} {a:Addr} {aj:Value} {env:Env} {b:Bool} (hc:Cl e):dK V ⟨Γ,p,den (.compStart e 0 (.ref a) aj env),cC "range_iterator" e a aj env,b⟩ :=
  iv hc fun A s Q hT h=>wpAny_pyIter_slot hT F.slot_range_iterator_iter (wpAny_call_entry F.slot_range_iterator_iter hT F.entry_range_iterator_iter (by
    show wpAny _ _ (ret (.ref a)) _ _ s
    exact wpAny_pure ⟨_,rfl,"range_iterator",_,hT,F.slot_range_iterator_next.lookup,h⟩) (F.args_range_iterator_iter_1 _))
noncomputable def bC (self it result:Value):Sem Fin:=do
  let t ← typeOf it
  if t == .type "list" || t == .type "tuple" then
    let xs ← listItems it
    let mine ← listItems self
    if !mine.isEmpty && listTooLong (mine.size+xs.size) then unsupported "list.extend:memory"
    listUpdate self (· ++ xs)
    return ← ret result
  let iter ← pyIter it
  let room ← holding [iter] (listLengthHint it)
  if room || ["set","frozenset","dict","dict_keys","dict_values","dict_items"].any (t == .type ·) then rule "list.extend.makes-room";listTouch self
  again (.builtin "list.extend.loop" ⟨[self,iter,result],[]⟩)
theorem g9 {self it:Value} (result:Value) (h:listSameRef self it=false):listExtendWith self it result=bC self it result:=by
  unfold listExtendWith bC
  rw [h]
  rfl
noncomputable def bY (self it:Value):Sem Fin:=do
  let old ← listItems self
  listUpdate self fun _=>#[]
  letGo old.toList.reverse
  bC self it .none
theorem c3 {a b:Addr} (h:a≠b):den (.builtin "list.__init__" ⟨[.ref a,.ref b],[]⟩)=bY (.ref a) (.ref b):=by
  have e:entryFor table "list.__init__" = some «list.__init__»:=entryFor_of_tree (by kernel_rfl)
  rw [fk _ e]
  have hs:listSameRef (.ref a) (.ref b)=false:=by
    unfold listSameRef
    exact beq_false_of_ne h
  unfold bY
  rw [← g9 .none hs]
  rfl
theorem bi {a b:Addr} (h:a≠b):den (.builtin "list.__iadd__" ⟨[.ref a,.ref b],[]⟩)=bC (.ref a) (.ref b) (.ref a):=by
  have e:entryFor table "list.__iadd__" = some «list.__iadd__»:=entryFor_of_tree (by kernel_rfl)
  rw [fk _ e]
  have hs:listSameRef (.ref a) (.ref b)=false:=by
    unfold listSameRef
    exact beq_false_of_ne h
  rw [← g9 (.ref a) hs]
  rfl
end
section
open PySem PySem.W PySem.W.X
noncomputable def ads:List (Nat×Nat)→List (Item×Nat)
  | []=>[]
  | x :: l=>(match Nat.beq (x.1 % 2) 0 with | true=>.o (x.1 / 2) | false=>.n (x.1 / 2),x.2) :: ads l
noncomputable def f0 (XA:List Addr) (B:List (Nat×Addr)):List (Nat×Nat)→List Addr→List Addr
  | [],aj=>aj
  | x :: l,aj=>match Nat.beq (x.1 % 2) 0 with
    | true=>f0 XA B l (XA.getD (x.1 / 2) 0 :: aj)
    | false=>f0 XA B l (cU B (x.1 / 2) :: aj)
noncomputable def p0:Pos:=⟨0,0,0,0⟩
noncomputable def aI:Code:=.builtin "claim.caller" {}
noncomputable def Γ0:Ctx:=⟨aI,none,none,[],none⟩
noncomputable def iH (d:Stmt) (q:Str) (f c L:Addr) (cells:List (Str×Addr)):Env:={ scope:=nb d,locals:=L,globals:=3,cells:=cells,qual:=q,func:=some f,code:=.ref c,frame:=some L,builtins:=0 }
noncomputable def e7 (d:Stmt) (qual:String) (f c L:Addr) (cells:List (Str×Addr)):Env:=iH d (Str.ofString qual) f c L cells
noncomputable def fX:Stmt→List Stmt
  | .For _ _ b _ _=>b
  | .While _ b _ _=>b
  | .If _ b _ _=>b
  | _=>[]
noncomputable def sElse:Stmt→List Stmt
  | .For _ _ _ o _=>o
  | .While _ _ o _=>o
  | .If _ _ o _=>o
  | _=>[]
noncomputable def bW (d:Stmt) (env:Env):Code:=.func (az d) env
noncomputable def forC (s:Stmt) (it:Value) (env:Env):Code:=match s with
  | .For t _ b o _=>.forLoop t it b o env
  | _=>.func [] env
noncomputable def fT:Stmt→Expr
  | .For t _ _ _ _=>t
  | _=>.Constant .none 0 ⟨0,0,0,0⟩
noncomputable def aH (s:Stmt) (it:Value) (env:Env):Code:=.forLoop (fT s) it (fX s) (sElse s) env
noncomputable def jk (s:Stmt) (env:Env):Code:=match s with
  | .While t b o _=>.whileLoop t b o env
  | _=>.func [] env
noncomputable def aV (f:Addr) (as:List Value):Code:=.call (.ref f) ⟨as,[]⟩
-- the law's own frame: its addresses are known
noncomputable def aR:Stmt:=cY top 57
noncomputable def au:Env:=e7 aR "law.<locals>." 872 871 874 [(Str.ofString "head",877),(Str.ofString "last",876),(Str.ofString "rows",875)]
noncomputable def dy:Ctx:=⟨bW aR au,none,none,[(aI,p0)],none⟩
noncomputable def j5 (s:Stmt) (it:Value) (P:Pos):Ctx:=⟨aH s it au,none,none,[(bW aR au,P),(aI,p0)],none⟩
noncomputable def ΓF:Ctx:=⟨forC (bt (az aR) 3) (.ref 882) au,none,none,[(bW aR au,⟨847,17,847,25⟩),(aI,p0)],none⟩
noncomputable def fc:Stmt:=cY top 26
noncomputable def ju:List Stmt:=eu top 25
noncomputable def dU (L:Addr):Env:=e7 fc "split.<locals>." 793 792 L []

noncomputable abbrev cL:Pos:=⟨778,11,778,20⟩
noncomputable def ΓExt (la lx Sf:Addr):Ctx:=⟨.builtin "list.extend.loop" ⟨[.ref la,.ref lx,.none],[]⟩,none,none,
  [(.builtin "type.__call__" ⟨[.type "list",.ref lx],[]⟩,cL),(bW fc (dU Sf),cL),(forC (bt (az aR) 3) (.ref 882) au,⟨854,15,854,39⟩),(bW aR au,⟨847,17,847,25⟩),(aI,p0)],none⟩
noncomputable def nextD:Stmt:=cY ju 10
noncomputable def getD_:Stmt:=cY ju 5
noncomputable def mm:Stmt:=cY ju 6
noncomputable def iN (L:Addr):Env:=e7 nextD "shlex.__next__.<locals>." 778 777 L []
noncomputable def envG (L:Addr):Env:=e7 getD_ "shlex.get_token.<locals>." 742 741 L []
noncomputable def envR (L:Addr):Env:=e7 mm "shlex.read_token.<locals>." 749 748 L []
noncomputable def ΓN (la lx Sf nx:Addr):Ctx:=((ΓExt la lx Sf).enter (aV 778 [.ref lx]) none cL).goto (bW nextD (iN nx))
noncomputable def ΓG (la lx Sf nx gx:Addr):Ctx:=((ΓN la lx Sf nx).enter (aV 742 [.ref lx]) none ⟨767,16,767,32⟩).goto (bW getD_ (envG gx))
noncomputable def ΓR (la lx Sf nx gx rx:Addr):Ctx:=((ΓG la lx Sf nx gx).enter (aV 749 [.ref lx]) none ⟨595,14,595,31⟩).goto (bW mm (envR rx))
noncomputable def ΓW (la lx Sf nx gx rx:Addr):Ctx:=(ΓR la lx Sf nx gx rx).enter (jk (bt (az mm) 2) (envR rx)) none ⟨619,8,741,32⟩
noncomputable abbrev iA:Pos:=⟨623,27,623,48⟩
noncomputable def aK (la lx Sf nx gx rx io τ:Nat):Ctx:=(ΓW la lx Sf nx gx rx).enter (aV 592 [.ref io,.int 1 τ]) none iA
noncomputable def ki:Stmt:=cY (eu top 15) 25
noncomputable def envIo (L:Addr):Env:=e7 ki "StringIO.read.<locals>." 592 591 L []
noncomputable def ΓrdF (la lx Sf nx gx rx io τ L:Nat):Ctx:=(aK la lx Sf nx gx rx io τ).goto (bW ki (envIo L))
noncomputable def ioDict (P:Params) (κ:Nat→Nat) (B:Str) (ν:Nat) (p:Nat) (π:Nat):Obj:=⟨.type "dict",none,.dict #[aq P "_StringIO__newline" (κ 0) (.str (Str.mk #[10]) 825),aq P "_StringIO__buf" (κ 1) (.str B ν),aq P "_StringIO__pos" (κ 2) (.int (.ofNat p) π)] 3,#[]⟩
noncomputable abbrev bU (w:World):=ioDict w.params
noncomputable def lA (p τ:Nat):Obj→Obj
  | ⟨c,dd,.dict es n,sl⟩=>⟨c,dd,.dict (es.modify 2 fun e=>{ e with val:=.int (.ofNat p) τ }) n,sl⟩
  | o=>o
noncomputable def aW (req:List Nat) (p c:Nat):Hk:=⟨req,fun _ ys=>.ok (.ret (.str ⟨#[c]⟩ (ys.n 0))),fun pre ys=>match pre with
  | [x,y]=>[x.2,lA (p+1) (ys.n 1) y.2]
  | _=>[],fun _ _=>[],fun _ _=>[],0,fun _ _=>True⟩
noncomputable def dj (d:Addr):Obj:=⟨.ref 646,some d,.plain,#[]⟩
noncomputable def fC (req:List Nat):Hk:=⟨req,fun _ ys=>.ok (.ret (.str ⟨#[]⟩ (ys.n 0))),fun pre _=>pre.map (·.2),fun _ _=>[],fun _ _=>[],0,fun _ _=>True⟩
noncomputable def fM:Str:=Str.mk #[97,98,99,100,102,101,103,104,105,106,107,108,109,110,111,112,113,114,115,116,117,118,119,120,121,122,65,66,67,68,69,70,71,72,73,74,75,76,77,78,79,80,81,82,83,84,85,86,87,88,89,90,48,49,50,51,52,53,54,55,56,57,95,223,224,225,226,227,228,229,230,231,232,233,234,235,236,237,238,239,240,241,242,243,244,245,246,248,249,250,251,252,253,254,255,192,193,194,195,196,197,198,199,200,201,202,203,204,205,206,207,208,209,210,211,212,213,214,216,217,218,219,220,221,222]
noncomputable def shDict (P:Params) (κ:Nat→Nat) (io q1 q2:Addr) (st:Value) (ρ:Nat):Obj:=⟨.type "dict",none,.dict #[aq P "instream" (κ 0) (.ref io),aq P "infile" (κ 1) .none,aq P "posix" (κ 2) (.bool true),aq P "eof" (κ 3) .none,aq P "commenters" (κ 4) (.str ⟨#[]⟩ (κ 20)),aq P "wordchars" (κ 5) (.str fM (κ 21)),aq P "whitespace" (κ 6) (.str (Str.mk #[32,9,13,10]) (κ 22)),aq P "whitespace_split" (κ 7) (.bool true),aq P "quotes" (κ 8) (.str (Str.mk #[39,34]) (κ 23)),aq P "escape" (κ 9) (.str (Str.mk #[92]) (κ 24)),aq P "escapedquotes" (κ 10) (.str (Str.mk #[34]) (κ 25)),aq P "state" (κ 11) st,aq P "pushback" (κ 12) (.ref q1),aq P "lineno" (κ 13) (.int 1 (κ 26)),aq P "debug" (κ 14) (.int 0 (κ 27)),aq P "token" (κ 15) (.str ⟨#[]⟩ ρ),aq P "filestack" (κ 16) (.ref q2),aq P "source" (κ 17) .none,aq P "_punctuation_chars" (κ 18) (.str ⟨#[]⟩ (κ 28))] 19,#[]⟩
noncomputable abbrev cQ (w:World):=shDict w.params
noncomputable def eB (d:Addr):Obj:=⟨.ref 781,some d,.plain,#[]⟩
noncomputable def cr:Obj:=⟨.type "collections.deque",none,.fields #[.none,.int 0 0],#[]⟩
noncomputable def setSh (st:Value) (ρ:Nat):Obj→Obj
  | ⟨c,dd,.dict es n,sl⟩=>⟨c,dd,.dict ((es.modify 11 fun e=>{ e with val:=st }).modify 15 fun e=>{ e with val:=.str ⟨#[]⟩ ρ }) n,sl⟩
  | o=>o
noncomputable def aS (la lx Sf:Nat):Ctx:=(ΓExt la lx Sf).enter (aV 778 [.ref lx]) none cL
noncomputable def Wd:Nat→Str
  | 0=>Str.mk #[97]
  | 1=>Str.mk #[65,32,98]
  | 2=>Str.mk #[]
  | 3=>Str.mk #[42]
  | _=>Str.mk #[98,39]
noncomputable def Qd:Nat→List Nat
  | 0=>[97]
  | 1=>[39,65,32,98,39]
  | 2=>[39,39]
  | 3=>[39,42,39]
  | _=>[39,98,39,34,39,34,39,39]
noncomputable def lb (ys:Ys):Value:=.str ⟨#[32]⟩ (ys.n 3)
noncomputable def stN (_:Ys):Value:=.none
noncomputable def cR (req:List Nat) (W:Str) (p':Nat) (st:Ys→Value):Hk:=⟨req,fun _ ys=>.ok (.ret (.str W (ys.n 0))),fun pre ys=>match pre with
  | [x0,x1,x2,x3,x4,x5]=>[x0.2,setSh (st ys) (ys.n 1) x1.2,x2.2,lA p' (ys.n 2) x3.2,x4.2,x5.2]
  | _=>[],fun _ _=>[],fun _ _=>[],0,fun _ _=>True⟩
noncomputable def fU (sl:Array (Option Value)):Obj→Obj
  | ⟨c,dd,x,_⟩=>⟨c,dd,x,sl⟩
noncomputable def slSplit:Array (Option Value):=#[some (.ref 792),some (.ref 3),none,some (.ref 874),none,some (.ref 793),some (.ref 0)]
noncomputable def bp:Array (Option Value):=#[some (.ref 871),some (.ref 3),none,some .notImplemented,none,some (.ref 872),some (.ref 0),some (.ref 877),some (.ref 876),some (.ref 875)]
noncomputable def excStop (a tb:Addr):Obj:=⟨.type "StopIteration",none,.fields #[.ref a,.ref tb,.none,.none,.bool false,.none],#[]⟩
noncomputable def dQ (req:List Nat):Hk:=⟨req,fun _ ys=>.error (.ref (ys.n 0)),fun pre ys=>match pre with
  | [x0,x1,x2,x3,x4,x5,x6,x7]=>[x0.2,setSh .none (ys.n 1) x1.2,x2.2,x3.2,x4.2,x5.2,fU slSplit x6.2,fU bp x7.2]
  | _=>[],fun _ ys=>[(ys.n 0,excStop (ys.n 2) (ys.n 3))],fun _ _=>[],0,fun _ _=>True⟩
noncomputable def eC:Stmt:=cY top 27
noncomputable def retE:Stmt→Expr
  | .Return (some e) _=>e
  | _=>.Constant .none 0 ⟨0,0,0,0⟩
noncomputable def kw:Expr→Expr
  | .Call _ (a :: _) _ _=>a
  | e=>e
noncomputable def iu:Expr→Scope
  | .GeneratorExp _ _ s _=>s
  | .ListComp _ _ s _=>s
  | _=>default
noncomputable def asgE:Stmt→Expr
  | .Assign _ e _=>e
  | _=>.Constant .none 0 ⟨0,0,0,0⟩
noncomputable def ifE:Stmt→Expr
  | .If e _ _ _=>e
  | _=>.Constant .none 0 ⟨0,0,0,0⟩
noncomputable def cmpL:Expr→Expr
  | .Compare l _ _ _=>l
  | e=>e
noncomputable def cmpR:Expr→Expr
  | .Compare _ _ (e :: _) _=>e
  | e=>e
noncomputable def jF (e:Expr) (q:Str) (fu:Option Addr) (cd:Value) (L:Addr) (fr:Option Addr) (cells:List (Str×Addr)):Env:={ scope:=iu e,locals:=L,globals:=3,cells:=cells,qual:=q,func:=fu,code:=cd,frame:=fr,builtins:=0 }
noncomputable def dc:Expr:=kw (retE (bt (az eC) 0))
noncomputable def d6:Expr:=asgE (bt (az aR) 6)
noncomputable def fb:Expr:=asgE (bt (az aR) 7)
noncomputable def fe:Expr:=kw (asgE (bt (az aR) 13))
noncomputable def fQ:Stmt:=cY top 56
noncomputable def dV:Expr:=asgE (bt (az fQ) 1)
noncomputable def gw:Expr:=cmpL (cmpR (ifE (bt (fX (bt (fX (bt (az aR) 11)) 0)) 1)))
noncomputable def cG (cd gf:Addr):Env:=jF dc (Str.ofString "join.<locals>.<genexpr>.") none (.ref cd) gf (some gf) []
noncomputable abbrev P780:Pos:=⟨780,11,780,58⟩
noncomputable def Γgen (jf it cd gf g l τ:Nat):Ctx:=⟨.compLoop dc 0 (.ref it) .none (cG cd gf),none,none,[(.builtin "generator.__next__" ⟨[.ref g],[]⟩,P780),(.builtin "list.extend.loop" ⟨[.ref l,.ref g,.ref l],[]⟩,P780),(.builtin "str.join" ⟨[.str ⟨#[32]⟩ τ,.ref g],[]⟩,P780),
  (bW eC (e7 eC "join.<locals>." 800 799 jf []),P780),(forC (bt (az aR) 3) (.ref 882) au,⟨854,21,854,38⟩),(bW aR au,⟨847,17,847,25⟩),(aI,p0)],none⟩
noncomputable abbrev dC:Pos:=⟨780,21,780,31⟩
noncomputable def aP (jf it cd gf g l τ:Nat) (W:Str) (σ:Nat):Ctx:=(Γgen jf it cd gf g l τ).enter (aV 808 [.str W σ]) none dC
noncomputable def Qs (d:Nat):Str:=⟨(Qd d).toArray⟩
noncomputable def a9 (req:List Nat) (v:Ys→Value):Hk:=⟨req,fun _ ys=>.ok (.ret (v ys)),fun pre _=>pre.map (·.2),fun _ _=>[],fun _ _=>[],0,fun _ _=>True⟩
noncomputable abbrev dz (n:Nat→Nat):Ys:=⟨n,fun _=>.none,fun _=>#[],fun _=>⟨#[]⟩,fun _=>.plain⟩
noncomputable def setI (i:Int):Value→Value
  | .int _ τ=>.int i τ
  | v=>v
noncomputable def cS (v:Value):Value→Value:=fun _=>v
noncomputable def nq (Γ:Ctx):Around:={ handled:=Γ.handled,depth:=frameCount Γ.below+Γ.code.weight,frames:=some (Γ.code.envs++envsOf Γ.below),guards:=some (Γ.code.guards++guardsOf Γ.below),units:=Γ.units }
theorem gP (Γ:Ctx):Γ.In (nq Γ):=⟨rfl,Nat.le_refl _,fun l h=>by cases h;rfl,fun g h=>by cases h;rfl,Nat.le_refl _⟩
theorem of_any {V:Vw} {Γ:Ctx} {p:Pos} {f:Value} {pos:List Value} {s:Shared} {Q:Value→Shared→Prop} (h:∀ A,wpAny (model V.prog V.w) A (call f pos) Q (fun _ _=>False) s) :
    ∃ v s',Returns (cg V) (Γ.enter (.call f ⟨pos,[]⟩) none p) p s (.ok (.ret v)) s'∧Q v s':=by
  have z:=h (nq Γ) Γ p (gP Γ)
  unfold call at z
  rw [Sem.wp_runValue,dv] at z
  obtain ⟨r,s',hr,hq⟩:=z
  cases r with
  | error e=>exact hq.elim
  | ok f =>
    cases f with
    | ret v=>exact ⟨v,s',hr,hq⟩
    | _=>exact hq.elim
theorem bX (pre:ax):List.zipWith (fun (x:Addr×Obj) o=>(x.1,o)) pre (pre.map (·.2))=pre:=by
  induction pre with
  | nil=>rfl
  | cons x l ih=>simp only [List.map_cons,List.zipWith_cons_cons,ih]
structure Same (s s':Shared):Prop where
  heap:s'.heap=s.heap
  gens:s'.gens=s.gens
  toks:s.toks≤s'.toks
  os:s'.os=s.os
  drawn:s'.drawn=s.drawn
theorem br {V:Vw} {Γ:Ctx} {p:Pos} {f:Value} {pos:List Value} {pre:ax} {b t:Nat} {ch:Ch} {gl:List GenState} {req:List Nat} {v:Ys→Value}
    (H:∀ s,At V pre b t ch gl s→∀ A,wpAny (model V.prog V.w) A (call f pos) (fun x s'=>(∃ ys,v ys=x)∧Same s s') (fun _ _=>False) s) :
    an V (a9 req v) (Γ.enter (.call f ⟨pos,[]⟩) none p) p pre b t ch gl:=by
  intro s hs
  obtain ⟨x,s',hr,⟨ys,rfl⟩,hS⟩:=of_any (H s hs)
  refine ⟨ys,b,s'.toks,s',trivial,hr,by simp [a9],?_,?_,fun a h=>h,fun x hx=>by cases hx⟩
  · show At V (List.zipWith _ pre (pre.map (·.2))++[]) b s'.toks ch gl s'
    rw [List.append_nil,bX]
    exact ⟨by rw [hS.heap];exact hs.base,by rw [hS.heap];exact hs.tab,by rw [hS.heap];exact hs.olds,hs.nd,hs.hi,by rw [hS.heap];exact hs.size,rfl,by rw [hS.gens];exact hs.gens,hs.lo⟩
  · exact ⟨fun a o e _ _=>by rw [hS.heap];exact e,by rw [hS.heap];exact Nat.le_refl _,hS.toks,hS.os,hS.drawn⟩
theorem mS {V:Vw} {Γ:Ctx} {p:Pos} {x:Str} {τ b t:Nat} {ch:Ch} {gl:List GenState} (hx:x.cps.size≤2 ^ 20) :
    an V (a9 [] fun ys=>.int (.ofNat x.cps.size) (ys.n 0)) (Γ.enter (.call (.builtin "len") ⟨[.str x τ],[]⟩) none p) p [] b t ch gl :=
  br (pre:=[]) fun s _ A=>P.len_str (by show ¬ ((x.cps.size:Int)≥2 ^ 63);omega) ⟨⟨dz fun _=>s.toks+1,rfl⟩,rfl,rfl,Nat.le_add_right _ 2,rfl,rfl⟩

noncomputable def HΦ (S:Sp) (h:Hk) (s:Shared):Result→Shared→Prop:=fun r s'=>∃ ys b' t',h.ok S.X ys∧r=h.res S.X ys∧(h.objs S.X ys).length=S.X.length ∧
  At (Vp S.w) (List.zipWith (fun x o=>(x.1,o)) S.X (h.objs S.X ys)++h.adds S.X ys) b' t' (ba S.ch (h.tabs S.X ys)) (db S.gl h.gn) s' ∧
  Fr (S.X.map (·.1)) (ba S.ch (h.tabs S.X ys)) s s'∧ig S.ch (ba S.ch (h.tabs S.X ys))∧∀ x∈h.adds S.X ys,S.b≤x.1
theorem Sp.hook {S:Sp} {h:Hk} {F g:Nat} {O:List (Item×Nat)} (hn:S.outs.Nodup) (ht:S.tree=den S.Γ.code)
    (H:∀ s,dx (Vp S.w) (S.X.map (·.1)) S.Γ s (HΦ S h s) (S.run F g O)):an (Vp S.w) h S.Γ S.p S.X S.b S.t S.ch S.gl:=fun s hs=>by
  obtain ⟨r,s',hr,ys,b',t',hk,rfl,h1,h2,h3,h4,h5⟩:=Sp.code hn ht hs (H s)
  exact ⟨ys,b',t',s',hk,hr,h1,h2,h3,h4,h5⟩
theorem Sp.hookE {S:Sp} {h:Hk} {F g:Nat} {O:List (Item×Nat)} {R:Res} (e:S.run F g O=R) (hn:S.outs.Nodup) (ht:S.tree=den S.Γ.code)
    (H:∀ s,dx (Vp S.w) (S.X.map (·.1)) S.Γ s (HΦ S h s) R):an (Vp S.w) h S.Γ S.p S.X S.b S.t S.ch S.gl:=Sp.hook hn ht (by rw [e];exact H)
theorem ag {α:Type} {P:α→Prop}:∀ x∈([]:List α),P x:=fun _ h=>by cases h
theorem ao {α:Type} {P:α→Prop} {a:α} (h:P a):∀ x∈[a],P x:=fun x hx=>by cases hx with
  | head=>exact h
  | tail _ h'=>cases h'
theorem j6 {α:Type} {P:α→Prop} {a b:α} (h:P a) (h':P b):∀ x∈[a,b],P x:=fun x hx=>by
  cases hx with
  | head=>exact h
  | tail _ hx=>exact ao h' x hx
theorem ae {α:Type} {P:α→Prop} {a:α} {l:List α} (h:P a) (h':∀ x∈l,P x):∀ x∈a :: l,P x:=fun x hx=>by
  cases hx with
  | head=>exact h
  | tail _ hx=>exact h' x hx
theorem nd0:([]:List Nat).Nodup:=.nil
theorem nd1 {a:Nat}:[a].Nodup:=.cons (fun _ h=>by cases h) .nil
theorem nd2 {a b:Nat} (h:(a == b)=false):[a,b].Nodup:=.cons (ao (fun e=>by rw [e] at h;simp at h)) nd1
theorem jH {V:Vw} {Γ:Ctx} {p:Pos} {x:Str} {τ b t n:Nat} {ch:Ch} {gl:List GenState} (hx:x.cps.size≤2 ^ 20) (hn:x.cps.size=n) :
    an V (a9 [] fun ys=>.int (.ofNat n) (ys.n 0)) (Γ.enter (.call (.builtin "len") ⟨[.str x τ],[]⟩) none p) p [] b t ch gl:=by
  subst hn
  exact mS hx
theorem jD {n p:Nat} (h:p < n):Builtin.Str.strSliceIndices (some (Int.ofNat p)) (some (Int.ofNat (p+1))) 1 n=[p]:=by
  unfold Builtin.Str.strSliceIndices
  simp only [show ((1:Int) > 0)=True by simp,if_true,Int.ofNat_eq_natCast]
  rw [if_neg (show ¬ ((p:Int) < 0) by omega),if_neg (show ¬ (((p+1:Nat):Int) < 0) by omega)]
  have e1:max 0 (min (p:Int) n)=p:=by omega
  have e2:max 0 (min ((p+1:Nat):Int) n)=((p+1:Nat):Int):=by omega
  rw [e1,e2]
  unfold sliceRange
  simp only [show ((1:Int) > 0)=True by simp,if_true]
  rw [if_pos (show (p:Int) < ((p+1:Nat):Int) by omega)]
  have e3:((((p+1:Nat):Int) - p+1 - 1) / 1).toNat=1:=by
    rw [Int.ediv_one];omega
  rw [e3]
  simp
noncomputable abbrev g5 (p τ1 τ2:Nat):Obj:=⟨.type "slice",none,.fields #[.int (.ofNat p) τ1,.int (.ofNat (p+1)) τ2,.none],#[]⟩
theorem gE {V:Vw} {Γ:Ctx} {q:Pos} {x:Str} {req τ sa τ1 τ2 p c b t:Nat} {ch:Ch} {gl:List GenState} (hx:x.cps[p]?=some c) :
    an V (a9 [req] fun ys=>.str ⟨#[c]⟩ (ys.n 0)) (Γ.enter (.call (.builtin "str.__getitem__") ⟨[.str x τ,.ref sa],[]⟩) none q) q [(sa,g5 p τ1 τ2)] b t ch gl :=
  br (pre:=[(sa,g5 p τ1 τ2)]) fun s hs A=>by
    have hp:p < x.cps.size:=by
      rcases Nat.lt_or_ge p x.cps.size with h | h
      · exact h
      · rw [Array.getElem?_eq_none h] at hx;cases hx
    have ho:=hs.olds (sa,g5 p τ1 τ2) (.head _)
    refine call_meets F.slot_str_getitem (typeIs_str s x τ) F.entry_str_getitem (F.args_str_getitem_2 _ _) (meets_str_getitem_slice x τ sa (some (Int.ofNat p,τ1)) (some (Int.ofNat (p+1),τ2)) none rfl) ?_
    refine ⟨⟨_,ho,rfl,rfl⟩,?_⟩
    have hpk:slicePicked x (some (Int.ofNat p,τ1)) (some (Int.ofNat (p+1),τ2)) none=[p]:=jD hp
    unfold sliceMade
    rw [hpk]
    split
    · rename_i h
      simp only [Option.map_none,Option.getD_none,Bool.and_eq_true,beq_iff_eq,List.length_cons,List.length_nil] at h
      have h1:x.cps.size=1:=h.2.symm
      have hp0:p=0:=by omega
      subst hp0
      have e:x=⟨#[c]⟩:=by
        obtain ⟨a⟩:=x
        congr 1
        apply Array.ext
        · simpa using h1
        · intro i h2 h3
          have:i=0:=by simp at h3;omega
          subst this
          rw [Array.getElem?_eq_getElem h2] at hx
          simpa using hx
      exact ⟨⟨dz fun _=>τ,by rw [e]⟩,rfl,rfl,Nat.le_refl _,rfl,rfl⟩
    · have e:([p].filterMap (x.cps[·]?)).toArray = #[c]:=by simp [hx]
      rw [e]
      exact ⟨by show 1≤sizeLine;decide,⟨dz fun _=>s.toks,rfl⟩,rfl,rfl,Nat.le_succ _,rfl,rfl⟩
end
section
open PySem PySem.W PySem.W.X PyProof.Rows
noncomputable abbrev jo (items:Array Value) (n:Nat):Obj:=⟨.type "tuple",none,.seq items n,#[]⟩
theorem bV (s:Shared):Same s s:=⟨rfl,rfl,Nat.le_refl _,rfl,rfl⟩
theorem cI {V:Vw} {Γ:Ctx} {q:Pos} {a n req τ b t:Nat} {items:Array Value} {ys:List Str} {x:Str} {bv:Bool} {ch:Ch} {gl:List GenState} (hi:StrsAre items.toList ys) (hany:ys.any (· == x)=bv) :
    an V (a9 [req] fun _=>.bool bv) (Γ.enter (.call (.builtin "tuple.__contains__") ⟨[.ref a,.str x τ],[]⟩) none q) q [(a,jo items n)] b t ch gl :=
  br (pre:=[(a,jo items n)]) fun s hs A=>by
    have ho:=hs.olds (a,jo items n) (.head _)
    have ht:IsTup s.heap a items:=⟨_,ho,rfl,n,rfl⟩
    refine wpAny_call_entry (name:=Str.ofString "__contains__") slot_tuple_contains ht.typeIs entry_tuple_contains (tuple_contains_strs ht hi ⟨_,rfl,?_⟩) (args_tuple_contains _ _)
    exact ⟨⟨dz fun _=>0,by rw [hany]⟩,bV _⟩
theorem i5 {w:World} {X:ax} {b t:Nat} {ch:Ch} {gl:List GenState} {s:Shared} (h:At (Vp w) X b t ch gl s) (hc:chLook ch 2=none):NoneBooked s.heap:=by
  have ho:s.heap.get? 2=some (o2w w):=h.base 2 _ (by kernel_rfl) hc
  refine ⟨fun n=>nsFind (match (o2w w).data with | .dict es _=>es | _=>#[]) n,⟨o2w w,_,_,ho,rfl,?_,fun _=>rfl⟩,by kernel_rfl⟩
  intro e he
  simp only [List.mem_toArray,List.mem_cons,List.not_mem_nil,or_false] at he
  rcases he with rfl | rfl | rfl | rfl | rfl | rfl | rfl | rfl | rfl | rfl | rfl | rfl | rfl | rfl | rfl <;> exact ⟨_,_,rfl⟩
theorem jA {w:World} {Γ:Ctx} {q:Pos} {τ u v b t:Nat} {ch:Ch} {gl:List GenState} (hc:chLook ch 2=none) (hu:u≠0) (hv:v≠0) (huv:u≠v) :
    an (Vp w) (a9 [] fun ys=>.str (Str.mk #[98,39,34,39,34,39]) (ys.n 0)) (Γ.enter (.call (.builtin "str.replace") ⟨[.str (Str.mk #[98,39]) τ,.str (Str.mk #[39]) u,.str (Str.mk #[39,34,39,34,39]) v],[]⟩) none q) q [] b t ch gl :=
  br (pre:=[]) fun s hs A=>by
    refine call_givesAt F.slot_str_replace (typeIs_str _ _ _) F.entry_str_replace (F.args_str_replace_3 _ _ _)
      (gives_str_replace2 _ _ _ τ u v fun _=>⟨by simp [hu,hv],by simp [huv],by decide +kernel⟩) (i5 hs hc) ?_
    rw [if_neg (by decide +kernel),if_neg (by decide +kernel)]
    have e:Builtin.Str.glued (Str.mk #[39,34,39,34,39]) (Builtin.Str.partsBetween (Str.mk #[98,39]) (Builtin.Str.occurrences (Str.mk #[98,39]) (Str.mk #[39]) 0 (Str.length (Str.mk #[98,39])) (Str.length (Str.mk #[98,39])+1)) (Str.length (Str.mk #[39])))=Str.mk #[98,39,34,39,34,39]:=by decide +kernel
    rw [e]
    exact ⟨by decide +kernel,⟨dz fun _=>s.toks,rfl⟩,rfl,rfl,Nat.le_succ _,rfl,rfl⟩
end
section
open PySem PySem.W PySem.W.X PyProof.Rows Builtin Builtin.Str
noncomputable def cX (sep:Str) (parts:Array Str):Sem Fin:=if tooLong (parts.foldl (fun n (s:Str)=>n+s.length+sep.length) 0) then unsupported "str.join:memory" else PySem.W.R.bindR (PySem.W.Fast.tw10821573891100952770 (PySem.W.Fast.tw10206770168876983080 sep parts.toList)) fun v=>PySem.W.Fast.tw6905046200447255374 v
theorem cu {V:Vw} {Γ:Ctx} {p:Pos} {b t:Nat} {ch:Ch} {gl:List GenState} {sep r:Str} {parts:Array Str} (hr:glued sep parts.toList=r)
    (hl:tooLong (parts.foldl (fun n (s:Str)=>n+s.length+sep.length) 0)=false) (hs:r.length≤sizeLine):fK V (a9 [] fun ys=>.str r (ys.n 0)) (cX sep parts) Γ p [] b t ch gl:=by
  intro s hA
  have e:cX sep parts = .fresh fun t=>.pure (.done (.ret (.str r t))):=by
    unfold cX
    rw [← PySem.W.R.bindR_eq,← PySem.W.Fast.te10821573891100952770,← PySem.W.Fast.te10206770168876983080,← PySem.W.Fast.te6905046200447255374,hl,hr]
    show (mkStr r >>= fun v=>ret v)=_
    unfold mkStr
    rw [if_neg (by omega)]
    rfl
  refine ⟨dz fun _=>s.toks,b,s.toks+1,{ s with toks:=s.toks+1 },trivial,?_,rfl,?_,?_,fun a h=>h,ag⟩
  · rw [e]
    exact .fresh .done
  · exact ⟨hA.base,hA.tab,hA.olds,hA.nd,hA.hi,hA.size,rfl,hA.gens,hA.lo⟩
  · exact ⟨fun a o e _ _=>e,Nat.le_refl _,Nat.le_succ _,rfl,rfl⟩
end
section
open PySem PySem.W PySem.W.X PyProof.Rows
theorem Sp.hook2 {S:Sp} {h:Hk} {F g:Nat} {O:List (Item×Nat)} (hn:S.outs.Nodup) (ht:S.tree=den S.Γ.code)
    (H:∀ s,At (Vp S.w) S.X S.b S.t S.ch S.gl s→dx (Vp S.w) (S.X.map (·.1)) S.Γ s (HΦ S h s) (S.run F g O)):an (Vp S.w) h S.Γ S.p S.X S.b S.t S.ch S.gl:=fun s hs=>by
  obtain ⟨r,s',hr,ys,b',t',hk,rfl,h1,h2,h3,h4,h5⟩:=Sp.code hn ht hs (H s hs)
  exact ⟨ys,b',t',s',hk,hr,h1,h2,h3,h4,h5⟩
theorem Sp.hookE2 {S:Sp} {h:Hk} {F g:Nat} {O:List (Item×Nat)} {R:Res} (e:S.run F g O=R) (hn:S.outs.Nodup) (ht:S.tree=den S.Γ.code)
    (H:∀ s,At (Vp S.w) S.X S.b S.t S.ch S.gl s→dx (Vp S.w) (S.X.map (·.1)) S.Γ s (HΦ S h s) R):an (Vp S.w) h S.Γ S.p S.X S.b S.t S.ch S.gl:=Sp.hook2 hn ht (by rw [e];exact H)
noncomputable abbrev bf (l:List Nat) (a:List (Array Value)) (v:List Value) (x:List Str) (d:List Data):Ys:=⟨fun n=>l.getD n 0,fun n=>v.getD n .none,fun n=>a.getD n #[],fun n=>x.getD n ⟨#[]⟩,fun n=>d.getD n .plain⟩
theorem Fr.trans {A A':List Addr} {ch ch':Ch} {s₀ s s':Shared} (h:Fr A ch s₀ s) (h':Fr A' ch' s s') (hc:ig ch ch') (hA:∀ a∈A',a∈A∨s₀.heap.objs.size≤a):Fr A ch' s₀ s' :=
  ⟨fun a o e q1 q2=>h'.keep a o (h.keep a o e q1 (hc a q2)) (fun hm=>by
    rcases hA a hm with q | q
    · exact q1 q
    · exact absurd (Heap.lt_size e) (Nat.not_lt.mpr q)) q2,Nat.le_trans h.size h'.size,Nat.le_trans h.toks h'.toks,h'.os.trans h.os,h'.drawn.trans h.drawn⟩
theorem lc {S:Sp} {h h':Hk} {c:Code} {p':Pos} {Y:ax} {b' t':Nat} {ch':Ch} {gl':List GenState} {s s':Shared}
    (hs:At (Vp S.w) S.X S.b S.t S.ch S.gl s) (hI:an (Vp S.w) h' (S.Γ.goto c) p' Y b' t' ch' gl') (hA:At (Vp S.w) Y b' t' ch' gl' s') (hF:Fr (S.X.map (·.1)) ch' s s')
    (hb:S.b≤b') (hY:∀ a∈Y.map (·.1),a∈S.X.map (·.1)∨S.b≤a)
    (conv:∀ ys,h'.ok Y ys→(∀ x∈h'.adds Y ys,b'≤x.1)→∃ ys',h.ok S.X ys'∧h'.res Y ys=h.res S.X ys'∧(h.objs S.X ys').length=S.X.length ∧
      List.zipWith (fun x o=>(x.1,o)) Y (h'.objs Y ys)++h'.adds Y ys=List.zipWith (fun x o=>(x.1,o)) S.X (h.objs S.X ys')++h.adds S.X ys' ∧
      ba ch' (h'.tabs Y ys)=ba S.ch (h.tabs S.X ys')∧db gl' h'.gn=db S.gl h.gn∧ig S.ch (ba S.ch (h.tabs S.X ys'))∧∀ x∈h.adds S.X ys',S.b≤x.1) :
    wpCode (cg (Vp S.w)) (S.Γ.goto c) (HΦ S h s) p' s':=by
  obtain ⟨ys,b2,t2,s2,hk,hr,hl,ha,hf,hc,hd⟩:=hI s' hA
  obtain ⟨ys',k1,k2,k3,k4,k5,k6,k7,k8⟩:=conv ys hk hd
  rw [k4,k5,k6] at ha
  rw [k5] at hf hc
  refine ⟨_,s2,hr,ys',b2,t2,k1,k2,k3,ha,hF.trans hf hc fun a hm=>?_,k7,k8⟩
  rw [hs.size]
  exact hY a hm
noncomputable def pk {α:Type}:List (Nat×α)→(Nat→α)→Nat→α
  | [],f,n=>f n
  | x :: l,f,n=>bif Nat.beq x.1 n then x.2 else pk l f n
theorem zero_at {α:Type} {P:α→Prop} {a:α} (h:a∈([]:List α)):P a:=by cases h
section
theorem f9 {M:Model} {Γ:Ctx} {p:Pos} {t:Sem Fin} {fs:List Frame} {s s':Shared} {e:End} (h:Runs M Γ p t fs s e s'):s.toks≤s'.toks∧s.heap.objs.size≤s'.heap.objs.size:=by
  induction h with
  | update _ _ ih=>rw [show ∀ (h:Heap) a f,(h.update a f).objs.size=h.objs.size from e9] at ih;exact ih
  | alloc _ ih=>rw [Heap.size_push] at ih;exact ⟨ih.1,Nat.le_of_succ_le ih.2⟩
  | fresh _ ih=>exact ⟨Nat.le_of_succ_le ih.1,ih.2⟩
  | call _ _ ih1 ih2=>exact ⟨Nat.le_trans ih1.1 ih2.1,Nat.le_trans ih1.2 ih2.2⟩
  | resumeFresh _ _ _ _ ih1 ih2=>exact ⟨Nat.le_trans ih1.1 ih2.1,Nat.le_trans ih1.2 ih2.2⟩
  | resumeSuspended _ _ _ _ ih1 ih2=>exact ⟨Nat.le_trans ih1.1 ih2.1,Nat.le_trans ih1.2 ih2.2⟩
  | segRet _ _ ih1 ih2=>exact ⟨Nat.le_trans ih1.1 ih2.1,Nat.le_trans ih1.2 ih2.2⟩
  | segGen _ _ ih1 ih2=>exact ⟨Nat.le_trans ih1.1 ih2.1,Nat.le_trans ih1.2 ih2.2⟩
  | segSuspGen _ _ _ _ ih1 ih2=>exact ⟨Nat.le_trans ih1.1 ih2.1,Nat.le_trans ih1.2 ih2.2⟩
  | done | raise | «yield» | callSusp | segSuspOut=>first | exact ⟨Nat.le_refl _,Nat.le_refl _⟩ | assumption
  | _=>first | assumption | (rename_i ih;exact ih)
structure c5 (pre:ax) (os:List Obj) (adds:ax) (s s':Shared):Prop where
  keep:∀ a o,s.heap.get? a=some o→a∉pre.map (·.1)→s'.heap.get? a=some o
  olds:∀ x∈List.zipWith (fun (x:Addr×Obj) o=>(x.1,o)) pre os,s'.heap.get? x.1=some x.2
  news:∀ x∈adds,s'.heap.get? x.1=some x.2∧s.heap.objs.size≤x.1
  nd:(adds.map (·.1)).Nodup
  gens:s'.gens=s.gens
  os:s'.os=s.os
  drawn:s'.drawn=s.drawn
theorem cy:∀ (pre:ax) (os:List Obj),os.length=pre.length→(List.zipWith (fun (x:Addr×Obj) o=>(x.1,o)) pre os).map (·.1)=pre.map (·.1)
  | [],[],_=>rfl
  | x :: pre,o :: os,h=>by simp only [List.zipWith_cons_cons,List.map_cons,cy pre os (by simpa using h)]
  | [],_ :: _,h=>by simp at h
  | _ :: _,[],h=>by simp at h
theorem At.post {V:Vw} {pre:ax} {b t:Nat} {ch:Ch} {gl:List GenState} {s s':Shared} {os:List Obj} {adds:ax} (hA:At V pre b t ch gl s) (hk:∀ a o,V.kt.get a=some o→a < V.n₁) (h:c5 pre os adds s s') (hl:os.length=pre.length)
    (ht:s.toks≤s'.toks) (hz:s.heap.objs.size≤s'.heap.objs.size) :
    At V (List.zipWith (fun (x:Addr×Obj) o=>(x.1,o)) pre os++adds) s'.heap.objs.size s'.toks ch gl s'∧Fr (pre.map (·.1)) ch s s':=by
  have low:∀ a,a < V.n₁→a∉pre.map (·.1):=fun a ha hm=>by
    obtain ⟨x,hx,rfl⟩:=List.mem_map.mp hm
    exact absurd ha (Nat.not_lt.mpr (hA.hi x hx).1)
  refine ⟨⟨fun a o e q=>h.keep a o (hA.base a o e q) (low a (hk a o e)),fun a vs e=>⟨(hA.tab a vs e).1,h.keep a _ (hA.tab a vs e).2 (low a (hA.tab a vs e).1)⟩,fun x hx=>?_,?_,fun x hx=>?_,rfl,rfl,by rw [h.gens];exact hA.gens,Nat.le_trans (by rw [hA.size];exact hA.lo) hz⟩,⟨fun a o e q _=>h.keep a o e q,hz,ht,h.os,h.drawn⟩⟩
  · rcases List.mem_append.mp hx with hx | hx
    · exact h.olds x hx
    · exact (h.news x hx).1
  · rw [List.map_append,cy _ _ hl]
    refine List.nodup_append.mpr ⟨hA.nd,h.nd,fun a ha c hc e=>?_⟩
    obtain ⟨x,hx,rfl⟩:=List.mem_map.mp ha
    obtain ⟨y,hy,rfl⟩:=List.mem_map.mp hc
    have h1:=(hA.hi x hx).2
    have h2:=(h.news y hy).2
    rw [hA.size,← e] at h2
    exact Nat.lt_irrefl _ (Nat.lt_of_lt_of_le h1 h2)
  · rcases List.mem_append.mp hx with hx | hx
    · have hm:x.1∈pre.map (·.1):=by
        rw [← cy pre os hl]
        exact List.mem_map_of_mem hx
      obtain ⟨y,hy,e⟩:=List.mem_map.mp hm
      rw [← e]
      exact ⟨(hA.hi y hy).1,Nat.lt_of_lt_of_le (hA.hi y hy).2 (by rw [← hA.size];exact hz)⟩
    · exact ⟨Nat.le_trans (by rw [hA.size];exact hA.lo) (h.news x hx).2,Heap.lt_size (h.news x hx).1⟩
noncomputable abbrev dS (req:List Nat) (res:ax→Ys→Result) (objs:ax→Ys→List Obj) (adds:ax→Ys→ax) (ok:ax→Ys→Prop):Hk:=⟨req,res,objs,adds,fun _ _=>[],0,ok⟩
section
variable {V:Vw} {p:Pos} {f:Value} {pos:List Value} {pre:ax} {b t:Nat} {ch:Ch} {gl:List GenState} {req:List Nat} {res:ax→Ys→Result} {objs:ax→Ys→List Obj} {adds:ax→Ys→ax} {ok:ax→Ys→Prop}
theorem cA (hk:∀ a o,V.kt.get a=some o→a < V.n₁) {Γ:Ctx} (H:∀ s,At V pre b t ch gl s→∀ A,A.handled=Γ.handled →
      wpAny (model V.prog V.w) A (call f pos) (fun x s'=>∃ ys,ok pre ys∧res pre ys = .ok (.ret x)∧(objs pre ys).length=pre.length∧c5 pre (objs pre ys) (adds pre ys) s s') (fun x s'=>∃ ys,ok pre ys∧res pre ys = .error x∧(objs pre ys).length=pre.length∧c5 pre (objs pre ys) (adds pre ys) s s') s) :
    an V (dS req res objs adds ok) (Γ.enter (.call f ⟨pos,[]⟩) none p) p pre b t ch gl:=by
  intro s hs
  have z:=H s hs (nq Γ) rfl Γ p (gP Γ)
  unfold call at z
  rw [Sem.wp_runValue,dv] at z
  obtain ⟨r,s',hr,hq⟩:=z
  have hm:=f9 hr
  have key:∃ ys,ok pre ys∧res pre ys=r∧(objs pre ys).length=pre.length∧c5 pre (objs pre ys) (adds pre ys) s s':=by
    cases r with
    | error e=>exact hq
    | ok f =>
      cases f with
      | ret v=>exact hq
      | _=>exact hq.elim
  obtain ⟨ys,h1,h2,h3,h4⟩:=key
  obtain ⟨hA,hF⟩:=hs.post hk h4 h3 hm.1 hm.2
  refine ⟨ys,_,_,s',h1,?_,h3,hA,hF,fun a h=>h,fun x hx=>by rw [← hs.size];exact (h4.news x hx).2⟩
  show Returns _ _ _ s (res pre ys) s'
  rw [h2];exact hr
end
theorem c5.same {pre:ax} {b t:Nat} {V:Vw} {ch:Ch} {gl:List GenState} {s s':Shared} (hs:At V pre b t ch gl s) (h:Same s s'):c5 pre (pre.map (·.2)) [] s s' :=
  ⟨fun a o e _=>by rw [h.heap];exact e,fun x hx=>by rw [bX] at hx;rw [h.heap];exact hs.olds x hx,ag,List.nodup_nil,h.gens,h.os,h.drawn⟩
theorem bM:sizeLine=16777216:=by decide +kernel
noncomputable abbrev ab (vs:Array Value) (n:Nat):Obj:=⟨.type "list",none,.seq vs n,#[]⟩
noncomputable abbrev ad (l:Addr) (i:Nat):Obj:=⟨.type "list_iterator",none,.fields #[.ref l,.int (.ofNat i) 0],#[]⟩
section
variable {V:Vw} {p:Pos} {b t c:Nat} {ch:Ch} {gl:List GenState} {vs:Array Value} {m:Nat} {l:Addr}
theorem bP {s:Shared} (h:s.heap.get? l=some (ab vs m)):s.heap.IsList l vs:=⟨_,h,rfl,m,rfl⟩
noncomputable def bn (pre:ax) (j:Nat):Array Value:=match pre[j]? with
  | some x=>match x.2.data with
    | .seq vs _=>vs
    | _=>#[]
  | none=>#[]
noncomputable abbrev aN (req:List Nat) (P:Value→Prop):Hk:=dS req (fun _ _=>.ok (.ret .none)) (fun _ ys=>[ab (ys.a 0) (ys.n 0)]) (fun _ _=>[]) (fun pre ys=>∃ x,P x∧ys.a 0=(bn pre 0).push x)
theorem aC (hk:∀ a o,V.kt.get a=some o→a < V.n₁) {Γ:Ctx} {x:Value} {P:Value→Prop} {req:List Nat} (hsz:vs.size≤1000) (hP:P x) :
    an V (aN req P) (Γ.enter (.call (.builtin "list.append") ⟨[.ref l,x],[]⟩) none p) p [(l,ab vs m)] b t ch gl :=
  cA hk fun s hs A _=>by
    have ho:=hs.olds (l,ab vs m) (.head _)
    have hl:=bP ho
    refine wpAny_call_entry slot_list_append hl.typeIs entry_list_append ?_ (args_list_append _ _)
    show wpAny _ _ (updateSeq l (·.push x) >>= fun _=>ret .none) _ _ s
    refine wpAny_bind ?_
    refine wpAny_updateSeq ho rfl (wpAny_pure ⟨.none,rfl,?_⟩) (by rw [bM];omega) (by show (vs.push x).size≤_;rw [Array.size_push,bM];omega)
    refine ⟨bf [if (vs.push x).size == vs.size then m else m+1] [vs.push x] [] [] [],⟨x,hP,rfl⟩,rfl,rfl,?_⟩
    refine ⟨fun a o e hn=>?_,fun y hy=>?_,ag,List.nodup_nil,rfl,rfl,rfl⟩
    · exact (bc (by rintro rfl;exact hn (.head _))).trans e
    · simp only [List.zipWith_cons_cons,List.zipWith_nil_left,List.mem_cons,List.not_mem_nil,or_false] at hy
      subst hy
      exact du (f:=Obj.mapSeq (·.push x)) ho rfl
theorem fits_k {k:Nat} (hb:k≤1000):Builtin.List.listFitsIndex (Int.ofNat k)=true:=by
  refine fitsIndex_of (Int.natCast_nonneg k) ?_
  have h:(Int.ofNat k)≤1000:=by rw [Int.ofNat_eq_natCast];omega
  have h':(1000:Int) < 2 ^ 63:=by decide +kernel
  exact Int.lt_of_le_of_lt h h'
theorem dH {Γ:Ctx} {k τ:Nat} {v:Ys→Value} {req:List Nat} (hx:∃ ys,vs[k]?=some (v ys)) (hb:k≤1000) :
    an V (a9 req v) (Γ.enter (.call (.builtin "list.__getitem__") ⟨[.ref l,.int (.ofNat k) τ],[]⟩) none p) p [(l,ab vs m)] b t ch gl :=
  br fun s hs A=>by
    obtain ⟨ys,hx⟩:=hx
    have ho:=hs.olds (l,ab vs m) (.head _)
    have hl:=bP ho
    have hf:=fits_k hb
    clear hb
    obtain ⟨kk,hkk⟩:∃ kk:Int,kk=Int.ofNat k:=⟨_,rfl⟩
    rw [← hkk] at hf ⊢
    refine wpAny_call_entry slot_list_getitem hl.typeIs entry_list_getitem ?_ (args_list_getitem _ _)
    show wpAny _ _ (Builtin.List.listSubscript? (.int kk τ) >>= _) _ _ s
    refine wpAny_bind (wpAny_listSubscript_int hf ?_)
    clear hf
    subst hkk
    show wpAny _ _ ((seqItemAt l k >>= fun r=>pure (r.map (k,·))) >>= _) _ _ s
    refine wpAny_bind (wpAny_bind (wpAny_seqItemAt ho rfl (wpAny_pure ?_)))
    rw [hx]
    exact wpAny_bind (wpAny_pure (wpAny_pure ⟨_,rfl,⟨ys,rfl⟩,bV _⟩))
theorem ke {Γ:Ctx} {n:Nat} {req:List Nat} (hn:vs.size=n) (hb:n < 2 ^ 63) :
    an V (a9 req fun ys=>.int (.ofNat n) (ys.n 0)) (Γ.enter (.call (.builtin "len") ⟨[.ref l],[]⟩) none p) p [(l,ab vs m)] b t ch gl :=
  br fun s hs A=>by
    have ho:=hs.olds (l,ab vs m) (.head _)
    subst hn
    refine Calls.call_len_list (bP ho) (by omega) ⟨⟨dz fun _=>s.toks+1,rfl⟩,rfl,rfl,?_,rfl,rfl⟩
    exact Nat.le_add_right _ 2
noncomputable def mF:List DictEntry→Nat→Value→List DictEntry
  | [],_,_=>[]
  | e :: l,0,v=>{ e with val:=v } :: l
  | e :: l,j+1,v=>e :: mF l j v
noncomputable def setE (j:Nat) (v:Value):Obj→Obj
  | ⟨c,d,.dict es n,sl⟩=>⟨c,d,.dict ⟨mF es.toList j v⟩ n,sl⟩
  | o=>o
noncomputable def bumpIt:Obj→Obj
  | ⟨c,d,.fields vs,sl⟩=>⟨c,d,.fields #[vs.getD 0 .none,match vs.getD 1 .none with | .int (.ofNat i) _=>.int (.ofNat (i+1)) 0 | v=>v],sl⟩
  | o=>o
noncomputable def endIt:Obj→Obj
  | ⟨c,d,.fields vs,sl⟩=>⟨c,d,.fields #[.none,vs.getD 1 .none],sl⟩
  | o=>o
noncomputable def placeIt (pre:ax):Nat:=match pre with
  | x :: _=>match x.2.data with
    | .fields vs=>match vs.getD 1 .none with
      | .int (.ofNat i) _=>i
      | _=>0
    | _=>0
  | _=>0
noncomputable def two (f g:Obj→Obj):ax→List Obj
  | [x,y]=>[f x.2,g y.2]
  | _=>[]
noncomputable abbrev aF (req:List Nat) (v:Ys→Value):Hk:=dS req (fun _ ys=>.ok (.ret (v ys))) (fun pre _=>two bumpIt id pre) (fun _ _=>[]) (fun pre ys=>(bn pre 1)[placeIt pre]?=some (v ys))
theorem aA (hk:∀ a o,V.kt.get a=some o→a < V.n₁) {Γ:Ctx} {it:Addr} {i:Nat} {v:Ys→Value} {req:List Nat} (hx:∃ ys,vs[i]?=some (v ys)) :
    an V (aF req v) (Γ.enter (.call (.builtin "list_iterator.__next__") ⟨[.ref it],[]⟩) none p) p [(it,ad l i),(l,ab vs m)] b t ch gl :=
  cA hk fun s hs A _=>by
    obtain ⟨ys,hx⟩:=hx
    have ho:=hs.olds (it,ad l i) (.head _)
    have hl:=hs.olds (l,ab vs m) (.tail _ (.head _))
    have hne:l≠it:=by
      have:=hs.nd
      simp only [List.map_cons,List.map_nil,List.nodup_cons,List.mem_cons,List.not_mem_nil,or_false] at this
      exact fun e=>this.1 e.symm
    have hT:s.TypeIs (.ref it) "list_iterator":=⟨_,ho,rfl⟩
    refine wpAny_call_entry slot_listiter_next hT entry_listiter_next ?_ (args_listiter_next _)
    show wpAny _ _ (field (.ref it) 0 >>= _) _ _ s
    refine wpAny_bind (wpAny_field ho rfl (x:=.ref l) rfl ?_)
    show wpAny _ _ (if (Value.ref l == Value.none)=true then _ else _) _ _ s
    rw [if_neg (show ¬ ((Value.ref l == Value.none)=true) from Bool.false_ne_true)]
    show wpAny _ _ (field (.ref it) 1 >>= _) _ _ s
    refine wpAny_bind (wpAny_field ho rfl (x:=.int (.ofNat i) 0) rfl ?_)
    show wpAny _ _ (seqItems? (.ref l) >>= _) _ _ s
    refine wpAny_bind (wpAny_seqItems hl rfl ?_)
    show wpAny _ _ (match vs[(Int.ofNat i).toNat]? with | some x=>_ | none=>_) _ _ s
    rw [show (Int.ofNat i).toNat=i from rfl,hx]
    refine wpAny_bind (wpAny_setField ho rfl (by simp) (wpAny_pure ⟨v ys,rfl,ys,hx,rfl,rfl,?_⟩))
    refine ⟨fun a o e hn=>(bc (by rintro rfl;exact hn (.head _))).trans e,fun y hy=>?_,ag,List.nodup_nil,rfl,rfl,rfl⟩
    simp only [two,List.zipWith_cons_cons,List.zipWith_nil_left,List.mem_cons,List.not_mem_nil,or_false] at hy
    rcases hy with rfl | rfl
    · exact du (f:=Obj.mapFields (·.setIfInBounds 1 (rawInt (Int.ofNat i+1)))) ho rfl
    · exact (bc hne).trans hl
noncomputable abbrev j9 (d:Data):Obj:=⟨.type "StopIteration",none,d,#[]⟩
noncomputable abbrev e8 (req:List Nat):Hk:=dS req (fun _ ys=>.error (.ref (ys.n 0))) (fun pre _=>two endIt id pre) (fun _ ys=>[(ys.n 0,j9 (ys.d 0))]) (fun _ _=>True)
theorem cT (hk:∀ a o,V.kt.get a=some o→a < V.n₁) {c:Code} {below:List (Code×Pos)} {it:Addr} {i:Nat} {req:List Nat} (hx:vs[i]?=none) :
    an V (e8 req) ⟨.call (.builtin "list_iterator.__next__") ⟨[.ref it],[]⟩,none,none,(c,p) :: below,none⟩ p [(it,ad l i),(l,ab vs m)] b t ch gl :=
  cA hk (Γ:=⟨c,none,none,below,none⟩) fun s hs A hh=>by
    have ho:=hs.olds (it,ad l i) (.head _)
    have hl:=hs.olds (l,ab vs m) (.tail _ (.head _))
    have hne:l≠it:=by
      have:=hs.nd
      simp only [List.map_cons,List.map_nil,List.nodup_cons,List.mem_cons,List.not_mem_nil,or_false] at this
      exact fun e=>this.1 e.symm
    have hT:s.TypeIs (.ref it) "list_iterator":=⟨_,ho,rfl⟩
    refine wpAny_call_entry slot_listiter_next hT entry_listiter_next ?_ (args_listiter_next _)
    show wpAny _ _ (field (.ref it) 0 >>= _) _ _ s
    refine wpAny_bind (wpAny_field ho rfl (x:=.ref l) rfl ?_)
    show wpAny _ _ (if (Value.ref l == Value.none)=true then _ else _) _ _ s
    rw [if_neg (show ¬ ((Value.ref l == Value.none)=true) from Bool.false_ne_true)]
    show wpAny _ _ (field (.ref it) 1 >>= _) _ _ s
    refine wpAny_bind (wpAny_field ho rfl (x:=.int (.ofNat i) 0) rfl ?_)
    show wpAny _ _ (seqItems? (.ref l) >>= _) _ _ s
    refine wpAny_bind (wpAny_seqItems hl rfl ?_)
    show wpAny _ _ (match vs[(Int.ofNat i).toNat]? with | some x=>_ | none=>_) _ _ s
    rw [show (Int.ofNat i).toNat=i from rfl,hx]
    refine wpAny_bind (wpAny_rule (wpAny_bind (wpAny_setField ho rfl (by simp) ?_)))
    show wpAny _ _ (newExc (.type "StopIteration") [] >>= _) _ _ _
    refine wpAny_bind ?_
    simp only [newExc,newTuple]
    refine wpAny_bind (wpAny_newObj_type ?_ (by size_fits))
    refine wpAny_bind (m:=firstArgMember _ _) (wpAny_of_eq (a:=Value.none) (by first | rfl | (simp only [firstArgMember];rfl)) ?_)
    refine wpAny_newObj_type ?_ (by size_fits)
    simp only [raiseNew]
    refine wpAny_bind (wpAny_handled ?_)
    rw [show A.in1.handled=none from hh]
    refine wpAny_bind (wpAny_pure (wpAny_throw ?_))
    refine ⟨bf [((s.heap.update it (Obj.mapFields fun x=>x.setIfInBounds 0 .none)).push { cls:=.type "tuple",data:=.seq #[] }).objs.size] [] [] []
      [.fields (#[.ref (s.heap.update it (Obj.mapFields fun x=>x.setIfInBounds 0 .none)).objs.size,.none,.none,.none,.bool false,.none]++ownMembersOf (.type "StopIteration") [])],trivial,rfl,rfl,?_⟩
    have self:=du (f:=Obj.mapFields fun x=>x.setIfInBounds 0 .none) ho rfl
    refine ⟨fun a o e hn=>?_,fun y hy=>?_,?_,List.nodup_cons.mpr ⟨List.not_mem_nil,List.nodup_nil⟩,rfl,rfl,rfl⟩
    · exact Heap.get?_push_of_some _ (Heap.get?_push_of_some _ ((bc (by rintro rfl;exact hn (.head _))).trans e))
    · simp only [two,List.zipWith_cons_cons,List.zipWith_nil_left,List.mem_cons,List.not_mem_nil,or_false] at hy
      rcases hy with rfl | rfl
      · exact Heap.get?_push_of_some _ (Heap.get?_push_of_some _ self)
      · exact Heap.get?_push_of_some _ (Heap.get?_push_of_some _ ((bc hne).trans hl))
    · refine ao ⟨?_,?_⟩
      · exact Heap.get?_push_size _ rfl
      · show s.heap.objs.size≤(Heap.push _ _).objs.size
        rw [Heap.size_push,e9]
        exact Nat.le_succ _
end
end
section
theorem c5.heap {pre:ax} {b t:Nat} {V:Vw} {ch:Ch} {gl:List GenState} {s s':Shared} (hs:At V pre b t ch gl s) (h1:s'.heap=s.heap) (h2:s'.gens=s.gens) (h3:s'.os=s.os) (h4:s'.drawn=s.drawn):c5 pre (pre.map (·.2)) [] s s' :=
  ⟨fun a o e _=>by rw [h1];exact e,fun x hx=>by rw [bX] at hx;rw [h1];exact hs.olds x hx,ag,List.nodup_nil,h2,h3,h4⟩
theorem c5.kept {pre:ax} {b t:Nat} {V:Vw} {ch:Ch} {gl:List GenState} {s s':Shared} (hs:At V pre b t ch gl s) (h1:∀ a o,s.heap.get? a=some o→s'.heap.get? a=some o) (h2:s'.gens=s.gens) (h3:s'.os=s.os) (h4:s'.drawn=s.drawn):c5 pre (pre.map (·.2)) [] s s' :=
  ⟨fun a o e _=>h1 a o e,fun x hx=>by rw [bX] at hx;exact h1 _ _ (hs.olds x hx),ag,List.nodup_nil,h2,h3,h4⟩
theorem c5.pushed {pre:ax} {b t:Nat} {V:Vw} {ch:Ch} {gl:List GenState} {s s':Shared} {o:Obj} (hs:At V pre b t ch gl s) (hf:o.isFreed=false) (h1:s'.heap=s.heap.push o) (h2:s'.gens=s.gens) (h3:s'.os=s.os) (h4:s'.drawn=s.drawn):c5 pre (pre.map (·.2)) [(s.heap.objs.size,o)] s s' :=
  ⟨fun a o e _=>by rw [h1];exact Heap.get?_push_of_some _ e,fun x hx=>by rw [bX] at hx;rw [h1];exact Heap.get?_push_of_some _ (hs.olds x hx),ao ⟨by rw [h1];exact Heap.get?_push_size _ hf,Nat.le_refl _⟩,List.nodup_cons.mpr ⟨List.not_mem_nil,List.nodup_nil⟩,h2,h3,h4⟩
section
variable {V:Vw} {p:Pos} {b t c:Nat} {ch:Ch} {gl:List GenState} {vs:Array Value} {m:Nat} {l:Addr}
theorem ff {items:Array Value} {lo hi st:Option Int} (h:AllInts items):AllInts (slicePick items lo hi st):=fun v hv=>by
  unfold slicePick at hv
  rw [List.mem_toArray,List.mem_filterMap] at hv
  obtain ⟨j,_,hj⟩:=hv
  exact h v (Array.mem_of_getElem? hj)
noncomputable abbrev eS (req:List Nat) (A:Array Value):Hk:=dS req (fun _ ys=>.ok (.ret (.ref (ys.n 0)))) (fun pre _=>pre.map (·.2)) (fun _ ys=>[(ys.n 0,ab A 0)]) (fun _ _=>True)
noncomputable abbrev dD (vs:Array Value) (k:Nat):Array Value:=slicePick vs (some (.ofNat k)) none (some 3)
theorem ez (hk:∀ a o,V.kt.get a=some o→a < V.n₁) {Γ:Ctx} {sl:Addr} {k τ σ:Nat} {req:List Nat} (hsz:vs.size≤1000) :
    an V (eS req (dD vs k)) (Γ.enter (.call (.builtin "list.__getitem__") ⟨[.ref l,.ref sl],[]⟩) none p) p [(l,ab vs m),(sl,⟨.type "slice",none,.fields #[.int (.ofNat k) τ,.none,.int 3 σ],#[]⟩)] b t ch gl :=
  cA hk fun s hs A _=>by
    have ho:=hs.olds (l,ab vs m) (.head _)
    have hos:=hs.olds (sl,⟨.type "slice",none,.fields #[.int (.ofNat k) τ,.none,.int 3 σ],#[]⟩) (.tail _ (.head _))
    have hl:=bP ho
    have hTs:s.TypeIs (.ref sl) "slice":=⟨_,hos,rfl⟩
    refine wpAny_call_entry slot_list_getitem hl.typeIs entry_list_getitem ?_ (args_list_getitem _ _)
    show wpAny _ _ (Builtin.List.listSubscript? (.ref sl) >>= _) _ _ s
    refine wpAny_bind ?_
    unfold Builtin.List.listSubscript?
    refine wpAny_bind (wpAny_specialOf hTs slice_no_index ?_)
    simp only [Option.isNone_none,if_true]
    refine wpAny_pure ?_
    show wpAny _ _ (typeOf (.ref sl) >>= _) _ _ s
    refine wpAny_bind (wpAny_typeOf hTs ?_)
    rw [if_neg (by decide)]
    rw [listSliceParts_eq]
    have hstep:¬ ((rawPart (some 3) == rawInt 0)=true):=by decide
    refine wpAny_bind (wpAny_bind (wpAny_field hos rfl (x:=.int 3 σ) rfl (wpAny_bind (wpAny_listPart (.int 3 σ) ?_))))
    rw [if_neg hstep]
    refine wpAny_bind (wpAny_field hos rfl (x:=.int (.ofNat k) τ) rfl (wpAny_bind (wpAny_listPart (.int _ τ) ?_)))
    refine wpAny_bind (wpAny_field hos rfl (x:=.none) rfl (wpAny_bind (wpAny_listPart .none (wpAny_pure ?_))))
    refine wpAny_bind (m:=Builtin.List.listItems (.ref l)) ?_
    unfold Builtin.List.listItems
    refine wpAny_bind (wpAny_seqItems ho rfl (wpAny_pure ?_))
    refine wpAny_bind (wpAny_of_eq (sliceIndices_raw (some (.ofNat k)) none (some 3) vs.size (by simp)) ?_)
    refine wpAny_bind (wpAny_newObj_type (wpAny_pure ⟨_,rfl,?_⟩) (Nat.le_trans (slicePick_size_le vs _ _ _) (by rw [bM];omega)))
    exact ⟨bf [s.heap.objs.size] [] [] [] [],trivial,rfl,rfl,c5.pushed hs rfl rfl rfl rfl rfl⟩
noncomputable abbrev eF (req:List Nat) (S:Int):Hk:=dS req (fun _ ys=>.ok (.ret (.int S (ys.n 0)))) (fun pre _=>pre.map (·.2)) (fun _ _=>[]) (fun _ _=>True)
theorem jq {vs:Array Value} (hi:AllInts vs):∃ S:Int,∀ {V:Vw} {p:Pos} {b t m:Nat} {l:Addr} {ch:Ch} {gl:List GenState} (hk:∀ a o,V.kt.get a=some o→a < V.n₁) {c:Code} {below:List (Code×Pos)} {req:List Nat},
    an V (eF req S) ⟨.call (.builtin "sum") ⟨[.ref l],[]⟩,none,none,(c,p) :: below,none⟩ p [(l,ab vs m)] b t ch gl:=by
  obtain ⟨xs,rfl⟩:=hi.items
  refine ⟨preSum (numAt xs) xs.size,fun {V p b t m l ch gl} hk {c below req}=>?_⟩
  exact cA hk (Γ:=⟨c,none,none,below,none⟩) fun s hs A hh=>by
    have ho:=hs.olds (l,ab (intItems xs) m) (.head _)
    exact sum_intListG hh (bP ho) fun h' tk t' hk'=>⟨bf [t'] [] [] [] [],trivial,rfl,rfl,c5.kept hs hk' rfl rfl rfl⟩
noncomputable abbrev hV (req:List Nat) (c:Nat):Hk:=dS req (fun _ ys=>.ok (.ret (.int (.ofNat c) (ys.n 0)))) (fun pre _=>pre.map (·.2)) (fun _ _=>[]) (fun _ _=>True)
theorem gq (hk:∀ a o,V.kt.get a=some o→a < V.n₁) {Γ:Ctx} {i:Int} {τ:Nat} {req:List Nat} :
    an V (hV req i.natAbs) (Γ.enter (.call (.builtin "abs") ⟨[.int i τ],[]⟩) none p) p [] b t ch gl :=
  cA hk fun s hs A _=>by
    refine call_abs_int fun u tk=>?_
    refine ⟨bf [u] [] [] [] [],trivial,?_,rfl,c5.heap hs rfl rfl rfl rfl⟩
    show (Except.ok (Flow.ret (Value.int (Int.ofNat i.natAbs) u)):Result)=_
    congr 3
    split <;> simp only [Int.ofNat_eq_natCast] <;> omega
theorem StrsAre.at_arr {vs:Array Value} {Ws:List Str} (h:StrsAre vs.toList Ws) {j:Nat} (h1:j < vs.size):∃ t,vs[j] = .str (Ws.getD j ⟨#[]⟩) t:=by
  have hl:vs.toList.length=Ws.length:=StrsAre.length h
  have hj:j < Ws.length:=by rw [← hl];simpa using h1
  obtain ⟨t,ht⟩:=StrsAre.get h j (Ws[j]) (by simp [hj])
  refine ⟨t,?_⟩
  rw [Array.getElem?_toList,Array.getElem?_eq_getElem h1] at ht
  rw [Option.some.inj ht,List.getD_eq_getElem?_getD,List.getElem?_eq_getElem hj]
  rfl
theorem dn {Γ:Ctx} {l':Addr} {vs':Array Value} {m':Nat} {req:List Nat} {Ws:List Str} (h1:StrsAre vs.toList Ws) (h2:StrsAre vs'.toList Ws) :
    an V (a9 req fun _=>.bool false) (Γ.enter (.call (.builtin "list.__ne__") ⟨[.ref l,.ref l'],[]⟩) none p) p [(l,ab vs m),(l',ab vs' m')] b t ch gl :=
  br fun s hs A=>by
    have ho:=hs.olds (l,ab vs m) (.head _)
    have ho':=hs.olds (l',ab vs' m') (.tail _ (.head _))
    have e1:vs.size=Ws.length:=by simpa using StrsAre.length h1
    have e2:vs'.size=Ws.length:=by simpa using StrsAre.length h2
    refine call_meets F.slot_list_ne (bP ho).typeIs F.entry_list_ne (F.args_list_ne_2 _ _) (SeqAt.list_neAt l l' vs vs' m m' none none #[] #[] (by omega) fun _=>true) ⟨ho,ho',fun j h3 h4=>?_,?_⟩
    · obtain ⟨t1,q1⟩:=StrsAre.at_arr h1 h3
      obtain ⟨t2,q2⟩:=StrsAre.at_arr h2 h4
      rw [q1,q2]
      have:=SeqAt.EqAt.str_str (A:=A.in1) (s:=s) (Ws.getD j ⟨#[]⟩) t1 (Ws.getD j ⟨#[]⟩) t2
      simpa using this
    · refine ⟨⟨dz fun _=>0,?_⟩,bV _⟩
      simp
end
end
theorem gv:∀ (pre:ax) (os:List Obj) (e:ax) (oe:List Obj),os.length=pre.length→List.zipWith (fun (x:Addr×Obj) o=>(x.1,o)) (pre++e) (os++oe)=List.zipWith (fun (x:Addr×Obj) o=>(x.1,o)) pre os++List.zipWith (fun (x:Addr×Obj) o=>(x.1,o)) e oe
  | [],[],_,_,_=>rfl
  | x :: pre,o :: os,e,oe,h=>by simp only [List.cons_append,List.zipWith_cons_cons,gv pre os e oe (by simpa using h)]
  | [],_ :: _,_,_,h=>by simp at h
  | _ :: _,[],_,_,h=>by simp at h
theorem an.conv {V:Vw} {h h':Hk} {Γ:Ctx} {p:Pos} {pre:ax} {b t:Nat} {ch:Ch} {gl:List GenState} (H:an V h Γ p pre b t ch gl)
    (c:∀ ys,h.ok pre ys→∃ ys',h'.ok pre ys'∧h'.res pre ys'=h.res pre ys∧h'.objs pre ys'=h.objs pre ys∧h'.adds pre ys'=h.adds pre ys∧h'.tabs pre ys'=h.tabs pre ys∧h'.gn=h.gn):an V h' Γ p pre b t ch gl:=fun s hs=>by
  obtain ⟨ys,b',t',s',hk,hr,hl,ha,hf,hc,hd⟩:=H s hs
  obtain ⟨ys',k,e1,e2,e3,e4,e5⟩:=c ys hk
  refine ⟨ys',b',t',s',k,?_,?_,?_,?_,?_,?_⟩
  · rw [e1];exact hr
  · rw [e2];exact hl
  · rw [e2,e3,e4,e5];exact ha
  · rw [e4];exact hf
  · rw [e4];exact hc
  · rw [e3];exact hd
theorem an.ext {V:Vw} {h h':Hk} {Γ:Ctx} {p:Pos} {pre:ax} {b t:Nat} {ch:Ch} {gl:List GenState} (ext:ax) (H:an V h Γ p pre b t ch gl)
    (c:∀ ys,h.ok pre ys→∃ ys',h'.ok (pre++ext) ys'∧h'.res (pre++ext) ys'=h.res pre ys∧h'.objs (pre++ext) ys'=h.objs pre ys++ext.map (·.2)∧h'.adds (pre++ext) ys'=h.adds pre ys∧h'.tabs (pre++ext) ys'=h.tabs pre ys∧h'.gn=h.gn) :
    an V h' Γ p (pre++ext) b t ch gl:=fun s hs=>by
  have nd:=hs.nd
  rw [List.map_append] at nd
  obtain ⟨nd1,nd2,nd3⟩:=List.nodup_append.mp nd
  obtain ⟨ys,b',t',s',hk,hr,hl,ha,hf,hc,hd⟩:=H s ⟨hs.base,hs.tab,fun x hx=>hs.olds x (List.mem_append_left _ hx),nd1,fun x hx=>hs.hi x (List.mem_append_left _ hx),hs.size,hs.toks,hs.gens,hs.lo⟩
  obtain ⟨ys',k,e1,e2,e3,e4,e5⟩:=c ys hk
  have hz:List.zipWith (fun (x:Addr×Obj) o=>(x.1,o)) (pre++ext) (h.objs pre ys++ext.map (·.2))=List.zipWith (fun (x:Addr×Obj) o=>(x.1,o)) pre (h.objs pre ys)++ext:=by
    rw [gv _ _ _ _ hl,bX]
  have hbb:b≤b':=by rw [← hs.size,← ha.size];exact hf.size
  refine ⟨ys',b',t',s',k,?_,?_,?_,?_,?_,?_⟩
  · rw [e1];exact hr
  · rw [e2];simp [hl]
  · rw [e2,e3,e4,e5,hz]
    refine ⟨ha.base,ha.tab,fun x hx=>?_,?_,fun x hx=>?_,ha.size,ha.toks,ha.gens,ha.lo⟩
    · rw [List.append_assoc] at hx
      rcases List.mem_append.mp hx with hx | hx
      · exact ha.olds x (List.mem_append_left _ hx)
      · rcases List.mem_append.mp hx with hx | hx
        · have hm:x∈pre++ext:=List.mem_append_right _ hx
          refine hf.keep _ _ (hs.olds x hm) (fun hp=>nd3 _ hp x.1 (List.mem_map_of_mem hx) rfl) ?_
          cases q:chLook (ba ch (h.tabs pre ys)) x.1 with
          | none=>rfl
          | some vs=>exact absurd (ha.tab _ _ q).1 (Nat.not_lt.mpr (hs.hi x hm).1)
        · exact ha.olds x (List.mem_append_right _ hx)
    · have h1:=ha.nd
      rw [List.map_append,cy _ _ hl] at h1
      obtain ⟨a1,a2,a3⟩:=List.nodup_append.mp h1
      rw [List.map_append,List.map_append,cy _ _ hl]
      refine List.nodup_append.mpr ⟨nd,a2,fun a ha' c hc'=>?_⟩
      rcases List.mem_append.mp ha' with h3 | h3
      · exact a3 a h3 c hc'
      · obtain ⟨x,hx,rfl⟩:=List.mem_map.mp h3
        obtain ⟨y,hy,rfl⟩:=List.mem_map.mp hc'
        exact Nat.ne_of_lt (Nat.lt_of_lt_of_le (hs.hi x (List.mem_append_right _ hx)).2 (hd y hy))
    · rw [List.append_assoc] at hx
      rcases List.mem_append.mp hx with hx | hx
      · exact ha.hi x (List.mem_append_left _ hx)
      · rcases List.mem_append.mp hx with hx | hx
        · have:=hs.hi x (List.mem_append_right _ hx)
          exact ⟨this.1,Nat.lt_of_lt_of_le this.2 hbb⟩
        · exact ha.hi x (List.mem_append_right _ hx)
  · rw [e4]
    exact ⟨fun a o e q1 q2=>hf.keep a o e (fun hm=>q1 (by rw [List.map_append];exact List.mem_append_left _ hm)) q2,hf.size,hf.toks,hf.os,hf.drawn⟩
  · rw [e4];exact hc
  · rw [e3];exact hd
section
noncomputable def cj:Data→Array (Int×Value)
  | .set es _ _=>es
  | _=>#[]
noncomputable def ck:Data→Nat
  | .set _ e _=>e
  | _=>0
noncomputable def ci:Data→SetTable
  | .set _ _ t=>t
  | _=>default
noncomputable abbrev be (d:Data):Obj:=⟨.type "set",none,.set (cj d) (ck d) (ci d),#[]⟩
noncomputable abbrev bO (st:Addr):Obj:=⟨.type "builtin_function_or_method",none,.fields #[.builtin "set.__contains__",.ref st],#[]⟩
noncomputable abbrev bk (bm it:Addr):Obj:=⟨.type "filter",none,.fields #[.ref bm,.ref it],#[]⟩
noncomputable def bg (below:List (Code×Pos)) (c:Code):Ctx:=⟨c,none,none,below,none⟩
noncomputable abbrev kS (w:World):KeyKind pw w Str:=PySem.strKind pw w
noncomputable def cp (w:World) (d:Data) (S:Str→Bool):Prop:=∃ es ep t,d = .set es ep t∧ElemsOf (kS w) es.toList∧(∀ k,S k=true↔∃ e∈es.toList,(kS w).is k e.2=true)∧es.size < scanBound∧t.fits es.size=true
theorem cp.setOf {w:World} {d:Data} {S:Str→Bool} (h:cp w d S) {H:Heap} {a:Addr} (ho:H.get? a=some (be d)):∃ n,H.SetOf (kS w) a S n:=by
  obtain ⟨es,ep,t,rfl,h1,h2,h3,h4⟩:=h
  exact ⟨es.size,_,es,ep,t,ho,⟨rfl,rfl,rfl⟩,rfl,h1,h2,h3,h4,rfl⟩
theorem cp.of {w:World} {S:Str→Bool} {H:Heap} {a:Addr} {n:Nat} (h:H.SetOf (kS w) a S n):∃ d,cp w d S∧H.get? a=some (be d):=by
  obtain ⟨⟨c,dd,dt,sl⟩,es,ep,t,ho,⟨hc,hdd,hsl⟩,hd,h1,h2,h3,h4,_⟩:=h
  simp only at hc hdd hsl hd
  subst hc;subst hdd;subst hsl;subst hd
  exact ⟨.set es ep t,⟨es,ep,t,rfl,h1,h2,h3,h4⟩,ho⟩
section
variable {V:Vw} {p:Pos} {b t c:Nat} {ch:Ch} {gl:List GenState} {vs:Array Value} {m:Nat} {l:Addr}
theorem iG (hk:∀ a o,V.kt.get a=some o→a < V.n₁) {Γ:Ctx} {id:String} {args:Args} {b0:Builtin} {pre:ax} {req:List Nat} {res:ax→Ys→Result} {objs:ax→Ys→List Obj} {adds:ax→Ys→ax} {ok:ax→Ys→Prop} (entry:entryFor table id=some b0)
    (H:∀ s,At V pre b t ch gl s→∀ A,A.handled=Γ.handled →
      wpAny (model V.prog V.w) A (b0 args) (fun fin s'=>∃ f ys,fin = .done f∧ok pre ys∧res pre ys = .ok f∧(objs pre ys).length=pre.length∧c5 pre (objs pre ys) (adds pre ys) s s') (fun x s'=>∃ ys,ok pre ys∧res pre ys = .error x∧(objs pre ys).length=pre.length∧c5 pre (objs pre ys) (adds pre ys) s s') s) :
    fK V (dS req res objs adds ok) (den (.builtin id args)) Γ p pre b t ch gl:=by
  intro s hs
  rw [fk args entry]
  have z:=H s hs (nq Γ) rfl Γ p (gP Γ)
  rw [dv] at z
  have z':Sem.wp (cg V) Γ (b0 args) (Sem.finPost (cg V) Γ fun r s'=>∃ ys,ok pre ys∧res pre ys=r∧(objs pre ys).length=pre.length∧c5 pre (objs pre ys) (adds pre ys) s s') (fun e _ s'=>∃ ys,ok pre ys∧res pre ys=(Except.error e:Result)∧(objs pre ys).length=pre.length∧c5 pre (objs pre ys) (adds pre ys) s s') p s:=by
    refine Sem.wp_mono _ _ _ ?_ (fun _ _ _ h=>h) p s z
    rintro fin p' s' ⟨f,ys,rfl,h⟩
    exact ⟨ys,h⟩
  obtain ⟨r,s',hr,ys,h1,h2,h3,h4⟩:=(Sem.wp_iff_runs (M:=cg V) (Γ:=Γ) _ _ p s).mp z'
  have hm:=f9 hr
  obtain ⟨hA,hF⟩:=hs.post hk h4 h3 hm.1 hm.2
  refine ⟨ys,_,_,s',h1,?_,h3,hA,hF,fun a h=>h,fun x hx=>by rw [← hs.size];exact (h4.news x hx).2⟩
  show Runs _ _ _ _ [] s (.ret (res pre ys)) s'
  rw [h2];exact hr
end
theorem g6 {w:World} {p:Pos} {b t st σ:Nat} {ch:Ch} {gl:List GenState} {Γ:Ctx} {d:Data} {S:Str→Bool} {x:Str} {v:Bool} {req:List Nat} (hS:cp w d S) (hv:S x=v) :
    fK (Vp w) (dS req (fun _ _=>.ok (.ret (.bool v))) (fun pre _=>pre.map (·.2)) (fun _ _=>[]) (fun _ _=>True)) (den (.builtin "set.__contains__" ⟨[.ref st,.str x σ],[]⟩)) Γ p [(st,be d)] b t ch gl :=
  iG (ai w) entry_set_contains fun s hs A _=>by
    obtain ⟨n,hO⟩:=hS.setOf (hs.olds (st,be d) (.head _))
    unfold Builtin.«frozenset.__contains__» Builtin.Frozenset.oneOther
    simp only [List.isEmpty_nil,bind_assoc]
    unfold Builtin.Frozenset.addrOf Builtin.Frozenset.withSetAsKey setContains
    refine wpAny_bind (wpAny_pure ?_)
    try dsimp only
    refine wpAny_bind (wpAny_pure ?_)
    try dsimp only
    refine wpAny_bind (wpAny_tryCatch ?_)
    refine wpAny_holding ?_
    have hkey:(kS w).is x (.str x σ)=true:=by simp [PySem.strKind,Value.isStrOf]
    refine wpAny_bind ((kS w).pyHash hkey ?_)
    refine wpAny_bind (wpAny_setFind_of (s:={ s with toks:=s.toks+1 }) hkey rfl hO fun r hr=>?_)
    refine wpAny_pure ?_
    show wpAny _ _ (ret (Value.bool r.isSome)) _ _ _
    rw [hr,hv]
    exact wpAny_pure ⟨_,bf [] [] [] [] [],rfl,trivial,rfl,rfl,c5.heap hs rfl rfl rfl rfl⟩
section
variable {prog:Program} {w:World} {A:Around} {E:Value→Shared→Prop} {s:Shared} {it l:Addr} {i m:Nat} {vs:Array Value}
theorem iZ {v:Value} {Q:Option Value→Shared→Prop} (ho:s.heap.get? it=some (ad l i)) (hl:s.heap.get? l=some (ab vs m)) (hx:vs[i]?=some v)
    (hQ:Q (some v) { s with heap:=s.heap.update it (Obj.mapFields (·.setIfInBounds 1 (rawInt (Int.ofNat i+1)))) }):wpAny (model prog w) A (pyNext (.ref it)) Q E s:=by
  have hT:s.TypeIs (.ref it) "list_iterator":=⟨_,ho,rfl⟩
  unfold pyNext
  refine wpAny_bind (wpAny_attempt (wpAny_callSpecial?_slot (name:=Str.ofString "__next__") hT slot_listiter_next (wpAny_call_entry slot_listiter_next hT entry_listiter_next ?_ (args_listiter_next _))))
  show wpAny _ _ (field (.ref it) 0 >>= _) _ _ s
  refine wpAny_bind (wpAny_field ho rfl (x:=.ref l) rfl ?_)
  show wpAny _ _ (if (Value.ref l == Value.none)=true then _ else _) _ _ s
  rw [if_neg (show ¬ ((Value.ref l == Value.none)=true) from Bool.false_ne_true)]
  show wpAny _ _ (field (.ref it) 1 >>= _) _ _ s
  refine wpAny_bind (wpAny_field ho rfl (x:=.int (.ofNat i) 0) rfl ?_)
  show wpAny _ _ (seqItems? (.ref l) >>= _) _ _ s
  refine wpAny_bind (wpAny_seqItems hl rfl ?_)
  show wpAny _ _ (match vs[(Int.ofNat i).toNat]? with | some x=>_ | none=>_) _ _ s
  rw [show (Int.ofNat i).toNat=i from rfl,hx]
  exact wpAny_bind (wpAny_setField ho rfl (by simp) (wpAny_pure ⟨v,rfl,wpAny_pure hQ⟩))
theorem jC {Q:Option Value→Shared→Prop} (hh:A.handled=none) (ho:s.heap.get? it=some (ad l i)) (hl:s.heap.get? l=some (ab vs m)) (hx:vs[i]?=none)
    (hQ:∀ o1 o2,Q none { s with heap:=((s.heap.update it (Obj.mapFields (·.setIfInBounds 0 .none))).push o1).push o2 }):wpAny (model prog w) A (pyNext (.ref it)) Q E s:=by
  have hT:s.TypeIs (.ref it) "list_iterator":=⟨_,ho,rfl⟩
  unfold pyNext
  refine wpAny_bind (wpAny_attempt (wpAny_callSpecial?_slot (name:=Str.ofString "__next__") hT slot_listiter_next (wpAny_call_entry slot_listiter_next hT entry_listiter_next ?_ (args_listiter_next _))))
  show wpAny _ _ (field (.ref it) 0 >>= _) _ _ s
  refine wpAny_bind (wpAny_field ho rfl (x:=.ref l) rfl ?_)
  show wpAny _ _ (if (Value.ref l == Value.none)=true then _ else _) _ _ s
  rw [if_neg (show ¬ ((Value.ref l == Value.none)=true) from Bool.false_ne_true)]
  show wpAny _ _ (field (.ref it) 1 >>= _) _ _ s
  refine wpAny_bind (wpAny_field ho rfl (x:=.int (.ofNat i) 0) rfl ?_)
  show wpAny _ _ (seqItems? (.ref l) >>= _) _ _ s
  refine wpAny_bind (wpAny_seqItems hl rfl ?_)
  show wpAny _ _ (match vs[(Int.ofNat i).toNat]? with | some x=>_ | none=>_) _ _ s
  rw [show (Int.ofNat i).toNat=i from rfl,hx]
  refine wpAny_bind (wpAny_rule (wpAny_bind (wpAny_setField ho rfl (by simp) ?_)))
  show wpAny _ _ (newExc (.type "StopIteration") [] >>= _) _ _ _
  refine wpAny_bind ?_
  simp only [newExc,newTuple]
  refine wpAny_bind (wpAny_newObj_type ?_ (by size_fits))
  refine wpAny_bind (m:=firstArgMember _ _) (wpAny_of_eq (a:=Value.none) (by first | rfl | (simp only [firstArgMember];rfl)) ?_)
  refine wpAny_newObj_type ?_ (by size_fits)
  simp only [raiseNew]
  refine wpAny_bind (wpAny_handled ?_)
  rw [show A.in1.handled=none from hh]
  refine wpAny_bind (wpAny_pure (wpAny_throw ?_))
  refine wpAny_bind (wpAny_isInstance (T:="StopIteration") (b:=true) ⟨_,Heap.get?_push_size _ rfl,rfl⟩ isSubtype_stop ?_)
  exact wpAny_pure (hQ _ _)
end
theorem ln (Ws:List Str) (i:Nat) (y:Str) (h:Ws[i]?=some y) (k:Str):(Ws.take (i+1)).any (· == k)=((Ws.take i).any (· == k) || decide (k=y)):=by
  rw [List.take_succ,h,List.any_append]
  congr 1
  simp only [Option.toList_some,List.any_cons,List.any_nil,Bool.or_false]
  by_cases e:k=y
  · subst e;simp
  · have:(y == k)=false:=by simpa [beq_iff_eq] using fun h':y=k=>e h'.symm
    simp [this,e]
structure SetSt (w:World) (st it l:Addr) (i m:Nat) (vs:Array Value) (Ws:List Str) (s:Shared):Prop where
  it:s.heap.get? it=some (ad l i)
  l:s.heap.get? l=some (ab vs m)
  set:∃ n,n≤i∧s.heap.SetOf (kS w) st (fun k=>(Ws.take i).any (· == k)) n
theorem ly {w:World} {A:Around} {st it l:Addr} {m:Nat} {vs:Array Value} {Ws:List Str} {R:Result→Shared→Prop} (hh:A.handled=none) (hs:StrsAre vs.toList Ws) (hb:Ws.length+1 < scanBound) (n1:st≠it) (n2:st≠l) (n3:l≠it)
    (s₀:Shared) (hR:∀ s',s'.heap.get? it=some ⟨.type "list_iterator",none,.fields #[.none,.int (.ofNat Ws.length) 0],#[]⟩→s'.heap.get? l=some (ab vs m)→(∃ n,s'.heap.SetOf (kS w) st (fun k=>Ws.any (· == k)) n) →
      (∀ a o,s₀.heap.get? a=some o→a≠st→a≠it→s'.heap.get? a=some o)→s'.gens=s₀.gens→s'.os=s₀.os→s'.drawn=s₀.drawn→R (.ok (.ret .none)) s') :
    ∀ (k i:Nat) (s:Shared),Ws.length - i=k→i≤Ws.length→SetSt w st it l i m vs Ws s→(∀ a o,s₀.heap.get? a=some o→a≠st→a≠it→s.heap.get? a=some o)→s.gens=s₀.gens→s.os=s₀.os→s.drawn=s₀.drawn →
      codeAny (model pw w) A (.builtin "set.update.loop" ⟨[.ref st,.ref it],[]⟩) R s:=by
  have hlen:vs.toList.length=Ws.length:=StrsAre.length hs
  intro k
  induction k with
  | zero =>
    intro i s hk hi H hf hg ho hd
    have hin:i=Ws.length:=by omega
    subst hin
    refine codeAny_builtin F.entry_set_update_loop ?_
    rw [Around.under_plainId F.plain_set_update_loop _]
    show wpAny _ A.in1 (pyNext (.ref it) >>= _) _ _ s
    refine wpAny_bind (jC hh H.it H.l (by rw [← Array.getElem?_toList];exact List.getElem?_eq_none (by omega)) fun o1 o2=>?_)
    show wpAny _ A.in1 (ret Value.none) _ _ _
    have self:=du (f:=Obj.mapFields (·.setIfInBounds 0 .none)) H.it rfl
    have oth:∀ a o,a≠it→s.heap.get? a=some o→(((s.heap.update it (Obj.mapFields (·.setIfInBounds 0 .none))).push o1).push o2).get? a=some o:=fun a o ha e=>Heap.get?_push_of_some _ (Heap.get?_push_of_some _ ((bc ha).trans e))
    refine wpAny_pure (hR _ (Heap.get?_push_of_some _ (Heap.get?_push_of_some _ self)) (oth _ _ n3 H.l) ?_ (fun a o e h1 h2=>oth a o h2 (hf a o e h1 h2)) hg ho hd)
    obtain ⟨n,_,o,es,ep,t,e,rest⟩:=H.set
    rw [List.take_length] at rest
    exact ⟨n,o,es,ep,t,oth _ _ n1 e,rest⟩
  | succ k ih =>
    intro i s hk hi H hf hg ho hd
    have hlt:i < Ws.length:=by omega
    obtain ⟨t,ht⟩:=StrsAre.get hs i Ws[i] (by simp [hlt])
    refine codeAny_builtin F.entry_set_update_loop ?_
    rw [Around.under_plainId F.plain_set_update_loop _]
    show wpAny _ A.in1 (pyNext (.ref it) >>= _) _ _ s
    refine wpAny_bind (iZ H.it H.l (by rw [← Array.getElem?_toList];exact ht) ?_)
    have self:=du (f:=Obj.mapFields (·.setIfInBounds 1 (rawInt (Int.ofNat i+1)))) H.it rfl
    have oth:∀ a o,a≠it→s.heap.get? a=some o→(s.heap.update it (Obj.mapFields (·.setIfInBounds 1 (rawInt (Int.ofNat i+1))))).get? a=some o:=fun a o ha e=>(bc ha).trans e
    generalize (s.heap.update it (Obj.mapFields (·.setIfInBounds 1 (rawInt (Int.ofNat i+1)))))=h1 at self oth ⊢
    obtain ⟨n,hn,o,es,ep,tb,e,rest⟩:=H.set
    have hS1:h1.SetOf (kS w) st (fun k=>(Ws.take i).any (· == k)) n:=⟨o,es,ep,tb,oth _ _ n1 e,rest⟩
    show wpAny _ A.in1 (holding [Value.str Ws[i] t] (setAdd st (.str Ws[i] t)) >>= _) _ _ _
    refine wpAny_bind (wpAny_holding ?_)
    unfold setAdd
    refine wpAny_holding ?_
    have hkey:(kS w).is Ws[i] (.str Ws[i] t)=true:=by simp [PySem.strKind,Value.isStrOf]
    refine wpAny_bind ((kS w).pyHash hkey ?_)
    refine wpAny_setAddHashed_of (knd:=kS w) (s:={ s with heap:=h1,toks:=s.toks+1 }) hkey rfl hS1 (by omega) fun h' hsb hS2=>?_
    refine wpAny_pure ⟨plainId_quiet F.plain_set_update_loop _,ih (i+1) _ (by omega) hlt ⟨?_,?_,?_⟩ (fun a o e h3 h4=>?_) hg ho hd⟩
    · rw [hsb.2 it (Ne.symm n1)];exact self
    · rw [hsb.2 l (Ne.symm n2)];exact oth _ _ n3 H.l
    · have e1:(fun k'=>(Ws.take i).any (· == k') || decide (k'=Ws[i]))=fun k'=>(Ws.take (i+1)).any (· == k'):=funext fun k'=>(ln Ws i Ws[i] (by simp [hlt]) k').symm
      rw [e1] at hS2
      refine ⟨_,?_,hS2⟩
      split <;> omega
    · rw [hsb.2 a h3];exact oth _ _ h4 (hf a o e h3 h4)
noncomputable def nm (Γ:Ctx):Around:={ handled:=Γ.handled,depth:=frameCount Γ.below,frames:=some (envsOf Γ.below),guards:=some (guardsOf Γ.below),units:=unitsOf Γ.below }
theorem iQ (Γ:Ctx):Γ.Below (nm Γ):=⟨rfl,Nat.le_refl _,fun l h=>by cases h;rfl,fun g h=>by cases h;rfl,Nat.le_refl _⟩
theorem hN {V:Vw} {p:Pos} {pre:ax} {b t:Nat} {ch:Ch} {gl:List GenState} {req:List Nat} {res:ax→Ys→Result} {objs:ax→Ys→List Obj} {adds:ax→Ys→ax} {ok:ax→Ys→Prop} (hk:∀ a o,V.kt.get a=some o→a < V.n₁) {Γ:Ctx}
    (H:∀ s,At V pre b t ch gl s→∀ A,A.handled=Γ.handled→codeAny (model V.prog V.w) A Γ.code (fun r s'=>∃ ys,ok pre ys∧res pre ys=r∧(objs pre ys).length=pre.length∧c5 pre (objs pre ys) (adds pre ys) s s') s) :
    an V (dS req res objs adds ok) Γ p pre b t ch gl:=by
  intro s hs
  have z:=H s hs (nm Γ) rfl Γ p rfl (iQ Γ)
  rw [dv] at z
  obtain ⟨r,s',hr,ys,h1,h2,h3,h4⟩:=z
  have hm:=f9 hr
  obtain ⟨hA,hF⟩:=hs.post hk h4 h3 hm.1 hm.2
  refine ⟨ys,_,_,s',h1,?_,h3,hA,hF,fun a h=>h,fun x hx=>by rw [← hs.size];exact (h4.news x hx).2⟩
  show Returns _ _ _ s (res pre ys) s'
  rw [h2];exact hr
noncomputable abbrev cc (n:Nat):Obj:=⟨.type "list_iterator",none,.fields #[.none,.int (.ofNat n) 0],#[]⟩
noncomputable abbrev dA (pre:ax) (j:Nat):List Str:=(bn pre j).toList.map strOf
noncomputable abbrev mV (w:World) (req:List Nat):Hk:=dS req (fun _ _=>.ok (.ret .none)) (fun pre ys=>match pre with
  | [_,_,x]=>[be (ys.d 0),cc (ys.n 0),x.2]
  | _=>[]) (fun _ _=>[]) (fun pre ys=>cp w (ys.d 0) fun k=>(dA pre 2).any (· == k))
theorem jv {w:World} {p:Pos} {b t st it l m:Nat} {vs:Array Value} {led:Bool} {below:List (Code×Pos)} {ch:Ch} {gl:List GenState} {req:List Nat} {Ws:List Str} (hw:StrsAre vs.toList Ws) (hl:Ws.length≤100) :
    an (Vp w) (mV w req) ⟨.builtin "set.update.loop" ⟨[.ref st,.ref it],[]⟩,none,none,below,none⟩ p [(st,⟨.type "set",none,.set #[] 0 (.fresh 0 0 led),#[]⟩),(it,ad l 0),(l,ab vs m)] b t ch gl :=
  hN (ai w) fun s hs A hh=>by
    have nd:=hs.nd
    simp only [List.map_cons,List.map_nil,List.nodup_cons,List.mem_cons,List.not_mem_nil,or_false,not_or] at nd
    obtain ⟨⟨n1,n2⟩,n3,_⟩:=nd
    have o1:=hs.olds (st,⟨.type "set",none,.set #[] 0 (.fresh 0 0 led),#[]⟩) (.head _)
    have o2:=hs.olds (it,ad l 0) (.tail _ (.head _))
    have o3:=hs.olds (l,ab vs m) (.tail _ (.tail _ (.head _)))
    have hb:Ws.length+1 < scanBound:=by unfold scanBound;omega
    refine ly hh hw hb n1 n2 (Ne.symm n3) s (fun s' h1 h2 h3 h4 h5 h6 h7=>?_) Ws.length 0 s rfl (Nat.zero_le _) ⟨o2,o3,⟨0,Nat.le_refl _,?_⟩⟩ (fun _ _ e _ _=>e) rfl rfl rfl
    · obtain ⟨n,h3⟩:=h3
      obtain ⟨d,hd,ho⟩:=cp.of h3
      refine ⟨bf [Ws.length] [] [] [] [d],?_,rfl,rfl,⟨fun a o e hn=>?_,fun y hy=>?_,ag,List.nodup_nil,h5,h6,h7⟩⟩
      · show cp w d fun k=>((vs.toList.map strOf)).any (· == k)
        rw [StrsAre.strs hw];exact hd
      · simp only [List.map_cons,List.map_nil,List.mem_cons,List.not_mem_nil,or_false,not_or] at hn
        exact h4 a o e hn.1 hn.2.1
      · simp only [List.zipWith_cons_cons,List.zipWith_nil_left,List.mem_cons,List.not_mem_nil,or_false] at hy
        rcases hy with rfl | rfl | rfl
        · exact ho
        · exact h1
        · exact h2
    · exact SetOf_congr ((setObjOf_fresh (knd:=kS w) led).setOf o1 (by unfold scanBound;omega)) (fun _=>rfl) rfl
theorem cp.uniq {w:World} {d:Data} {S S':Str→Bool} (h:cp w d S) (h':cp w d S'):S=S':=by
  obtain ⟨es,ep,t,rfl,_,h2,_⟩:=h
  obtain ⟨es',ep',t',e,_,h2',_⟩:=h'
  cases e
  funext k
  have:=(h2 k).trans (h2' k).symm
  cases hS:S k <;> cases hS':S' k <;> simp_all
theorem cp.obj {w:World} {d:Data} {S:Str→Bool} (h:cp w d S):cp w (.set (cj d) (ck d) (ci d)) S:=by
  obtain ⟨es,ep,t,rfl,r⟩:=h
  exact ⟨es,ep,t,rfl,r⟩
noncomputable abbrev mW (req:List Nat) (v:Bool):Hk:=dS req (fun _ _=>.ok (.ret (.bool v))) (fun pre _=>pre.map (·.2)) (fun _ _=>[]) (fun _ _=>True)
noncomputable abbrev km (w:World) (req:List Nat):Hk:=dS req (fun _ ys=>.ok (.ret (.ref (ys.n 0)))) (fun pre _=>pre.map (·.2)) (fun _ ys=>[(ys.n 0,be (ys.d 0))]) (fun pre ys=>cp w (ys.d 0) fun k=>(dA pre 0).any (· == k))
noncomputable abbrev ii (req:List Nat) (l j:Nat) (v:Value):Hk:=dS req (fun _ _=>.ok (.ret v)) (fun pre _=>match pre with
  | [a,b,_,c,d]=>[a.2,b.2,ad l j,c.2,d.2]
  | _=>[]) (fun _ _=>[]) (fun _ _=>True)
noncomputable abbrev jN (req:List Nat):Hk:=dS req (fun _ ys=>.error (.ref (ys.n 0))) (fun pre ys=>match pre with
  | [a,b,_,c,d]=>[a.2,b.2,cc (ys.n 1),c.2,d.2]
  | _=>[]) (fun _ ys=>[(ys.n 0,j9 (ys.d 0))]) (fun _ _=>True)
end
section
noncomputable def gm (pre:ax) (j:Nat):Data:=match pre[j]? with
  | some x=>x.2.data
  | none=>.plain
noncomputable def iK (pre:ax) (j:Nat):Nat:=match gm pre j with
  | .fields vs=>match vs.getD 1 .none with
    | .int (.ofNat i) _=>i
    | _=>0
  | _=>0
noncomputable abbrev ap (d:Data):Obj:=⟨.type "dict",none,d,#[]⟩
theorem co {V:Vw} {h:Hk} {e:Expr} {it:Addr} {aj:Value} {env:Env} {below:List (Code×Pos)} {p:Pos} {pre:ax} {b t:Nat} {ch:Ch} {gl:List GenState} (hc:Cl e) {o:Obj} (ho:(it,o)∈pre) (hcl:o.cls = .type "list_iterator")
    (H:an V h ⟨.compLoop e 0 (.ref it) aj env,none,none,below,none⟩ p pre b t ch gl):an V h ⟨.compStart e 0 (.ref it) aj env,none,none,below,none⟩ p pre b t ch gl:=fun s hs=>by
  obtain ⟨ys,b',t',s',hk,hr,r⟩:=H s hs
  refine ⟨ys,b',t',s',hk,?_,r⟩
  refine bl (V:=V) (Γ:=⟨.compStart e 0 (.ref it) aj env,none,none,below,none⟩) (p:=p) (b:=false) hc s _ s' (.inr ⟨_,rfl⟩) ?_
  show Runs (cg V) _ p (cC "list_iterator" e it aj env) [] s _ s'
  unfold cC
  refine .load (hs.olds _ ho) ?_
  show Runs (cg V) _ p (if (o.cls == Value.type "list_iterator")=true then _ else _) [] s _ s'
  rw [if_pos (by rw [hcl];exact beq_self_eq_true _)]
  exact .again rfl hr
theorem jW {V:Vw} {h:Hk} {e:Expr} {it:Addr} {aj:Value} {env:Env} {below:List (Code×Pos)} {p:Pos} {pre:ax} {b t:Nat} {ch:Ch} {gl:List GenState} (hc:Cl e) {o:Obj} (ho:(it,o)∈pre) (hcl:o.cls = .type "range_iterator")
    (H:an V h ⟨.compLoop e 0 (.ref it) aj env,none,none,below,none⟩ p pre b t ch gl):an V h ⟨.compStart e 0 (.ref it) aj env,none,none,below,none⟩ p pre b t ch gl:=fun s hs=>by
  obtain ⟨ys,b',t',s',hk,hr,r⟩:=H s hs
  refine ⟨ys,b',t',s',hk,?_,r⟩
  refine jc (V:=V) (Γ:=⟨.compStart e 0 (.ref it) aj env,none,none,below,none⟩) (p:=p) (b:=false) hc s _ s' (.inr ⟨_,rfl⟩) ?_
  show Runs (cg V) _ p (cC "range_iterator" e it aj env) [] s _ s'
  unfold cC
  refine .load (hs.olds _ ho) ?_
  show Runs (cg V) _ p (if (o.cls == Value.type "range_iterator")=true then _ else _) [] s _ s'
  rw [if_pos (by rw [hcl];exact beq_self_eq_true _)]
  exact .again rfl hr
section
variable {V:Vw} {p:Pos} {b t c:Nat} {ch:Ch} {gl:List GenState} {vs:Array Value} {m:Nat} {l:Addr}
theorem np {vs:List Value} {Ws:List Str} (h:StrsAre vs Ws) (x:Str) (f:Value→Bool) (hf:∀ y t,f (.str y t)=(y == x)):vs.any f=Ws.any (· == x):=by
  induction h with
  | nil=>rfl
  | cons y t _ ih=>simp only [List.any_cons,ih,hf]
theorem dP {Γ:Ctx} {x:Str} {τ:Nat} {v:Bool} {Ws:List Str} {req:List Nat} (hw:StrsAre vs.toList Ws) (hv:(vs.toList.map strOf).any (· == x)=v) :
    an V (a9 req fun _=>.bool v) (Γ.enter (.call (.builtin "list.__contains__") ⟨[.ref l,.str x τ],[]⟩) none p) p [(l,ab vs m)] b t ch gl :=
  br fun s hs A=>by
    have ho:=hs.olds (l,ab vs m) (.head _)
    refine call_meets F.slot_list_contains (bP ho).typeIs F.entry_list_contains (F.args_list_contains_2 _ _) (SeqAt.list_containsAt l vs m none #[] (.str x τ) fun y=>match y with | .str z _=>z == x | _=>false) ⟨ho,fun y hy=>?_,?_⟩
    · obtain ⟨z,u,rfl⟩:=StrsAre.all hw y (by simpa using hy)
      exact SeqAt.EqAt.str_str z u x τ
    · refine ⟨⟨dz fun _=>0,?_⟩,bV _⟩
      have e:=np hw x (fun y=>match y with | .str z _=>z == x | _=>false) fun y t=>rfl
      rw [← hv,StrsAre.strs hw,← e]
      simp
end
theorem gj {vs:Array Value} {i:Nat} {x:Value} (h:vs[i]?=some x):vs.toList.drop i=x :: vs.toList.drop (i+1):=by
  obtain ⟨hi,e⟩:=Array.getElem?_eq_some_iff.mp h
  rw [List.drop_eq_getElem_cons (by simpa using hi)]
  congr 1
theorem dM {f:Value→Bool} {vs:Array Value} {i:Nat} {x:Value} {A r:List Value} (h:vs[i]?=some x) (hf:f x=true) (e:r=(A++[x])++(vs.toList.drop (i+1)).filter f):r=A++(vs.toList.drop i).filter f:=by
  rw [gj h,List.filter_cons_of_pos hf,e];simp
theorem cD {f:Value→Bool} {vs:Array Value} {i:Nat} {x:Value} {A r:List Value} (h:vs[i]?=some x) (hf:f x=false) (e:r=A++(vs.toList.drop (i+1)).filter f):r=A++(vs.toList.drop i).filter f:=by
  rw [gj h,List.filter_cons_of_neg (by rw [hf];simp),e]
theorem fa {f:Value→Bool} {vs:Array Value} {i:Nat} {A:List Value} (h:vs[i]?=none):A=A++(vs.toList.drop i).filter f:=by
  have:vs.size≤i:=Array.getElem?_eq_none_iff.mp h
  rw [List.drop_of_length_le (by simpa using this)];simp
end
noncomputable def ownS (sc:Scope):Scope:={ sc with names:=sc.names.map fun x=>if x.2 == .free then (x.1,.cell) else x }
noncomputable def mkC (e:Expr) (q:Str) (fu:Option Addr) (cd:Value) (L:Addr) (fr:Option Addr) (cells:List (Str×Addr)):Env:={ jF e q fu cd L fr cells with scope:=ownS (iu e) }
noncomputable def aftP:Sem Fin→Sem Fin
  | .point _ k=>k ()
  | t=>t
noncomputable def bw (k:Nat):Sem Fin:=aftP (den (.func ((az aR).drop k) au))
theorem At.left {V:Vw} {X E:ax} {b t:Nat} {ch:Ch} {gl:List GenState} {s:Shared} (hs:At V (X++E) b t ch gl s):At V X b t ch gl s:=by
  have nd:=hs.nd
  rw [List.map_append] at nd
  exact ⟨hs.base,hs.tab,fun x hx=>hs.olds x (List.mem_append_left _ hx),(List.nodup_append.mp nd).1,fun x hx=>hs.hi x (List.mem_append_left _ hx),hs.size,hs.toks,hs.gens,hs.lo⟩
theorem At.addE {V:Vw} {X E Y:ax} {b t b' t':Nat} {ch ch':Ch} {gl gl':List GenState} {s s':Shared} (hs:At V (X++E) b t ch gl s) (hA:At V Y b' t' ch' gl' s') (hF:Fr (X.map (·.1)) ch' s s')
    (hY:∀ a∈Y.map (·.1),a∈X.map (·.1)∨b≤a):At V (Y++E) b' t' ch' gl' s':=by
  have nd:=hs.nd
  rw [List.map_append] at nd
  obtain ⟨nd1,nd2,nd3⟩:=List.nodup_append.mp nd
  have hbb:b≤b':=by rw [← hs.size,← hA.size];exact hF.size
  refine ⟨hA.base,hA.tab,fun x hx=>?_,?_,fun x hx=>?_,hA.size,hA.toks,hA.gens,hA.lo⟩
  · rcases List.mem_append.mp hx with hx | hx
    · exact hA.olds x hx
    · have hm:x∈X++E:=List.mem_append_right _ hx
      refine hF.keep _ _ (hs.olds x hm) (fun hp=>nd3 _ hp x.1 (List.mem_map_of_mem hx) rfl) ?_
      cases q:chLook ch' x.1 with
      | none=>rfl
      | some vs=>exact absurd (hA.tab _ _ q).1 (Nat.not_lt.mpr (hs.hi x hm).1)
  · rw [List.map_append]
    refine List.nodup_append.mpr ⟨hA.nd,nd2,fun a ha c hc=>?_⟩
    rcases hY a ha with h | h
    · exact nd3 a h c hc
    · obtain ⟨x,hx,rfl⟩:=List.mem_map.mp hc
      exact Nat.ne_of_gt (Nat.lt_of_lt_of_le (hs.hi x (List.mem_append_right _ hx)).2 h)
  · rcases List.mem_append.mp hx with hx | hx
    · exact hA.hi x hx
    · have:=hs.hi x (List.mem_append_right _ hx)
      exact ⟨this.1,Nat.lt_of_lt_of_le this.2 hbb⟩
theorem Fr.appR {X E:ax} {ch:Ch} {s s':Shared} (h:Fr (X.map (·.1)) ch s s'):Fr ((X++E).map (·.1)) ch s s' :=
  ⟨fun a o e q1 q2=>h.keep a o e (fun hm=>q1 (by rw [List.map_append];exact List.mem_append_left _ hm)) q2,h.size,h.toks,h.os,h.drawn⟩
theorem dg {X E Y:ax} {b:Nat} (h:∀ a∈Y.map (·.1),a∈X.map (·.1)∨b≤a):∀ a∈(Y++E).map (·.1),a∈(X++E).map (·.1)∨b≤a:=fun a ha=>by
  rw [List.map_append,List.mem_append] at ha ⊢
  rcases ha with ha | ha
  · exact (h a ha).imp .inl id
  · exact .inl (.inr ha)
theorem At.eqX {V:Vw} {X Y:ax} {b t:Nat} {ch:Ch} {gl:List GenState} {s:Shared} (e:X=Y) (h:At V X b t ch gl s):At V Y b t ch gl s:=e ▸ h
theorem At.perm {V:Vw} {X Y:ax} {b t:Nat} {ch:Ch} {gl:List GenState} {s:Shared} (h:At V X b t ch gl s) (q:X.Perm Y):At V Y b t ch gl s :=
  ⟨h.base,h.tab,fun x hx=>h.olds x (q.mem_iff.mpr hx),(q.map _).nodup_iff.mp h.nd,fun x hx=>h.hi x (q.mem_iff.mpr hx),h.size,h.toks,h.gens,h.lo⟩
noncomputable def sel (Y:ax) (I:List Nat):ax:=I.map fun i=>Y.getD i (0,default)
noncomputable def fW (n:Nat) (I:List Nat):Bool:=I.all fun i=>Nat.blt i n
theorem fV {Y:ax} {I:List Nat} (h:fW Y.length I=true):∀ x∈sel Y I,x∈Y:=fun x hx=>by
  obtain ⟨i,hi,rfl⟩:=List.mem_map.mp hx
  have h1:i < Y.length:=by simpa [Nat.blt_eq] using List.all_eq_true.mp h i hi
  rw [List.getD_eq_getElem?_getD,List.getElem?_eq_getElem h1]
  exact List.getElem_mem h1
theorem lC {Y:ax} (nd:(Y.map (·.1)).Nodup):∀ {I:List Nat},fW Y.length I=true→I.Nodup→((sel Y I).map (·.1)).Nodup
  | [],_,_=>.nil
  | i :: I,h,hn=>by
    have hI:fW Y.length I=true:=by
      unfold fW at h ⊢;simp only [List.all_cons,Bool.and_eq_true] at h;exact h.2
    have h1:i < Y.length:=by
      unfold fW at h;simp only [List.all_cons,Bool.and_eq_true,Nat.blt_eq] at h;exact h.1
    obtain ⟨n1,n2⟩:=List.nodup_cons.mp hn
    refine List.nodup_cons.mpr ⟨fun hm=>?_,lC nd hI n2⟩
    obtain ⟨x,hx,e⟩:=List.mem_map.mp hm
    obtain ⟨j,hj,rfl⟩:=List.mem_map.mp hx
    have h2:j < Y.length:=by simpa [Nat.blt_eq] using List.all_eq_true.mp hI j hj
    simp only [List.getD_eq_getElem?_getD,List.getElem?_eq_getElem h1,List.getElem?_eq_getElem h2,Option.getD_some] at e
    have:=(List.getElem_inj (xs:=Y.map (·.1)) (i:=j) (j:=i) (h₀:=by simpa using h2) (h₁:=by simpa using h1) nd).mp (by simpa using e)
    exact n1 (this ▸ hj)
theorem At.sel {V:Vw} {Y:ax} {b t:Nat} {ch:Ch} {gl:List GenState} {s:Shared} (h:At V Y b t ch gl s) {I:List Nat} (hI:fW Y.length I=true) (hn:I.Nodup):At V (sel Y I) b t ch gl s :=
  ⟨h.base,h.tab,fun x hx=>h.olds x (fV hI x hx),lC h.nd hI hn,fun x hx=>h.hi x (fV hI x hx),h.size,h.toks,h.gens,h.lo⟩
structure d7 (A:List Addr) (s:Shared) (r:Result) (s':Shared):Prop where
  res:r = .ok (.ret (.bool true))
  keep:∀ a o,s.heap.get? a=some o→a∉A→a≠795→s'.heap.get? a=some o
  size:s.heap.objs.size≤s'.heap.objs.size
  os:s'.os=s.os
  drawn:s'.drawn=s.drawn
  tab:∃ vs,s'.heap.get? 795=some (tableObj vs)
  gens:∀ g∈s'.gens,g = .finished
noncomputable def Ends (V:Vw) (Γ:Ctx) (p:Pos) (t:Sem Fin) (X:ax) (b tk:Nat) (ch:Ch) (gl:List GenState):Prop :=
  ∀ s,At V X b tk ch gl s→∃ r s',Runs (cg V) Γ p t [] s (.ret r) s'∧d7 (X.map (·.1)) s r s'
theorem gp {vs:Array Value} {a:Addr} (h:a≠795):chLook [(795,vs)] a=none:=by
  have:Nat.beq 795 a=false:=by
    rw [← Bool.not_eq_true,Nat.beq_eq];exact fun e=>h e.symm
  simp [chLook,this]
theorem Ends.use {V:Vw} {Γ:Ctx} {p:Pos} {t:Sem Fin} {X E Y:ax} {b tk b' tk':Nat} {ch:Ch} {tb:Array Value} {gl gl':List GenState} {s s':Shared} (hs:At V (X++E) b tk ch gl s) (hA:At V Y b' tk' [(795,tb)] gl' s') (hF:Fr (X.map (·.1)) [(795,tb)] s s')
    (hY:∀ a∈Y.map (·.1),a∈X.map (·.1)∨b≤a) (I:List Nat) (hI:fW (Y++E).length I=true) (hn:I.Nodup) (H:Ends V Γ p t (Mine.sel (Y++E) I) b' tk' [(795,tb)] gl'):∃ r s'',Runs (cg V) Γ p t [] s' (.ret r) s''∧d7 ((X++E).map (·.1)) s r s'':=by
  have hA2:=hs.addE hA hF hY
  obtain ⟨r,s'',hr,h⟩:=H s' (hA2.sel hI hn)
  refine ⟨r,s'',hr,h.res,fun a o e q1 q2=>?_,Nat.le_trans hF.size h.size,h.os.trans hF.os,h.drawn.trans hF.drawn,h.tab,h.gens⟩
  have q1':a∉X.map (·.1)∧a∉E.map (·.1):=by
    rw [List.map_append,List.mem_append,not_or] at q1;exact q1
  refine h.keep a o (hF.keep a o e q1'.1 (gp q2)) (fun hm=>?_) q2
  obtain ⟨x,hx,rfl⟩:=List.mem_map.mp hm
  rcases List.mem_append.mp (fV hI x hx) with h1 | h1
  · rcases hY _ (List.mem_map_of_mem h1) with h2 | h2
    · exact q1'.1 h2
    · have:=Heap.lt_size e
      rw [hs.size] at this
      exact absurd this (Nat.not_lt.mpr h2)
  · exact q1'.2 (List.mem_map_of_mem h1)
theorem d7.ofEnd {V:Vw} {X E Y:ax} {b tk b' tk':Nat} {ch:Ch} {tb:Array Value} {gl gl':List GenState} {s s':Shared} {r:Result} (hs:At V (X++E) b tk ch gl s) (hA:At V Y b' tk' [(795,tb)] gl' s') (hF:Fr (X.map (·.1)) [(795,tb)] s s') (hr:r = .ok (.ret (.bool true)))
    (hg:∀ g∈gl',g = .finished):d7 ((X++E).map (·.1)) s r s':=by
  refine ⟨hr,fun a o e q1 q2=>?_,hF.size,hF.os,hF.drawn,⟨tb,(hA.tab 795 tb (by simp [chLook])).2⟩,fun g hg'=>hg g ?_⟩
  · have q1':a∉X.map (·.1)∧a∉E.map (·.1):=by
      rw [List.map_append,List.mem_append,not_or] at q1;exact q1
    exact hF.keep a o e q1'.1 (gp q2)
  · rw [hA.gens] at hg'
    simpa using hg'
theorem Sp.ends {S:Sp} (E:ax) {F g:Nat} {O:List (Item×Nat)} {R:Res} (e:S.run F g O=R) (hn:S.outs.Nodup)
    (H:∀ s,At (Vp S.w) (S.X++E) S.b S.t S.ch S.gl s→dx (Vp S.w) (S.X.map (·.1)) S.Γ s (d7 ((S.X++E).map (·.1)) s) R):Ends (Vp S.w) S.Γ S.p S.tree (S.X++E) S.b S.t S.ch S.gl:=fun s hs =>
  Sp.sound hn hs.left (by rw [e];exact H s hs)
theorem Sp.hookX {S:Sp} (E:ax) {h:Hk} {F g:Nat} {O:List (Item×Nat)} {R:Res} (e:S.run F g O=R) (hn:S.outs.Nodup) (ht:S.tree=den S.Γ.code)
    (H:∀ s,At (Vp S.w) (S.X++E) S.b S.t S.ch S.gl s→dx (Vp S.w) (S.X.map (·.1)) S.Γ s (HΦ { S with X:=S.X++E } h s) R):an (Vp S.w) h S.Γ S.p (S.X++E) S.b S.t S.ch S.gl:=fun s hs=>by
  obtain ⟨r,s',hr,ys,b',t',hk,rfl,h1,h2,h3,h4,h5⟩:=Sp.code hn ht hs.left (by rw [e];exact H s hs)
  exact ⟨ys,b',t',s',hk,hr,h1,h2,h3,h4,h5⟩
theorem bd {V:Vw} {Γ:Ctx} {p:Pos} {Φ:Result→Shared→Prop} {s:Shared} {elts:List Expr} {x1:Nat} {pos:Pos} {en ti a:Addr} {i:Int} {item:Value} {K:Unit→Sem Fin} {h:Value→Sem Unit}
    (he:IsEnumOut s.heap en ti i item a)
    (H:∀ p' h',IsEnum h' en ti i item→Heap.SameBut en s.heap h'→∃ r s',Runs (cg V) Γ p' (R.onRaiseR (K ()) h) [] { s with heap:=h' } (.ret r) s'∧Φ r s') :
    ∃ r s',Runs (cg V) Γ p (R.onRaiseR (R.bindR (PySem.W.Fast.tw1578499551869305889 (.Tuple elts x1 pos) (.ref en) (.ref a)) K) h) [] s (.ret r) s'∧Φ r s':=by
  rw [← R.onRaiseR_eq] at H ⊢
  rw [← R.bindR_eq,← PySem.W.Fast.te1578499551869305889,← Sem.wp_iff_runs,Sem.wp_onRaise,Sem.wp_bind]
  have z:=wpAny_letOwnedTupleGo_enum (prog:=V.prog) (w:=V.w) (A:=nq Γ) (E:=fun _ _=>False) (elts:=elts) (x1:=x1) (pos:=pos) (Q:=fun _ s'=>∃ h',IsEnum h' en ti i item∧Heap.SameBut en s.heap h'∧s' = { s with heap:=h' }) he (fun h' k1 k2=>⟨h',k1,k2,rfl⟩) Γ p (gP Γ)
  rw [dv] at z
  refine Sem.wp_mono _ _ _ (fun u p' s' hq=>?_) (fun _ _ _ f=>f.elim) p s z
  obtain ⟨h',k1,k2,rfl⟩:=hq
  have y:=(Sem.wp_iff_runs _ _ _ _ _ _).mpr (H p' h' k1 k2)
  rw [Sem.wp_onRaise] at y
  exact y
theorem At.owned {V:Vw} (hlow:∀ a o,V.kt.get a=some o→a < V.n₁) {en:Addr} {o o':Obj} {Y:ax} {b t:Nat} {ch:Ch} {gl:List GenState} {s:Shared} {h':Heap} (hA:At V ((en,o) :: Y) b t ch gl s) (e:h'.get? en=some o') (k:Heap.SameBut en s.heap h'):At V ((en,o') :: Y) b t ch gl { s with heap:=h' }:=by
  have nd:=hA.nd
  obtain ⟨n1,n2⟩:=List.nodup_cons.mp nd
  have hen:=(hA.hi _ (.head _)).1
  refine ⟨fun a x q1 q2=>?_,fun a vs q=>?_,fun x hx=>?_,nd,fun x hx=>?_,?_,hA.toks,hA.gens,hA.lo⟩
  · have h1:=hA.base a x q1 q2
    exact (k.2 a (fun hae=>absurd (hlow a x q1) (Nat.not_lt.mpr (hae ▸ hen)))).trans h1
  · have h1:=hA.tab a vs q
    exact ⟨h1.1,(k.2 a (fun hae=>absurd h1.1 (Nat.not_lt.mpr (hae ▸ hen)))).trans h1.2⟩
  · rcases List.mem_cons.mp hx with rfl | hx
    · exact e
    · exact (k.2 _ (fun hxe=>n1 (by have q:=List.mem_map_of_mem (f:=fun x:Addr×Obj=>x.1) hx;rw [hxe] at q;exact q))).trans (hA.olds x (.tail _ hx))
  · rcases List.mem_cons.mp hx with rfl | hx
    · exact hA.hi (en,o) (.head _)
    · exact hA.hi x (.tail _ hx)
  · show h'.objs.size=b
    rw [k.1];exact hA.size
theorem Fr.owned {A:List Addr} {ch:Ch} {s₀ s:Shared} {en:Addr} {h':Heap} (h:Fr A ch s₀ s) (ha:en∈A) (k:Heap.SameBut en s.heap h'):Fr A ch s₀ { s with heap:=h' } :=
  ⟨fun a o e q1 q2=>(k.2 a (fun hae=>q1 (hae ▸ ha))).trans (h.keep a o e q1 q2),by show _≤h'.objs.size;rw [k.1];exact h.size,h.toks,h.os,h.drawn⟩
theorem Sp.soundE {S:Sp} {Φ:Result→Shared→Prop} {F g:Nat} {O:List (Item×Nat)} {R:Res} {s:Shared} (e:S.run F g O=R) (hn:S.outs.Nodup) (h:At (Vp S.w) S.X S.b S.t S.ch S.gl s)
    (H:dx (Vp S.w) (S.X.map (·.1)) S.Γ s Φ R):∃ r s',Runs (cg (Vp S.w)) S.Γ S.p S.tree [] s (.ret r) s'∧Φ r s':=Sp.sound hn h (by rw [e];exact H)
theorem Ends.of_sel {V:Vw} {Γ:Ctx} {p:Pos} {t:Sem Fin} {Y:ax} {b tk:Nat} {ch:Ch} {gl:List GenState} (I:List Nat) (hI:fW Y.length I=true) (hn:I.Nodup) (H:Ends V Γ p t (sel Y I) b tk ch gl):Ends V Γ p t Y b tk ch gl:=fun s hs=>by
  obtain ⟨r,s',hr,h⟩:=H s (hs.sel hI hn)
  refine ⟨r,s',hr,h.res,fun a o e q1 q2=>h.keep a o e (fun hm=>q1 ?_) q2,h.size,h.os,h.drawn,h.tab,h.gens⟩
  obtain ⟨x,hx,rfl⟩:=List.mem_map.mp hm
  exact List.mem_map_of_mem (fV hI x hx)
section
noncomputable abbrev af (d:Addr):Obj:=⟨.ref 82,some d,.plain,#[]⟩
noncomputable abbrev entDict (P:Params) (k0 k1 k2 k3:Nat) (u r:Addr) (D:Value):Obj:=⟨.type "dict",none,.dict #[aq P "useragents" k0 (.ref u),aq P "rulelines" k1 (.ref r),aq P "delay" k2 D,aq P "req_rate" k3 .none] 4,#[]⟩
noncomputable abbrev ac (w:World):=entDict w.params
noncomputable abbrev aE (c:Option Value):Obj:=⟨.type "cell",none,.cell c,#[]⟩
noncomputable abbrev av (i n:Nat):Obj:=⟨.type "range_iterator",none,.fields #[.int (.ofNat i) 0,.int (.ofNat n) 0,.int 1 0],#[]⟩
noncomputable abbrev ah (v:Value):Obj:=⟨.type "cell",none,.cell (some v),#[]⟩
noncomputable abbrev aB (F:Array Value):Obj:=⟨.type "code",none,.fields F,#[]⟩
theorem bH {vs:Array Value} {l:List Value} (h:vs.toList=l):vs=⟨l⟩:=by cases vs;cases h;rfl
noncomputable def kT:List Nat→Bool
  | []=>true
  | x :: l=>(l.all fun y=>!Nat.beq x y) && kT l
theorem nd:∀ {l:List Nat},kT l=true→l.Nodup
  | [],_=>.nil
  | x :: l,h=>by
    simp only [kT,Bool.and_eq_true,List.all_eq_true] at h
    refine List.nodup_cons.mpr ⟨fun hm=>?_,nd h.2⟩
    have:=h.1 x hm
    simp at this
noncomputable def uGo:Nat→Nat→Nat→Nat→List Nat
  | 0,_,_,_=>[]
  | f+1,n,m,a=>match Nat.ble n 1 with
    | true=>[]
    | false=>match Nat.ble 8 (n % 16) with
      | true=>uGo f (n / 16) (m * 8) (a+m * (n % 16 - 8))
      | false=>(a+m * (n % 16)) :: uGo f (n / 16) 1 0
noncomputable def uP:List Nat→List (Nat×Nat)
  | a :: b :: l=>(a,b) :: uP l
  | _=>[]
noncomputable def uA (n:Nat):List (Nat×Nat):=uP (uGo 100000 n 1 0)
noncomputable def orc:List Nat→List (Item×Nat)→List (Item×Nat)
  | [],I=>I
  | a :: _,[]=>ads (uA a)
  | a :: as,x :: I=>ads (uA a)++(x :: orc as I)
noncomputable def isN:Item→Bool
  | .o _=>false
  | .n _=>false
  | .rw _=>false
  | .tree _=>false
  | _=>true
noncomputable def zA:List Nat→List (Item×Nat)→List Nat→List (Nat×Nat)→List (Nat×List (Nat×Nat))
  | [],_,_,aj=>[(0,aj)]
  | a :: _,[],_,aj=>[(0,aj++uA a)]
  | a :: as,x :: I,ms,aj=>match isN x.1 with
    | true=>(ms.headD 0,aj++uA a) :: zA as I ms.tail []
    | false=>zA as I ms (aj++uA a)
noncomputable abbrev cb (vs:Array Value):Ch:=[(795,vs)]
theorem mI {α:Type} {l:List α} {x:α} (i:Nat) (h:l[i]?=some x):x∈l:=List.mem_of_getElem? h
noncomputable abbrev cB (s:String) (as:List Value):Code:=.call (.builtin s) ⟨as,[]⟩
inductive Rs where
  | nF (h:Hk) (c:Code) (pre:ax) (b t:Nat) (ch:Ch) (gl:List GenState) (rws:List (Value×Value)) (trs:List Tr) (k:Nat→Nat→Ys→Rs)
  | nH (h:Hk) (Γ:Ctx) (p:Pos) (pre:ax) (b t:Nat) (ch:Ch) (gl:List GenState) (rws:List (Value×Value)) (trs:List Tr) (k:Nat→Nat→Ys→Rs)
  | nR (h:Hk) (Γ:Ctx) (T:Sem Fin) (p:Pos) (pre:ax) (b t:Nat) (ch:Ch) (gl:List GenState) (rws:List (Value×Value)) (trs:List Tr) (k:Nat→Nat→Ys→Rs)
  | nA (c:Code) (p:Pos) (X:ax) (b t:Nat) (ch:Ch) (gl:List GenState) (rws:List (Value×Value)) (trs:List Tr)
  | nC (Γ:Ctx) (T:Sem Fin) (p:Pos) (X:ax) (b t:Nat) (ch:Ch) (gl:List GenState) (rws:List (Value×Value)) (trs:List Tr)
  | nD (r:Result) (X:ax) (b t:Nat) (ch:Ch) (gl:List GenState) (rws:List (Value×Value)) (trs:List Tr)
inductive Rd where
  | nF (h:Hk) (c:Code) (pre:ax) (b t:Nat) (ch:Ch) (gl:List GenState) (rws:List (Value×Value)) (trs:List Tr)
  | nH (h:Hk) (Γ:Ctx) (p:Pos) (pre:ax) (b t:Nat) (ch:Ch) (gl:List GenState) (rws:List (Value×Value)) (trs:List Tr)
  | nR (h:Hk) (Γ:Ctx) (T:Sem Fin) (p:Pos) (pre:ax) (b t:Nat) (ch:Ch) (gl:List GenState) (rws:List (Value×Value)) (trs:List Tr)
  | nA (c:Code) (p:Pos) (X:ax) (b t:Nat) (ch:Ch) (gl:List GenState) (rws:List (Value×Value)) (trs:List Tr)
  | nC (Γ:Ctx) (T:Sem Fin) (p:Pos) (X:ax) (b t:Nat) (ch:Ch) (gl:List GenState) (rws:List (Value×Value)) (trs:List Tr)
  | nD (r:Result) (X:ax) (b t:Nat) (ch:Ch) (gl:List GenState) (rws:List (Value×Value)) (trs:List Tr)
noncomputable def Rs.hd:Rs→Rd
  | .nF h c pre b t ch gl rws trs _=>.nF h c pre b t ch gl rws trs
  | .nH h Γ p pre b t ch gl rws trs _=>.nH h Γ p pre b t ch gl rws trs
  | .nR h Γ T p pre b t ch gl rws trs _=>.nR h Γ T p pre b t ch gl rws trs
  | .nA c p X b t ch gl rws trs=>.nA c p X b t ch gl rws trs
  | .nC Γ T p X b t ch gl rws trs=>.nC Γ T p X b t ch gl rws trs
  | .nD r X b t ch gl rws trs=>.nD r X b t ch gl rws trs
noncomputable def Rs.nx:Rs→Nat→Nat→Ys→Rs
  | .nF _ _ _ _ _ _ _ _ _ k=>k
  | .nH _ _ _ _ _ _ _ _ _ _ k=>k
  | .nR _ _ _ _ _ _ _ _ _ _ _ k=>k
  | x=>fun _ _ _=>x
noncomputable def Rs.R:Rs→List Addr→List (Nat×Addr)→List (Nat×List (Nat×Nat))→Res
  | .nF h c pre b t ch gl rws trs k,L,B,As=>.free h c pre b t ch gl (f0 L B (As.headD (0,[])).2 []) (f0 L B (As.headD (0,[])).2 []) rws trs fun b' t' ys=>(k b' t' ys).R (L++(h.adds pre ys).map (·.1)) (((As.headD (0,[])).1,b') :: B) As.tail
  | .nH h Γ p pre b t ch gl rws trs k,L,B,As=>.hook h Γ p pre b t ch gl (f0 L B (As.headD (0,[])).2 []) (f0 L B (As.headD (0,[])).2 []) rws trs fun b' t' ys=>(k b' t' ys).R (L++(h.adds pre ys).map (·.1)) (((As.headD (0,[])).1,b') :: B) As.tail
  | .nR h Γ T p pre b t ch gl rws trs k,L,B,As=>.rest h T Γ p pre b t ch gl (f0 L B (As.headD (0,[])).2 []) (f0 L B (As.headD (0,[])).2 []) rws trs fun b' t' ys=>(k b' t' ys).R (L++(h.adds pre ys).map (·.1)) (((As.headD (0,[])).1,b') :: B) As.tail
  | .nA c p X b t ch gl rws trs,L,B,As=>.again c p X b t ch gl (f0 L B (As.headD (0,[])).2 []) (f0 L B (As.headD (0,[])).2 []) rws trs
  | .nC Γ T p X b t ch gl rws trs,L,B,As=>.cut T Γ p X b t ch gl (f0 L B (As.headD (0,[])).2 []) (f0 L B (As.headD (0,[])).2 []) rws trs
  | .nD r X b t ch gl rws trs,L,B,As=>.done r X b t ch gl (f0 L B (As.headD (0,[])).2 []) (f0 L B (As.headD (0,[])).2 []) rws trs
noncomputable def hks:Rs→List Item
  | .nF h _ _ _ _ _ _ _ _ k=>.free h :: hks (k 0 0 (dz fun _=>0))
  | .nH h _ _ _ _ _ _ _ _ _ k=>.hook h :: hks (k 0 0 (dz fun _=>0))
  | .nR h _ _ _ _ _ _ _ _ _ _ k=>.rest h :: hks (k 0 0 (dz fun _=>0))
  | .nA ..=>[.stop]
  | .nC ..=>[.cut]
  | .nD ..=>[]
noncomputable def mkI:List Nat→List (Nat×Item)→List Item→List (Item×Nat)
  | [],_,_=>[]
  | g :: gs,[],h :: hs=>(h,g) :: mkI gs [] hs
  | g :: gs,[],[]=>(.stop,g) :: mkI gs [] []
  | g :: gs,e :: E,hs=>match Nat.beq e.1 0 with
    | true=>(e.2,g) :: mkI gs E (match isN e.2 with | true=>hs.tail | false=>hs)
    | false=>match hs with
      | h :: hs=>(h,g) :: mkI gs ((e.1 - 1,e.2) :: E) hs
      | []=>[]
structure GE where
  A:List Addr
  Γ:Ctx
  s:Shared
  Φ:Result→Shared→Prop
noncomputable def cq (V:Vw) (E:GE):Rs→Prop
  | .nF h c pre b t ch gl rws trs k=>(∀ x∈rws,x.1=x.2)∧(∀ x∈trs,dK V x)∧h.req.Nodup∧(∀ (Γ:Ctx) p,an V h (Γ.enter c none p) p pre b t ch gl) ∧
      ∀ b' t' ys,b≤b'→t≤t'→h.ok pre ys→(∀ x∈h.adds pre ys,b≤x.1∧x.1 < b')→cq V E (k b' t' ys)
  | .nH h Γ p pre b t ch gl rws trs k=>(∀ x∈rws,x.1=x.2)∧(∀ x∈trs,dK V x)∧h.req.Nodup∧an V h Γ p pre b t ch gl ∧
      ∀ b' t' ys,b≤b'→t≤t'→h.ok pre ys→(∀ x∈h.adds pre ys,b≤x.1∧x.1 < b')→cq V E (k b' t' ys)
  | .nR h Γ T p pre b t ch gl rws trs k=>(∀ x∈rws,x.1=x.2)∧(∀ x∈trs,dK V x)∧h.req.Nodup∧fK V h T Γ p pre b t ch gl ∧
      ∀ b' t' ys,b≤b'→t≤t'→h.ok pre ys→(∀ x∈h.adds pre ys,b≤x.1∧x.1 < b')→cq V E (k b' t' ys)
  | .nA c p X b t ch gl rws trs=>(∀ x∈rws,x.1=x.2)∧(∀ x∈trs,dK V x)∧∀ s,At V X b t ch gl s→Fr E.A ch E.s s→wpCode (cg V) (E.Γ.goto c) E.Φ p s
  | .nC Γ T p X b t ch gl rws trs=>(∀ x∈rws,x.1=x.2)∧(∀ x∈trs,dK V x)∧∀ s,At V X b t ch gl s→Fr E.A ch E.s s→∃ r s',Runs (cg V) Γ p T [] s (.ret r) s'∧E.Φ r s'
  | .nD r X b t ch gl rws trs=>(∀ x∈rws,x.1=x.2)∧(∀ x∈trs,dK V x)∧∀ s,At V X b t ch gl s→Fr E.A ch E.s s→E.Φ r s
theorem cq.to {V:Vw} {E:GE}:∀ {r:Rs},cq V E r→∀ L B As,dx V E.A E.Γ E.s E.Φ (r.R L B As)
  | .nF h c pre b t ch gl rws trs k,⟨h1,h2,h3,h4,h5⟩,L,B,As=>⟨rfl,h1,h2,h3,h4,fun b' t' ys q1 q2 q3 q4=>(h5 b' t' ys q1 q2 q3 q4).to _ _ _⟩
  | .nH h Γ p pre b t ch gl rws trs k,⟨h1,h2,h3,h4,h5⟩,L,B,As=>⟨rfl,h1,h2,h3,h4,fun b' t' ys q1 q2 q3 q4=>(h5 b' t' ys q1 q2 q3 q4).to _ _ _⟩
  | .nR h Γ T p pre b t ch gl rws trs k,⟨h1,h2,h3,h4,h5⟩,L,B,As=>⟨rfl,h1,h2,h3,h4,fun b' t' ys q1 q2 q3 q4=>(h5 b' t' ys q1 q2 q3 q4).to _ _ _⟩
  | .nA c p X b t ch gl rws trs,⟨h1,h2,h3⟩,L,B,As=>⟨rfl,h1,h2,h3⟩
  | .nC Γ T p X b t ch gl rws trs,⟨h1,h2,h3⟩,L,B,As=>⟨rfl,h1,h2,h3⟩
  | .nD r X b t ch gl rws trs,⟨h1,h2,h3⟩,L,B,As=>⟨rfl,h1,h2,h3⟩
section
variable (h:Hk) (Γ:Ctx) (c:Code) (T:Sem Fin) (p:Pos) (r:Result) (pre:ax) (b t:Nat) (ch:Ch) (gl:List GenState) (k:Nat→Nat→Ys→Rs)
noncomputable abbrev rF:Rs:=.nF h c pre b t ch gl [] [] k
noncomputable abbrev rH:Rs:=.nH h Γ p pre b t ch gl [] [] k
noncomputable abbrev rE:Rs:=.nH h (Γ.enter c none p) p pre b t ch gl [] [] k
noncomputable abbrev rEx (rws:List (Value×Value)) (trs:List Tr):Rs:=.nH h (Γ.enter c none p) p pre b t ch gl rws trs k
noncomputable abbrev rA:Rs:=.nA c p pre b t ch gl [] []
noncomputable abbrev rC:Rs:=.nC Γ T p pre b t ch gl [] []
noncomputable abbrev rD:Rs:=.nD r pre b t ch gl [] []
end
section
variable (h:Hk) (Γ:Ctx) (c:Code) (T:Sem Fin) (p:Pos) (r:Result) (pre:ax) (b t:Nat) (tb:Array Value) (gl:List GenState) (k:Nat→Nat→Ys→Rs)
noncomputable abbrev aO:Rs:=rF h c pre b t (cb tb) gl k
noncomputable abbrev ca:Rs:=rH h Γ p pre b t (cb tb) gl k
noncomputable abbrev cW:Rs:=rE h Γ c p pre b t (cb tb) gl k
noncomputable abbrev bF:Rs:=rA c p pre b t (cb tb) gl
noncomputable abbrev ip:Rs:=rC Γ T p pre b t (cb tb) gl
noncomputable abbrev cF:Rs:=rD r pre b t (cb tb) gl
end
section
variable {V:Vw} {E:GE} {AA:List Addr} {Γ₀:Ctx} {s₀:Shared} {Φ:Result→Shared→Prop} {R:Rs} {h:Hk} {Γ:Ctx} {c:Code} {T:Sem Fin} {p:Pos} {r:Result} {pre:ax} {b t:Nat} {ch:Ch} {gl:List GenState} {rws:List (Value×Value)} {trs:List Tr}
theorem dJ (e:R.hd = .nF h c pre b t ch gl rws trs) (k1:∀ x∈rws,x.1=x.2) (k2:∀ x∈trs,dK V x) (H:∀ {Γ:Ctx} {p:Pos},an V h (Γ.enter c none p) p pre b t ch gl) (K:∀ b' t' ys,b≤b'→t≤t'→h.ok pre ys→(∀ x∈h.adds pre ys,b≤x.1∧x.1 < b')→cq V E (R.nx b' t' ys)) (n:kT h.req=true:=by rfl):cq V E R:=by
  cases R <;> cases e
  exact ⟨k1,k2,nd n,fun _ _=>H,K⟩
theorem gF (e:R.hd = .nF h c pre b t ch gl [] []) (H:∀ {Γ:Ctx} {p:Pos},an V h (Γ.enter c none p) p pre b t ch gl) (K:∀ b' t' ys,b≤b'→t≤t'→h.ok pre ys→(∀ x∈h.adds pre ys,b≤x.1∧x.1 < b')→cq V E (R.nx b' t' ys)) (n:kT h.req=true:=by rfl):cq V E R:=dJ e ag ag H K n
theorem f6 (e:R.hd = .nH h Γ p pre b t ch gl rws trs) (k1:∀ x∈rws,x.1=x.2) (k2:∀ x∈trs,dK V x) (H:an V h Γ p pre b t ch gl) (K:∀ b' t' ys,b≤b'→t≤t'→h.ok pre ys→(∀ x∈h.adds pre ys,b≤x.1∧x.1 < b')→cq V E (R.nx b' t' ys)) (n:kT h.req=true:=by rfl):cq V E R:=by
  cases R <;> cases e
  exact ⟨k1,k2,nd n,H,K⟩
theorem gH (e:R.hd = .nH h Γ p pre b t ch gl [] []) (H:an V h Γ p pre b t ch gl) (K:∀ b' t' ys,b≤b'→t≤t'→h.ok pre ys→(∀ x∈h.adds pre ys,b≤x.1∧x.1 < b')→cq V E (R.nx b' t' ys)) (n:kT h.req=true:=by rfl):cq V E R:=f6 e ag ag H K n
theorem jS (e:R.hd = .nR h Γ T p pre b t ch gl rws trs) (k1:∀ x∈rws,x.1=x.2) (k2:∀ x∈trs,dK V x) (H:fK V h T Γ p pre b t ch gl) (K:∀ b' t' ys,b≤b'→t≤t'→h.ok pre ys→(∀ x∈h.adds pre ys,b≤x.1∧x.1 < b')→cq V E (R.nx b' t' ys)) (n:kT h.req=true:=by rfl):cq V E R:=by
  cases R <;> cases e
  exact ⟨k1,k2,nd n,H,K⟩
theorem gAx (e:R.hd = .nA c p pre b t ch gl rws trs) (hE:E=⟨AA,Γ₀,s₀,Φ⟩) (k1:∀ x∈rws,x.1=x.2) (k2:∀ x∈trs,dK V x) (K:∀ s,At V pre b t ch gl s→Fr AA ch s₀ s→wpCode (cg V) (Γ₀.goto c) Φ p s):cq V E R:=by
  subst hE
  cases R <;> cases e
  exact ⟨k1,k2,K⟩
theorem gA (e:R.hd = .nA c p pre b t ch gl [] []) (hE:E=⟨AA,Γ₀,s₀,Φ⟩) (K:∀ s,At V pre b t ch gl s→Fr AA ch s₀ s→wpCode (cg V) (Γ₀.goto c) Φ p s):cq V E R:=gAx e hE ag ag K
theorem gCx (e:R.hd = .nC Γ T p pre b t ch gl rws trs) (hE:E=⟨AA,Γ₀,s₀,Φ⟩) (k1:∀ x∈rws,x.1=x.2) (k2:∀ x∈trs,dK V x) (K:∀ s,At V pre b t ch gl s→Fr AA ch s₀ s→∃ r s',Runs (cg V) Γ p T [] s (.ret r) s'∧Φ r s'):cq V E R:=by
  subst hE
  cases R <;> cases e
  exact ⟨k1,k2,K⟩
theorem gC (e:R.hd = .nC Γ T p pre b t ch gl [] []) (hE:E=⟨AA,Γ₀,s₀,Φ⟩) (K:∀ s,At V pre b t ch gl s→Fr AA ch s₀ s→∃ r s',Runs (cg V) Γ p T [] s (.ret r) s'∧Φ r s'):cq V E R:=gCx e hE ag ag K
theorem gDx (e:R.hd = .nD r pre b t ch gl rws trs) (hE:E=⟨AA,Γ₀,s₀,Φ⟩) (k1:∀ x∈rws,x.1=x.2) (k2:∀ x∈trs,dK V x) (K:∀ s,At V pre b t ch gl s→Fr AA ch s₀ s→Φ r s):cq V E R:=by
  subst hE
  cases R <;> cases e
  exact ⟨k1,k2,K⟩
theorem gD (e:R.hd = .nD r pre b t ch gl [] []) (hE:E=⟨AA,Γ₀,s₀,Φ⟩) (K:∀ s,At V pre b t ch gl s→Fr AA ch s₀ s→Φ r s):cq V E R:=gDx e hE ag ag K
end
noncomputable def HP (w:World) (X:ax) (b:Nat) (ch:Ch) (gl:List GenState) (h:Hk) (s:Shared):Result→Shared→Prop:=fun r s'=>∃ ys b' t',h.ok X ys∧r=h.res X ys∧(h.objs X ys).length=X.length ∧
  At (Vp w) (List.zipWith (fun x o=>(x.1,o)) X (h.objs X ys)++h.adds X ys) b' t' (ba ch (h.tabs X ys)) (db gl h.gn) s' ∧
  Fr (X.map (·.1)) (ba ch (h.tabs X ys)) s s'∧ig ch (ba ch (h.tabs X ys))∧∀ x∈h.adds X ys,b≤x.1
noncomputable abbrev rT (w:World) (Γ:Ctx) (p:Pos) (T:Sem Fin) (X:ax) (b t:Nat) (ch:Ch) (gl:List GenState) (outs:List Nat) (F g:Nat) (O:List (Item×Nat)):Res:=(⟨w,Γ,p,T,X,b,t,ch,gl,outs⟩:Sp).run F g O
noncomputable abbrev rn (w:World) (Γ:Ctx) (p:Pos) (X:ax) (b t:Nat) (ch:Ch) (gl:List GenState) (outs:List Nat) (F g:Nat) (O:List (Item×Nat)):Res:=rT w Γ p (den Γ.code) X b t ch gl outs F g O
noncomputable abbrev okT (w:World) (Γ:Ctx) (p:Pos) (T:Sem Fin) (X:ax) (b t:Nat) (ch:Ch) (gl:List GenState) (outs:List Nat) (g:Nat) (a gs:List Nat) (E:List (Nat×Item)) (ms:List Nat) (r:Rs):Prop:=rT w Γ p T X b t ch gl outs 99999 g (orc a (mkI gs E (hks r)))=r.R (X.map (·.1)) [(0,b)] (zA a (mkI gs E (hks r)) ms [])
noncomputable abbrev ok (w:World) (Γ:Ctx) (p:Pos) (X:ax) (b t:Nat) (ch:Ch) (gl:List GenState) (outs:List Nat) (g:Nat) (a gs:List Nat) (E:List (Nat×Item)) (ms:List Nat) (r:Rs):Prop:=okT w Γ p (den Γ.code) X b t ch gl outs g a gs E ms r
section
variable {w:World} {Γ:Ctx} {p:Pos} {T:Sem Fin} {X:ax} {b t:Nat} {ch:Ch} {gl:List GenState} {outs:List Nat} {g:Nat} {aa gs:List Nat} {I:List (Nat×Item)} {ms:List Nat} {R:Rs} {h:Hk}
theorem qS {Φ:Result→Shared→Prop} {s:Shared} (e:okT w Γ p T X b t ch gl outs g aa gs I ms R) (hn:kT outs=true) (h:At (Vp w) X b t ch gl s) (H:∀ E,E=⟨X.map (·.1),Γ,s,Φ⟩→cq (Vp w) E R):∃ r s',Runs (cg (Vp w)) Γ p T [] s (.ret r) s'∧Φ r s' :=
  Sp.sound (S:=⟨w,Γ,p,T,X,b,t,ch,gl,outs⟩) (nd hn) h (by rw [show Sp.run _ _ _ _=_ from e];exact (H _ rfl).to _ _ _)
theorem qC {Φ:Result→Shared→Prop} {s:Shared} (e:ok w Γ p X b t ch gl outs g aa gs I ms R) (hn:kT outs=true) (h:At (Vp w) X b t ch gl s) (H:∀ E,E=⟨X.map (·.1),Γ,s,Φ⟩→cq (Vp w) E R):wpCode (cg (Vp w)) Γ Φ p s :=
  Sp.code (S:=⟨w,Γ,p,den Γ.code,X,b,t,ch,gl,outs⟩) (nd hn) rfl h (by rw [show Sp.run _ _ _ _=_ from e];exact (H _ rfl).to _ _ _)
theorem qH (e:ok w Γ p X b t ch gl outs g aa gs I ms R) (hn:kT outs=true) (H:∀ s,At (Vp w) X b t ch gl s→∀ E,E=⟨X.map (·.1),Γ,s,HP w X b ch gl h s⟩→cq (Vp w) E R):an (Vp w) h Γ p X b t ch gl:=fun s hs=>by
  obtain ⟨r,s',hr,ys,b',t',hk,rfl,h1,h2,h3,h4,h5⟩:=qC e hn hs (H s hs)
  exact ⟨ys,b',t',s',hk,hr,h1,h2,h3,h4,h5⟩
theorem qX (E:ax) (e:ok w Γ p X b t ch gl outs g aa gs I ms R) (hn:kT outs=true) (H:∀ s,At (Vp w) (X++E) b t ch gl s→∀ E',E'=⟨X.map (·.1),Γ,s,HP w (X++E) b ch gl h s⟩→cq (Vp w) E' R):an (Vp w) h Γ p (X++E) b t ch gl:=fun s hs=>by
  obtain ⟨r,s',hr,ys,b',t',hk,rfl,h1,h2,h3,h4,h5⟩:=qC e hn hs.left (H s hs)
  exact ⟨ys,b',t',s',hk,hr,h1,h2,h3,h4,h5⟩
theorem qE (E:ax) (e:okT w Γ p T X b t ch gl outs g aa gs I ms R) (hn:kT outs=true)
    (H:∀ s,At (Vp w) (X++E) b t ch gl s→∀ E',E'=⟨X.map (·.1),Γ,s,d7 ((X++E).map (·.1)) s⟩→cq (Vp w) E' R):Ends (Vp w) Γ p T (X++E) b t ch gl:=fun s hs =>
  qS e hn hs.left (H s hs)
theorem d8 {h':Hk} {c:Code} {p':Pos} {Y:ax} {b' t':Nat} {ch':Ch} {gl':List GenState} {s s':Shared}
    (hs:At (Vp w) X b t ch gl s) (hI:an (Vp w) h' (Γ.goto c) p' Y b' t' ch' gl') (hA:At (Vp w) Y b' t' ch' gl' s') (hF:Fr (X.map (·.1)) ch' s s')
    (hb:b≤b') (hY:∀ a∈Y.map (·.1),a∈X.map (·.1)∨b≤a)
    (conv:∀ ys,h'.ok Y ys→(∀ x∈h'.adds Y ys,b'≤x.1)→∃ ys',h.ok X ys'∧h'.res Y ys=h.res X ys'∧(h.objs X ys').length=X.length ∧
      List.zipWith (fun x o=>(x.1,o)) Y (h'.objs Y ys)++h'.adds Y ys=List.zipWith (fun x o=>(x.1,o)) X (h.objs X ys')++h.adds X ys' ∧
      ba ch' (h'.tabs Y ys)=ba ch (h.tabs X ys')∧db gl' h'.gn=db gl h.gn∧ig ch (ba ch (h.tabs X ys'))∧∀ x∈h.adds X ys',b≤x.1) :
    wpCode (cg (Vp w)) (Γ.goto c) (HP w X b ch gl h s) p' s':=lc (S:=⟨w,Γ,p0,den c,X,b,t,ch,gl,[]⟩) hs hI hA hF hb hY conv
end
noncomputable abbrev frZl (P:Params) (κ:Nat→Nat) (ν:Nat→Value):List DictEntry:=[aq P "script" (κ 0) (ν 0),aq P "delays" (κ 1) (ν 1),aq P "entries" (κ 2) (ν 2),aq P "place" (κ 3) (ν 3),aq P "cell" (κ 4) (ν 4),aq P "rest" (κ 5) (ν 5),aq P "words" (κ 6) (ν 6),aq P "read" (κ 7) (ν 7),aq P "left" (κ 8) (ν 8),aq P "right" (κ 9) (ν 9),aq P "agents" (κ 10) (ν 10),aq P "there" (κ 11) (ν 11),aq P "entry" (κ 12) (ν 12),aq P "user" (κ 13) (ν 13)]
noncomputable abbrev frZ (n:Nat) (P:Params) (κ:Nat→Nat) (ν:Nat→Value):Obj:=⟨.type "frame",none,.dict ⟨(frZl P κ ν).take n⟩ n,bp⟩
noncomputable abbrev cn (n:Nat) (w:World):=frZ n w.params
theorem gG {w:World} {E:GE} {Γ:Ctx} {X Y:ax} {b t b' t':Nat} {ch:Ch} {gl:List GenState} {h:Hk} {c:Code} {p':Pos} {R:Rs} {s:Shared} (e:R.hd = .nA c p' Y b' t' ch gl [] []) (hE:E=⟨X.map (·.1),Γ,s,HP w X b ch gl h s⟩) (hs:At (Vp w) X b t ch gl s)
    (hI:an (Vp w) h (Γ.goto c) p' Y b' t' ch gl) (pf:∀ ys,h.ok Y ys→h.ok X ys) (hb:b≤b':=by omega) (hY:∀ a∈Y.map (·.1),a∈X.map (·.1)∨b≤a:=by exact fun a h=>.inl h)
    (q:∀ ys,h.res Y ys=h.res X ys∧(h.objs X ys).length=X.length∧List.zipWith (fun x o=>(x.1,o)) Y (h.objs Y ys)++h.adds Y ys=List.zipWith (fun x o=>(x.1,o)) X (h.objs X ys)++h.adds X ys∧ba ch (h.tabs Y ys)=ba ch (h.tabs X ys)∧db gl h.gn=db gl h.gn∧ig ch (ba ch (h.tabs X ys))∧∀ x∈h.adds X ys,b≤x.1:=by exact fun _=>⟨rfl,rfl,rfl,rfl,rfl,fun _ h=>h,ag⟩):cq (Vp w) E R :=
  gA e hE fun s' hA hF=>d8 hs hI hA hF hb hY fun ys hk _=>let ⟨q1,q2,q3,q4,q5,q6,q7⟩:=q ys;⟨ys,pf ys hk,q1,q2,q3,q4,q5,q6,q7⟩
noncomputable abbrev HB (w:World) (h:Hk) (Γ:Ctx) (p:Pos) (X:ax) (b t:Nat) (tb:Array Value) (gl:List GenState):Prop:=an (Vp w) h Γ p X b t (cb tb) gl
noncomputable abbrev aZ (w:World) (Γ:Ctx) (p:Pos) (X:ax) (b t:Nat) (tb:Array Value) (gl:List GenState) (outs:List Nat) (g:Nat) (a gs:List Nat) (E:List (Nat×Item)) (ms:List Nat) (r:Rs):Prop:=ok w Γ p X b t (cb tb) gl outs g a gs E ms r
noncomputable abbrev c4 (w:World) (Γ:Ctx) (p:Pos) (T:Sem Fin) (X:ax) (b t:Nat) (tb:Array Value) (gl:List GenState) (outs:List Nat) (g:Nat) (a gs:List Nat) (E:List (Nat×Item)) (ms:List Nat) (r:Rs):Prop:=okT w Γ p T X b t (cb tb) gl outs g a gs E ms r
theorem bs {P:World→Prop} (h0:∀ w,P (World.withFollow w "special-get-raises" false)) (h1:∀ w,P (World.withFollow w "special-get-raises" true)):∀ w,P w:=byRow2 "special-get-raises" h0 h1
end
noncomputable abbrev d0_ (P:Params) (t0:Nat) (v0:Value) (t1:Nat) (v1:Value) (t2:Nat) (v2:Value):Obj:=⟨.type "dict",none,.dict ⟨[aq P "_StringIO__newline" t0 v0,aq P "_StringIO__buf" t1 v1,aq P "_StringIO__pos" t2 v2]⟩ 3,#[]⟩
noncomputable abbrev cf (w:World):=d0_ w.params
noncomputable abbrev d1_ (P:Params) (t0:Nat) (v0:Value) (t1:Nat) (v1:Value) (t2:Nat) (v2:Value) (t3:Nat) (v3:Value) (t4:Nat) (v4:Value) (t5:Nat) (v5:Value) (t6:Nat) (v6:Value) (t7:Nat) (v7:Value) (t8:Nat) (v8:Value) (t9:Nat) (v9:Value) (t10:Nat) (v10:Value) (t11:Nat) (v11:Value) (t12:Nat) (v12:Value) (t13:Nat) (v13:Value) (t14:Nat) (v14:Value) (t15:Nat) (v15:Value) (t16:Nat) (v16:Value) (t17:Nat) (v17:Value) (t18:Nat) (v18:Value):Obj:=⟨.type "dict",none,.dict ⟨[aq P "instream" t0 v0,aq P "infile" t1 v1,aq P "posix" t2 v2,aq P "eof" t3 v3,aq P "commenters" t4 v4,aq P "wordchars" t5 v5,aq P "whitespace" t6 v6,aq P "whitespace_split" t7 v7,aq P "quotes" t8 v8,aq P "escape" t9 v9,aq P "escapedquotes" t10 v10,aq P "state" t11 v11,aq P "pushback" t12 v12,aq P "lineno" t13 v13,aq P "debug" t14 v14,aq P "token" t15 v15,aq P "filestack" t16 v16,aq P "source" t17 v17,aq P "_punctuation_chars" t18 v18]⟩ 19,#[]⟩
noncomputable abbrev f2 (w:World):=d1_ w.params
noncomputable abbrev d2_ (P:Params) (t0:Nat) (v0:Value) (t1:Nat) (v1:Value) (t2:Nat) (v2:Value) (t3:Nat) (v3:Value):Obj:=⟨.type "frame",none,.dict ⟨[aq P "s" t0 v0,aq P "comments" t1 v1,aq P "posix" t2 v2,aq P "lex" t3 v3]⟩ 4,#[]⟩
noncomputable abbrev d2w (w:World):=d2_ w.params
noncomputable abbrev d3_ (P:Params) (t0:Nat) (v0:Value) (t1:Nat) (v1:Value) (t2:Nat) (v2:Value):Obj:=⟨.type "frame",none,.dict ⟨[aq P "agents" t0 v0,aq P "delay" t1 v1,aq P "entry" t2 v2]⟩ 3,#[]⟩
noncomputable abbrev d3w (w:World):=d3_ w.params
noncomputable abbrev d4_ (P:Params) (t0:Nat) (v0:Value) (t1:Nat) (v1:Value) (t2:Nat) (v2:Value) (t3:Nat) (v3:Value):Obj:=⟨.type "frame",none,.dict ⟨[aq P "agents" t0 v0,aq P "delay" t1 v1,aq P "entry" t2 v2,aq P "agent" t3 v3]⟩ 4,#[]⟩
noncomputable abbrev d4w (w:World):=d4_ w.params
noncomputable abbrev d5_ (P:Params) (t0:Nat) (v0:Value) (t1:Nat) (v1:Value) (t2:Nat) (v2:Value) (t3:Nat) (v3:Value) (t4:Nat) (v4:Value) (t5:Nat) (v5:Value) (t6:Nat) (v6:Value) (t7:Nat) (v7:Value):Obj:=⟨.type "frame",none,.dict ⟨[aq P "script" t0 v0,aq P "delays" t1 v1,aq P "entries" t2 v2,aq P "place" t3 v3,aq P "cell" t4 v4,aq P "rest" t5 v5,aq P "words" t6 v6,aq P "read" t7 v7]⟩ 8,bp⟩
noncomputable abbrev jg (w:World):=d5_ w.params
noncomputable abbrev d6_ (P:Params) (t0:Nat) (v0:Value) (t1:Nat) (v1:Value) (t2:Nat) (v2:Value) (t3:Nat) (v3:Value) (t4:Nat) (v4:Value) (t5:Nat) (v5:Value) (t6:Nat) (v6:Value):Obj:=⟨.type "frame",none,.dict ⟨[aq P "script" t0 v0,aq P "delays" t1 v1,aq P "entries" t2 v2,aq P "place" t3 v3,aq P "cell" t4 v4,aq P "rest" t5 v5,aq P "words" t6 v6]⟩ 7,#[]⟩
noncomputable abbrev d6w (w:World):=d6_ w.params
noncomputable abbrev d7_ (P:Params) (t0:Nat) (v0:Value) (t1:Nat) (v1:Value) (t2:Nat) (v2:Value):Obj:=⟨.type "frame",none,.dict ⟨[aq P "self" t0 v0,aq P "ret" t1 v1,aq P "agent" t2 v2]⟩ 3,#[]⟩
noncomputable abbrev eJ (w:World):=d7_ w.params
noncomputable abbrev d8_ (P:Params) (t0:Nat) (v0:Value) (t1:Nat) (v1:Value):Obj:=⟨.type "frame",none,.dict ⟨[aq P "self" t0 v0,aq P "ret" t1 v1]⟩ 2,#[]⟩
noncomputable abbrev d8w (w:World):=d8_ w.params
noncomputable abbrev d9_ (P:Params) (t0:Nat) (v0:Value) (t1:Nat) (v1:Value) (t2:Nat) (v2:Value):Obj:=⟨.type "frame",none,.dict ⟨[aq P "self" t0 v0,aq P "useragent" t1 v1,aq P "agent" t2 v2]⟩ 3,#[]⟩
noncomputable abbrev d9w (w:World):=d9_ w.params
noncomputable abbrev d10_ (P:Params) (t0:Nat) (v0:Value) (t1:Nat) (v1:Value):Obj:=⟨.type "frame",none,.dict ⟨[aq P "self" t0 v0,aq P "useragent" t1 v1]⟩ 2,#[]⟩
noncomputable abbrev nl (w:World):=d10_ w.params
noncomputable abbrev d11_ (P:Params) (t0:Nat) (v0:Value) (t1:Nat) (v1:Value) (t2:Nat) (v2:Value) (t3:Nat) (v3:Value) (t4:Nat) (v4:Value) (t5:Nat) (v5:Value):Obj:=⟨.type "frame",none,.dict ⟨[aq P "mode" t0 v0,aq P "perm" t1 v1,aq P "index" t2 v2,aq P "table" t3 v3,aq P "bit" t4 v4,aq P "char" t5 v5]⟩ 6,#[]⟩
noncomputable abbrev aQ (w:World):=d11_ w.params
noncomputable abbrev d12_ (P:Params) (t0:Nat) (v0:Value) (t1:Nat) (v1:Value):Obj:=⟨.type "frame",none,.dict ⟨[aq P "mode" t0 v0,aq P "perm" t1 v1]⟩ 2,#[]⟩
noncomputable abbrev kY (w:World):=d12_ w.params
noncomputable abbrev d13_ (P:Params) (t0:Nat) (v0:Value) (t1:Nat) (v1:Value) (t2:Nat) (v2:Value) (t3:Nat) (v3:Value) (t4:Nat) (v4:Value) (t5:Nat) (v5:Value) (t6:Nat) (v6:Value) (t7:Nat) (v7:Value) (t8:Nat) (v8:Value) (t9:Nat) (v9:Value) (t10:Nat) (v10:Value) (t11:Nat) (v11:Value) (t12:Nat) (v12:Value) (t13:Nat) (v13:Value) (t14:Nat) (v14:Value):Obj:=⟨.type "frame",none,.dict ⟨[aq P "script" t0 v0,aq P "delays" t1 v1,aq P "entries" t2 v2,aq P "place" t3 v3,aq P "cell" t4 v4,aq P "rest" t5 v5,aq P "words" t6 v6,aq P "read" t7 v7,aq P "left" t8 v8,aq P "right" t9 v9,aq P "agents" t10 v10,aq P "there" t11 v11,aq P "entry" t12 v12,aq P "user" t13 v13,aq P "shown" t14 v14]⟩ 15,bp⟩
noncomputable abbrev d13w (w:World):=d13_ w.params
noncomputable abbrev d14_ (P:Params) (t0:Nat) (v0:Value) (t1:Nat) (v1:Value) (t2:Nat) (v2:Value):Obj:=⟨.type "frame",none,.dict ⟨[aq P "script" t0 v0,aq P "delays" t1 v1,aq P "entries" t2 v2]⟩ 3,#[]⟩
noncomputable abbrev d14w (w:World):=d14_ w.params
section
variable {P p:Pos} {b t l m fo bm it st i σ j ds cap jj:Nat} {below:List (Code×Pos)} {vs tb aj:Array Value} {gl:List GenState} {x:Str} {d:Data} {a0 a1 a2 v:Value} {V:Vw} {h:Hk} {Γ:Ctx} {pre:ax} {ch:Ch} {w:World} {req:List Nat} {S:Str→Bool} {Ws:List Str}
theorem iF (H:an V h Γ p pre b t ch gl):fK V h (den Γ.code) Γ p pre b t ch gl:=H
noncomputable abbrev hU (w:World) (req:List Nat):Hk:=dS req (fun _ _=>.ok (.ret .none)) (fun pre ys=>match pre with
  | [_,fo,bm,_,l,st]=>[ab (ys.a 0) (ys.n 0),fo.2,bm.2,cc (ys.n 1),l.2,st.2]
  | _=>[]) (fun _ _=>[]) (fun pre ys=>∃ S,cp w (gm pre 5) S∧(ys.a 0).toList=(bn pre 0).toList++((bn pre 4).toList.drop (iK pre 3)).filter fun v=>S (strOf v))
noncomputable abbrev kn (w:World) (req:List Nat):Hk:=dS req (fun _ ys=>.ok (.ret (.ref (ys.n 0)))) (fun pre ys=>match pre with
  | [fo,bm,_,l,st]=>[fo.2,bm.2,cc (ys.n 1),l.2,st.2]
  | _=>[]) (fun _ ys=>[(ys.n 0,ab (ys.a 0) (ys.n 2))]) (fun pre ys=>∃ S,cp w (gm pre 4) S∧(ys.a 0).toList=(bn pre 3).toList.filter fun v=>S (strOf v))
theorem i9 (f:Nat→Bool):∀ n i:Nat,(∀ q,i≤q→q < i+n→f q=false)∨∃ j,i≤j∧j < i+n∧f j=true∧∀ q,i≤q→q < j→f q=false
  | 0,i=>.inl fun q h1 h2=>by omega
  | n+1,i=>by
    cases hi:f i with
    | true=>exact .inr ⟨i,Nat.le_refl _,by omega,hi,fun q h1 h2=>by omega⟩
    | false =>
      rcases i9 f n (i+1) with h | ⟨j,h1,h2,h3,h4⟩
      · exact .inl fun q h1 h2=>by
          rcases Nat.eq_or_lt_of_le h1 with rfl | h1
          · exact hi
          · exact h q h1 (by omega)
      · exact .inr ⟨j,by omega,by omega,h3,fun q h5 h6=>by
          rcases Nat.eq_or_lt_of_le h5 with rfl | h5
          · exact hi
          · exact h4 q h5 h6⟩
theorem eI {α:Type} (f:α→Bool):∀ (l:List α),(∀ (q:Nat) (v:α),l[q]?=some v→f v=false)→l.filter f=[]
  | [],_=>rfl
  | x :: l,h=>by rw [List.filter_cons_of_neg (by rw [h 0 x rfl];simp),eI f l fun q v e=>h (q+1) v e]
theorem df {α:Type} (f:α→Bool):∀ (l:List α) (i j:Nat) (x:α),i≤j→l[j]?=some x→f x=true→(∀ q v,i≤q→q < j→l[q]?=some v→f v=false)→(l.drop i).filter f=x :: (l.drop (j+1)).filter f
  | [],_,_,_,_,h,_,_=>by simp at h
  | y :: l,0,0,x,_,h,hx,_=>by
    simp only [List.getElem?_cons_zero,Option.some.injEq] at h
    subst h
    simp only [List.drop_zero,Nat.zero_add,List.drop_succ_cons]
    rw [List.filter_cons_of_pos hx]
  | y :: l,0,j+1,x,_,h,hx,hb=>by
    have hy:f y=false:=hb 0 y (Nat.le_refl _) (by omega) rfl
    rw [List.drop_zero,List.filter_cons_of_neg (by rw [hy];simp)]
    have:=df f l 0 j x (Nat.zero_le _) (by simpa using h) hx fun q v h1 h2 h3=>hb (q+1) v (by omega) (by omega) (by simpa using h3)
    simpa using this
  | y :: l,i+1,0,x,h,_,_,_=>by omega
  | y :: l,i+1,j+1,x,h,hj,hx,hb=>by
    have:=df f l i j x (by omega) (by simpa using hj) hx fun q v h1 h2 h3=>hb (q+1) v (by omega) (by omega) (by simpa using h3)
    simpa using this
noncomputable def set:Rs :=
ca (mV w [1,3,0]) ⟨.builtin "set.update.loop" ⟨[rf b,rf (b+1)],[]⟩,none,none,(.builtin "set.__init__" ⟨[rf b,rf l],[]⟩,P) :: (.builtin "type.__call__" ⟨[.type "set",rf l],[]⟩,P) :: below,none⟩ P [(b,⟨.type "set",none,.set #[] 0 (.mk 7 #[] #[] 0 (Bool.not (PySem.Params.followText (PySem.Setting.params ⟨Mine.pw,(PySem.World.params w)⟩) "set-order")) 0 true),#[]⟩),(b+1,ad l 0),(l,ab vs m)] (b+2) t tb gl fun b1 t1 ak =>
cF (.ok (.ret (rf b))) [(l,ab vs m),(b,⟨.type "set",none,.set (cj (ak.d 0)) (ck (ak.d 0)) (ci (ak.d 0)),#[]⟩)] b1 t1 tb gl
theorem set':aZ w (bg below (.call (.type "set") ⟨[rf l],[]⟩)) P [(l,ab vs m)] b t tb gl [0,1] 6 [0x103302000000000010111011101] [99999] [] [2] (@set P b t l m below vs tb gl w):=by revert w;refine @bs _ ?_ ?_<;>intro w<;>kernel_rfl
noncomputable def fnT:Rs :=
aO (aF [4,6] fun _=>.str x σ) (cB "list_iterator.__next__" [rf it]) [(it,ad l i),(l,ab vs m)] b t tb gl fun b1 t1 ak =>
.nR (mW [8] true) ⟨.builtin "set.__contains__" ⟨[rf st,.str x σ],[]⟩,none,none,(.builtin "filter.__next__" ⟨[rf fo],[]⟩,P) :: below,none⟩ (den (.builtin "set.__contains__" ⟨[rf st,.str x σ],[]⟩)) P [(st,⟨.type "set",none,.set (cj d) (ck d) (ci d),#[]⟩)] b1 t1 (cb tb) gl [] [] fun b2 t2 aw =>
cF (.ok (.ret (.str x σ))) [(fo,fO "filter" [rf bm,rf it]),(bm,fO "builtin_function_or_method" [.builtin "set.__contains__",rf st]),(it,ad l (i+1)),(l,ab vs m),(st,⟨.type "set",none,.set (cj d) (ck d) (ci d),#[]⟩)] b2 t2 tb gl
theorem fnT':aZ w (bg below (.builtin "filter.__next__" ⟨[rf fo],[]⟩)) P [(fo,bk bm it),(bm,bO st),(it,ad l i),(l,ab vs m),(st,be d)] b t tb gl [0,2,4,6,8] 0 [0x1040000,0x111801801802] [1,99999] [] [] (@fnT P b t l m fo bm it st i σ below vs tb gl x d):=by revert w;refine @bs _ ?_ ?_<;>intro w<;>kernel_rfl
noncomputable def fnF:Rs :=
aO (aF [4,6] fun _=>.str x σ) (cB "list_iterator.__next__" [rf it]) [(it,ad l i),(l,ab vs m)] b t tb gl fun b1 t1 ak =>
.nR (mW [8] false) ⟨.builtin "set.__contains__" ⟨[rf st,.str x σ],[]⟩,none,none,(.builtin "filter.__next__" ⟨[rf fo],[]⟩,P) :: below,none⟩ (den (.builtin "set.__contains__" ⟨[rf st,.str x σ],[]⟩)) P [(st,⟨.type "set",none,.set (cj d) (ck d) (ci d),#[]⟩)] b1 t1 (cb tb) gl [] [] fun b2 t2 aw =>
bF (.builtin "filter.__next__" ⟨[rf fo],[]⟩) P [(fo,fO "filter" [rf bm,rf it]),(bm,fO "builtin_function_or_method" [.builtin "set.__contains__",rf st]),(it,ad l (i+1)),(l,ab vs m),(st,⟨.type "set",none,.set (cj d) (ck d) (ci d),#[]⟩)] b2 t2 tb gl
theorem fnF':aZ w (bg below (.builtin "filter.__next__" ⟨[rf fo],[]⟩)) P [(fo,bk bm it),(bm,bO st),(it,ad l i),(l,ab vs m),(st,be d)] b t tb gl [0,2,4,6,8] 0 [0x1040000,0x111801801802,1] [1,1,0] [] [] (@fnF P b t l m fo bm it st i σ below vs tb gl x d):=by revert w;refine @bs _ ?_ ?_<;>intro w<;>kernel_rfl
noncomputable def fnE:Rs :=
ca (e8 [4,6]) ⟨cB "list_iterator.__next__" [rf it],none,none,(.builtin "filter.__next__" ⟨[rf fo],[]⟩,P) :: below,none⟩ P [(it,ad l i),(l,ab vs m)] b t tb gl fun b1 t1 ak =>
cF (.error (rf (ak.n 0))) [(fo,fO "filter" [rf bm,rf it]),(bm,fO "builtin_function_or_method" [.builtin "set.__contains__",rf st]),(it,fO "list_iterator" [.none,nv i 0]),(l,ab vs m),(st,⟨.type "set",none,.set (cj d) (ck d) (ci d),#[]⟩),(ak.n 0,⟨.type "StopIteration",none,ak.d 0,#[]⟩)] b1 t1 tb gl
theorem fnE':aZ w (bg below (.builtin "filter.__next__" ⟨[rf fo],[]⟩)) P [(fo,bk bm it),(bm,bO st),(it,ad l i),(l,ab vs m),(st,be d)] b t tb gl [0,2,4,6,8,10] 0 [0x1040000] [99999] [] [] (@fnE P b t l m fo bm it st i below vs tb gl d):=by revert w;refine @bs _ ?_ ?_<;>intro w<;>kernel_rfl
theorem fn_T (hx:vs[i]?=some (.str x σ)) (hS:cp w d S) (hc:S x=true):HB w (ii req l (i+1) (.str x σ)) (bg below (.builtin "filter.__next__" ⟨[rf fo],[]⟩)) P [(fo,bk bm it),(bm,bO st),(it,ad l i),(l,ab vs m),(st,be d)] b t tb gl:=by
  refine qH (fnT' (σ:=σ) (x:=x)) rfl fun s hs Ξ ar=>?_
  refine gF rfl (aA (ai w) ⟨bf [] [] [] [] [],hx⟩) fun b1 t1 ak _ _ _ _=>?_
  refine jS rfl ag ag (g6 hS hc) fun b2 t2 aw _ _ _ _=>?_
  exact gD rfl ar fun s' hA hF=>⟨dz fun _=>0,_,_,trivial,rfl,rfl,hA,hF,fun a h=>h,ag⟩
theorem fn_FA (hx:vs[i]?=some (.str x σ)) (hS:cp w d S) (hc:S x=false) (IH:∀ P b t,HB w (ii req l jj v) (bg below (.builtin "filter.__next__" ⟨[rf fo],[]⟩)) P [(fo,bk bm it),(bm,bO st),(it,ad l (i+1)),(l,ab vs m),(st,be d)] b t tb gl):HB w (ii req l jj v) (bg below (.builtin "filter.__next__" ⟨[rf fo],[]⟩)) P [(fo,bk bm it),(bm,bO st),(it,ad l i),(l,ab vs m),(st,be d)] b t tb gl:=by
  refine qH (fnF' (σ:=σ) (x:=x)) rfl fun s hs Ξ ar=>?_
  refine gF rfl (aA (ai w) ⟨bf [] [] [] [] [],hx⟩) fun b1 t1 ak _ _ _ _=>?_
  refine jS rfl ag ag (g6 hS hc) fun b2 t2 aw _ _ _ _=>?_
  exact gA rfl ar fun s' hA hF=>d8 hs (IH _ _ _) hA hF (by show b≤_;omega) (fun a h=>.inl h) fun ys hk hd=>⟨ys,hk,rfl,rfl,rfl,rfl,rfl,fun a h=>h,fun x hx=>bT (by show b≤_;omega) (hd x hx)⟩
theorem fn_FE (hx:vs[i]?=some (.str x σ)) (hS:cp w d S) (hc:S x=false) (IH:∀ P b t,HB w (jN req) (bg below (.builtin "filter.__next__" ⟨[rf fo],[]⟩)) P [(fo,bk bm it),(bm,bO st),(it,ad l (i+1)),(l,ab vs m),(st,be d)] b t tb gl):HB w (jN req) (bg below (.builtin "filter.__next__" ⟨[rf fo],[]⟩)) P [(fo,bk bm it),(bm,bO st),(it,ad l i),(l,ab vs m),(st,be d)] b t tb gl:=by
  refine qH (fnF' (σ:=σ) (x:=x)) rfl fun s hs Ξ ar=>?_
  refine gF rfl (aA (ai w) ⟨bf [] [] [] [] [],hx⟩) fun b1 t1 ak _ _ _ _=>?_
  refine jS rfl ag ag (g6 hS hc) fun b2 t2 aw _ _ _ _=>?_
  exact gA rfl ar fun s' hA hF=>d8 hs (IH _ _ _) hA hF (by show b≤_;omega) (fun a h=>.inl h) fun ys hk hd=>⟨ys,hk,rfl,rfl,rfl,rfl,rfl,fun a h=>h,fun x hx=>bT (by show b≤_;omega) (hd x hx)⟩
theorem fn_E (hx:vs[i]?=none):HB w (jN req) (bg below (.builtin "filter.__next__" ⟨[rf fo],[]⟩)) P [(fo,bk bm it),(bm,bO st),(it,ad l i),(l,ab vs m),(st,be d)] b t tb gl:=by
  refine qH fnE' rfl fun s hs Ξ ar=>?_
  refine gH rfl (cT (ai w) hx) fun b1 t1 ak _ _ _ ha1=>?_
  exact gD rfl ar fun s' hA hF=>⟨bf [ak.n 0,i] [] [] [] [ak.d 0],_,_,trivial,rfl,rfl,hA,hF,fun a h=>h,fun x hx=>bT (by show b≤_;omega) (ha1 x hx).1⟩
theorem m8:∀ (k:Nat) {P:Pos} {b t i:Nat},j - i=k→cp w d S→aD vs Ws→i≤j→(∀ q y,i≤q→q < j→Ws[q]?=some y→S y=false)→vs[j]?=some (.str x σ)→S x=true→HB w (ii req l (j+1) (.str x σ)) (bg below (.builtin "filter.__next__" ⟨[rf fo],[]⟩)) P [(fo,bk bm it),(bm,bO st),(it,ad l i),(l,ab vs m),(st,be d)] b t tb gl:=by
  intro k
  induction k with
  | zero =>
    intro P b t i hk hS hw hij hbe hx hSx
    have:i=j:=by omega
    subst this
    exact fn_T hx hS hSx
  | succ k ih =>
    intro P b t i hk hS hw hij hbe hx hSx
    have hl:vs.toList.length=Ws.length:=StrsAre.length hw
    have hj:j < vs.size:=by
      rcases Nat.lt_or_ge j vs.size with h | h
      · exact h
      · rw [Array.getElem?_eq_none h] at hx;cases hx
    have hi:i < Ws.length:=by rw [← hl];simp;omega
    obtain ⟨τ,hτ⟩:=StrsAre.get hw i Ws[i] (by simp [hi])
    rw [Array.getElem?_toList] at hτ
    exact fn_FA hτ hS (hbe i _ (Nat.le_refl _) (by omega) (by simp [hi])) fun P b t=>ih (by omega) hS hw (by omega) (fun q y h1 h2 h3=>hbe q y (by omega) h2 h3) hx hSx
theorem fend_ok:∀ (k:Nat) {P:Pos} {b t i:Nat},Ws.length - i=k→cp w d S→aD vs Ws→i≤Ws.length→(∀ q y,i≤q→Ws[q]?=some y→S y=false)→HB w (jN req) (bg below (.builtin "filter.__next__" ⟨[rf fo],[]⟩)) P [(fo,bk bm it),(bm,bO st),(it,ad l i),(l,ab vs m),(st,be d)] b t tb gl:=by
  intro k
  induction k with
  | zero =>
    intro P b t i hk hS hw hi hbe
    have hl:vs.toList.length=Ws.length:=StrsAre.length hw
    exact fn_E (Array.getElem?_eq_none (by simp at hl;omega))
  | succ k ih =>
    intro P b t i hk hS hw hi hbe
    have hi':i < Ws.length:=by omega
    obtain ⟨τ,hτ⟩:=StrsAre.get hw i Ws[i] (by simp [hi'])
    rw [Array.getElem?_toList] at hτ
    exact fn_FE hτ hS (hbe i _ (Nat.le_refl _) (by simp [hi'])) fun P b t=>ih (by omega) hS hw (by omega) fun q y h1 h3=>hbe q y (by omega) h3
noncomputable def fcA:Rs :=
.nR (ii [0,2,4,6,8] l j (.str x σ)) ⟨.builtin "filter.__next__" ⟨[rf fo],[]⟩,none,none,below,none⟩ (den (.builtin "filter.__next__" ⟨[rf fo],[]⟩)) P [(fo,fO "filter" [rf bm,rf it]),(bm,fO "builtin_function_or_method" [.builtin "set.__contains__",rf st]),(it,ad l i),(l,ab vs m),(st,⟨.type "set",none,.set (cj d) (ck d) (ci d),#[]⟩)] b t (cb tb) gl [] [] fun b1 t1 ak =>
cF (.ok (.ret (.str x σ))) [(fo,fO "filter" [rf bm,rf it]),(bm,fO "builtin_function_or_method" [.builtin "set.__contains__",rf st]),(it,ad l j),(l,ab vs m),(st,⟨.type "set",none,.set (cj d) (ck d) (ci d),#[]⟩)] b1 t1 tb gl
theorem fcA':aZ w (bg below (cB "filter.__next__" [rf fo])) P [(fo,bk bm it),(bm,bO st),(it,ad l i),(l,ab vs m),(st,be d)] b t tb gl [0,2,4,6,8] 0 [0x110] [99999] [] [] (@fcA P b t l m fo bm it st i σ j below vs tb gl x d):=by revert w;refine @bs _ ?_ ?_<;>intro w<;>kernel_rfl
noncomputable def fcE:Rs :=
.nR (jN [0,2,4,6,8]) ⟨.builtin "filter.__next__" ⟨[rf fo],[]⟩,none,none,below,none⟩ (den (.builtin "filter.__next__" ⟨[rf fo],[]⟩)) P [(fo,fO "filter" [rf bm,rf it]),(bm,fO "builtin_function_or_method" [.builtin "set.__contains__",rf st]),(it,ad l i),(l,ab vs m),(st,⟨.type "set",none,.set (cj d) (ck d) (ci d),#[]⟩)] b t (cb tb) gl [] [] fun b1 t1 ak =>
cF (.error (rf (ak.n 0))) [(fo,fO "filter" [rf bm,rf it]),(bm,fO "builtin_function_or_method" [.builtin "set.__contains__",rf st]),(it,fO "list_iterator" [.none,nv (ak.n 1) 0]),(l,ab vs m),(st,⟨.type "set",none,.set (cj d) (ck d) (ci d),#[]⟩),(ak.n 0,⟨.type "StopIteration",none,ak.d 0,#[]⟩)] b1 t1 tb gl
theorem fcE':aZ w (bg below (cB "filter.__next__" [rf fo])) P [(fo,bk bm it),(bm,bO st),(it,ad l i),(l,ab vs m),(st,be d)] b t tb gl [0,2,4,6,8,10] 0 [0x110] [99999] [] [] (@fcE P b t l m fo bm it st i below vs tb gl d):=by revert w;refine @bs _ ?_ ?_<;>intro w<;>kernel_rfl
theorem fZ (hS:cp w d S) (hw:aD vs Ws) (hij:i≤j) (hbe:∀ q y,i≤q→q < j→Ws[q]?=some y→S y=false) (hx:vs[j]?=some (.str x σ)) (hSx:S x=true):HB w (ii req l (j+1) (.str x σ)) (bg below (cB "filter.__next__" [rf fo])) P [(fo,bk bm it),(bm,bO st),(it,ad l i),(l,ab vs m),(st,be d)] b t tb gl:=by
  refine qH (fcA' (j:=j+1) (σ:=σ) (x:=x)) rfl fun s hs Ξ ar=>?_
  refine jS rfl ag ag (iF (m8 _ rfl hS hw hij hbe hx hSx)) fun b1 t1 ak _ _ _ _=>?_
  exact gD rfl ar fun s' hA hF=>⟨dz fun _=>0,_,_,trivial,rfl,rfl,hA,hF,fun a h=>h,ag⟩
theorem kX (hS:cp w d S) (hw:aD vs Ws) (hi:i≤Ws.length) (hbe:∀ q y,i≤q→Ws[q]?=some y→S y=false):HB w (jN req) (bg below (cB "filter.__next__" [rf fo])) P [(fo,bk bm it),(bm,bO st),(it,ad l i),(l,ab vs m),(st,be d)] b t tb gl:=by
  refine qH fcE' rfl fun s hs Ξ ar=>?_
  refine jS rfl ag ag (iF (fend_ok _ rfl hS hw hi hbe)) fun b1 t1 ak _ _ _ ha1=>?_
  exact gD rfl ar fun s' hA hF=>⟨ak,_,_,trivial,rfl,rfl,hA,hF,fun a h=>h,fun x hx=>bT (by show b≤_;omega) (ha1 x hx).1⟩
noncomputable abbrev Zk0 (P:Pos) (below:List (Code×Pos)) (ds fo:Nat):Ctx :=
  ⟨cB "filter.__next__" [rf fo],none,none,(.builtin "list.extend.loop" ⟨[rf ds,rf fo,.none],[]⟩,P) :: below,none⟩
noncomputable def el0:Rs :=
ca (ii [2,4,6,8,10] l j (.str x σ)) (Zk0 P below ds fo) P [(fo,fO "filter" [rf bm,rf it]),(bm,fO "builtin_function_or_method" [.builtin "set.__contains__",rf st]),(it,ad l i),(l,ab vs m),(st,⟨.type "set",none,.set (cj d) (ck d) (ci d),#[]⟩)] b t tb gl fun b1 t1 ak =>
bF (.builtin "list.extend.loop" ⟨[rf ds,rf fo,.none],[]⟩) P [(ds,ab #[.str x σ] (cap+1)),(fo,fO "filter" [rf bm,rf it]),(bm,fO "builtin_function_or_method" [.builtin "set.__contains__",rf st]),(it,ad l j),(l,ab vs m),(st,⟨.type "set",none,.set (cj d) (ck d) (ci d),#[]⟩)] b1 t1 tb gl
theorem el0':aZ w (bg below (.builtin "list.extend.loop" ⟨[rf ds,rf fo,.none],[]⟩)) P [(ds,ab #[] cap),(fo,bk bm it),(bm,bO st),(it,ad l i),(l,ab vs m),(st,be d)] b t tb gl [0,2,4,6,8,10] 0 [K82,0x1000000] [0,0] [] [] (@el0 P b t l m fo bm it st i σ j ds cap below vs tb gl x d):=by revert w;refine @bs _ ?_ ?_<;>intro w<;>kernel_rfl
noncomputable def el1:Rs :=
ca (ii [2,4,6,8,10] l j (.str x σ)) (Zk0 P below ds fo) P [(fo,fO "filter" [rf bm,rf it]),(bm,fO "builtin_function_or_method" [.builtin "set.__contains__",rf st]),(it,ad l i),(l,ab vs m),(st,⟨.type "set",none,.set (cj d) (ck d) (ci d),#[]⟩)] b t tb gl fun b1 t1 ak =>
bF (.builtin "list.extend.loop" ⟨[rf ds,rf fo,.none],[]⟩) P [(ds,ab #[a0,.str x σ] (cap+1)),(fo,fO "filter" [rf bm,rf it]),(bm,fO "builtin_function_or_method" [.builtin "set.__contains__",rf st]),(it,ad l j),(l,ab vs m),(st,⟨.type "set",none,.set (cj d) (ck d) (ci d),#[]⟩)] b1 t1 tb gl
theorem el1':aZ w (bg below (.builtin "list.extend.loop" ⟨[rf ds,rf fo,.none],[]⟩)) P [(ds,ab #[a0] cap),(fo,bk bm it),(bm,bO st),(it,ad l i),(l,ab vs m),(st,be d)] b t tb gl [0,2,4,6,8,10] 0 [K82,0x1000000] [0,0] [] [] (@el1 P b t l m fo bm it st i σ j ds cap below vs tb gl x d a0):=by revert w;refine @bs _ ?_ ?_<;>intro w<;>kernel_rfl
noncomputable def el2:Rs :=
ca (ii [2,4,6,8,10] l j (.str x σ)) (Zk0 P below ds fo) P [(fo,fO "filter" [rf bm,rf it]),(bm,fO "builtin_function_or_method" [.builtin "set.__contains__",rf st]),(it,ad l i),(l,ab vs m),(st,⟨.type "set",none,.set (cj d) (ck d) (ci d),#[]⟩)] b t tb gl fun b1 t1 ak =>
bF (.builtin "list.extend.loop" ⟨[rf ds,rf fo,.none],[]⟩) P [(ds,ab #[a0,a1,.str x σ] (cap+1)),(fo,fO "filter" [rf bm,rf it]),(bm,fO "builtin_function_or_method" [.builtin "set.__contains__",rf st]),(it,ad l j),(l,ab vs m),(st,⟨.type "set",none,.set (cj d) (ck d) (ci d),#[]⟩)] b1 t1 tb gl
theorem el2':aZ w (bg below (.builtin "list.extend.loop" ⟨[rf ds,rf fo,.none],[]⟩)) P [(ds,ab #[a0,a1] cap),(fo,bk bm it),(bm,bO st),(it,ad l i),(l,ab vs m),(st,be d)] b t tb gl [0,2,4,6,8,10] 0 [K82,0x1000000] [0,0] [] [] (@el2 P b t l m fo bm it st i σ j ds cap below vs tb gl x d a0 a1):=by revert w;refine @bs _ ?_ ?_<;>intro w<;>kernel_rfl
noncomputable def el3:Rs :=
ca (ii [2,4,6,8,10] l j (.str x σ)) (Zk0 P below ds fo) P [(fo,fO "filter" [rf bm,rf it]),(bm,fO "builtin_function_or_method" [.builtin "set.__contains__",rf st]),(it,ad l i),(l,ab vs m),(st,⟨.type "set",none,.set (cj d) (ck d) (ci d),#[]⟩)] b t tb gl fun b1 t1 ak =>
bF (.builtin "list.extend.loop" ⟨[rf ds,rf fo,.none],[]⟩) P [(ds,ab #[a0,a1,a2,.str x σ] (cap+1)),(fo,fO "filter" [rf bm,rf it]),(bm,fO "builtin_function_or_method" [.builtin "set.__contains__",rf st]),(it,ad l j),(l,ab vs m),(st,⟨.type "set",none,.set (cj d) (ck d) (ci d),#[]⟩)] b1 t1 tb gl
theorem el3':aZ w (bg below (.builtin "list.extend.loop" ⟨[rf ds,rf fo,.none],[]⟩)) P [(ds,ab #[a0,a1,a2] cap),(fo,bk bm it),(bm,bO st),(it,ad l i),(l,ab vs m),(st,be d)] b t tb gl [0,2,4,6,8,10] 0 [K82,0x1000000] [0,0] [] [] (@el3 P b t l m fo bm it st i σ j ds cap below vs tb gl x d a0 a1 a2):=by revert w;refine @bs _ ?_ ?_<;>intro w<;>kernel_rfl
noncomputable def ele:Rs :=
ca (jN [2,4,6,8,10]) (Zk0 P below ds fo) P [(fo,fO "filter" [rf bm,rf it]),(bm,fO "builtin_function_or_method" [.builtin "set.__contains__",rf st]),(it,ad l i),(l,ab vs m),(st,⟨.type "set",none,.set (cj d) (ck d) (ci d),#[]⟩)] b t tb gl fun b1 t1 ak =>
cF (.ok (.ret .none)) [(ds,ab aj cap),(fo,fO "filter" [rf bm,rf it]),(bm,fO "builtin_function_or_method" [.builtin "set.__contains__",rf st]),(it,fO "list_iterator" [.none,nv (ak.n 1) 0]),(l,ab vs m),(st,⟨.type "set",none,.set (cj d) (ck d) (ci d),#[]⟩)] b1 t1 tb gl
theorem ele':aZ w (bg below (.builtin "list.extend.loop" ⟨[rf ds,rf fo,.none],[]⟩)) P [(ds,ab aj cap),(fo,bk bm it),(bm,bO st),(it,ad l i),(l,ab vs m),(st,be d)] b t tb gl [0,2,4,6,8,10] 0 [K82,0x13ec99881c] [0] [] [] (@ele P b t l m fo bm it st i ds cap below vs tb aj gl d):=by revert w;refine @bs _ ?_ ?_<;>intro w<;>kernel_rfl
theorem gR {w:World} {d:Data} {S:Str→Bool} (hS:cp w d S) {aj l l' r:List Value} {x:Value} (hf:(l.filter fun v=>S (strOf v))=x :: l'.filter fun v=>S (strOf v))
    (h:∃ S,cp w (.set (cj d) (ck d) (ci d)) S∧r=(aj++[x])++l'.filter fun v=>S (strOf v)):∃ S,cp w (.set (cj d) (ck d) (ci d)) S∧r=aj++l.filter fun v=>S (strOf v):=by
  obtain ⟨S',h1,e⟩:=h
  rw [cp.uniq h1 hS.obj] at e
  exact ⟨S,hS.obj,by rw [e,hf];simp⟩
theorem el_0 (hS:cp w d S) (hw:aD vs Ws) (hij:i≤j) (hbe:∀ q y,i≤q→q < j→Ws[q]?=some y→S y=false) (hx:vs[j]?=some (.str x σ)) (hSx:S x=true) (hf:((vs.toList.drop i).filter fun v=>S (strOf v)) = .str x σ :: (vs.toList.drop (j+1)).filter fun v=>S (strOf v)) (IH:∀ P b t cap,HB w (hU w req) (bg below (.builtin "list.extend.loop" ⟨[rf ds,rf fo,.none],[]⟩)) P [(ds,ab #[.str x σ] cap),(fo,bk bm it),(bm,bO st),(it,ad l (j+1)),(l,ab vs m),(st,be d)] b t tb gl):HB w (hU w req) (bg below (.builtin "list.extend.loop" ⟨[rf ds,rf fo,.none],[]⟩)) P [(ds,ab #[] cap),(fo,bk bm it),(bm,bO st),(it,ad l i),(l,ab vs m),(st,be d)] b t tb gl:=by
  refine qH (el0' (j:=j+1) (σ:=σ) (x:=x)) rfl fun s hs Ξ ar=>?_
  refine gH rfl (fZ hS hw hij hbe hx hSx) fun b1 t1 ak _ _ _ _=>?_
  exact gG rfl ar hs (IH _ _ _ _) fun ys hk=>gR (aj:=[]) hS hf hk
theorem el_1 (hS:cp w d S) (hw:aD vs Ws) (hij:i≤j) (hbe:∀ q y,i≤q→q < j→Ws[q]?=some y→S y=false) (hx:vs[j]?=some (.str x σ)) (hSx:S x=true) (hf:((vs.toList.drop i).filter fun v=>S (strOf v)) = .str x σ :: (vs.toList.drop (j+1)).filter fun v=>S (strOf v)) (IH:∀ P b t cap,HB w (hU w req) (bg below (.builtin "list.extend.loop" ⟨[rf ds,rf fo,.none],[]⟩)) P [(ds,ab #[a0,.str x σ] cap),(fo,bk bm it),(bm,bO st),(it,ad l (j+1)),(l,ab vs m),(st,be d)] b t tb gl):HB w (hU w req) (bg below (.builtin "list.extend.loop" ⟨[rf ds,rf fo,.none],[]⟩)) P [(ds,ab #[a0] cap),(fo,bk bm it),(bm,bO st),(it,ad l i),(l,ab vs m),(st,be d)] b t tb gl:=by
  refine qH (el1' (j:=j+1) (σ:=σ) (x:=x)) rfl fun s hs Ξ ar=>?_
  refine gH rfl (fZ hS hw hij hbe hx hSx) fun b1 t1 ak _ _ _ _=>?_
  exact gG rfl ar hs (IH _ _ _ _) fun ys hk=>gR (aj:=[a0]) hS hf hk
theorem el_2 (hS:cp w d S) (hw:aD vs Ws) (hij:i≤j) (hbe:∀ q y,i≤q→q < j→Ws[q]?=some y→S y=false) (hx:vs[j]?=some (.str x σ)) (hSx:S x=true) (hf:((vs.toList.drop i).filter fun v=>S (strOf v)) = .str x σ :: (vs.toList.drop (j+1)).filter fun v=>S (strOf v)) (IH:∀ P b t cap,HB w (hU w req) (bg below (.builtin "list.extend.loop" ⟨[rf ds,rf fo,.none],[]⟩)) P [(ds,ab #[a0,a1,.str x σ] cap),(fo,bk bm it),(bm,bO st),(it,ad l (j+1)),(l,ab vs m),(st,be d)] b t tb gl):HB w (hU w req) (bg below (.builtin "list.extend.loop" ⟨[rf ds,rf fo,.none],[]⟩)) P [(ds,ab #[a0,a1] cap),(fo,bk bm it),(bm,bO st),(it,ad l i),(l,ab vs m),(st,be d)] b t tb gl:=by
  refine qH (el2' (j:=j+1) (σ:=σ) (x:=x)) rfl fun s hs Ξ ar=>?_
  refine gH rfl (fZ hS hw hij hbe hx hSx) fun b1 t1 ak _ _ _ _=>?_
  exact gG rfl ar hs (IH _ _ _ _) fun ys hk=>gR (aj:=[a0,a1]) hS hf hk
theorem el_3 (hS:cp w d S) (hw:aD vs Ws) (hij:i≤j) (hbe:∀ q y,i≤q→q < j→Ws[q]?=some y→S y=false) (hx:vs[j]?=some (.str x σ)) (hSx:S x=true) (hf:((vs.toList.drop i).filter fun v=>S (strOf v)) = .str x σ :: (vs.toList.drop (j+1)).filter fun v=>S (strOf v)) (IH:∀ P b t cap,HB w (hU w req) (bg below (.builtin "list.extend.loop" ⟨[rf ds,rf fo,.none],[]⟩)) P [(ds,ab #[a0,a1,a2,.str x σ] cap),(fo,bk bm it),(bm,bO st),(it,ad l (j+1)),(l,ab vs m),(st,be d)] b t tb gl):HB w (hU w req) (bg below (.builtin "list.extend.loop" ⟨[rf ds,rf fo,.none],[]⟩)) P [(ds,ab #[a0,a1,a2] cap),(fo,bk bm it),(bm,bO st),(it,ad l i),(l,ab vs m),(st,be d)] b t tb gl:=by
  refine qH (el3' (j:=j+1) (σ:=σ) (x:=x)) rfl fun s hs Ξ ar=>?_
  refine gH rfl (fZ hS hw hij hbe hx hSx) fun b1 t1 ak _ _ _ _=>?_
  exact gG rfl ar hs (IH _ _ _ _) fun ys hk=>gR (aj:=[a0,a1,a2]) hS hf hk
theorem el_e (hS:cp w d S) (hw:aD vs Ws) (hi:i≤Ws.length) (hbe:∀ q y,i≤q→Ws[q]?=some y→S y=false) (hf:((vs.toList.drop i).filter fun v=>S (strOf v))=[]):HB w (hU w req) (bg below (.builtin "list.extend.loop" ⟨[rf ds,rf fo,.none],[]⟩)) P [(ds,ab aj cap),(fo,bk bm it),(bm,bO st),(it,ad l i),(l,ab vs m),(st,be d)] b t tb gl:=by
  refine qH ele' rfl fun s hs Ξ ar=>?_
  refine gH rfl (kX hS hw hi hbe) fun b1 t1 ak _ _ _ _=>?_
  exact gD rfl ar fun s' hA hF=>⟨bf [cap,ak.n 1] [aj] [] [] [],_,_,⟨S,hS.obj,by show aj.toList=aj.toList++((vs.toList.drop i).filter fun v=>S (strOf v));rw [hf];simp⟩,rfl,rfl,hA,hF,fun a h=>h,ag⟩
theorem iY {vs:Array Value} {Ws:List Str} (hw:StrsAre vs.toList Ws) {q:Nat} {v:Value} (h:vs.toList[q]?=some v):∃ y,Ws[q]?=some y∧strOf v=y:=by
  obtain ⟨y,t,rfl,e⟩:=StrsAre.item hw q v h
  exact ⟨y,e,rfl⟩
theorem el_ok (hS:cp w d S) (hw:aD vs Ws):∀ (k:Nat) {P:Pos} {b t i cap:Nat} {aj:Array Value},Ws.length - i≤k→i≤Ws.length→aj.size+(Ws.length - i)≤4→HB w (hU w req) (bg below (.builtin "list.extend.loop" ⟨[rf ds,rf fo,.none],[]⟩)) P [(ds,ab aj cap),(fo,bk bm it),(bm,bO st),(it,ad l i),(l,ab vs m),(st,be d)] b t tb gl:=by
  intro k
  induction k with
  | zero =>
    intro P b t i cap aj hk hi ha
    have hbe:∀ q y,i≤q→Ws[q]?=some y→S y=false:=fun q y h1 h2=>by
      have:=(List.getElem?_eq_some_iff.mp h2).1;omega
    refine el_e hS hw hi hbe ?_
    rw [List.drop_of_length_le (by have:vs.toList.length=Ws.length:=StrsAre.length hw;omega)]
    rfl
  | succ k ih =>
    intro P b t i cap aj hk hi ha
    have hlen:vs.toList.length=Ws.length:=StrsAre.length hw
    rcases i9 (fun q=>S (Ws.getD q ⟨#[]⟩)) (Ws.length - i) i with hno | ⟨j,h1,h2,h3,h4⟩
    · have hbe:∀ q y,i≤q→Ws[q]?=some y→S y=false:=fun q y h1 h2=>by
        have hq:=(List.getElem?_eq_some_iff.mp h2).1
        have:=hno q h1 (by omega)
        rw [List.getD_eq_getElem?_getD,h2] at this
        exact this
      refine el_e hS hw hi hbe (eI _ _ fun q v e=>?_)
      rw [List.getElem?_drop] at e
      obtain ⟨y,e1,e2⟩:=iY hw e
      rw [e2]
      exact hbe _ y (by omega) e1
    · have hj:j < Ws.length:=by omega
      have h3':S Ws[j]=true:=by rw [List.getD_eq_getElem?_getD,List.getElem?_eq_getElem hj] at h3;exact h3
      obtain ⟨σ,hσ⟩:=StrsAre.get hw j Ws[j] (by simp [hj])
      have hσ':=hσ
      rw [Array.getElem?_toList] at hσ'
      have hbe:∀ q y,i≤q→q < j→Ws[q]?=some y→S y=false:=fun q y h5 h6 h7=>by
        have:=h4 q h5 h6
        rw [List.getD_eq_getElem?_getD,h7] at this
        exact this
      have hf:=df (fun v=>S (strOf v)) vs.toList i j _ h1 hσ h3' fun q v h5 h6 h7=>by
        obtain ⟨y,e1,e2⟩:=iY hw h7
        rw [e2];exact hbe q y h5 h6 e1
      match aj,ha with
      | ⟨[]⟩,ha=>exact el_0 hS hw h1 hbe hσ' h3' hf fun P b t cap=>ih (by omega) (by omega) (by simp at ha ⊢;omega)
      | ⟨[_]⟩,ha=>exact el_1 hS hw h1 hbe hσ' h3' hf fun P b t cap=>ih (by omega) (by omega) (by simp at ha ⊢;omega)
      | ⟨[_,_]⟩,ha=>exact el_2 hS hw h1 hbe hσ' h3' hf fun P b t cap=>ih (by omega) (by omega) (by simp at ha ⊢;omega)
      | ⟨[_,_,_]⟩,ha=>exact el_3 hS hw h1 hbe hσ' h3' hf fun P b t cap=>ih (by omega) (by omega) (by simp at ha ⊢;omega)
      | ⟨_ :: _ :: _ :: _ :: _⟩,ha=>exact absurd ha (by simp;omega)
noncomputable def lf:Rs :=
.nR (hU w [1,0,2,4,6,8]) ⟨.builtin "list.extend.loop" ⟨[rf b,rf fo,.none],[]⟩,none,none,(.builtin "type.__call__" ⟨[.type "list",rf fo],[]⟩,P) :: below,none⟩ (den (.builtin "list.extend.loop" ⟨[rf b,rf fo,.none],[]⟩)) P [(b,ab #[] 2),(fo,fO "filter" [rf bm,rf it]),(bm,fO "builtin_function_or_method" [.builtin "set.__contains__",rf st]),(it,ad l 0),(l,ab vs m),(st,⟨.type "set",none,.set (cj d) (ck d) (ci d),#[]⟩)] (b+1) t (cb tb) gl [] [⟨⟨.builtin "list.__init__" ⟨[rf b,rf fo],[]⟩,none,none,(.builtin "type.__call__" ⟨[.type "list",rf fo],[]⟩,P) :: below,none⟩,P,den (.builtin "list.__init__" ⟨[rf b,rf fo],[]⟩),bY (rf b) (rf fo),false⟩] fun b1 t1 ak =>
cF (.ok (.ret (rf b))) [(fo,fO "filter" [rf bm,rf it]),(bm,fO "builtin_function_or_method" [.builtin "set.__contains__",rf st]),(it,fO "list_iterator" [.none,nv (ak.n 1) 0]),(l,ab vs m),(st,⟨.type "set",none,.set (cj d) (ck d) (ci d),#[]⟩),(b,ab (ak.a 0) (ak.n 0))] b1 t1 tb gl
theorem lf':aZ w (bg below (.call (.type "list") ⟨[rf fo],[]⟩)) P [(fo,bk bm it),(bm,bO st),(it,ad l 0),(l,ab vs m),(st,be d)] b t tb gl [0,2,4,6,8,1] 6 [0x1011101,0x11101010101011000002020000001010101] [0,99999] [(0,.tree (bY (rf b) (rf fo)))] [1] (@lf P b t l m fo bm it st below vs tb gl d w):=by revert w;refine @bs _ ?_ ?_<;>intro w<;>kernel_rfl
theorem jw (hst:aD vs Ws) (h4:Ws.length≤100):HB w (km w req) (bg below (.call (.type "set") ⟨[rf l],[]⟩)) P [(l,ab vs m)] b t tb gl:=by
  refine qH set' rfl fun s hs Ξ ar=>?_
  refine gH rfl (jv hst h4) fun b1 t1 ak _ _ hk1 _=>?_
  exact gD rfl ar fun s' hA hF=>⟨bf [b+0] [] [] [] [ak.d 0],_,_,hk1,rfl,rfl,hA,hF,fun a h=>h,ao (by show b≤b+0;omega)⟩
theorem jT (hS:cp w d S) (hw:aD vs Ws) (h4:Ws.length≤4):HB w (kn w req) (bg below (.call (.type "list") ⟨[rf fo],[]⟩)) P [(fo,bk bm it),(bm,bO st),(it,ad l 0),(l,ab vs m),(st,be d)] b t tb gl:=by
  refine qH lf' rfl fun s hs Ξ ar=>?_
  refine jS rfl ag (ao (dK.eq (c3 (by show b+0≠fo;have:=(hs.hi (fo,bk bm it) (.head _)).2;have e:b+0=b:=rfl;intro q;rw [← q,e] at this;exact Nat.lt_irrefl _ this)))) (iF (el_ok hS hw Ws.length (by omega) (Nat.zero_le _) (by simpa using h4))) fun b1 t1 ak _ _ hk1 _=>?_
  exact gD rfl ar fun s' hA hF=>⟨bf [b+0,ak.n 1,ak.n 0] [ak.a 0] [] [] [],_,_,hk1,rfl,rfl,hA,hF,fun a h=>h,ao (by show b≤b+0;omega)⟩
end
section
variable {P:Pos} {b t r wa m k0 k1 k2 k3 k4 k5 k6 τ M:Nat} {vp vc:Value} {vs tb:Array Value} {E:List DictEntry} {sl:Array (Option Value)} {gl:List GenState} {w:World} {req ds:List Nat}
noncomputable abbrev md5 (r:Nat):Nat:=r % 5
noncomputable abbrev dv5 (r:Nat):Nat:=r / 5
noncomputable def cH:Ctx:=(j5 (bt (az aR) 3) (.ref 882) ⟨847,17,847,25⟩).enter (jk (bt (fX (bt (az aR) 3)) 3) au) none ⟨851,8,853,28⟩
noncomputable abbrev frW (P:Params) (k0 k1 k2 k3 k4 k5 k6:Nat) (vp vc:Value) (r τ:Nat) (wa:Addr) (E:List DictEntry) (M:Nat) (sl:Array (Option Value)):Obj:=⟨.type "frame",none,.dict ⟨aq P "script" k0 (.ref 873) :: aq P "delays" k1 (.ref 879) :: aq P "entries" k2 (.ref 880) :: aq P "place" k3 vp :: aq P "cell" k4 vc :: aq P "rest" k5 (.int (.ofNat r) τ) :: aq P "words" k6 (.ref wa) :: E⟩ M,sl⟩
noncomputable abbrev i8 (w:World):=frW w.params
theorem fmod5 (r:Nat):Int.fmod (.ofNat r) 5 = .ofNat (md5 r):=by cases r <;> rfl
theorem fdiv5 (r:Nat):Int.fdiv (.ofNat r) 5 = .ofNat (dv5 r):=by cases r <;> rfl
theorem wd_at (τ0 τ1 τ2 τ3 τ4:Nat) (d:Nat) (hd:d < 5):∃ ys:Ys,(#[.str (aX "a") τ0,.str (aX "A b") τ1,.str (aX "") τ2,.str (aX "*") τ3,.str (aX "b'") τ4]:Array Value)[d]?=some (.str (Wd d) (ys.n 0)) :=
  match d,hd with
  | 0,_=>⟨dz fun _=>τ0,by kernel_rfl⟩
  | 1,_=>⟨dz fun _=>τ1,by kernel_rfl⟩
  | 2,_=>⟨dz fun _=>τ2,by kernel_rfl⟩
  | 3,_=>⟨dz fun _=>τ3,by kernel_rfl⟩
  | 4,_=>⟨dz fun _=>τ4,by kernel_rfl⟩
  | n+5,h=>absurd h (by omega)
noncomputable def mU (req:List Nat):Hk:=dS req (fun _ _=>.ok .next) (fun pre ys=>match pre with | [x,_]=>[setE 5 (.int (.ofNat (ys.n 0)) (ys.n 1)) x.2,ab (ys.a 0) (ys.n 2)] | _=>[]) (fun _ _=>[]) (fun _ ys=>∃ ds:List Nat,ds.length≤4∧(∀ d∈ds,d < 5)∧StrsAre (ys.a 0).toList (ds.map Wd))
noncomputable def whT:Rs :=
.nF (a9 [2] fun ys=>.int (.ofNat vs.size) (ys.n 0)) (cB "len" [rf wa]) [(wa,ab vs m)] b (t+1) (cb tb) gl [(.bool (decide (Int.ofNat 0 < Int.ofNat r)),.bool true)] [] fun b1 t1 ak =>
.nF (a9 [1] fun ys=>.str (Wd (md5 r)) (ys.n 0)) (cB "list.__getitem__" [rf b1,nv (md5 r) (t1+7)]) [(b1,ab #[sv "a" (t1+1),sv "A b" (t1+2),sv "" (t1+3),sv "*" (t1+4),sv "b'" (t1+5)] 0)] (b1+1) (t1+8) (cb tb) gl [(.int (Int.fmod (.ofNat r) 5) (t1+7),nv (md5 r) (t1+7)),(.bool (decide (Int.ofNat vs.size < Int.ofNat 4)),.bool true)] [] fun b2 t2 aw =>
aO (aN [2] fun x=>∃ τ,x = .str (Wd (md5 r)) τ) (cB "list.append" [rf wa,.str (Wd (md5 r)) (aw.n 0)]) [(wa,ab vs m)] b2 t2 tb gl fun b3 t3 aL =>
.nA (jk (bt (fX (bt (az aR) 3)) 3) au) ⟨853,12,853,16⟩ [(874,⟨.type "frame",none,.dict ⟨[aq w.params "script" k0 (rf 873),aq w.params "delays" k1 (rf 879),aq w.params "entries" k2 (rf 880),aq w.params "place" k3 vp,aq w.params "cell" k4 vc,aq w.params "rest" k5 (nv (dv5 r) (t3+1)),aq w.params "words" k6 (rf wa)]++E⟩ M,sl⟩),(wa,ab (aL.a 0) (aL.n 0))] b3 (t3+3) (cb tb) gl [(.int (Int.fdiv (.ofNat r) 5) (t3+1),nv (dv5 r) (t3+1))] []
theorem whT':aZ w cH P [(874,i8 w k0 k1 k2 k3 k4 k5 k6 vp vc r τ wa E M sl),(wa,ab vs m)] b t tb gl [0,2] 1 [0x130,0x110,1,0x12019202020210,0x1010101,1,0x120,0x11000] [6,4,4,4,3,3,7,0] [(0,.rw (cS (.bool true))),(1,.rw (cS (.bool true))),(0,.rw (setI (.ofNat (md5 r)))),(2,.rw (setI (.ofNat (dv5 r))))] [0,1,1] (@whT b t r wa m k0 k1 k2 k3 k4 k5 k6 M vp vc vs tb E sl gl w):=by revert w;refine @bs _ ?_ ?_<;>intro w<;>kernel_rfl
noncomputable def whA:Rs :=
.nD (.ok .next) [(874,⟨.type "frame",none,.dict ⟨[aq w.params "script" k0 (rf 873),aq w.params "delays" k1 (rf 879),aq w.params "entries" k2 (rf 880),aq w.params "place" k3 vp,aq w.params "cell" k4 vc,aq w.params "rest" k5 (nv r τ),aq w.params "words" k6 (rf wa)]++E⟩ M,sl⟩),(wa,ab vs m)] b (t+1) (cb tb) gl [(.bool (decide (Int.ofNat 0 < Int.ofNat r)),.bool false)] []
theorem whA':aZ w cH P [(874,i8 w k0 k1 k2 k3 k4 k5 k6 vp vc r τ wa E M sl),(wa,ab vs m)] b t tb gl [0,2] 1 [0x130] [99999] [(0,.rw (cS (.bool false)))] [] (@whA b t r wa m k0 k1 k2 k3 k4 k5 k6 τ M vp vc vs tb E sl gl w):=by revert w;refine @bs _ ?_ ?_<;>intro w<;>kernel_rfl
noncomputable def whB:Rs :=
.nF (a9 [2] fun ys=>.int (.ofNat vs.size) (ys.n 0)) (cB "len" [rf wa]) [(wa,ab vs m)] b (t+1) (cb tb) gl [(.bool (decide (Int.ofNat 0 < Int.ofNat r)),.bool true)] [] fun b1 t1 ak =>
.nD (.ok .next) [(874,⟨.type "frame",none,.dict ⟨[aq w.params "script" k0 (rf 873),aq w.params "delays" k1 (rf 879),aq w.params "entries" k2 (rf 880),aq w.params "place" k3 vp,aq w.params "cell" k4 vc,aq w.params "rest" k5 (nv r τ),aq w.params "words" k6 (rf wa)]++E⟩ M,sl⟩),(wa,ab vs m)] b1 (t1+1) (cb tb) gl [(.bool (decide (Int.ofNat vs.size < Int.ofNat 4)),.bool false)] []
theorem whB':aZ w cH P [(874,i8 w k0 k1 k2 k3 k4 k5 k6 vp vc r τ wa E M sl),(wa,ab vs m)] b t tb gl [0,2] 1 [0x130,0x110,1] [6,4,99999] [(0,.rw (cS (.bool true))),(1,.rw (cS (.bool false)))] [] (@whB b t r wa m k0 k1 k2 k3 k4 k5 k6 τ M vp vc vs tb E sl gl w):=by revert w;refine @bs _ ?_ ?_<;>intro w<;>kernel_rfl
theorem jh (hr:0 < r) (hl:vs.size < 4) (IH:∀ P b t τ vs' m',(∃ τ',vs'=vs.push (.str (Wd (md5 r)) τ'))→HB w (mU req) cH P [(874,i8 w k0 k1 k2 k3 k4 k5 k6 vp vc (dv5 r) τ wa E M sl),(wa,ab vs' m')] b t tb gl):HB w (mU req) cH P [(874,i8 w k0 k1 k2 k3 k4 k5 k6 vp vc r τ wa E M sl),(wa,ab vs m)] b t tb gl:=by
  refine qH whT' rfl fun s hs Ξ ar=>?_
  refine dJ rfl (ao (by rw [decide_eq_true (by simpa using hr)])) ag (ke rfl (by omega)) fun b1 t1 ak _ _ _ _=>?_
  refine dJ rfl (ae (congrArg (Value.int · _) (fmod5 r)) (ao (by rw [decide_eq_true (by simp only [Int.ofNat_eq_natCast];omega)]))) ag (dH (wd_at _ _ _ _ _ _ (Nat.mod_lt _ (by omega))) (bT (Nat.le_of_lt (Nat.mod_lt _ (by omega))) (by omega))) fun b2 t2 aw _ _ _ _=>?_
  refine gF rfl (aC (ai w) (by omega) ⟨_,rfl⟩) fun b3 t3 aL _ _ hk3 _=>?_
  exact gAx rfl ar (ao (congrArg (Value.int · _) (fdiv5 r))) ag fun s' hA hF=>d8 hs (IH _ _ _ _ _ _ (by obtain ⟨x,⟨τ',hx⟩,e⟩:=hk3;subst hx;exact ⟨τ',e⟩)) hA hF (by show b≤_;omega) (fun a h=>.inl h) fun ys hk _=>⟨ys,hk,rfl,rfl,rfl,rfl,rfl,fun a h=>h,ag⟩
theorem gW (hr:r=0) (h4:ds.length≤4) (hd:∀ d∈ds,d < 5) (hs':aD vs (ds.map Wd)):HB w (mU req) cH P [(874,i8 w k0 k1 k2 k3 k4 k5 k6 vp vc r τ wa E M sl),(wa,ab vs m)] b t tb gl:=by
  refine qH whA' rfl fun s hs Ξ ar=>?_
  exact gDx rfl ar (ao (by subst hr;rfl)) ag fun s' hA hF=>⟨bf [r,τ,m] [vs] [] [] [],_,_,⟨ds,h4,hd,hs'⟩,rfl,rfl,hA,hF,fun a h=>h,ag⟩
theorem ji (hr:0 < r) (hl:vs.size=4) (h4:ds.length≤4) (hd:∀ d∈ds,d < 5) (hs':aD vs (ds.map Wd)):HB w (mU req) cH P [(874,i8 w k0 k1 k2 k3 k4 k5 k6 vp vc r τ wa E M sl),(wa,ab vs m)] b t tb gl:=by
  refine qH whB' rfl fun s hs Ξ ar=>?_
  refine dJ rfl (ao (by rw [decide_eq_true (by simpa using hr)])) ag (ke rfl (by omega)) fun b1 t1 ak _ _ _ _=>?_
  exact gDx rfl ar (ao (by rw [decide_eq_false (by simp only [Int.ofNat_eq_natCast];omega)])) ag fun s' hA hF=>⟨bf [r,τ,m] [vs] [] [] [],_,_,⟨ds,h4,hd,hs'⟩,rfl,rfl,hA,hF,fun a h=>h,ag⟩
theorem ew:∀ (n:Nat) {P:Pos} {b t r τ m:Nat} {vs:Array Value} {ds:List Nat},ds.length+n=4→(∀ d∈ds,d < 5)→aD vs (ds.map Wd)→HB w (mU req) cH P [(874,i8 w k0 k1 k2 k3 k4 k5 k6 vp vc r τ wa E M sl),(wa,ab vs m)] b t tb gl:=by
  intro n
  induction n with
  | zero =>
    intro P b t r τ m vs ds hn hd hs
    have hsz:vs.size=ds.length:=by have:=StrsAre.length hs;simpa using this
    rcases Nat.eq_zero_or_pos r with hr | hr
    · exact gW hr (by omega) hd hs
    · exact ji hr (by omega) (by omega) hd hs
  | succ n ih =>
    intro P b t r τ m vs ds hn hd hs
    have hsz:vs.size=ds.length:=by have:=StrsAre.length hs;simpa using this
    rcases Nat.eq_zero_or_pos r with hr | hr
    · exact gW hr (by omega) hd hs
    · refine jh hr (by omega) fun P b t τ vs' m' hv=>?_
      obtain ⟨τ',rfl⟩:=hv
      refine ih (ds:=ds++[md5 r]) (by simp;omega) (fun d h=>?_) ?_
      · rcases List.mem_append.mp h with h | h
        · exact hd d h
        · simp only [List.mem_singleton] at h;subst h;exact Nat.mod_lt _ (by omega)
      · show StrsAre (Array.toList _) _
        rw [Array.toList_push,List.map_append]
        exact StrsAre.append' hs (.cons _ _ .nil)
end
section
variable {P:Pos} {b t la m f e d u it r k0 k1 k2 i0 i1 i2 i3 x σ:Nat} {D:Value} {W:Nat→Str} {τ:Nat→Nat} {tb vs:Array Value} {gl:List GenState} {w:World} {req:List Nat} {Ws:List Str}
noncomputable def gK (la:Addr) (D:Value):Ctx:=ΓF.enter (aV 862 [.ref la,D]) none ⟨859,23,859,54⟩
noncomputable abbrev ie:Pos:=⟨859,23,859,54⟩
noncomputable def jV:Stmt:=cY top 55
noncomputable def ja (f:Addr):Env:=e7 jV "_law_entry.<locals>." 862 861 f []
noncomputable def dk (f it:Addr):Ctx:=⟨aH (bt (az jV) 1) (.ref it) (ja f),none,none,[(bW jV (ja f),⟨832,17,832,23⟩),(forC (bt (az aR) 3) (.ref 882) au,ie),(bW aR au,⟨847,17,847,25⟩),(aI,p0)],none⟩
noncomputable abbrev frEntry (P:Params) (k0 k1 k2:Nat) (la:Addr) (D:Value) (e:Addr) (T:List DictEntry) (m:Nat):Obj:=⟨.type "frame",none,.dict ⟨aq P "agents" k0 (.ref la) :: aq P "delay" k1 D :: aq P "entry" k2 (.ref e) :: T⟩ m,#[]⟩
noncomputable abbrev cO (w:World):=frEntry w.params
noncomputable def lp:Data→List DictEntry
  | .dict es _=>es.toList
  | _=>[]
noncomputable def addTail (d:Data) (m:Nat):Obj→Obj
  | ⟨c,dd,.dict es _,sl⟩=>⟨c,dd,.dict ⟨es.toList++lp d⟩ m,sl⟩
  | o=>o
noncomputable abbrev cJ (w:World) (req:List Nat) (D:Value):Hk:=dS req (fun _ ys=>.ok (.ret (.ref (ys.n 0)))) (fun pre _=>pre.map (·.2)) (fun pre ys=>[(ys.n 0,af (ys.n 1)),(ys.n 1,ac w (ys.n 10) (ys.n 11) (ys.n 12) (ys.n 13) (ys.n 2) (ys.n 3) D),(ys.n 2,ab (bn pre 0) (ys.n 4)),(ys.n 3,ab #[] (ys.n 5))]) (fun _ _=>True)
noncomputable def dX (req:List Nat):Hk:=dS req (fun _ _=>.ok .next) (fun pre ys=>match pre with
  | [f,e,d,u,i,l]=>[addTail (ys.d 0) (ys.n 0) f.2,e.2,d.2,ab (bn pre 5) (ys.n 1),⟨.type "list_iterator",none,.fields #[.none,.int (.ofNat (ys.n 2)) 0],#[]⟩,l.2]
  | _=>[]) (fun _ _=>[]) (fun _ _=>True)
noncomputable def enL0:Rs :=
cF (.ok .next) [(f,d3w w k0 (rf la) k1 D k2 (rf e)),(e,af d),(d,ac w i0 i1 i2 i3 u r .none),(u,ab #[] 0),(it,fO "list_iterator" [.none,.int 0 0]),(la,ab #[] m)] (b+2) t tb gl
theorem enL0':aZ w (dk f it) P [(f,cO w k0 k1 k2 la D e [] 3),(e,af d),(d,ac w i0 i1 i2 i3 u r .none),(u,ab #[] 0),(it,ad la 0),(la,ab #[] m)] b t tb gl [0,2,4,6,8,10] 1 [0x13ec9988341801811a018018118118] [] [] [] (@enL0 b t la m f e d u it r k0 k1 k2 i0 i1 i2 i3 D tb gl w):=by revert w;refine @bs _ ?_ ?_<;>intro w<;>kernel_rfl
theorem eloop_0:HB w (dX req) (dk f it) P [(f,cO w k0 k1 k2 la D e [] 3),(e,af d),(d,ac w i0 i1 i2 i3 u r .none),(u,ab #[] 0),(it,ad la 0),(la,ab #[] m)] b t tb gl:=by
  refine qH enL0' rfl fun s hs Ξ ar=>?_
  exact gD rfl ar fun s' hA hF=>⟨bf [3,0,0] [] [] [] [.dict #[] 0],_,_,trivial,rfl,rfl,hA,hF,fun a h=>h,ag⟩
noncomputable def enL1:Rs :=
cF (.ok .next) [(f,d4w w k0 (rf la) k1 D k2 (rf e) t (.str (W 0) (τ 0))),(e,af d),(d,ac w i0 i1 i2 i3 u r .none),(u,ab #[.str (W 0) (τ 0)] 1),(it,fO "list_iterator" [.none,.int 1 0]),(la,ab #[.str (W 0) (τ 0)] m)] (b+2) (t+2) tb gl
theorem enL1':aZ w (dk f it) P [(f,cO w k0 k1 k2 la D e [] 3),(e,af d),(d,ac w i0 i1 i2 i3 u r .none),(u,ab #[] 0),(it,ad la 0),(la,ab #[.str (W 0) (τ 0)] m)] b t tb gl [0,2,4,6,8,10] 1 [0x13ec9988341801811a018018118118460606162026060606341202324220300051801801a018018118118] [] [] [] (@enL1 b t la m f e d u it r k0 k1 k2 i0 i1 i2 i3 D W τ tb gl w):=by revert w;refine @bs _ ?_ ?_<;>intro w<;>kernel_rfl
theorem eloop_1:HB w (dX req) (dk f it) P [(f,cO w k0 k1 k2 la D e [] 3),(e,af d),(d,ac w i0 i1 i2 i3 u r .none),(u,ab #[] 0),(it,ad la 0),(la,ab #[.str (W 0) (τ 0)] m)] b t tb gl:=by
  refine qH (enL1' (W:=W) (τ:=τ)) rfl fun s hs Ξ ar=>?_
  exact gD rfl ar fun s' hA hF=>⟨bf [4,1,1] [] [] [] [.dict #[aq w.params "agent" t (.str (W 0) (τ 0))] 0],_,_,trivial,rfl,rfl,hA,hF,fun a h=>h,ag⟩
noncomputable def enL2:Rs :=
cF (.ok .next) [(f,d4w w k0 (rf la) k1 D k2 (rf e) t (.str (W 1) (τ 1))),(e,af d),(d,ac w i0 i1 i2 i3 u r .none),(u,ab #[.str (W 0) (τ 0),.str (W 1) (τ 1)] 2),(it,fO "list_iterator" [.none,.int 2 0]),(la,ab #[.str (W 0) (τ 0),.str (W 1) (τ 1)] m)] (b+2) (t+4) tb gl
theorem enL2':aZ w (dk f it) P [(f,cO w k0 k1 k2 la D e [] 3),(e,af d),(d,ac w i0 i1 i2 i3 u r .none),(u,ab #[] 0),(it,ad la 0),(la,ab #[.str (W 0) (τ 0),.str (W 1) (τ 1)] m)] b t tb gl [0,2,4,6,8,10] 1 [0x13ec9988341801811a018018118118460606162026060606341202324220300051801801a018018118118460606162026060606341202324220300051801801a018018118118] [] [] [] (@enL2 b t la m f e d u it r k0 k1 k2 i0 i1 i2 i3 D W τ tb gl w):=by revert w;refine @bs _ ?_ ?_<;>intro w<;>kernel_rfl
theorem eloop_2:HB w (dX req) (dk f it) P [(f,cO w k0 k1 k2 la D e [] 3),(e,af d),(d,ac w i0 i1 i2 i3 u r .none),(u,ab #[] 0),(it,ad la 0),(la,ab #[.str (W 0) (τ 0),.str (W 1) (τ 1)] m)] b t tb gl:=by
  refine qH (enL2' (W:=W) (τ:=τ)) rfl fun s hs Ξ ar=>?_
  exact gD rfl ar fun s' hA hF=>⟨bf [4,2,2] [] [] [] [.dict #[aq w.params "agent" t (.str (W 1) (τ 1))] 0],_,_,trivial,rfl,rfl,hA,hF,fun a h=>h,ag⟩
noncomputable def enL3:Rs :=
cF (.ok .next) [(f,d4w w k0 (rf la) k1 D k2 (rf e) t (.str (W 2) (τ 2))),(e,af d),(d,ac w i0 i1 i2 i3 u r .none),(u,ab #[.str (W 0) (τ 0),.str (W 1) (τ 1),.str (W 2) (τ 2)] 3),(it,fO "list_iterator" [.none,.int 3 0]),(la,ab #[.str (W 0) (τ 0),.str (W 1) (τ 1),.str (W 2) (τ 2)] m)] (b+2) (t+6) tb gl
theorem enL3':aZ w (dk f it) P [(f,cO w k0 k1 k2 la D e [] 3),(e,af d),(d,ac w i0 i1 i2 i3 u r .none),(u,ab #[] 0),(it,ad la 0),(la,ab #[.str (W 0) (τ 0),.str (W 1) (τ 1),.str (W 2) (τ 2)] m)] b t tb gl [0,2,4,6,8,10] 1 [0x13ec9988341801811a018018118118460606162026060606341202324220300051801801a018018118118460606162026060606341202324220300051801801a018018118118460606162026060606341202324220300051801801a018018118118] [] [] [] (@enL3 b t la m f e d u it r k0 k1 k2 i0 i1 i2 i3 D W τ tb gl w):=by revert w;refine @bs _ ?_ ?_<;>intro w<;>kernel_rfl
theorem eloop_3:HB w (dX req) (dk f it) P [(f,cO w k0 k1 k2 la D e [] 3),(e,af d),(d,ac w i0 i1 i2 i3 u r .none),(u,ab #[] 0),(it,ad la 0),(la,ab #[.str (W 0) (τ 0),.str (W 1) (τ 1),.str (W 2) (τ 2)] m)] b t tb gl:=by
  refine qH (enL3' (W:=W) (τ:=τ)) rfl fun s hs Ξ ar=>?_
  exact gD rfl ar fun s' hA hF=>⟨bf [4,3,3] [] [] [] [.dict #[aq w.params "agent" t (.str (W 2) (τ 2))] 0],_,_,trivial,rfl,rfl,hA,hF,fun a h=>h,ag⟩
noncomputable def enL4:Rs :=
cF (.ok .next) [(f,d4w w k0 (rf la) k1 D k2 (rf e) t (.str (W 3) (τ 3))),(e,af d),(d,ac w i0 i1 i2 i3 u r .none),(u,ab #[.str (W 0) (τ 0),.str (W 1) (τ 1),.str (W 2) (τ 2),.str (W 3) (τ 3)] 4),(it,fO "list_iterator" [.none,.int 4 0]),(la,ab #[.str (W 0) (τ 0),.str (W 1) (τ 1),.str (W 2) (τ 2),.str (W 3) (τ 3)] m)] (b+2) (t+8) tb gl
theorem enL4':aZ w (dk f it) P [(f,cO w k0 k1 k2 la D e [] 3),(e,af d),(d,ac w i0 i1 i2 i3 u r .none),(u,ab #[] 0),(it,ad la 0),(la,ab #[.str (W 0) (τ 0),.str (W 1) (τ 1),.str (W 2) (τ 2),.str (W 3) (τ 3)] m)] b t tb gl [0,2,4,6,8,10] 1 [0x13ec9988341801811a018018118118460606162026060606341202324220300051801801a018018118118460606162026060606341202324220300051801801a018018118118460606162026060606341202324220300051801801a018018118118460606162026060606341202324220300051801801a018018118118] [] [] [] (@enL4 b t la m f e d u it r k0 k1 k2 i0 i1 i2 i3 D W τ tb gl w):=by revert w;refine @bs _ ?_ ?_<;>intro w<;>kernel_rfl
theorem eloop_4:HB w (dX req) (dk f it) P [(f,cO w k0 k1 k2 la D e [] 3),(e,af d),(d,ac w i0 i1 i2 i3 u r .none),(u,ab #[] 0),(it,ad la 0),(la,ab #[.str (W 0) (τ 0),.str (W 1) (τ 1),.str (W 2) (τ 2),.str (W 3) (τ 3)] m)] b t tb gl:=by
  refine qH (enL4' (W:=W) (τ:=τ)) rfl fun s hs Ξ ar=>?_
  exact gD rfl ar fun s' hA hF=>⟨bf [4,4,4] [] [] [] [.dict #[aq w.params "agent" t (.str (W 3) (τ 3))] 0],_,_,trivial,rfl,rfl,hA,hF,fun a h=>h,ag⟩
theorem jb:∀ {vs:Array Value} {Ws:List Str},Ws.length≤4→aD vs Ws→HB w (dX req) (dk f it) P [(f,cO w k0 k1 k2 la D e [] 3),(e,af d),(d,ac w i0 i1 i2 i3 u r .none),(u,ab #[] 0),(it,ad la 0),(la,ab vs m)] b t tb gl
  | vs,[],_,hs=>by
    have e:=bH (StrsAre.nil_inv hs)
    subst e
    exact eloop_0
  | vs,[W0],_,hs=>by
    obtain ⟨τ0,v0,hs,h1⟩:=StrsAre.cons_inv hs
    have e0:=StrsAre.nil_inv h1
    subst e0
    have e:=bH hs
    subst e
    exact eloop_1 (W:=(fun i=>[W0].getD i ⟨#[]⟩)) (τ:=(fun i=>[τ0].getD i 0))
  | vs,[W0,W1],_,hs=>by
    obtain ⟨τ0,v0,hs,h1⟩:=StrsAre.cons_inv hs
    obtain ⟨τ1,v1,e1,h2⟩:=StrsAre.cons_inv h1
    have e0:=StrsAre.nil_inv h2
    subst e0
    subst e1
    have e:=bH hs
    subst e
    exact eloop_2 (W:=(fun i=>[W0,W1].getD i ⟨#[]⟩)) (τ:=(fun i=>[τ0,τ1].getD i 0))
  | vs,[W0,W1,W2],_,hs=>by
    obtain ⟨τ0,v0,hs,h1⟩:=StrsAre.cons_inv hs
    obtain ⟨τ1,v1,e1,h2⟩:=StrsAre.cons_inv h1
    obtain ⟨τ2,v2,e2,h3⟩:=StrsAre.cons_inv h2
    have e0:=StrsAre.nil_inv h3
    subst e0
    subst e2
    subst e1
    have e:=bH hs
    subst e
    exact eloop_3 (W:=(fun i=>[W0,W1,W2].getD i ⟨#[]⟩)) (τ:=(fun i=>[τ0,τ1,τ2].getD i 0))
  | vs,[W0,W1,W2,W3],_,hs=>by
    obtain ⟨τ0,v0,hs,h1⟩:=StrsAre.cons_inv hs
    obtain ⟨τ1,v1,e1,h2⟩:=StrsAre.cons_inv h1
    obtain ⟨τ2,v2,e2,h3⟩:=StrsAre.cons_inv h2
    obtain ⟨τ3,v3,e3,h4⟩:=StrsAre.cons_inv h3
    have e0:=StrsAre.nil_inv h4
    subst e0
    subst e3
    subst e2
    subst e1
    have e:=bH hs
    subst e
    exact eloop_4 (W:=(fun i=>[W0,W1,W2,W3].getD i ⟨#[]⟩)) (τ:=(fun i=>[τ0,τ1,τ2,τ3].getD i 0))
  | _,_ :: _ :: _ :: _ :: _ :: _,h,_=>absurd h (by simp)
noncomputable def en0:Rs :=
ca (dX [1,5,3,9,13,0]) (dk b (b+6)) ⟨832,17,832,23⟩ [(b,d3w w t (rf la) (t+1) .none (t+11) (rf (b+2))),(b+2,af (b+1)),(b+1,ac w (t+4) (t+6) (t+8) (t+10) (b+4) (b+5) .none),(b+4,ab #[] 0),(b+6,ad la 0),(la,ab vs m)] (b+7) (t+12) tb gl fun b1 t1 ak =>
cF (.ok (.ret (rf (b+2)))) [(la,ab vs m),(b+2,af (b+1)),(b+1,ac w (t+4) (t+6) (t+8) (t+10) (b+4) (b+5) .none),(b+4,ab vs (ak.n 1)),(b+5,ab #[] 0)] b1 (t1+2) tb gl
theorem en0':aZ w (gK la (.none)) ie [(la,ab vs m)] b t tb gl [0,5,3,9,11] 5 [K27,K52] [2] [] [7] (@en0 b t la m tb vs gl w):=by revert w;refine @bs _ ?_ ?_<;>intro w<;>kernel_rfl
theorem iP (h4:Ws.length≤4) (hst:aD vs Ws):HB w (cJ w req (.none)) (gK la (.none)) ie [(la,ab vs m)] b t tb gl:=by
  refine qH en0' rfl fun s hs Ξ ar=>?_
  refine gH rfl (jb h4 hst) fun b1 t1 ak _ _ _ _=>?_
  exact gD rfl ar fun s' hA hF=>⟨bf [b+2,b+1,b+4,b+5,ak.n 1,0,0,0,0,0,(t+4),(t+6),(t+8),(t+10)] [] [] [] [],_,_,trivial,rfl,rfl,hA,hF,fun a h=>h,ae (by show b≤b+2;omega) (ae (by show b≤b+1;omega) (ae (by show b≤b+4;omega) (ao (by show b≤b+5;omega))))⟩
noncomputable def en1:Rs :=
ca (dX [1,5,3,9,13,0]) (dk b (b+6)) ⟨832,17,832,23⟩ [(b,d3w w t (rf la) (t+1) (nv x σ) (t+11) (rf (b+2))),(b+2,af (b+1)),(b+1,ac w (t+4) (t+6) (t+8) (t+10) (b+4) (b+5) .none),(b+4,ab #[] 0),(b+6,ad la 0),(la,ab vs m)] (b+7) (t+12) tb gl fun b1 t1 ak =>
cF (.ok (.ret (rf (b+2)))) [(la,ab vs m),(b+2,af (b+1)),(b+1,ac w (t+4) (t+6) (t+8) (t+10) (b+4) (b+5) (nv x σ)),(b+4,ab vs (ak.n 1)),(b+5,ab #[] 0)] b1 (t1+2) tb gl
theorem en1':aZ w (gK la (nv x σ)) ie [(la,ab vs m)] b t tb gl [0,5,3,9,11] 5 [K27,K52] [2] [] [7] (@en1 b t la m x σ tb vs gl w):=by revert w;refine @bs _ ?_ ?_<;>intro w<;>kernel_rfl
theorem iO (h4:Ws.length≤4) (hst:aD vs Ws):HB w (cJ w req (nv x σ)) (gK la (nv x σ)) ie [(la,ab vs m)] b t tb gl:=by
  refine qH en1' rfl fun s hs Ξ ar=>?_
  refine gH rfl (jb h4 hst) fun b1 t1 ak _ _ _ _=>?_
  exact gD rfl ar fun s' hA hF=>⟨bf [b+2,b+1,b+4,b+5,ak.n 1,0,0,0,0,0,(t+4),(t+6),(t+8),(t+10)] [] [] [] [],_,_,trivial,rfl,rfl,hA,hF,fun a h=>h,ae (by show b≤b+2;omega) (ae (by show b≤b+1;omega) (ae (by show b≤b+4;omega) (ao (by show b≤b+5;omega))))⟩
end
end
section
open PySem PySem.W PySem.W.X
section
variable {la lx Sf nx gx rx io τ d b t ν p π c:Nat} {κ:Nat→Nat} {B:Str} {vs:Array Value} {gl:List GenState} {w:World} {req:List Nat}
noncomputable def seg_rdm:Rs :=
aO (a9 [] fun ys=>.int (.ofNat (B.cps.size)) (ys.n 0)) (cB "len" [.str B ν]) [] (b+3) (t+15) vs gl fun b1 t1 ak =>
.nF (a9 [7] fun ys=>.str ⟨#[c]⟩ (ys.n 0)) (cB "str.__getitem__" [.str B ν,rf b1]) [(b1,fO "slice" [nv p π,nv (p+1) (t1+3),.none])] (b1+1) (t1+8) (cb vs) gl [(.bool (decide (Int.ofNat (p+1) < Int.ofNat (B.cps.size))),.bool true),(.bool (decide (Int.ofNat (B.cps.size)≤Int.ofNat p)),.bool false)] [] fun b2 t2 aw =>
cF (.ok (.ret (.str (Str.mk #[c]) (t2+4)))) [(io,⟨rf 646,some d,.plain,#[]⟩),(d,cf w (κ 0) (.str (Str.mk #[10]) 825) (κ 1) (.str B ν) (κ 2) (nv (p+1) (t1+3)))] (b2+1) (t2+5) vs gl
theorem lW:aZ w (aK la lx Sf nx gx rx io τ) iA [(io,dj d),(d,bU w κ B ν p π)] b t vs gl [0,2] 6 [K28,0x121113101,0x121611171,0x121113210007018021320202307010201802111310119111,0x13ec998819019019019] [5,4,4,17] [(1,.rw (cS (.bool false))),(0,.rw (cS (.bool true)))] [3,4] (@seg_rdm io d b t ν p π c κ B vs gl w):=by revert w;refine @bs _ ?_ ?_<;>intro w<;>kernel_rfl
noncomputable def seg_rdl:Rs :=
aO (a9 [] fun ys=>.int (.ofNat (p+1)) (ys.n 0)) (cB "len" [.str B ν]) [] (b+3) (t+15) vs gl fun b1 t1 ak =>
.nF (a9 [7] fun ys=>.str ⟨#[c]⟩ (ys.n 0)) (cB "str.__getitem__" [.str B ν,rf b1]) [(b1,fO "slice" [nv p π,nv (p+1) (ak.n 0),.none])] (b1+1) (t1+6) (cb vs) gl [(.bool (decide (Int.ofNat (p+1) < Int.ofNat (p+1))),.bool false),(.bool (decide (Int.ofNat (p+1)≤Int.ofNat p)),.bool false)] [] fun b2 t2 aw =>
cF (.ok (.ret (.str (Str.mk #[c]) (t2+4)))) [(io,⟨rf 646,some d,.plain,#[]⟩),(d,cf w (κ 0) (.str (Str.mk #[10]) 825) (κ 1) (.str B ν) (κ 2) (nv (p+1) (ak.n 0)))] (b2+1) (t2+5) vs gl
theorem lX:aZ w (aK la lx Sf nx gx rx io τ) iA [(io,dj d),(d,bU w κ B ν p π)] b t vs gl [0,2] 6 [K28,0x121113101,0x121611171,0x121113210007018021320202307010201802111,0x13ec998819019019019] [5,4,4,17] [(1,.rw (cS (.bool false))),(0,.rw (cS (.bool false)))] [3,4] (@seg_rdl io d b t ν p π c κ B vs gl w):=by revert w;refine @bs _ ?_ ?_<;>intro w<;>kernel_rfl
noncomputable def seg_rde:Rs :=
aO (a9 [] fun ys=>.int (.ofNat p) (ys.n 0)) (cB "len" [.str B ν]) [] (b+3) (t+15) vs gl fun b1 t1 ak =>
.nD (.ok (.ret (sv "" (t1+1)))) [(io,⟨rf 646,some d,.plain,#[]⟩),(d,cf w (κ 0) (.str (Str.mk #[10]) 825) (κ 1) (.str B ν) (κ 2) (nv p π))] b1 (t1+2) (cb vs) gl [(.bool (decide (Int.ofNat p≤Int.ofNat p)),.bool true)] []
theorem lY:aZ w (aK la lx Sf nx gx rx io τ) iA [(io,dj d),(d,bU w κ B ν p π)] b t vs gl [0,2] 6 [K28,0x121113101] [5,99999] [(1,.rw (cS (.bool true)))] [3] (@seg_rde io d b t ν p π κ B vs gl w):=by revert w;refine @bs _ ?_ ?_<;>intro w<;>kernel_rfl
theorem aM (hB:B.cps.size≤2 ^ 20) (hc:B.cps[p]?=some c):HB w (aW req p c) (aK la lx Sf nx gx rx io τ) iA [(io,dj d),(d,bU w κ B ν p π)] b t vs gl:=by
  have hp:p < B.cps.size:=by
    rcases Nat.lt_or_ge p B.cps.size with h | h
    · exact h
    · rw [Array.getElem?_eq_none h] at hc;cases hc
  have e1:decide (Int.ofNat B.cps.size≤Int.ofNat p)=false:=decide_eq_false (by simp only [Int.ofNat_eq_natCast];omega)
  rcases Nat.lt_or_ge (p+1) B.cps.size with h | h
  · have e2:decide (Int.ofNat (p+1) < Int.ofNat B.cps.size)=true:=decide_eq_true (by simp only [Int.ofNat_eq_natCast];omega)
    refine qH (lW (κ:=κ) (c:=c)) rfl fun s _ Ξ ar=>?_
    refine gF rfl (jH hB rfl) fun b1 t1 ak hb1 ht1 _ _=>?_
    refine dJ rfl (j6 (by show Value.bool _ = .bool _;rw [e2]) (by show Value.bool _ = .bool _;rw [e1])) ag (gE hc) fun b2 t2 aw hb2 ht2 _ _=>?_
    refine gD rfl ar fun s' hA hF=>?_
    exact ⟨dz fun n=>[t2+4,t1+3].getD n 0,b2+1,t2+5,trivial,rfl,rfl,hA,hF,fun a h=>h,ag⟩
  · have hn:B.cps.size=p+1:=by omega
    refine qH (lX (κ:=κ) (c:=c)) rfl fun s _ Ξ ar=>?_
    refine gF rfl (jH hB hn) fun b1 t1 ak hb1 ht1 _ _=>?_
    refine dJ rfl (j6 (by show Value.bool _ = .bool _;simp) (by show Value.bool _ = .bool _;rw [← hn,e1])) ag (gE hc) fun b2 t2 aw hb2 ht2 _ _=>?_
    refine gD rfl ar fun s' hA hF=>?_
    exact ⟨dz fun n=>[t2+4,ak.n 0].getD n 0,b2+1,t2+5,trivial,rfl,rfl,hA,hF,fun a h=>h,ag⟩
theorem eW (hB:B.cps.size≤2 ^ 20) (hn:B.cps.size=p):HB w (fC req) (aK la lx Sf nx gx rx io τ) iA [(io,dj d),(d,bU w κ B ν p π)] b t vs gl:=by
  refine qH (lY (κ:=κ)) rfl fun s _ Ξ ar=>?_
  refine gF rfl (jH hB hn) fun b1 t1 ak hb1 ht1 _ _=>?_
  refine gDx rfl ar (ao (by show Value.bool _ = .bool _;simp)) ag fun s' hA hF=>?_
  exact ⟨dz fun n=>t1+1,_,_,trivial,rfl,rfl,hA,hF,fun a h=>h,ag⟩
end
section
variable {la lx Sf dl io d q1 q2 b t σ ρ ν p π:Nat} {κ ι:Nat→Nat} {B:Str} {vs:Array Value} {gl:List GenState} {w:World} {req:List Nat}
noncomputable def lP:Rs :=
ca (aW [4,6] p 97) (aK la lx Sf b (b+1) (b+2) io (t+15)) ⟨623,27,623,48⟩ [(io,⟨rf 646,some d,.plain,#[]⟩),(d,cf w (ι 0) (.str (Str.mk #[10]) 825) (ι 1) (.str B ν) (ι 2) (nv p π))] (b+4) (t+16) vs gl fun b1 t1 ak =>
ca (aW [4,6] (p+1) 32) (aK la lx Sf b (b+1) (b+2) io (t1+25)) ⟨623,27,623,48⟩ [(io,⟨rf 646,some d,.plain,#[]⟩),(d,cf w (ι 0) (.str (Str.mk #[10]) 825) (ι 1) (.str B ν) (ι 2) (nv (p+1) (ak.n 1)))] (b1+1) (t1+26) vs gl fun b2 t2 aw =>
aO (a9 [11] fun _=>.bool true) (cB "tuple.__contains__" [rf b2,sv "a" (t1+16)]) [(b2,sO "tuple" [sv "a" (t2+12),sv "c" (t2+13)] 0)] (b2+1) (t2+14) vs gl fun b3 t3 aL =>
cF (.ok (.ret (sv "a" (ak.n 0)))) [(lx,⟨rf 781,some dl,.plain,#[]⟩),(dl,f2 w (κ 0) (rf io) (κ 1) .none (κ 2) (.bool true) (κ 3) .none (κ 4) (sv "" (κ 20)) (κ 5) (.str (Str.mk #[97,98,99,100,102,101,103,104,105,106,107,108,109,110,111,112,113,114,115,116,117,118,119,120,121,122,65,66,67,68,69,70,71,72,73,74,75,76,77,78,79,80,81,82,83,84,85,86,87,88,89,90,48,49,50,51,52,53,54,55,56,57,95,223,224,225,226,227,228,229,230,231,232,233,234,235,236,237,238,239,240,241,242,243,244,245,246,248,249,250,251,252,253,254,255,192,193,194,195,196,197,198,199,200,201,202,203,204,205,206,207,208,209,210,211,212,213,214,216,217,218,219,220,221,222]) (κ 21)) (κ 6) (.str (Str.mk #[32,9,13,10]) (κ 22)) (κ 7) (.bool true) (κ 8) (.str (Str.mk #[39,34]) (κ 23)) (κ 9) (.str (Str.mk #[92]) (κ 24)) (κ 10) (.str (Str.mk #[34]) (κ 25)) (κ 11) (sv " " (t3+5)) (κ 12) (rf q1) (κ 13) (.int 1 (κ 26)) (κ 14) (.int 0 (κ 27)) (κ 15) (sv "" (t3+13)) (κ 16) (rf q2) (κ 17) .none (κ 18) (sv "" (κ 28))),(io,⟨rf 646,some d,.plain,#[]⟩),(d,cf w (ι 0) (.str (Str.mk #[10]) 825) (ι 1) (.str B ν) (ι 2) (nv (p+2) (aw.n 1))),(q1,fO "collections.deque" [.none,.int 0 0]),(q2,fO "collections.deque" [.none,.int 0 0])] b3 (t3+27) vs gl
noncomputable abbrev iz (B:Str) (d dl io lx p q1 q2 ν π ρ σ:Nat) (w:World) (ι κ:Nat→Nat):ax :=
  [(lx,eB dl),(dl,cQ w κ io q1 q2 (.str ⟨#[32]⟩ σ) ρ),(io,dj d),(d,bU w ι B ν p π),(q1,cr),(q2,cr)]
theorem kO:aZ w (aS la lx Sf) cL (iz B d dl io lx p q1 q2 ν π ρ σ w ι κ) b t vs gl [0,2,4,6,8,10] 5 [K18,K2,K21,0x13ec998811f21000304021113101631a210003040232821000304023136210003040233303651a210003040251852542100030402532020230301020402545056210003040251f210003040253202023030102040251b210003040251821000304025151b5] [5,5,2] [] [4,5,6] (@lP la lx Sf dl io d q1 q2 b t ν p π κ ι B vs gl w):=by revert w;refine @bs _ ?_ ?_<;>intro w<;>kernel_rfl
theorem tok_0s (hB:B.cps.size≤2 ^ 20) (h0:B.cps[p+0]?=some 97) (h1:B.cps[p+1]?=some 32):HB w (cR req (Wd 0) (p+2) lb) (aS la lx Sf) cL (iz B d dl io lx p q1 q2 ν π ρ σ w ι κ) b t vs gl:=by
  refine qH (kO (κ:=κ) (ι:=ι)) rfl fun s _ Ξ ar=>?_
  refine gH rfl (aM hB h0) fun b1 t1 ak hb1 ht1 _ _=>?_
  refine gH rfl (aM hB h1) fun b2 t2 aw hb2 ht2 _ _=>?_
  refine gF rfl (cI (.cons _ _ (.cons _ _ .nil)) rfl) fun b3 t3 aL hb3 ht3 _ _=>?_
  exact gD rfl ar fun s' hA hF=>⟨dz fun n=>[(ak.n 0),(t3+13),(aw.n 1),(t3+5)].getD n 0,_,_,trivial,rfl,rfl,hA,hF,fun a h=>h,ag⟩
noncomputable def lQ:Rs :=
ca (aW [4,6] p 97) (aK la lx Sf b (b+1) (b+2) io (t+15)) ⟨623,27,623,48⟩ [(io,⟨rf 646,some d,.plain,#[]⟩),(d,cf w (ι 0) (.str (Str.mk #[10]) 825) (ι 1) (.str B ν) (ι 2) (nv p π))] (b+4) (t+16) vs gl fun b1 t1 ak =>
ca (fC [4,6]) (aK la lx Sf b (b+1) (b+2) io (t1+25)) ⟨623,27,623,48⟩ [(io,⟨rf 646,some d,.plain,#[]⟩),(d,cf w (ι 0) (.str (Str.mk #[10]) 825) (ι 1) (.str B ν) (ι 2) (nv (p+1) (ak.n 1)))] (b1+1) (t1+26) vs gl fun b2 t2 aw =>
aO (a9 [11] fun _=>.bool true) (cB "tuple.__contains__" [rf b2,sv "a" (t1+16)]) [(b2,sO "tuple" [sv "a" (t2+12),sv "c" (t2+13)] 0)] (b2+1) (t2+14) vs gl fun b3 t3 aL =>
cF (.ok (.ret (sv "a" (ak.n 0)))) [(lx,⟨rf 781,some dl,.plain,#[]⟩),(dl,f2 w (κ 0) (rf io) (κ 1) .none (κ 2) (.bool true) (κ 3) .none (κ 4) (sv "" (κ 20)) (κ 5) (.str fM (κ 21)) (κ 6) (.str (Str.mk #[32,9,13,10]) (κ 22)) (κ 7) (.bool true) (κ 8) (.str (Str.mk #[39,34]) (κ 23)) (κ 9) (.str (Str.mk #[92]) (κ 24)) (κ 10) (.str (Str.mk #[34]) (κ 25)) (κ 11) .none (κ 12) (rf q1) (κ 13) (.int 1 (κ 26)) (κ 14) (.int 0 (κ 27)) (κ 15) (sv "" (t3+6)) (κ 16) (rf q2) (κ 17) .none (κ 18) (sv "" (κ 28))),(io,⟨rf 646,some d,.plain,#[]⟩),(d,cf w (ι 0) (.str (Str.mk #[10]) 825) (ι 1) (.str B ν) (ι 2) (nv (p+1) (ak.n 1))),(q1,fO "collections.deque" [.none,.int 0 0]),(q2,fO "collections.deque" [.none,.int 0 0])] b3 (t3+20) vs gl
theorem kP:aZ w (aS la lx Sf) cL (iz B d dl io lx p q1 q2 ν π ρ σ w ι κ) b t vs gl [0,2,4,6,8,10] 5 [K18,K2,K21,0x13ec998811f21000304021113101631a210003040232821000304023136210003040233303651a210003040251852542100030402532020230301020402545056210003040255202023030102040251b5] [5,5,2] [] [4,5,6] (@lQ la lx Sf dl io d q1 q2 b t ν p π κ ι B vs gl w):=by revert w;refine @bs _ ?_ ?_<;>intro w<;>kernel_rfl
theorem tok_0e (hB:B.cps.size≤2 ^ 20) (h0:B.cps[p+0]?=some 97) (he:B.cps.size=p+1):HB w (cR req (Wd 0) (p+1) stN) (aS la lx Sf) cL (iz B d dl io lx p q1 q2 ν π ρ σ w ι κ) b t vs gl:=by
  refine qH (kP (κ:=κ) (ι:=ι)) rfl fun s _ Ξ ar=>?_
  refine gH rfl (aM hB h0) fun b1 t1 ak hb1 ht1 _ _=>?_
  refine gH rfl (eW hB he) fun b2 t2 aw hb2 ht2 _ _=>?_
  refine gF rfl (cI (.cons _ _ (.cons _ _ .nil)) rfl) fun b3 t3 aL hb3 ht3 _ _=>?_
  exact gD rfl ar fun s' hA hF=>⟨dz fun n=>[(ak.n 0),(t3+6),(ak.n 1),0].getD n 0,_,_,trivial,rfl,rfl,hA,hF,fun a h=>h,ag⟩
noncomputable def lN:Rs :=
ca (aW [4,6] p 39) (aK la lx Sf b (b+1) (b+2) io (t+15)) ⟨623,27,623,48⟩ [(io,⟨rf 646,some d,.plain,#[]⟩),(d,cf w (ι 0) (.str (Str.mk #[10]) 825) (ι 1) (.str B ν) (ι 2) (nv p π))] (b+4) (t+16) vs gl fun b1 t1 ak =>
ca (aW [4,6] (p+1) 65) (aK la lx Sf b (b+1) (b+2) io (t1+27)) ⟨623,27,623,48⟩ [(io,⟨rf 646,some d,.plain,#[]⟩),(d,cf w (ι 0) (.str (Str.mk #[10]) 825) (ι 1) (.str B ν) (ι 2) (nv (p+1) (ak.n 1)))] (b1+2) (t1+28) vs gl fun b2 t2 aw =>
ca (aW [4,6] (p+2) 32) (aK la lx Sf b (b+1) (b+2) io (t2+24)) ⟨623,27,623,48⟩ [(io,⟨rf 646,some d,.plain,#[]⟩),(d,cf w (ι 0) (.str (Str.mk #[10]) 825) (ι 1) (.str B ν) (ι 2) (nv (p+2) (aw.n 1)))] (b2+1) (t2+25) vs gl fun b3 t3 aL =>
ca (aW [4,6] (p+3) 98) (aK la lx Sf b (b+1) (b+2) io (t3+25)) ⟨623,27,623,48⟩ [(io,⟨rf 646,some d,.plain,#[]⟩),(d,cf w (ι 0) (.str (Str.mk #[10]) 825) (ι 1) (.str B ν) (ι 2) (nv (p+3) (aL.n 1)))] (b3+1) (t3+26) vs gl fun b4 t4 aG =>
ca (aW [4,6] (p+4) 39) (aK la lx Sf b (b+1) (b+2) io (t4+25)) ⟨623,27,623,48⟩ [(io,⟨rf 646,some d,.plain,#[]⟩),(d,cf w (ι 0) (.str (Str.mk #[10]) 825) (ι 1) (.str B ν) (ι 2) (nv (p+4) (aG.n 1)))] (b4+1) (t4+26) vs gl fun b5 t5 bx =>
ca (aW [4,6] (p+5) 32) (aK la lx Sf b (b+1) (b+2) io (t5+23)) ⟨623,27,623,48⟩ [(io,⟨rf 646,some d,.plain,#[]⟩),(d,cf w (ι 0) (.str (Str.mk #[10]) 825) (ι 1) (.str B ν) (ι 2) (nv (p+5) (bx.n 1)))] (b5+1) (t5+24) vs gl fun b6 t6 bo =>
aO (a9 [21] fun _=>.bool true) (cB "tuple.__contains__" [rf b6,sv "a" (t5+14)]) [(b6,sO "tuple" [sv "a" (t6+12),sv "c" (t6+13)] 0)] (b6+1) (t6+14) vs gl fun b7 t7 e6 =>
cF (.ok (.ret (sv "A b" (t4+16)))) [(lx,⟨rf 781,some dl,.plain,#[]⟩),(dl,f2 w (κ 0) (rf io) (κ 1) .none (κ 2) (.bool true) (κ 3) .none (κ 4) (sv "" (κ 20)) (κ 5) (.str fM (κ 21)) (κ 6) (.str (Str.mk #[32,9,13,10]) (κ 22)) (κ 7) (.bool true) (κ 8) (.str (Str.mk #[39,34]) (κ 23)) (κ 9) (.str (Str.mk #[92]) (κ 24)) (κ 10) (.str (Str.mk #[34]) (κ 25)) (κ 11) (sv " " (t7+5)) (κ 12) (rf q1) (κ 13) (.int 1 (κ 26)) (κ 14) (.int 0 (κ 27)) (κ 15) (sv "" (t7+13)) (κ 16) (rf q2) (κ 17) .none (κ 18) (sv "" (κ 28))),(io,⟨rf 646,some d,.plain,#[]⟩),(d,cf w (ι 0) (.str (Str.mk #[10]) 825) (ι 1) (.str B ν) (ι 2) (nv (p+6) (bo.n 1))),(q1,fO "collections.deque" [.none,.int 0 0]),(q2,fO "collections.deque" [.none,.int 0 0])] b7 (t7+26) vs gl
theorem kM:aZ w (aS la lx Sf) cL (iz B d dl io lx p q1 q2 ν π ρ σ w ι κ) b t vs gl [0,2,4,6,8,10] 5 [K18,K1,K3,K4,K5,K9,K22,K7] [5,5,5,5,5,5,2] [] [4,6,7,8,9,10,11] (@lN la lx Sf dl io d q1 q2 b t ν p π κ ι B vs gl w):=by revert w;refine @bs _ ?_ ?_<;>intro w<;>kernel_rfl
theorem tok_1s (hB:B.cps.size≤2 ^ 20) (h0:B.cps[p+0]?=some 39) (h1:B.cps[p+1]?=some 65) (h2:B.cps[p+2]?=some 32) (h3:B.cps[p+3]?=some 98) (h4:B.cps[p+4]?=some 39) (h5:B.cps[p+5]?=some 32):HB w (cR req (Wd 1) (p+6) lb) (aS la lx Sf) cL (iz B d dl io lx p q1 q2 ν π ρ σ w ι κ) b t vs gl:=by
  refine qH (kM (κ:=κ) (ι:=ι)) rfl fun s _ Ξ ar=>?_
  refine gH rfl (aM hB h0) fun b1 t1 ak hb1 ht1 _ _=>?_
  refine gH rfl (aM hB h1) fun b2 t2 aw hb2 ht2 _ _=>?_
  refine gH rfl (aM hB h2) fun b3 t3 aL hb3 ht3 _ _=>?_
  refine gH rfl (aM hB h3) fun b4 t4 aG hb4 ht4 _ _=>?_
  refine gH rfl (aM hB h4) fun b5 t5 bx hb5 ht5 _ _=>?_
  refine gH rfl (aM hB h5) fun b6 t6 bo hb6 ht6 _ _=>?_
  refine gF rfl (cI (.cons _ _ (.cons _ _ .nil)) rfl) fun b7 t7 e6 hb7 ht7 _ _=>?_
  exact gD rfl ar fun s' hA hF=>⟨dz fun n=>[(t4+16),(t7+13),(bo.n 1),(t7+5)].getD n 0,_,_,trivial,rfl,rfl,hA,hF,fun a h=>h,ag⟩
noncomputable def lO:Rs :=
ca (aW [4,6] p 39) (aK la lx Sf b (b+1) (b+2) io (t+15)) ⟨623,27,623,48⟩ [(io,⟨rf 646,some d,.plain,#[]⟩),(d,cf w (ι 0) (.str (Str.mk #[10]) 825) (ι 1) (.str B ν) (ι 2) (nv p π))] (b+4) (t+16) vs gl fun b1 t1 ak =>
ca (aW [4,6] (p+1) 65) (aK la lx Sf b (b+1) (b+2) io (t1+27)) ⟨623,27,623,48⟩ [(io,⟨rf 646,some d,.plain,#[]⟩),(d,cf w (ι 0) (.str (Str.mk #[10]) 825) (ι 1) (.str B ν) (ι 2) (nv (p+1) (ak.n 1)))] (b1+2) (t1+28) vs gl fun b2 t2 aw =>
ca (aW [4,6] (p+2) 32) (aK la lx Sf b (b+1) (b+2) io (t2+24)) ⟨623,27,623,48⟩ [(io,⟨rf 646,some d,.plain,#[]⟩),(d,cf w (ι 0) (.str (Str.mk #[10]) 825) (ι 1) (.str B ν) (ι 2) (nv (p+2) (aw.n 1)))] (b2+1) (t2+25) vs gl fun b3 t3 aL =>
ca (aW [4,6] (p+3) 98) (aK la lx Sf b (b+1) (b+2) io (t3+25)) ⟨623,27,623,48⟩ [(io,⟨rf 646,some d,.plain,#[]⟩),(d,cf w (ι 0) (.str (Str.mk #[10]) 825) (ι 1) (.str B ν) (ι 2) (nv (p+3) (aL.n 1)))] (b3+1) (t3+26) vs gl fun b4 t4 aG =>
ca (aW [4,6] (p+4) 39) (aK la lx Sf b (b+1) (b+2) io (t4+25)) ⟨623,27,623,48⟩ [(io,⟨rf 646,some d,.plain,#[]⟩),(d,cf w (ι 0) (.str (Str.mk #[10]) 825) (ι 1) (.str B ν) (ι 2) (nv (p+4) (aG.n 1)))] (b4+1) (t4+26) vs gl fun b5 t5 bx =>
ca (fC [4,6]) (aK la lx Sf b (b+1) (b+2) io (t5+23)) ⟨623,27,623,48⟩ [(io,⟨rf 646,some d,.plain,#[]⟩),(d,cf w (ι 0) (.str (Str.mk #[10]) 825) (ι 1) (.str B ν) (ι 2) (nv (p+5) (bx.n 1)))] (b5+1) (t5+24) vs gl fun b6 t6 bo =>
aO (a9 [21] fun _=>.bool true) (cB "tuple.__contains__" [rf b6,sv "a" (t5+14)]) [(b6,sO "tuple" [sv "a" (t6+12),sv "c" (t6+13)] 0)] (b6+1) (t6+14) vs gl fun b7 t7 e6 =>
cF (.ok (.ret (sv "A b" (t4+16)))) [(lx,⟨rf 781,some dl,.plain,#[]⟩),(dl,f2 w (κ 0) (rf io) (κ 1) .none (κ 2) (.bool true) (κ 3) .none (κ 4) (sv "" (κ 20)) (κ 5) (.str fM (κ 21)) (κ 6) (.str (Str.mk #[32,9,13,10]) (κ 22)) (κ 7) (.bool true) (κ 8) (.str (Str.mk #[39,34]) (κ 23)) (κ 9) (.str (Str.mk #[92]) (κ 24)) (κ 10) (.str (Str.mk #[34]) (κ 25)) (κ 11) .none (κ 12) (rf q1) (κ 13) (.int 1 (κ 26)) (κ 14) (.int 0 (κ 27)) (κ 15) (sv "" (t7+6)) (κ 16) (rf q2) (κ 17) .none (κ 18) (sv "" (κ 28))),(io,⟨rf 646,some d,.plain,#[]⟩),(d,cf w (ι 0) (.str (Str.mk #[10]) 825) (ι 1) (.str B ν) (ι 2) (nv (p+5) (bx.n 1))),(q1,fO "collections.deque" [.none,.int 0 0]),(q2,fO "collections.deque" [.none,.int 0 0])] b7 (t7+19) vs gl
theorem kN:aZ w (aS la lx Sf) cL (iz B d dl io lx p q1 q2 ν π ρ σ w ι κ) b t vs gl [0,2,4,6,8,10] 5 [K18,K1,K3,K4,K5,K9,K22,K15] [5,5,5,5,5,5,2] [] [4,6,7,8,9,10,11] (@lO la lx Sf dl io d q1 q2 b t ν p π κ ι B vs gl w):=by revert w;refine @bs _ ?_ ?_<;>intro w<;>kernel_rfl
theorem tok_1e (hB:B.cps.size≤2 ^ 20) (h0:B.cps[p+0]?=some 39) (h1:B.cps[p+1]?=some 65) (h2:B.cps[p+2]?=some 32) (h3:B.cps[p+3]?=some 98) (h4:B.cps[p+4]?=some 39) (he:B.cps.size=p+5):HB w (cR req (Wd 1) (p+5) stN) (aS la lx Sf) cL (iz B d dl io lx p q1 q2 ν π ρ σ w ι κ) b t vs gl:=by
  refine qH (kN (κ:=κ) (ι:=ι)) rfl fun s _ Ξ ar=>?_
  refine gH rfl (aM hB h0) fun b1 t1 ak hb1 ht1 _ _=>?_
  refine gH rfl (aM hB h1) fun b2 t2 aw hb2 ht2 _ _=>?_
  refine gH rfl (aM hB h2) fun b3 t3 aL hb3 ht3 _ _=>?_
  refine gH rfl (aM hB h3) fun b4 t4 aG hb4 ht4 _ _=>?_
  refine gH rfl (aM hB h4) fun b5 t5 bx hb5 ht5 _ _=>?_
  refine gH rfl (eW hB he) fun b6 t6 bo hb6 ht6 _ _=>?_
  refine gF rfl (cI (.cons _ _ (.cons _ _ .nil)) rfl) fun b7 t7 e6 hb7 ht7 _ _=>?_
  exact gD rfl ar fun s' hA hF=>⟨dz fun n=>[(t4+16),(t7+6),(bx.n 1),0].getD n 0,_,_,trivial,rfl,rfl,hA,hF,fun a h=>h,ag⟩
noncomputable def lL:Rs :=
ca (aW [4,6] p 39) (aK la lx Sf b (b+1) (b+2) io (t+15)) ⟨623,27,623,48⟩ [(io,⟨rf 646,some d,.plain,#[]⟩),(d,cf w (ι 0) (.str (Str.mk #[10]) 825) (ι 1) (.str B ν) (ι 2) (nv p π))] (b+4) (t+16) vs gl fun b1 t1 ak =>
ca (aW [4,6] (p+1) 39) (aK la lx Sf b (b+1) (b+2) io (t1+27)) ⟨623,27,623,48⟩ [(io,⟨rf 646,some d,.plain,#[]⟩),(d,cf w (ι 0) (.str (Str.mk #[10]) 825) (ι 1) (.str B ν) (ι 2) (nv (p+1) (ak.n 1)))] (b1+2) (t1+28) vs gl fun b2 t2 aw =>
ca (aW [4,6] (p+2) 32) (aK la lx Sf b (b+1) (b+2) io (t2+23)) ⟨623,27,623,48⟩ [(io,⟨rf 646,some d,.plain,#[]⟩),(d,cf w (ι 0) (.str (Str.mk #[10]) 825) (ι 1) (.str B ν) (ι 2) (nv (p+2) (aw.n 1)))] (b2+1) (t2+24) vs gl fun b3 t3 aL =>
aO (a9 [15] fun _=>.bool true) (cB "tuple.__contains__" [rf b3,sv "a" (t2+14)]) [(b3,sO "tuple" [sv "a" (t3+12),sv "c" (t3+13)] 0)] (b3+1) (t3+14) vs gl fun b4 t4 aG =>
cF (.ok (.ret (sv "" ρ))) [(lx,⟨rf 781,some dl,.plain,#[]⟩),(dl,f2 w (κ 0) (rf io) (κ 1) .none (κ 2) (.bool true) (κ 3) .none (κ 4) (sv "" (κ 20)) (κ 5) (.str fM (κ 21)) (κ 6) (.str (Str.mk #[32,9,13,10]) (κ 22)) (κ 7) (.bool true) (κ 8) (.str (Str.mk #[39,34]) (κ 23)) (κ 9) (.str (Str.mk #[92]) (κ 24)) (κ 10) (.str (Str.mk #[34]) (κ 25)) (κ 11) (sv " " (t4+5)) (κ 12) (rf q1) (κ 13) (.int 1 (κ 26)) (κ 14) (.int 0 (κ 27)) (κ 15) (sv "" (t4+14)) (κ 16) (rf q2) (κ 17) .none (κ 18) (sv "" (κ 28))),(io,⟨rf 646,some d,.plain,#[]⟩),(d,cf w (ι 0) (.str (Str.mk #[10]) 825) (ι 1) (.str B ν) (ι 2) (nv (p+3) (aL.n 1))),(q1,fO "collections.deque" [.none,.int 0 0]),(q2,fO "collections.deque" [.none,.int 0 0])] b4 (t4+27) vs gl
theorem kK:aZ w (aS la lx Sf) cL (iz B d dl io lx p q1 q2 ν π ρ σ w ι κ) b t vs gl [0,2,4,6,8,10] 5 [K18,K1,K10,K23,0x13ec998811f21000304021113101631a210003040232821000304023136210003040233303651a21000304025354210003040253202023030102040254505621000304025554210003040251c210003040253202023030102040251b210003040251821000304025151b5] [5,5,5,2] [] [4,6,7,8] (@lL la lx Sf dl io d q1 q2 b t ρ ν p π κ ι B vs gl w):=by revert w;refine @bs _ ?_ ?_<;>intro w<;>kernel_rfl
theorem tok_2s (hB:B.cps.size≤2 ^ 20) (h0:B.cps[p+0]?=some 39) (h1:B.cps[p+1]?=some 39) (h2:B.cps[p+2]?=some 32):HB w (cR req (Wd 2) (p+3) lb) (aS la lx Sf) cL (iz B d dl io lx p q1 q2 ν π ρ σ w ι κ) b t vs gl:=by
  refine qH (kK (κ:=κ) (ι:=ι)) rfl fun s _ Ξ ar=>?_
  refine gH rfl (aM hB h0) fun b1 t1 ak hb1 ht1 _ _=>?_
  refine gH rfl (aM hB h1) fun b2 t2 aw hb2 ht2 _ _=>?_
  refine gH rfl (aM hB h2) fun b3 t3 aL hb3 ht3 _ _=>?_
  refine gF rfl (cI (.cons _ _ (.cons _ _ .nil)) rfl) fun b4 t4 aG hb4 ht4 _ _=>?_
  exact gD rfl ar fun s' hA hF=>⟨dz fun n=>[ρ,(t4+14),(aL.n 1),(t4+5)].getD n 0,_,_,trivial,rfl,rfl,hA,hF,fun a h=>h,ag⟩
noncomputable def lM:Rs :=
ca (aW [4,6] p 39) (aK la lx Sf b (b+1) (b+2) io (t+15)) ⟨623,27,623,48⟩ [(io,⟨rf 646,some d,.plain,#[]⟩),(d,cf w (ι 0) (.str (Str.mk #[10]) 825) (ι 1) (.str B ν) (ι 2) (nv p π))] (b+4) (t+16) vs gl fun b1 t1 ak =>
ca (aW [4,6] (p+1) 39) (aK la lx Sf b (b+1) (b+2) io (t1+27)) ⟨623,27,623,48⟩ [(io,⟨rf 646,some d,.plain,#[]⟩),(d,cf w (ι 0) (.str (Str.mk #[10]) 825) (ι 1) (.str B ν) (ι 2) (nv (p+1) (ak.n 1)))] (b1+2) (t1+28) vs gl fun b2 t2 aw =>
ca (fC [4,6]) (aK la lx Sf b (b+1) (b+2) io (t2+23)) ⟨623,27,623,48⟩ [(io,⟨rf 646,some d,.plain,#[]⟩),(d,cf w (ι 0) (.str (Str.mk #[10]) 825) (ι 1) (.str B ν) (ι 2) (nv (p+2) (aw.n 1)))] (b2+1) (t2+24) vs gl fun b3 t3 aL =>
aO (a9 [15] fun _=>.bool true) (cB "tuple.__contains__" [rf b3,sv "a" (t2+14)]) [(b3,sO "tuple" [sv "a" (t3+12),sv "c" (t3+13)] 0)] (b3+1) (t3+14) vs gl fun b4 t4 aG =>
cF (.ok (.ret (sv "" ρ))) [(lx,⟨rf 781,some dl,.plain,#[]⟩),(dl,f2 w (κ 0) (rf io) (κ 1) .none (κ 2) (.bool true) (κ 3) .none (κ 4) (sv "" (κ 20)) (κ 5) (.str fM (κ 21)) (κ 6) (.str (Str.mk #[32,9,13,10]) (κ 22)) (κ 7) (.bool true) (κ 8) (.str (Str.mk #[39,34]) (κ 23)) (κ 9) (.str (Str.mk #[92]) (κ 24)) (κ 10) (.str (Str.mk #[34]) (κ 25)) (κ 11) .none (κ 12) (rf q1) (κ 13) (.int 1 (κ 26)) (κ 14) (.int 0 (κ 27)) (κ 15) (sv "" (t4+6)) (κ 16) (rf q2) (κ 17) .none (κ 18) (sv "" (κ 28))),(io,⟨rf 646,some d,.plain,#[]⟩),(d,cf w (ι 0) (.str (Str.mk #[10]) 825) (ι 1) (.str B ν) (ι 2) (nv (p+2) (aw.n 1))),(q1,fO "collections.deque" [.none,.int 0 0]),(q2,fO "collections.deque" [.none,.int 0 0])] b4 (t4+19) vs gl
theorem kL:aZ w (aS la lx Sf) cL (iz B d dl io lx p q1 q2 ν π ρ σ w ι κ) b t vs gl [0,2,4,6,8,10] 5 [K18,K1,K10,K23,K15] [5,5,5,2] [] [4,6,7,8] (@lM la lx Sf dl io d q1 q2 b t ρ ν p π κ ι B vs gl w):=by revert w;refine @bs _ ?_ ?_<;>intro w<;>kernel_rfl
theorem tok_2e (hB:B.cps.size≤2 ^ 20) (h0:B.cps[p+0]?=some 39) (h1:B.cps[p+1]?=some 39) (he:B.cps.size=p+2):HB w (cR req (Wd 2) (p+2) stN) (aS la lx Sf) cL (iz B d dl io lx p q1 q2 ν π ρ σ w ι κ) b t vs gl:=by
  refine qH (kL (κ:=κ) (ι:=ι)) rfl fun s _ Ξ ar=>?_
  refine gH rfl (aM hB h0) fun b1 t1 ak hb1 ht1 _ _=>?_
  refine gH rfl (aM hB h1) fun b2 t2 aw hb2 ht2 _ _=>?_
  refine gH rfl (eW hB he) fun b3 t3 aL hb3 ht3 _ _=>?_
  refine gF rfl (cI (.cons _ _ (.cons _ _ .nil)) rfl) fun b4 t4 aG hb4 ht4 _ _=>?_
  exact gD rfl ar fun s' hA hF=>⟨dz fun n=>[ρ,(t4+6),(aw.n 1),0].getD n 0,_,_,trivial,rfl,rfl,hA,hF,fun a h=>h,ag⟩
noncomputable def lJ:Rs :=
ca (aW [4,6] p 39) (aK la lx Sf b (b+1) (b+2) io (t+15)) ⟨623,27,623,48⟩ [(io,⟨rf 646,some d,.plain,#[]⟩),(d,cf w (ι 0) (.str (Str.mk #[10]) 825) (ι 1) (.str B ν) (ι 2) (nv p π))] (b+4) (t+16) vs gl fun b1 t1 ak =>
ca (aW [4,6] (p+1) 42) (aK la lx Sf b (b+1) (b+2) io (t1+27)) ⟨623,27,623,48⟩ [(io,⟨rf 646,some d,.plain,#[]⟩),(d,cf w (ι 0) (.str (Str.mk #[10]) 825) (ι 1) (.str B ν) (ι 2) (nv (p+1) (ak.n 1)))] (b1+2) (t1+28) vs gl fun b2 t2 aw =>
ca (aW [4,6] (p+2) 39) (aK la lx Sf b (b+1) (b+2) io (t2+24)) ⟨623,27,623,48⟩ [(io,⟨rf 646,some d,.plain,#[]⟩),(d,cf w (ι 0) (.str (Str.mk #[10]) 825) (ι 1) (.str B ν) (ι 2) (nv (p+2) (aw.n 1)))] (b2+1) (t2+25) vs gl fun b3 t3 aL =>
ca (aW [4,6] (p+3) 32) (aK la lx Sf b (b+1) (b+2) io (t3+23)) ⟨623,27,623,48⟩ [(io,⟨rf 646,some d,.plain,#[]⟩),(d,cf w (ι 0) (.str (Str.mk #[10]) 825) (ι 1) (.str B ν) (ι 2) (nv (p+3) (aL.n 1)))] (b3+1) (t3+24) vs gl fun b4 t4 aG =>
aO (a9 [17] fun _=>.bool true) (cB "tuple.__contains__" [rf b4,sv "a" (t3+14)]) [(b4,sO "tuple" [sv "a" (t4+12),sv "c" (t4+13)] 0)] (b4+1) (t4+14) vs gl fun b5 t5 bx =>
cF (.ok (.ret (sv "*" (aw.n 0)))) [(lx,⟨rf 781,some dl,.plain,#[]⟩),(dl,f2 w (κ 0) (rf io) (κ 1) .none (κ 2) (.bool true) (κ 3) .none (κ 4) (sv "" (κ 20)) (κ 5) (.str fM (κ 21)) (κ 6) (.str (Str.mk #[32,9,13,10]) (κ 22)) (κ 7) (.bool true) (κ 8) (.str (Str.mk #[39,34]) (κ 23)) (κ 9) (.str (Str.mk #[92]) (κ 24)) (κ 10) (.str (Str.mk #[34]) (κ 25)) (κ 11) (sv " " (t5+5)) (κ 12) (rf q1) (κ 13) (.int 1 (κ 26)) (κ 14) (.int 0 (κ 27)) (κ 15) (sv "" (t5+13)) (κ 16) (rf q2) (κ 17) .none (κ 18) (sv "" (κ 28))),(io,⟨rf 646,some d,.plain,#[]⟩),(d,cf w (ι 0) (.str (Str.mk #[10]) 825) (ι 1) (.str B ν) (ι 2) (nv (p+4) (aG.n 1))),(q1,fO "collections.deque" [.none,.int 0 0]),(q2,fO "collections.deque" [.none,.int 0 0])] b5 (t5+26) vs gl
theorem kI:aZ w (aS la lx Sf) cL (iz B d dl io lx p q1 q2 ν π ρ σ w ι κ) b t vs gl [0,2,4,6,8,10] 5 [K18,K1,K3,K11,K24,K7] [5,5,5,5,2] [] [4,6,7,8,9] (@lJ la lx Sf dl io d q1 q2 b t ν p π κ ι B vs gl w):=by revert w;refine @bs _ ?_ ?_<;>intro w<;>kernel_rfl
theorem tok_3s (hB:B.cps.size≤2 ^ 20) (h0:B.cps[p+0]?=some 39) (h1:B.cps[p+1]?=some 42) (h2:B.cps[p+2]?=some 39) (h3:B.cps[p+3]?=some 32):HB w (cR req (Wd 3) (p+4) lb) (aS la lx Sf) cL (iz B d dl io lx p q1 q2 ν π ρ σ w ι κ) b t vs gl:=by
  refine qH (kI (κ:=κ) (ι:=ι)) rfl fun s _ Ξ ar=>?_
  refine gH rfl (aM hB h0) fun b1 t1 ak hb1 ht1 _ _=>?_
  refine gH rfl (aM hB h1) fun b2 t2 aw hb2 ht2 _ _=>?_
  refine gH rfl (aM hB h2) fun b3 t3 aL hb3 ht3 _ _=>?_
  refine gH rfl (aM hB h3) fun b4 t4 aG hb4 ht4 _ _=>?_
  refine gF rfl (cI (.cons _ _ (.cons _ _ .nil)) rfl) fun b5 t5 bx hb5 ht5 _ _=>?_
  exact gD rfl ar fun s' hA hF=>⟨dz fun n=>[(aw.n 0),(t5+13),(aG.n 1),(t5+5)].getD n 0,_,_,trivial,rfl,rfl,hA,hF,fun a h=>h,ag⟩
noncomputable def lK:Rs :=
ca (aW [4,6] p 39) (aK la lx Sf b (b+1) (b+2) io (t+15)) ⟨623,27,623,48⟩ [(io,⟨rf 646,some d,.plain,#[]⟩),(d,cf w (ι 0) (.str (Str.mk #[10]) 825) (ι 1) (.str B ν) (ι 2) (nv p π))] (b+4) (t+16) vs gl fun b1 t1 ak =>
ca (aW [4,6] (p+1) 42) (aK la lx Sf b (b+1) (b+2) io (t1+27)) ⟨623,27,623,48⟩ [(io,⟨rf 646,some d,.plain,#[]⟩),(d,cf w (ι 0) (.str (Str.mk #[10]) 825) (ι 1) (.str B ν) (ι 2) (nv (p+1) (ak.n 1)))] (b1+2) (t1+28) vs gl fun b2 t2 aw =>
ca (aW [4,6] (p+2) 39) (aK la lx Sf b (b+1) (b+2) io (t2+24)) ⟨623,27,623,48⟩ [(io,⟨rf 646,some d,.plain,#[]⟩),(d,cf w (ι 0) (.str (Str.mk #[10]) 825) (ι 1) (.str B ν) (ι 2) (nv (p+2) (aw.n 1)))] (b2+1) (t2+25) vs gl fun b3 t3 aL =>
ca (fC [4,6]) (aK la lx Sf b (b+1) (b+2) io (t3+23)) ⟨623,27,623,48⟩ [(io,⟨rf 646,some d,.plain,#[]⟩),(d,cf w (ι 0) (.str (Str.mk #[10]) 825) (ι 1) (.str B ν) (ι 2) (nv (p+3) (aL.n 1)))] (b3+1) (t3+24) vs gl fun b4 t4 aG =>
aO (a9 [17] fun _=>.bool true) (cB "tuple.__contains__" [rf b4,sv "a" (t3+14)]) [(b4,sO "tuple" [sv "a" (t4+12),sv "c" (t4+13)] 0)] (b4+1) (t4+14) vs gl fun b5 t5 bx =>
cF (.ok (.ret (sv "*" (aw.n 0)))) [(lx,⟨rf 781,some dl,.plain,#[]⟩),(dl,f2 w (κ 0) (rf io) (κ 1) .none (κ 2) (.bool true) (κ 3) .none (κ 4) (sv "" (κ 20)) (κ 5) (.str fM (κ 21)) (κ 6) (.str (Str.mk #[32,9,13,10]) (κ 22)) (κ 7) (.bool true) (κ 8) (.str (Str.mk #[39,34]) (κ 23)) (κ 9) (.str (Str.mk #[92]) (κ 24)) (κ 10) (.str (Str.mk #[34]) (κ 25)) (κ 11) .none (κ 12) (rf q1) (κ 13) (.int 1 (κ 26)) (κ 14) (.int 0 (κ 27)) (κ 15) (sv "" (t5+6)) (κ 16) (rf q2) (κ 17) .none (κ 18) (sv "" (κ 28))),(io,⟨rf 646,some d,.plain,#[]⟩),(d,cf w (ι 0) (.str (Str.mk #[10]) 825) (ι 1) (.str B ν) (ι 2) (nv (p+3) (aL.n 1))),(q1,fO "collections.deque" [.none,.int 0 0]),(q2,fO "collections.deque" [.none,.int 0 0])] b5 (t5+19) vs gl
theorem kJ:aZ w (aS la lx Sf) cL (iz B d dl io lx p q1 q2 ν π ρ σ w ι κ) b t vs gl [0,2,4,6,8,10] 5 [K18,K1,K3,K11,K24,K15] [5,5,5,5,2] [] [4,6,7,8,9] (@lK la lx Sf dl io d q1 q2 b t ν p π κ ι B vs gl w):=by revert w;refine @bs _ ?_ ?_<;>intro w<;>kernel_rfl
theorem tok_3e (hB:B.cps.size≤2 ^ 20) (h0:B.cps[p+0]?=some 39) (h1:B.cps[p+1]?=some 42) (h2:B.cps[p+2]?=some 39) (he:B.cps.size=p+3):HB w (cR req (Wd 3) (p+3) stN) (aS la lx Sf) cL (iz B d dl io lx p q1 q2 ν π ρ σ w ι κ) b t vs gl:=by
  refine qH (kJ (κ:=κ) (ι:=ι)) rfl fun s _ Ξ ar=>?_
  refine gH rfl (aM hB h0) fun b1 t1 ak hb1 ht1 _ _=>?_
  refine gH rfl (aM hB h1) fun b2 t2 aw hb2 ht2 _ _=>?_
  refine gH rfl (aM hB h2) fun b3 t3 aL hb3 ht3 _ _=>?_
  refine gH rfl (eW hB he) fun b4 t4 aG hb4 ht4 _ _=>?_
  refine gF rfl (cI (.cons _ _ (.cons _ _ .nil)) rfl) fun b5 t5 bx hb5 ht5 _ _=>?_
  exact gD rfl ar fun s' hA hF=>⟨dz fun n=>[(aw.n 0),(t5+6),(aL.n 1),0].getD n 0,_,_,trivial,rfl,rfl,hA,hF,fun a h=>h,ag⟩
noncomputable def lH:Rs :=
ca (aW [4,6] p 39) (aK la lx Sf b (b+1) (b+2) io (t+15)) ⟨623,27,623,48⟩ [(io,⟨rf 646,some d,.plain,#[]⟩),(d,cf w (ι 0) (.str (Str.mk #[10]) 825) (ι 1) (.str B ν) (ι 2) (nv p π))] (b+4) (t+16) vs gl fun b1 t1 ak =>
ca (aW [4,6] (p+1) 98) (aK la lx Sf b (b+1) (b+2) io (t1+27)) ⟨623,27,623,48⟩ [(io,⟨rf 646,some d,.plain,#[]⟩),(d,cf w (ι 0) (.str (Str.mk #[10]) 825) (ι 1) (.str B ν) (ι 2) (nv (p+1) (ak.n 1)))] (b1+2) (t1+28) vs gl fun b2 t2 aw =>
ca (aW [4,6] (p+2) 39) (aK la lx Sf b (b+1) (b+2) io (t2+24)) ⟨623,27,623,48⟩ [(io,⟨rf 646,some d,.plain,#[]⟩),(d,cf w (ι 0) (.str (Str.mk #[10]) 825) (ι 1) (.str B ν) (ι 2) (nv (p+2) (aw.n 1)))] (b2+1) (t2+25) vs gl fun b3 t3 aL =>
ca (aW [4,6] (p+3) 34) (aK la lx Sf b (b+1) (b+2) io (t3+23)) ⟨623,27,623,48⟩ [(io,⟨rf 646,some d,.plain,#[]⟩),(d,cf w (ι 0) (.str (Str.mk #[10]) 825) (ι 1) (.str B ν) (ι 2) (nv (p+3) (aL.n 1)))] (b3+1) (t3+24) vs gl fun b4 t4 aG =>
aO (a9 [17] fun _=>.bool true) (cB "tuple.__contains__" [rf b4,sv "a" (t3+14)]) [(b4,sO "tuple" [sv "a" (t4+12),sv "c" (t4+13)] 0)] (b4+1) (t4+14) vs gl fun b5 t5 bx =>
ca (aW [4,6] (p+4) 39) (aK la lx Sf b (b+1) (b+2) io (t5+16)) ⟨623,27,623,48⟩ [(io,⟨rf 646,some d,.plain,#[]⟩),(d,cf w (ι 0) (.str (Str.mk #[10]) 825) (ι 1) (.str B ν) (ι 2) (nv (p+4) (aG.n 1)))] (b5+1) (t5+17) vs gl fun b6 t6 bo =>
ca (aW [4,6] (p+5) 34) (aK la lx Sf b (b+1) (b+2) io (t6+25)) ⟨623,27,623,48⟩ [(io,⟨rf 646,some d,.plain,#[]⟩),(d,cf w (ι 0) (.str (Str.mk #[10]) 825) (ι 1) (.str B ν) (ι 2) (nv (p+5) (bo.n 1)))] (b6+1) (t6+26) vs gl fun b7 t7 e6 =>
ca (aW [4,6] (p+6) 39) (aK la lx Sf b (b+1) (b+2) io (t7+23)) ⟨623,27,623,48⟩ [(io,⟨rf 646,some d,.plain,#[]⟩),(d,cf w (ι 0) (.str (Str.mk #[10]) 825) (ι 1) (.str B ν) (ι 2) (nv (p+6) (e6.n 1)))] (b7+1) (t7+24) vs gl fun b8 t8 bb =>
aO (a9 [25] fun _=>.bool true) (cB "tuple.__contains__" [rf b8,sv "a" (t7+14)]) [(b8,sO "tuple" [sv "a" (t8+12),sv "c" (t8+13)] 0)] (b8+1) (t8+14) vs gl fun b9 t9 ys9 =>
ca (aW [4,6] (p+7) 39) (aK la lx Sf b (b+1) (b+2) io (t9+16)) ⟨623,27,623,48⟩ [(io,⟨rf 646,some d,.plain,#[]⟩),(d,cf w (ι 0) (.str (Str.mk #[10]) 825) (ι 1) (.str B ν) (ι 2) (nv (p+7) (bb.n 1)))] (b9+1) (t9+17) vs gl fun b10 t10 ys10 =>
ca (aW [4,6] (p+8) 32) (aK la lx Sf b (b+1) (b+2) io (t10+23)) ⟨623,27,623,48⟩ [(io,⟨rf 646,some d,.plain,#[]⟩),(d,cf w (ι 0) (.str (Str.mk #[10]) 825) (ι 1) (.str B ν) (ι 2) (nv (p+8) (ys10.n 1)))] (b10+1) (t10+24) vs gl fun b11 t11 ys11 =>
aO (a9 [31] fun _=>.bool true) (cB "tuple.__contains__" [rf b11,sv "a" (t10+14)]) [(b11,sO "tuple" [sv "a" (t11+12),sv "c" (t11+13)] 0)] (b11+1) (t11+14) vs gl fun b12 t12 ys12 =>
cF (.ok (.ret (sv "b'" (t6+16)))) [(lx,⟨rf 781,some dl,.plain,#[]⟩),(dl,f2 w (κ 0) (rf io) (κ 1) .none (κ 2) (.bool true) (κ 3) .none (κ 4) (sv "" (κ 20)) (κ 5) (.str fM (κ 21)) (κ 6) (.str (Str.mk #[32,9,13,10]) (κ 22)) (κ 7) (.bool true) (κ 8) (.str (Str.mk #[39,34]) (κ 23)) (κ 9) (.str (Str.mk #[92]) (κ 24)) (κ 10) (.str (Str.mk #[34]) (κ 25)) (κ 11) (sv " " (t12+5)) (κ 12) (rf q1) (κ 13) (.int 1 (κ 26)) (κ 14) (.int 0 (κ 27)) (κ 15) (sv "" (t12+13)) (κ 16) (rf q2) (κ 17) .none (κ 18) (sv "" (κ 28))),(io,⟨rf 646,some d,.plain,#[]⟩),(d,cf w (ι 0) (.str (Str.mk #[10]) 825) (ι 1) (.str B ν) (ι 2) (nv (p+9) (ys11.n 1))),(q1,fO "collections.deque" [.none,.int 0 0]),(q2,fO "collections.deque" [.none,.int 0 0])] b12 (t12+26) vs gl
theorem kG:aZ w (aS la lx Sf) cL (iz B d dl io lx p q1 q2 ν π ρ σ w ι κ) b t vs gl [0,2,4,6,8,10] 5 [K18,K1,K3,K11,K24,K16,K6,K12,K25,K17,K13,K26,K7] [5,5,5,5,2,5,5,5,2,5,5,2] [] [4,6,7,8,9,10,11,12,13,14,15,16] (@lH la lx Sf dl io d q1 q2 b t ν p π κ ι B vs gl w):=by revert w;refine @bs _ ?_ ?_<;>intro w<;>kernel_rfl
theorem tok_4s (hB:B.cps.size≤2 ^ 20) (h0:B.cps[p+0]?=some 39) (h1:B.cps[p+1]?=some 98) (h2:B.cps[p+2]?=some 39) (h3:B.cps[p+3]?=some 34) (h4:B.cps[p+4]?=some 39) (h5:B.cps[p+5]?=some 34) (h6:B.cps[p+6]?=some 39) (h7:B.cps[p+7]?=some 39) (h8:B.cps[p+8]?=some 32):HB w (cR req (Wd 4) (p+9) lb) (aS la lx Sf) cL (iz B d dl io lx p q1 q2 ν π ρ σ w ι κ) b t vs gl:=by
  refine qH (kG (κ:=κ) (ι:=ι)) rfl fun s _ Ξ ar=>?_
  refine gH rfl (aM hB h0) fun b1 t1 ak hb1 ht1 _ _=>?_
  refine gH rfl (aM hB h1) fun b2 t2 aw hb2 ht2 _ _=>?_
  refine gH rfl (aM hB h2) fun b3 t3 aL hb3 ht3 _ _=>?_
  refine gH rfl (aM hB h3) fun b4 t4 aG hb4 ht4 _ _=>?_
  refine gF rfl (cI (.cons _ _ (.cons _ _ .nil)) rfl) fun b5 t5 bx hb5 ht5 _ _=>?_
  refine gH rfl (aM hB h4) fun b6 t6 bo hb6 ht6 _ _=>?_
  refine gH rfl (aM hB h5) fun b7 t7 e6 hb7 ht7 _ _=>?_
  refine gH rfl (aM hB h6) fun b8 t8 bb hb8 ht8 _ _=>?_
  refine gF rfl (cI (.cons _ _ (.cons _ _ .nil)) rfl) fun b9 t9 ys9 hb9 ht9 _ _=>?_
  refine gH rfl (aM hB h7) fun b10 t10 ys10 hb10 ht10 _ _=>?_
  refine gH rfl (aM hB h8) fun b11 t11 ys11 hb11 ht11 _ _=>?_
  refine gF rfl (cI (.cons _ _ (.cons _ _ .nil)) rfl) fun b12 t12 ys12 hb12 ht12 _ _=>?_
  exact gD rfl ar fun s' hA hF=>⟨dz fun n=>[(t6+16),(t12+13),(ys11.n 1),(t12+5)].getD n 0,_,_,trivial,rfl,rfl,hA,hF,fun a h=>h,ag⟩
noncomputable def lI:Rs :=
ca (aW [4,6] p 39) (aK la lx Sf b (b+1) (b+2) io (t+15)) ⟨623,27,623,48⟩ [(io,⟨rf 646,some d,.plain,#[]⟩),(d,cf w (ι 0) (.str (Str.mk #[10]) 825) (ι 1) (.str B ν) (ι 2) (nv p π))] (b+4) (t+16) vs gl fun b1 t1 ak =>
ca (aW [4,6] (p+1) 98) (aK la lx Sf b (b+1) (b+2) io (t1+27)) ⟨623,27,623,48⟩ [(io,⟨rf 646,some d,.plain,#[]⟩),(d,cf w (ι 0) (.str (Str.mk #[10]) 825) (ι 1) (.str B ν) (ι 2) (nv (p+1) (ak.n 1)))] (b1+2) (t1+28) vs gl fun b2 t2 aw =>
ca (aW [4,6] (p+2) 39) (aK la lx Sf b (b+1) (b+2) io (t2+24)) ⟨623,27,623,48⟩ [(io,⟨rf 646,some d,.plain,#[]⟩),(d,cf w (ι 0) (.str (Str.mk #[10]) 825) (ι 1) (.str B ν) (ι 2) (nv (p+2) (aw.n 1)))] (b2+1) (t2+25) vs gl fun b3 t3 aL =>
ca (aW [4,6] (p+3) 34) (aK la lx Sf b (b+1) (b+2) io (t3+23)) ⟨623,27,623,48⟩ [(io,⟨rf 646,some d,.plain,#[]⟩),(d,cf w (ι 0) (.str (Str.mk #[10]) 825) (ι 1) (.str B ν) (ι 2) (nv (p+3) (aL.n 1)))] (b3+1) (t3+24) vs gl fun b4 t4 aG =>
aO (a9 [17] fun _=>.bool true) (cB "tuple.__contains__" [rf b4,sv "a" (t3+14)]) [(b4,sO "tuple" [sv "a" (t4+12),sv "c" (t4+13)] 0)] (b4+1) (t4+14) vs gl fun b5 t5 bx =>
ca (aW [4,6] (p+4) 39) (aK la lx Sf b (b+1) (b+2) io (t5+16)) ⟨623,27,623,48⟩ [(io,⟨rf 646,some d,.plain,#[]⟩),(d,cf w (ι 0) (.str (Str.mk #[10]) 825) (ι 1) (.str B ν) (ι 2) (nv (p+4) (aG.n 1)))] (b5+1) (t5+17) vs gl fun b6 t6 bo =>
ca (aW [4,6] (p+5) 34) (aK la lx Sf b (b+1) (b+2) io (t6+25)) ⟨623,27,623,48⟩ [(io,⟨rf 646,some d,.plain,#[]⟩),(d,cf w (ι 0) (.str (Str.mk #[10]) 825) (ι 1) (.str B ν) (ι 2) (nv (p+5) (bo.n 1)))] (b6+1) (t6+26) vs gl fun b7 t7 e6 =>
ca (aW [4,6] (p+6) 39) (aK la lx Sf b (b+1) (b+2) io (t7+23)) ⟨623,27,623,48⟩ [(io,⟨rf 646,some d,.plain,#[]⟩),(d,cf w (ι 0) (.str (Str.mk #[10]) 825) (ι 1) (.str B ν) (ι 2) (nv (p+6) (e6.n 1)))] (b7+1) (t7+24) vs gl fun b8 t8 bb =>
aO (a9 [25] fun _=>.bool true) (cB "tuple.__contains__" [rf b8,sv "a" (t7+14)]) [(b8,sO "tuple" [sv "a" (t8+12),sv "c" (t8+13)] 0)] (b8+1) (t8+14) vs gl fun b9 t9 ys9 =>
ca (aW [4,6] (p+7) 39) (aK la lx Sf b (b+1) (b+2) io (t9+16)) ⟨623,27,623,48⟩ [(io,⟨rf 646,some d,.plain,#[]⟩),(d,cf w (ι 0) (.str (Str.mk #[10]) 825) (ι 1) (.str B ν) (ι 2) (nv (p+7) (bb.n 1)))] (b9+1) (t9+17) vs gl fun b10 t10 ys10 =>
ca (fC [4,6]) (aK la lx Sf b (b+1) (b+2) io (t10+23)) ⟨623,27,623,48⟩ [(io,⟨rf 646,some d,.plain,#[]⟩),(d,cf w (ι 0) (.str (Str.mk #[10]) 825) (ι 1) (.str B ν) (ι 2) (nv (p+8) (ys10.n 1)))] (b10+1) (t10+24) vs gl fun b11 t11 ys11 =>
aO (a9 [31] fun _=>.bool true) (cB "tuple.__contains__" [rf b11,sv "a" (t10+14)]) [(b11,sO "tuple" [sv "a" (t11+12),sv "c" (t11+13)] 0)] (b11+1) (t11+14) vs gl fun b12 t12 ys12 =>
cF (.ok (.ret (sv "b'" (t6+16)))) [(lx,⟨rf 781,some dl,.plain,#[]⟩),(dl,f2 w (κ 0) (rf io) (κ 1) .none (κ 2) (.bool true) (κ 3) .none (κ 4) (sv "" (κ 20)) (κ 5) (.str fM (κ 21)) (κ 6) (.str (Str.mk #[32,9,13,10]) (κ 22)) (κ 7) (.bool true) (κ 8) (.str (Str.mk #[39,34]) (κ 23)) (κ 9) (.str (Str.mk #[92]) (κ 24)) (κ 10) (.str (Str.mk #[34]) (κ 25)) (κ 11) .none (κ 12) (rf q1) (κ 13) (.int 1 (κ 26)) (κ 14) (.int 0 (κ 27)) (κ 15) (sv "" (t12+6)) (κ 16) (rf q2) (κ 17) .none (κ 18) (sv "" (κ 28))),(io,⟨rf 646,some d,.plain,#[]⟩),(d,cf w (ι 0) (.str (Str.mk #[10]) 825) (ι 1) (.str B ν) (ι 2) (nv (p+8) (ys10.n 1))),(q1,fO "collections.deque" [.none,.int 0 0]),(q2,fO "collections.deque" [.none,.int 0 0])] b12 (t12+19) vs gl
theorem kH:aZ w (aS la lx Sf) cL (iz B d dl io lx p q1 q2 ν π ρ σ w ι κ) b t vs gl [0,2,4,6,8,10] 5 [K18,K1,K3,K11,K24,K16,K6,K12,K25,K17,K13,K26,K15] [5,5,5,5,2,5,5,5,2,5,5,2] [] [4,6,7,8,9,10,11,12,13,14,15,16] (@lI la lx Sf dl io d q1 q2 b t ν p π κ ι B vs gl w):=by revert w;refine @bs _ ?_ ?_<;>intro w<;>kernel_rfl
theorem tok_4e (hB:B.cps.size≤2 ^ 20) (h0:B.cps[p+0]?=some 39) (h1:B.cps[p+1]?=some 98) (h2:B.cps[p+2]?=some 39) (h3:B.cps[p+3]?=some 34) (h4:B.cps[p+4]?=some 39) (h5:B.cps[p+5]?=some 34) (h6:B.cps[p+6]?=some 39) (h7:B.cps[p+7]?=some 39) (he:B.cps.size=p+8):HB w (cR req (Wd 4) (p+8) stN) (aS la lx Sf) cL (iz B d dl io lx p q1 q2 ν π ρ σ w ι κ) b t vs gl:=by
  refine qH (kH (κ:=κ) (ι:=ι)) rfl fun s _ Ξ ar=>?_
  refine gH rfl (aM hB h0) fun b1 t1 ak hb1 ht1 _ _=>?_
  refine gH rfl (aM hB h1) fun b2 t2 aw hb2 ht2 _ _=>?_
  refine gH rfl (aM hB h2) fun b3 t3 aL hb3 ht3 _ _=>?_
  refine gH rfl (aM hB h3) fun b4 t4 aG hb4 ht4 _ _=>?_
  refine gF rfl (cI (.cons _ _ (.cons _ _ .nil)) rfl) fun b5 t5 bx hb5 ht5 _ _=>?_
  refine gH rfl (aM hB h4) fun b6 t6 bo hb6 ht6 _ _=>?_
  refine gH rfl (aM hB h5) fun b7 t7 e6 hb7 ht7 _ _=>?_
  refine gH rfl (aM hB h6) fun b8 t8 bb hb8 ht8 _ _=>?_
  refine gF rfl (cI (.cons _ _ (.cons _ _ .nil)) rfl) fun b9 t9 ys9 hb9 ht9 _ _=>?_
  refine gH rfl (aM hB h7) fun b10 t10 ys10 hb10 ht10 _ _=>?_
  refine gH rfl (eW hB he) fun b11 t11 ys11 hb11 ht11 _ _=>?_
  refine gF rfl (cI (.cons _ _ (.cons _ _ .nil)) rfl) fun b12 t12 ys12 hb12 ht12 _ _=>?_
  exact gD rfl ar fun s' hA hF=>⟨dz fun n=>[(t6+16),(t12+6),(ys10.n 1),0].getD n 0,_,_,trivial,rfl,rfl,hA,hF,fun a h=>h,ag⟩
end
section
variable {la lx Sf dl io d q1 q2 b t σ ρ ν p π M1 M2:Nat} {κ ι:Nat→Nat} {B:Str} {vs:Array Value} {gl:List GenState} {E1 E2:Array DictEntry} {w:World} {req:List Nat}
noncomputable abbrev Zb0 (Sf la lx:Nat):List (Code×Pos) :=
  [(.builtin "list.extend.loop" ⟨[rf la,rf lx,.none],[]⟩,⟨778,11,778,20⟩),(.builtin "type.__call__" ⟨[.type "list",rf lx],[]⟩,⟨778,11,778,20⟩),(bW fc (dU Sf),⟨778,11,778,20⟩),(aH (bt (az aR) 3) (rf 882) au,⟨854,15,854,39⟩),(bW aR au,⟨847,17,847,25⟩),(aI,p0)]
noncomputable def seg_tkn:Rs :=
.nH (fC [4,6]) (aK la lx Sf b (b+1) (b+2) io (t+15)) ⟨623,27,623,48⟩ [(io,⟨rf 646,some d,.plain,#[]⟩),(d,cf w (ι 0) (.str (Str.mk #[10]) 825) (ι 1) (.str B ν) (ι 2) (nv p π))] (b+4) (t+16) (cb vs) gl [] [⟨⟨bW (cY (eu top 25) 10) (iH (cY (eu top 25) 10) (aX "shlex.__next__.<locals>.") 778 777 b []),none,none,(Zb0 Sf la lx),none⟩,⟨778,11,778,20⟩,den (bW (cY (eu top 25) 10) (iH (cY (eu top 25) 10) (aX "shlex.__next__.<locals>.") 778 777 b [])),ic (az (cY (eu top 25) 10)) (iN b),false⟩] fun b1 t1 ak =>
cF (.error (rf (b1+1))) [(lx,⟨rf 781,some dl,.plain,#[]⟩),(dl,f2 w (κ 0) (rf io) (κ 1) .none (κ 2) (.bool true) (κ 3) .none (κ 4) (sv "" (κ 20)) (κ 5) (.str fM (κ 21)) (κ 6) (.str (Str.mk #[32,9,13,10]) (κ 22)) (κ 7) (.bool true) (κ 8) (.str (Str.mk #[39,34]) (κ 23)) (κ 9) (.str (Str.mk #[92]) (κ 24)) (κ 10) (.str (Str.mk #[34]) (κ 25)) (κ 11) .none (κ 12) (rf q1) (κ 13) (.int 1 (κ 26)) (κ 14) (.int 0 (κ 27)) (κ 15) (sv "" (t1+10)) (κ 16) (rf q2) (κ 17) .none (κ 18) (sv "" (κ 28))),(io,⟨rf 646,some d,.plain,#[]⟩),(d,cf w (ι 0) (.str (Str.mk #[10]) 825) (ι 1) (.str B ν) (ι 2) (nv p π)),(q1,fO "collections.deque" [.none,.int 0 0]),(q2,fO "collections.deque" [.none,.int 0 0]),(Sf,⟨.type "frame",none,.dict E1 M1,#[some (rf 792),some (rf 3),none,some (rf 874),none,some (rf 793),some (rf 0)]⟩),(874,⟨.type "frame",none,.dict E2 M2,#[some (rf 871),some (rf 3),none,some .notImplemented,none,some (rf 872),some (rf 0),some (rf 877),some (rf 876),some (rf 875)]⟩),(b1+1,fO "StopIteration" [rf (b1+2),rf (b1+3),.none,.none,.bool false,.none])] (b1+4) (t1+27) vs gl
theorem lG:aZ w (aS la lx Sf) cL [(lx,eB dl),(dl,cQ w κ io q1 q2 (.none) ρ),(io,dj d),(d,bU w ι B ν p π),(q1,cr),(q2,cr),(Sf,⟨.type "frame",none,.dict E1 M1,#[]⟩),(874,⟨.type "frame",none,.dict E2 M2,#[]⟩)] b t vs gl [0,2,4,6,8,10,12,14,11] 5 [0x12101,K19,0x13ec99881f01f01b01b01b21e11e01c01c010111b11b41b01b21b01b01b01b01b21b01b01b31b01b11b01b2c21000304021113101192100030402371a11a11a11a01a3210003040231921000304023136210003040233303651a2100030402535051b52542100030402532020230301020402545056210003040255202023030102040256210003040251a210003040251853505] [3,5] [(0,.tree (ic (az (cY (eu top 25) 10)) (iN b)))] [4] (@seg_tkn la lx Sf dl io d q1 q2 b t ν p π M1 M2 κ ι B vs gl E1 E2 w):=by revert w;refine @bs _ ?_ ?_<;>intro w<;>kernel_rfl
theorem tok_n (hB:B.cps.size≤2 ^ 20) (he:B.cps.size=p):HB w (dQ req) (aS la lx Sf) cL [(lx,eB dl),(dl,cQ w κ io q1 q2 (.none) ρ),(io,dj d),(d,bU w ι B ν p π),(q1,cr),(q2,cr),(Sf,⟨.type "frame",none,.dict E1 M1,#[]⟩),(874,⟨.type "frame",none,.dict E2 M2,#[]⟩)] b t vs gl:=by
  refine qH (lG (κ:=κ) (ι:=ι)) rfl fun s _ Ξ ar=>?_
  refine f6 rfl ag (ao (f1 rfl)) (eW hB he) fun b1 t1 ak hb1 ht1 _ _=>?_
  exact gD rfl ar fun s' hA hF=>⟨dz fun n=>[b1+1,(t1+10),(b1+2),(b1+3)].getD n 0,_,_,trivial,rfl,rfl,hA,hF,fun a h=>h,ao (by show b≤b1+1;have:b+4≤b1:=hb1;omega)⟩
noncomputable def seg_tkz:Rs :=
.nH (fC [4,6]) (aK la lx Sf b (b+1) (b+2) io (t+15)) ⟨623,27,623,48⟩ [(io,⟨rf 646,some d,.plain,#[]⟩),(d,cf w (ι 0) (.str (Str.mk #[10]) 825) (ι 1) (.str B ν) (ι 2) (nv p π))] (b+4) (t+16) (cb vs) gl [] [⟨⟨bW (cY (eu top 25) 10) (iH (cY (eu top 25) 10) (aX "shlex.__next__.<locals>.") 778 777 b []),none,none,(Zb0 Sf la lx),none⟩,⟨778,11,778,20⟩,den (bW (cY (eu top 25) 10) (iH (cY (eu top 25) 10) (aX "shlex.__next__.<locals>.") 778 777 b [])),ic (az (cY (eu top 25) 10)) (iN b),false⟩] fun b1 t1 ak =>
cF (.error (rf (b1+1))) [(lx,⟨rf 781,some dl,.plain,#[]⟩),(dl,f2 w (κ 0) (rf io) (κ 1) .none (κ 2) (.bool true) (κ 3) .none (κ 4) (sv "" (κ 20)) (κ 5) (.str fM (κ 21)) (κ 6) (.str (Str.mk #[32,9,13,10]) (κ 22)) (κ 7) (.bool true) (κ 8) (.str (Str.mk #[39,34]) (κ 23)) (κ 9) (.str (Str.mk #[92]) (κ 24)) (κ 10) (.str (Str.mk #[34]) (κ 25)) (κ 11) .none (κ 12) (rf q1) (κ 13) (.int 1 (κ 26)) (κ 14) (.int 0 (κ 27)) (κ 15) (sv "" (t1+13)) (κ 16) (rf q2) (κ 17) .none (κ 18) (sv "" (κ 28))),(io,⟨rf 646,some d,.plain,#[]⟩),(d,cf w (ι 0) (.str (Str.mk #[10]) 825) (ι 1) (.str B ν) (ι 2) (nv p π)),(q1,fO "collections.deque" [.none,.int 0 0]),(q2,fO "collections.deque" [.none,.int 0 0]),(Sf,⟨.type "frame",none,.dict E1 M1,#[some (rf 792),some (rf 3),none,some (rf 874),none,some (rf 793),some (rf 0)]⟩),(874,⟨.type "frame",none,.dict E2 M2,#[some (rf 871),some (rf 3),none,some .notImplemented,none,some (rf 872),some (rf 0),some (rf 877),some (rf 876),some (rf 875)]⟩),(b1+1,fO "StopIteration" [rf (b1+2),rf (b1+3),.none,.none,.bool false,.none])] (b1+4) (t1+30) vs gl
theorem lE:aZ w (aS la lx Sf) cL [(lx,eB dl),(dl,cQ w κ io q1 q2 (.str ⟨#[32]⟩ σ) ρ),(io,dj d),(d,bU w ι B ν p π),(q1,cr),(q2,cr),(Sf,⟨.type "frame",none,.dict E1 M1,#[]⟩),(874,⟨.type "frame",none,.dict E2 M2,#[]⟩)] b t vs gl [0,2,4,6,8,10,12,14,11] 5 [0x12101,K19,0x13ec99881f01f01b01b01b21e11e01c01c010111b11b41b01b21b01b01b01b01b21b01b01b31b01b11b01b2c21000304021113101192100030402371a11a11a11a01a3210003040231921000304023136210003040233303651a2100030402535051b52542100030402532020230301020402545056210003040255202023030102040251b51a210003040255210003040251a210003040251853505] [3,5] [(0,.tree (ic (az (cY (eu top 25) 10)) (iN b)))] [4] (@seg_tkz la lx Sf dl io d q1 q2 b t ν p π M1 M2 κ ι B vs gl E1 E2 w):=by revert w;refine @bs _ ?_ ?_<;>intro w<;>kernel_rfl
theorem tok_z (hB:B.cps.size≤2 ^ 20) (he:B.cps.size=p):HB w (dQ req) (aS la lx Sf) cL [(lx,eB dl),(dl,cQ w κ io q1 q2 (.str ⟨#[32]⟩ σ) ρ),(io,dj d),(d,bU w ι B ν p π),(q1,cr),(q2,cr),(Sf,⟨.type "frame",none,.dict E1 M1,#[]⟩),(874,⟨.type "frame",none,.dict E2 M2,#[]⟩)] b t vs gl:=by
  refine qH (lE (κ:=κ) (ι:=ι)) rfl fun s _ Ξ ar=>?_
  refine f6 rfl ag (ao (f1 rfl)) (eW hB he) fun b1 t1 ak hb1 ht1 _ _=>?_
  exact gD rfl ar fun s' hA hF=>⟨dz fun n=>[b1+1,(t1+13),(b1+2),(b1+3)].getD n 0,_,_,trivial,rfl,rfl,hA,hF,fun a h=>h,ao (by show b≤b1+1;have:b+4≤b1:=hb1;omega)⟩
noncomputable def lF:Rs :=
.nH (fC [4,6]) (aK la lx Sf b (b+1) (b+2) io (t+15)) ⟨623,27,623,48⟩ [(io,⟨rf 646,some d,.plain,#[]⟩),(d,cf w (ι 0) (.str (Str.mk #[10]) 825) (ι 1) (.str B ν) (ι 2) (nv p π))] (b+4) (t+16) (cb vs) gl [] [⟨⟨bW (cY (eu top 25) 10) (iH (cY (eu top 25) 10) (aX "shlex.__next__.<locals>.") 778 777 b []),none,none,(Zb0 Sf la lx),none⟩,⟨778,11,778,20⟩,den (bW (cY (eu top 25) 10) (iH (cY (eu top 25) 10) (aX "shlex.__next__.<locals>.") 778 777 b [])),ic (az (cY (eu top 25) 10)) (iN b),false⟩] fun b1 t1 ak =>
cF (.error (rf (b1+1))) [(lx,⟨rf 781,some dl,.plain,#[]⟩),(dl,f2 w (κ 0) (rf io) (κ 1) .none (κ 2) (.bool true) (κ 3) .none (κ 4) (sv "" (κ 20)) (κ 5) (.str fM (κ 21)) (κ 6) (.str (Str.mk #[32,9,13,10]) (κ 22)) (κ 7) (.bool true) (κ 8) (.str (Str.mk #[39,34]) (κ 23)) (κ 9) (.str (Str.mk #[92]) (κ 24)) (κ 10) (.str (Str.mk #[34]) (κ 25)) (κ 11) .none (κ 12) (rf q1) (κ 13) (.int 1 (κ 26)) (κ 14) (.int 0 (κ 27)) (κ 15) (sv "" (t1+10)) (κ 16) (rf q2) (κ 17) .none (κ 18) (sv "" (κ 28))),(io,⟨rf 646,some d,.plain,#[]⟩),(d,cf w (ι 0) (.str (Str.mk #[10]) 825) (ι 1) (.str B ν) (ι 2) (nv p π)),(q1,fO "collections.deque" [.none,.int 0 0]),(q2,fO "collections.deque" [.none,.int 0 0]),(Sf,⟨.type "frame",none,.dict E1 M1,#[some (rf 792),some (rf 3),none,some (rf 874),none,some (rf 793),some (rf 0)]⟩),(874,⟨.type "frame",none,.dict E2 M2,#[some (rf 871),some (rf 3),none,some .notImplemented,none,some (rf 872),some (rf 0),some (rf 877),some (rf 876),some (rf 875)]⟩),(b1+1,fO "StopIteration" [rf (b1+2),rf (b1+3),.none,.none,.bool false,.none])] (b1+4) (t1+27) vs gl
theorem kF:aZ w (aS la lx Sf) cL [(lx,eB dl),(dl,cQ w κ io q1 q2 (.none) ρ),(io,dj d),(d,bU w ι B ν p π),(q1,cr),(q2,cr),(Sf,⟨.type "frame",none,.dict E1 M1,#[]⟩),(874,⟨.type "frame",none,.dict E2 M2,bp⟩)] b t vs gl [0,2,4,6,8,10,12,14,11] 5 [0x12101,K19,0x13ec99881f01f01b01b01b21e01c01c010111b11b41b01b21b01b01b01b01b21b01b01b31b01b11b01b2c21000304021113101192100030402371a11a11a11a01a3210003040231921000304023136210003040233303651a2100030402535051b52542100030402532020230301020402545056210003040255202023030102040256210003040251a210003040251853505] [3,5] [(0,.tree (ic (az (cY (eu top 25) 10)) (iN b)))] [4] (@lF la lx Sf dl io d q1 q2 b t ν p π M1 M2 κ ι B vs gl E1 E2 w):=by revert w;refine @bs _ ?_ ?_<;>intro w<;>kernel_rfl
theorem tok_n2 (hB:B.cps.size≤2 ^ 20) (he:B.cps.size=p):HB w (dQ req) (aS la lx Sf) cL [(lx,eB dl),(dl,cQ w κ io q1 q2 (.none) ρ),(io,dj d),(d,bU w ι B ν p π),(q1,cr),(q2,cr),(Sf,⟨.type "frame",none,.dict E1 M1,#[]⟩),(874,⟨.type "frame",none,.dict E2 M2,bp⟩)] b t vs gl:=by
  refine qH (kF (κ:=κ) (ι:=ι)) rfl fun s _ Ξ ar=>?_
  refine f6 rfl ag (ao (f1 rfl)) (eW hB he) fun b1 t1 ak hb1 ht1 _ _=>?_
  exact gD rfl ar fun s' hA hF=>⟨dz fun n=>[b1+1,(t1+10),(b1+2),(b1+3)].getD n 0,_,_,trivial,rfl,rfl,hA,hF,fun a h=>h,ao (by show b≤b1+1;have:b+4≤b1:=hb1;omega)⟩
noncomputable def lD:Rs :=
.nH (fC [4,6]) (aK la lx Sf b (b+1) (b+2) io (t+15)) ⟨623,27,623,48⟩ [(io,⟨rf 646,some d,.plain,#[]⟩),(d,cf w (ι 0) (.str (Str.mk #[10]) 825) (ι 1) (.str B ν) (ι 2) (nv p π))] (b+4) (t+16) (cb vs) gl [] [⟨⟨bW (cY (eu top 25) 10) (iH (cY (eu top 25) 10) (aX "shlex.__next__.<locals>.") 778 777 b []),none,none,(Zb0 Sf la lx),none⟩,⟨778,11,778,20⟩,den (bW (cY (eu top 25) 10) (iH (cY (eu top 25) 10) (aX "shlex.__next__.<locals>.") 778 777 b [])),ic (az (cY (eu top 25) 10)) (iN b),false⟩] fun b1 t1 ak =>
cF (.error (rf (b1+1))) [(lx,⟨rf 781,some dl,.plain,#[]⟩),(dl,f2 w (κ 0) (rf io) (κ 1) .none (κ 2) (.bool true) (κ 3) .none (κ 4) (sv "" (κ 20)) (κ 5) (.str fM (κ 21)) (κ 6) (.str (Str.mk #[32,9,13,10]) (κ 22)) (κ 7) (.bool true) (κ 8) (.str (Str.mk #[39,34]) (κ 23)) (κ 9) (.str (Str.mk #[92]) (κ 24)) (κ 10) (.str (Str.mk #[34]) (κ 25)) (κ 11) .none (κ 12) (rf q1) (κ 13) (.int 1 (κ 26)) (κ 14) (.int 0 (κ 27)) (κ 15) (sv "" (t1+13)) (κ 16) (rf q2) (κ 17) .none (κ 18) (sv "" (κ 28))),(io,⟨rf 646,some d,.plain,#[]⟩),(d,cf w (ι 0) (.str (Str.mk #[10]) 825) (ι 1) (.str B ν) (ι 2) (nv p π)),(q1,fO "collections.deque" [.none,.int 0 0]),(q2,fO "collections.deque" [.none,.int 0 0]),(Sf,⟨.type "frame",none,.dict E1 M1,#[some (rf 792),some (rf 3),none,some (rf 874),none,some (rf 793),some (rf 0)]⟩),(874,⟨.type "frame",none,.dict E2 M2,#[some (rf 871),some (rf 3),none,some .notImplemented,none,some (rf 872),some (rf 0),some (rf 877),some (rf 876),some (rf 875)]⟩),(b1+1,fO "StopIteration" [rf (b1+2),rf (b1+3),.none,.none,.bool false,.none])] (b1+4) (t1+30) vs gl
theorem kE:aZ w (aS la lx Sf) cL [(lx,eB dl),(dl,cQ w κ io q1 q2 (.str ⟨#[32]⟩ σ) ρ),(io,dj d),(d,bU w ι B ν p π),(q1,cr),(q2,cr),(Sf,⟨.type "frame",none,.dict E1 M1,#[]⟩),(874,⟨.type "frame",none,.dict E2 M2,bp⟩)] b t vs gl [0,2,4,6,8,10,12,14,11] 5 [0x12101,K19,0x13ec99881f01f01b01b01b21e01c01c010111b11b41b01b21b01b01b01b01b21b01b01b31b01b11b01b2c21000304021113101192100030402371a11a11a11a01a3210003040231921000304023136210003040233303651a2100030402535051b52542100030402532020230301020402545056210003040255202023030102040251b51a210003040255210003040251a210003040251853505] [3,5] [(0,.tree (ic (az (cY (eu top 25) 10)) (iN b)))] [4] (@lD la lx Sf dl io d q1 q2 b t ν p π M1 M2 κ ι B vs gl E1 E2 w):=by revert w;refine @bs _ ?_ ?_<;>intro w<;>kernel_rfl
theorem tok_z2 (hB:B.cps.size≤2 ^ 20) (he:B.cps.size=p):HB w (dQ req) (aS la lx Sf) cL [(lx,eB dl),(dl,cQ w κ io q1 q2 (.str ⟨#[32]⟩ σ) ρ),(io,dj d),(d,bU w ι B ν p π),(q1,cr),(q2,cr),(Sf,⟨.type "frame",none,.dict E1 M1,#[]⟩),(874,⟨.type "frame",none,.dict E2 M2,bp⟩)] b t vs gl:=by
  refine qH (kE (κ:=κ) (ι:=ι)) rfl fun s _ Ξ ar=>?_
  refine f6 rfl ag (ao (f1 rfl)) (eW hB he) fun b1 t1 ak hb1 ht1 _ _=>?_
  exact gD rfl ar fun s' hA hF=>⟨dz fun n=>[b1+1,(t1+13),(b1+2),(b1+3)].getD n 0,_,_,trivial,rfl,rfl,hA,hF,fun a h=>h,ao (by show b≤b1+1;have:b+4≤b1:=hb1;omega)⟩
end
section
variable {w:World} {la lx Sf dl io d q1 q2 b t σ ρ ν p π:Nat} {κ ι:Nat→Nat} {B:Str} {vs:Array Value} {gl:List GenState} {req:List Nat}
theorem ik (hB:B.cps.size≤2 ^ 20):∀ (dd:Nat),dd < 5→(∀ i c,(Qd dd)[i]?=some c→B.cps[p+i]?=some c)→B.cps[p+(Qd dd).length]?=some 32→HB w (cR req (Wd dd) (p+((Qd dd).length+1)) lb) (aS la lx Sf) cL [(lx,eB dl),(dl,cQ w κ io q1 q2 (.str ⟨#[32]⟩ σ) ρ),(io,dj d),(d,bU w ι B ν p π),(q1,cr),(q2,cr)] b t vs gl
  | 0,_,hq,he=>tok_0s hB (hq 0 97 rfl) he
  | 1,_,hq,he=>tok_1s hB (hq 0 39 rfl) (hq 1 65 rfl) (hq 2 32 rfl) (hq 3 98 rfl) (hq 4 39 rfl) he
  | 2,_,hq,he=>tok_2s hB (hq 0 39 rfl) (hq 1 39 rfl) he
  | 3,_,hq,he=>tok_3s hB (hq 0 39 rfl) (hq 1 42 rfl) (hq 2 39 rfl) he
  | 4,_,hq,he=>tok_4s hB (hq 0 39 rfl) (hq 1 98 rfl) (hq 2 39 rfl) (hq 3 34 rfl) (hq 4 39 rfl) (hq 5 34 rfl) (hq 6 39 rfl) (hq 7 39 rfl) he
  | n+5,h,_,_=>absurd h (by omega)
theorem j8 (hB:B.cps.size≤2 ^ 20):∀ (dd:Nat),dd < 5→(∀ i c,(Qd dd)[i]?=some c→B.cps[p+i]?=some c)→B.cps.size=p+(Qd dd).length→HB w (cR req (Wd dd) (p+(Qd dd).length) stN) (aS la lx Sf) cL [(lx,eB dl),(dl,cQ w κ io q1 q2 (.str ⟨#[32]⟩ σ) ρ),(io,dj d),(d,bU w ι B ν p π),(q1,cr),(q2,cr)] b t vs gl
  | 0,_,hq,he=>tok_0e hB (hq 0 97 rfl) he
  | 1,_,hq,he=>tok_1e hB (hq 0 39 rfl) (hq 1 65 rfl) (hq 2 32 rfl) (hq 3 98 rfl) (hq 4 39 rfl) he
  | 2,_,hq,he=>tok_2e hB (hq 0 39 rfl) (hq 1 39 rfl) he
  | 3,_,hq,he=>tok_3e hB (hq 0 39 rfl) (hq 1 42 rfl) (hq 2 39 rfl) he
  | 4,_,hq,he=>tok_4e hB (hq 0 39 rfl) (hq 1 98 rfl) (hq 2 39 rfl) (hq 3 34 rfl) (hq 4 39 rfl) (hq 5 34 rfl) (hq 6 39 rfl) (hq 7 39 rfl) he
  | n+5,h,_,_=>absurd h (by omega)
end
section
variable {b t ν M2 la lx Sf dl io d q1 q2 σ ρ p π M1 d0 d1 d2 d3:Nat} {J B:Str} {W:Nat→Str} {P κ ι:Nat→Nat} {E2 E1:Array DictEntry} {sl:Array (Option Value)} {vs:Array Value} {gl:List GenState} {w:World} {req:List Nat}
noncomputable def jn:List Nat→List Nat
  | []=>[]
  | [d]=>Qd d
  | d :: e :: r=>Qd d++32 :: jn (e :: r)
noncomputable def fv (req:List Nat) (Ws:List Str):Hk:=⟨req,fun _ ys=>.ok (.ret (.ref (ys.n 0))),fun pre _=>match pre with
  | [x]=>[fU bp x.2]
  | _=>[],fun _ ys=>[(ys.n 0,⟨.type "list",none,.seq (ys.a 0) (ys.n 1),#[]⟩)],fun _ _=>[],0,fun _ ys=>PyProof.Rows.StrsAre (ys.a 0).toList Ws⟩
theorem dF {J:Str} {a b c:List Nat} (h:J.cps.toList=a++b++c) {p:Nat} (hp:a.length=p):∀ k x,b[k]?=some x→J.cps[p+k]?=some x:=fun k x hx=>by
  rw [← Array.getElem?_toList,h,← hp,List.append_assoc,List.getElem?_append_right (by omega)]
  have:a.length+k - a.length=k:=by omega
  rw [this]
  obtain ⟨hk,_⟩:=List.getElem?_eq_some_iff.mp hx
  rw [List.getElem?_append_left hk]
  exact hx
noncomputable def eN (J:Str) (ν:Nat):Ctx:=ΓF.enter (aV 793 [.str J ν]) none ⟨854,15,854,39⟩
noncomputable def jI (t:Nat):Nat→Nat:=fun n=>[(t+36),(t+38),(t+40),(t+42),(t+45),(t+48),(t+57),(t+59),(t+62),(t+65),(t+68),(t+71),(t+73),(t+76),(t+79),(t+82),(t+84),(t+86),(t+90),0,(t+96),(t+52),(t+55),(t+60),(t+63),(t+66),(t+74),(t+77),(t+87)].getD n 0
noncomputable def jK (t:Nat):Nat→Nat:=fun n=>[(t+19),(t+22),(t+25)].getD n 0
theorem iE (hsl:sl = #[]∨sl=bp) (hB:B.cps.size≤2 ^ 20) (he:B.cps.size=p):HB w (dQ req) (aS la lx Sf) cL [(lx,eB dl),(dl,cQ w κ io q1 q2 (.none) ρ),(io,dj d),(d,bU w ι B ν p π),(q1,cr),(q2,cr),(Sf,⟨.type "frame",none,.dict E1 M1,#[]⟩),(874,⟨.type "frame",none,.dict E2 M2,sl⟩)] b t vs gl:=by
  rcases hsl with rfl | rfl
  · exact tok_n hB he
  · exact tok_n2 hB he
theorem tok_zz (hsl:sl = #[]∨sl=bp) (hB:B.cps.size≤2 ^ 20) (he:B.cps.size=p):HB w (dQ req) (aS la lx Sf) cL [(lx,eB dl),(dl,cQ w κ io q1 q2 (.str ⟨#[32]⟩ σ) ρ),(io,dj d),(d,bU w ι B ν p π),(q1,cr),(q2,cr),(Sf,⟨.type "frame",none,.dict E1 M1,#[]⟩),(874,⟨.type "frame",none,.dict E2 M2,sl⟩)] b t vs gl:=by
  rcases hsl with rfl | rfl
  · exact tok_z hB he
  · exact tok_z2 hB he
noncomputable abbrev Ze0:Code×Pos :=
  (aH (bt (az aR) 3) (rf 882) au,⟨854,15,854,39⟩)
noncomputable def seg_sp0:Rs :=
.nH (dQ [5,3,17,15,23,25,1,0]) (aS (b+13) (b+2) b) ⟨778,11,778,20⟩ [(b+2,⟨rf 781,some (b+1),.plain,#[]⟩),(b+1,f2 w (t+36) (rf (b+8)) (t+38) .none (t+40) (.bool true) (t+42) .none (t+45) (sv "" (t+96)) (t+48) (.str fM (t+52)) (t+57) (.str (Str.mk #[32,9,13,10]) (t+55)) (t+59) (.bool true) (t+62) (.str (Str.mk #[39,34]) (t+60)) (t+65) (.str (Str.mk #[92]) (t+63)) (t+68) (.str (Str.mk #[34]) (t+66)) (t+71) (sv " " (t+69)) (t+73) (rf (b+11)) (t+76) (.int 1 (t+74)) (t+79) (.int 0 (t+77)) (t+82) (sv "" (t+80)) (t+84) (rf (b+12)) (t+86) .none (t+90) (sv "" (t+87))),(b+8,⟨rf 646,some (b+7),.plain,#[]⟩),(b+7,cf w (t+19) (.str (Str.mk #[10]) 825) (t+22) (.str J ν) (t+25) (.int 0 (t+23))),(b+11,fO "collections.deque" [.none,.int 0 0]),(b+12,fO "collections.deque" [.none,.int 0 0]),(b,d2w w t (.str J ν) (t+1) (.bool false) (t+2) (.bool true) (t+93) (rf (b+2))),(874,⟨.type "frame",none,.dict E2 M2,sl⟩)] (b+15) (t+100) (cb vs) gl [] [⟨⟨.builtin "list.__init__" ⟨[rf (b+13),rf (b+2)],[]⟩,none,none,[(.builtin "type.__call__" ⟨[.type "list",rf (b+2)],[]⟩,⟨778,11,778,20⟩),(bW fc (dU b),⟨778,11,778,20⟩),Ze0,(bW aR au,⟨847,17,847,25⟩),(aI,p0)],none⟩,⟨778,11,778,20⟩,den (.builtin "list.__init__" ⟨[rf (b+13),rf (b+2)],[]⟩),bY (rf (b+13)) (rf (b+2)),false⟩] fun b1 t1 ak =>
cF (.ok (.ret (rf (b+13)))) [(874,⟨.type "frame",none,.dict E2 M2,#[some (rf 871),some (rf 3),none,some .notImplemented,none,some (rf 872),some (rf 0),some (rf 877),some (rf 876),some (rf 875)]⟩),(b+13,ab #[] 2)] b1 t1 vs gl
theorem lV:aZ w (ΓF.enter (aV 793 [.str J ν]) none ⟨854,15,854,39⟩) ⟨854,15,854,39⟩ [(874,⟨.type "frame",none,.dict E2 M2,sl⟩)] b t vs gl [0,27] 6 [K0,K32,K76] [0,0] [(0,.tree (bY (rf (b+13)) (rf (b+2))))] [15] (@seg_sp0 b t ν M2 J E2 sl vs gl w):=by revert w;refine @bs _ ?_ ?_<;>intro w<;>kernel_rfl
theorem split_0 (hsl:sl = #[]∨sl=bp) (hB:J.cps.size≤2 ^ 20) (hJ:J.cps.toList=jn []):HB w (fv req []) (eN J ν) ⟨854,15,854,39⟩ [(874,⟨.type "frame",none,.dict E2 M2,sl⟩)] b t vs gl:=by
  have hs:J.cps.size=(jn []).length:=by rw [← hJ];simp
  refine qH lV rfl fun s _ Ξ ar=>?_
  refine f6 rfl ag (ao (dK.eq (c3 (by show b+13≠b+2;omega)))) (tok_zz hsl (p:=0) (κ:=(jI t)) (ι:=(jK t)) hB (by rw [hs];simp [jn] <;> omega)) fun b1 t1 ak hb1 ht1 _ _=>?_
  exact gD rfl ar fun s' hA hF=>⟨⟨fun n=>[b+13,2].getD n 0,fun _=>.none,fun _=>⟨[]⟩,fun _=>⟨#[]⟩,fun _=>.plain⟩,_,_,.nil,rfl,rfl,hA,hF,fun a h=>h,ao (by show b≤b+13;omega)⟩
noncomputable def seg_sp1:Rs :=
.nH (cR [5,3,17,15,23,25] (W 0) (P 0) stN) (aS (b+13) (b+2) b) ⟨778,11,778,20⟩ [(b+2,⟨rf 781,some (b+1),.plain,#[]⟩),(b+1,f2 w (t+36) (rf (b+8)) (t+38) .none (t+40) (.bool true) (t+42) .none (t+45) (sv "" (t+96)) (t+48) (.str fM (t+52)) (t+57) (.str (Str.mk #[32,9,13,10]) (t+55)) (t+59) (.bool true) (t+62) (.str (Str.mk #[39,34]) (t+60)) (t+65) (.str (Str.mk #[92]) (t+63)) (t+68) (.str (Str.mk #[34]) (t+66)) (t+71) (sv " " (t+69)) (t+73) (rf (b+11)) (t+76) (.int 1 (t+74)) (t+79) (.int 0 (t+77)) (t+82) (sv "" (t+80)) (t+84) (rf (b+12)) (t+86) .none (t+90) (sv "" (t+87))),(b+8,⟨rf 646,some (b+7),.plain,#[]⟩),(b+7,cf w (t+19) (.str (Str.mk #[10]) 825) (t+22) (.str J ν) (t+25) (.int 0 (t+23))),(b+11,fO "collections.deque" [.none,.int 0 0]),(b+12,fO "collections.deque" [.none,.int 0 0])] (b+15) (t+100) (cb vs) gl [] [⟨⟨.builtin "list.__init__" ⟨[rf (b+13),rf (b+2)],[]⟩,none,none,[(.builtin "type.__call__" ⟨[.type "list",rf (b+2)],[]⟩,⟨778,11,778,20⟩),(bW fc (dU b),⟨778,11,778,20⟩),Ze0,(bW aR au,⟨847,17,847,25⟩),(aI,p0)],none⟩,⟨778,11,778,20⟩,den (.builtin "list.__init__" ⟨[rf (b+13),rf (b+2)],[]⟩),bY (rf (b+13)) (rf (b+2)),false⟩] fun b1 t1 ak =>
ca (dQ [5,3,17,15,23,25,1,0]) (aS (b+13) (b+2) b) ⟨778,11,778,20⟩ [(b+2,⟨rf 781,some (b+1),.plain,#[]⟩),(b+1,f2 w (t+36) (rf (b+8)) (t+38) .none (t+40) (.bool true) (t+42) .none (t+45) (sv "" (t+96)) (t+48) (.str fM (t+52)) (t+57) (.str (Str.mk #[32,9,13,10]) (t+55)) (t+59) (.bool true) (t+62) (.str (Str.mk #[39,34]) (t+60)) (t+65) (.str (Str.mk #[92]) (t+63)) (t+68) (.str (Str.mk #[34]) (t+66)) (t+71) .none (t+73) (rf (b+11)) (t+76) (.int 1 (t+74)) (t+79) (.int 0 (t+77)) (t+82) (sv "" (ak.n 1)) (t+84) (rf (b+12)) (t+86) .none (t+90) (sv "" (t+87))),(b+8,⟨rf 646,some (b+7),.plain,#[]⟩),(b+7,cf w (t+19) (.str (Str.mk #[10]) 825) (t+22) (.str J ν) (t+25) (nv (P 0) (ak.n 2))),(b+11,fO "collections.deque" [.none,.int 0 0]),(b+12,fO "collections.deque" [.none,.int 0 0]),(b,d2w w t (.str J ν) (t+1) (.bool false) (t+2) (.bool true) (t+93) (rf (b+2))),(874,⟨.type "frame",none,.dict E2 M2,sl⟩)] b1 t1 vs gl fun b2 t2 aw =>
cF (.ok (.ret (rf (b+13)))) [(874,⟨.type "frame",none,.dict E2 M2,#[some (rf 871),some (rf 3),none,some .notImplemented,none,some (rf 872),some (rf 0),some (rf 877),some (rf 876),some (rf 875)]⟩),(b+13,ab #[.str (W 0) (ak.n 0)] 3)] b2 t2 vs gl
theorem lU:aZ w (ΓF.enter (aV 793 [.str J ν]) none ⟨854,15,854,39⟩) ⟨854,15,854,39⟩ [(874,⟨.type "frame",none,.dict E2 M2,sl⟩)] b t vs gl [0,27] 6 [K0,K32,K73,K76] [0,0,0] [(0,.tree (bY (rf (b+13)) (rf (b+2))))] [15,15] (@seg_sp1 b t ν M2 J W P E2 sl vs gl w):=by revert w;refine @bs _ ?_ ?_<;>intro w<;>kernel_rfl
theorem split_1 (hsl:sl = #[]∨sl=bp) (g0:d0 < 5) (hB:J.cps.size≤2 ^ 20) (hJ:J.cps.toList=jn [d0]):HB w (fv req [Wd d0]) (eN J ν) ⟨854,15,854,39⟩ [(874,⟨.type "frame",none,.dict E2 M2,sl⟩)] b t vs gl:=by
  have hs:J.cps.size=(jn [d0]).length:=by rw [← hJ];simp
  refine qH (lU (W:=fun i=>Wd ([d0].getD i 0)) (P:=fun i=>[(0+(Qd d0).length)].getD i 0)) rfl fun s _ Ξ ar=>?_
  refine f6 rfl ag (ao (dK.eq (c3 (by show b+13≠b+2;omega)))) (j8 (p:=0) (κ:=(jI t)) (ι:=(jK t)) hB d0 g0 (dF (p:=0) (a:=[]) (b:=Qd d0) (c:=[]) (by rw [hJ];simp [jn]) (by simp <;> omega)) ((by rw [hs];simp [jn] <;> omega))) fun b1 t1 ak hb1 ht1 _ _=>?_
  refine gH rfl (iE hsl (p:=(0+(Qd d0).length)) (κ:=(jI t)) (ι:=(jK t)) hB (by rw [hs];simp [jn] <;> omega)) fun b2 t2 aw hb2 ht2 _ _=>?_
  exact gD rfl ar fun s' hA hF=>⟨⟨fun n=>[b+13,3].getD n 0,fun _=>.none,fun _=>⟨[.str (Wd d0) (ak.n 0)]⟩,fun _=>⟨#[]⟩,fun _=>.plain⟩,_,_,(.cons _ _ .nil),rfl,rfl,hA,hF,fun a h=>h,ao (by show b≤b+13;omega)⟩
noncomputable def seg_sp2:Rs :=
.nH (cR [5,3,17,15,23,25] (W 0) (P 0) lb) (aS (b+13) (b+2) b) ⟨778,11,778,20⟩ [(b+2,⟨rf 781,some (b+1),.plain,#[]⟩),(b+1,f2 w (t+36) (rf (b+8)) (t+38) .none (t+40) (.bool true) (t+42) .none (t+45) (sv "" (t+96)) (t+48) (.str fM (t+52)) (t+57) (.str (Str.mk #[32,9,13,10]) (t+55)) (t+59) (.bool true) (t+62) (.str (Str.mk #[39,34]) (t+60)) (t+65) (.str (Str.mk #[92]) (t+63)) (t+68) (.str (Str.mk #[34]) (t+66)) (t+71) (sv " " (t+69)) (t+73) (rf (b+11)) (t+76) (.int 1 (t+74)) (t+79) (.int 0 (t+77)) (t+82) (sv "" (t+80)) (t+84) (rf (b+12)) (t+86) .none (t+90) (sv "" (t+87))),(b+8,⟨rf 646,some (b+7),.plain,#[]⟩),(b+7,cf w (t+19) (.str (Str.mk #[10]) 825) (t+22) (.str J ν) (t+25) (.int 0 (t+23))),(b+11,fO "collections.deque" [.none,.int 0 0]),(b+12,fO "collections.deque" [.none,.int 0 0])] (b+15) (t+100) (cb vs) gl [] [⟨⟨.builtin "list.__init__" ⟨[rf (b+13),rf (b+2)],[]⟩,none,none,[(.builtin "type.__call__" ⟨[.type "list",rf (b+2)],[]⟩,⟨778,11,778,20⟩),(bW fc (dU b),⟨778,11,778,20⟩),Ze0,(bW aR au,⟨847,17,847,25⟩),(aI,p0)],none⟩,⟨778,11,778,20⟩,den (.builtin "list.__init__" ⟨[rf (b+13),rf (b+2)],[]⟩),bY (rf (b+13)) (rf (b+2)),false⟩] fun b1 t1 ak =>
ca (cR [5,3,17,15,23,25] (W 1) (P 1) stN) (aS (b+13) (b+2) b) ⟨778,11,778,20⟩ [(b+2,⟨rf 781,some (b+1),.plain,#[]⟩),(b+1,f2 w (t+36) (rf (b+8)) (t+38) .none (t+40) (.bool true) (t+42) .none (t+45) (sv "" (t+96)) (t+48) (.str fM (t+52)) (t+57) (.str (Str.mk #[32,9,13,10]) (t+55)) (t+59) (.bool true) (t+62) (.str (Str.mk #[39,34]) (t+60)) (t+65) (.str (Str.mk #[92]) (t+63)) (t+68) (.str (Str.mk #[34]) (t+66)) (t+71) (sv " " (ak.n 3)) (t+73) (rf (b+11)) (t+76) (.int 1 (t+74)) (t+79) (.int 0 (t+77)) (t+82) (sv "" (ak.n 1)) (t+84) (rf (b+12)) (t+86) .none (t+90) (sv "" (t+87))),(b+8,⟨rf 646,some (b+7),.plain,#[]⟩),(b+7,cf w (t+19) (.str (Str.mk #[10]) 825) (t+22) (.str J ν) (t+25) (nv (P 0) (ak.n 2))),(b+11,fO "collections.deque" [.none,.int 0 0]),(b+12,fO "collections.deque" [.none,.int 0 0])] b1 t1 vs gl fun b2 t2 aw =>
ca (dQ [5,3,17,15,23,25,1,0]) (aS (b+13) (b+2) b) ⟨778,11,778,20⟩ [(b+2,⟨rf 781,some (b+1),.plain,#[]⟩),(b+1,f2 w (t+36) (rf (b+8)) (t+38) .none (t+40) (.bool true) (t+42) .none (t+45) (sv "" (t+96)) (t+48) (.str fM (t+52)) (t+57) (.str (Str.mk #[32,9,13,10]) (t+55)) (t+59) (.bool true) (t+62) (.str (Str.mk #[39,34]) (t+60)) (t+65) (.str (Str.mk #[92]) (t+63)) (t+68) (.str (Str.mk #[34]) (t+66)) (t+71) .none (t+73) (rf (b+11)) (t+76) (.int 1 (t+74)) (t+79) (.int 0 (t+77)) (t+82) (sv "" (aw.n 1)) (t+84) (rf (b+12)) (t+86) .none (t+90) (sv "" (t+87))),(b+8,⟨rf 646,some (b+7),.plain,#[]⟩),(b+7,cf w (t+19) (.str (Str.mk #[10]) 825) (t+22) (.str J ν) (t+25) (nv (P 1) (aw.n 2))),(b+11,fO "collections.deque" [.none,.int 0 0]),(b+12,fO "collections.deque" [.none,.int 0 0]),(b,d2w w t (.str J ν) (t+1) (.bool false) (t+2) (.bool true) (t+93) (rf (b+2))),(874,⟨.type "frame",none,.dict E2 M2,sl⟩)] b2 t2 vs gl fun b3 t3 aL =>
cF (.ok (.ret (rf (b+13)))) [(874,⟨.type "frame",none,.dict E2 M2,#[some (rf 871),some (rf 3),none,some .notImplemented,none,some (rf 872),some (rf 0),some (rf 877),some (rf 876),some (rf 875)]⟩),(b+13,ab #[.str (W 0) (ak.n 0),.str (W 1) (aw.n 0)] 4)] b3 t3 vs gl
theorem lT:aZ w (ΓF.enter (aV 793 [.str J ν]) none ⟨854,15,854,39⟩) ⟨854,15,854,39⟩ [(874,⟨.type "frame",none,.dict E2 M2,sl⟩)] b t vs gl [0,27] 6 [K0,K32,K73,K73,K76] [0,0,0,0] [(0,.tree (bY (rf (b+13)) (rf (b+2))))] [15,15,15] (@seg_sp2 b t ν M2 J W P E2 sl vs gl w):=by revert w;refine @bs _ ?_ ?_<;>intro w<;>kernel_rfl
theorem split_2 (hsl:sl = #[]∨sl=bp) (g0:d0 < 5) (g1:d1 < 5) (hB:J.cps.size≤2 ^ 20) (hJ:J.cps.toList=jn [d0,d1]):HB w (fv req [Wd d0,Wd d1]) (eN J ν) ⟨854,15,854,39⟩ [(874,⟨.type "frame",none,.dict E2 M2,sl⟩)] b t vs gl:=by
  have hs:J.cps.size=(jn [d0,d1]).length:=by rw [← hJ];simp
  refine qH (lT (W:=fun i=>Wd ([d0,d1].getD i 0)) (P:=fun i=>[(0+((Qd d0).length+1)),((0+((Qd d0).length+1))+(Qd d1).length)].getD i 0)) rfl fun s _ Ξ ar=>?_
  refine f6 rfl ag (ao (dK.eq (c3 (by show b+13≠b+2;omega)))) (ik (p:=0) (κ:=(jI t)) (ι:=(jK t)) hB d0 g0 (dF (p:=0) (a:=[]) (b:=Qd d0) (c:=[32]++Qd d1) (by rw [hJ];simp [jn]) (by simp <;> omega)) (dF (p:=0+(Qd d0).length) (a:=[]++Qd d0) (b:=[32]) (c:=Qd d1) (by rw [hJ];simp [jn]) (by simp <;> omega) 0 32 rfl)) fun b1 t1 ak hb1 ht1 _ _=>?_
  refine gH rfl (j8 (p:=(0+((Qd d0).length+1))) (κ:=(jI t)) (ι:=(jK t)) hB d1 g1 (dF (p:=(0+((Qd d0).length+1))) (a:=(Qd d0++[32])) (b:=Qd d1) (c:=[]) (by rw [hJ];simp [jn]) (by simp <;> omega)) ((by rw [hs];simp [jn] <;> omega))) fun b2 t2 aw hb2 ht2 _ _=>?_
  refine gH rfl (iE hsl (p:=((0+((Qd d0).length+1))+(Qd d1).length)) (κ:=(jI t)) (ι:=(jK t)) hB (by rw [hs];simp [jn] <;> omega)) fun b3 t3 aL hb3 ht3 _ _=>?_
  exact gD rfl ar fun s' hA hF=>⟨⟨fun n=>[b+13,4].getD n 0,fun _=>.none,fun _=>⟨[.str (Wd d0) (ak.n 0),.str (Wd d1) (aw.n 0)]⟩,fun _=>⟨#[]⟩,fun _=>.plain⟩,_,_,(.cons _ _ (.cons _ _ .nil)),rfl,rfl,hA,hF,fun a h=>h,ao (by show b≤b+13;omega)⟩
noncomputable def seg_sp3:Rs :=
.nH (cR [5,3,17,15,23,25] (W 0) (P 0) lb) (aS (b+13) (b+2) b) ⟨778,11,778,20⟩ [(b+2,⟨rf 781,some (b+1),.plain,#[]⟩),(b+1,f2 w (t+36) (rf (b+8)) (t+38) .none (t+40) (.bool true) (t+42) .none (t+45) (sv "" (t+96)) (t+48) (.str fM (t+52)) (t+57) (.str (Str.mk #[32,9,13,10]) (t+55)) (t+59) (.bool true) (t+62) (.str (Str.mk #[39,34]) (t+60)) (t+65) (.str (Str.mk #[92]) (t+63)) (t+68) (.str (Str.mk #[34]) (t+66)) (t+71) (sv " " (t+69)) (t+73) (rf (b+11)) (t+76) (.int 1 (t+74)) (t+79) (.int 0 (t+77)) (t+82) (sv "" (t+80)) (t+84) (rf (b+12)) (t+86) .none (t+90) (sv "" (t+87))),(b+8,⟨rf 646,some (b+7),.plain,#[]⟩),(b+7,cf w (t+19) (.str (Str.mk #[10]) 825) (t+22) (.str J ν) (t+25) (.int 0 (t+23))),(b+11,fO "collections.deque" [.none,.int 0 0]),(b+12,fO "collections.deque" [.none,.int 0 0])] (b+15) (t+100) (cb vs) gl [] [⟨⟨.builtin "list.__init__" ⟨[rf (b+13),rf (b+2)],[]⟩,none,none,[(.builtin "type.__call__" ⟨[.type "list",rf (b+2)],[]⟩,⟨778,11,778,20⟩),(bW fc (dU b),⟨778,11,778,20⟩),Ze0,(bW aR au,⟨847,17,847,25⟩),(aI,p0)],none⟩,⟨778,11,778,20⟩,den (.builtin "list.__init__" ⟨[rf (b+13),rf (b+2)],[]⟩),bY (rf (b+13)) (rf (b+2)),false⟩] fun b1 t1 ak =>
ca (cR [5,3,17,15,23,25] (W 1) (P 1) lb) (aS (b+13) (b+2) b) ⟨778,11,778,20⟩ [(b+2,⟨rf 781,some (b+1),.plain,#[]⟩),(b+1,f2 w (t+36) (rf (b+8)) (t+38) .none (t+40) (.bool true) (t+42) .none (t+45) (sv "" (t+96)) (t+48) (.str fM (t+52)) (t+57) (.str (Str.mk #[32,9,13,10]) (t+55)) (t+59) (.bool true) (t+62) (.str (Str.mk #[39,34]) (t+60)) (t+65) (.str (Str.mk #[92]) (t+63)) (t+68) (.str (Str.mk #[34]) (t+66)) (t+71) (sv " " (ak.n 3)) (t+73) (rf (b+11)) (t+76) (.int 1 (t+74)) (t+79) (.int 0 (t+77)) (t+82) (sv "" (ak.n 1)) (t+84) (rf (b+12)) (t+86) .none (t+90) (sv "" (t+87))),(b+8,⟨rf 646,some (b+7),.plain,#[]⟩),(b+7,cf w (t+19) (.str (Str.mk #[10]) 825) (t+22) (.str J ν) (t+25) (nv (P 0) (ak.n 2))),(b+11,fO "collections.deque" [.none,.int 0 0]),(b+12,fO "collections.deque" [.none,.int 0 0])] b1 t1 vs gl fun b2 t2 aw =>
ca (cR [5,3,17,15,23,25] (W 2) (P 2) stN) (aS (b+13) (b+2) b) ⟨778,11,778,20⟩ [(b+2,⟨rf 781,some (b+1),.plain,#[]⟩),(b+1,f2 w (t+36) (rf (b+8)) (t+38) .none (t+40) (.bool true) (t+42) .none (t+45) (sv "" (t+96)) (t+48) (.str fM (t+52)) (t+57) (.str (Str.mk #[32,9,13,10]) (t+55)) (t+59) (.bool true) (t+62) (.str (Str.mk #[39,34]) (t+60)) (t+65) (.str (Str.mk #[92]) (t+63)) (t+68) (.str (Str.mk #[34]) (t+66)) (t+71) (sv " " (aw.n 3)) (t+73) (rf (b+11)) (t+76) (.int 1 (t+74)) (t+79) (.int 0 (t+77)) (t+82) (sv "" (aw.n 1)) (t+84) (rf (b+12)) (t+86) .none (t+90) (sv "" (t+87))),(b+8,⟨rf 646,some (b+7),.plain,#[]⟩),(b+7,cf w (t+19) (.str (Str.mk #[10]) 825) (t+22) (.str J ν) (t+25) (nv (P 1) (aw.n 2))),(b+11,fO "collections.deque" [.none,.int 0 0]),(b+12,fO "collections.deque" [.none,.int 0 0])] b2 t2 vs gl fun b3 t3 aL =>
ca (dQ [5,3,17,15,23,25,1,0]) (aS (b+13) (b+2) b) ⟨778,11,778,20⟩ [(b+2,⟨rf 781,some (b+1),.plain,#[]⟩),(b+1,f2 w (t+36) (rf (b+8)) (t+38) .none (t+40) (.bool true) (t+42) .none (t+45) (sv "" (t+96)) (t+48) (.str fM (t+52)) (t+57) (.str (Str.mk #[32,9,13,10]) (t+55)) (t+59) (.bool true) (t+62) (.str (Str.mk #[39,34]) (t+60)) (t+65) (.str (Str.mk #[92]) (t+63)) (t+68) (.str (Str.mk #[34]) (t+66)) (t+71) .none (t+73) (rf (b+11)) (t+76) (.int 1 (t+74)) (t+79) (.int 0 (t+77)) (t+82) (sv "" (aL.n 1)) (t+84) (rf (b+12)) (t+86) .none (t+90) (sv "" (t+87))),(b+8,⟨rf 646,some (b+7),.plain,#[]⟩),(b+7,cf w (t+19) (.str (Str.mk #[10]) 825) (t+22) (.str J ν) (t+25) (nv (P 2) (aL.n 2))),(b+11,fO "collections.deque" [.none,.int 0 0]),(b+12,fO "collections.deque" [.none,.int 0 0]),(b,d2w w t (.str J ν) (t+1) (.bool false) (t+2) (.bool true) (t+93) (rf (b+2))),(874,⟨.type "frame",none,.dict E2 M2,sl⟩)] b3 t3 vs gl fun b4 t4 aG =>
cF (.ok (.ret (rf (b+13)))) [(874,⟨.type "frame",none,.dict E2 M2,#[some (rf 871),some (rf 3),none,some .notImplemented,none,some (rf 872),some (rf 0),some (rf 877),some (rf 876),some (rf 875)]⟩),(b+13,ab #[.str (W 0) (ak.n 0),.str (W 1) (aw.n 0),.str (W 2) (aL.n 0)] 5)] b4 t4 vs gl
theorem lS:aZ w (ΓF.enter (aV 793 [.str J ν]) none ⟨854,15,854,39⟩) ⟨854,15,854,39⟩ [(874,⟨.type "frame",none,.dict E2 M2,sl⟩)] b t vs gl [0,27] 6 [K0,K32,K73,K73,K73,K76] [0,0,0,0,0] [(0,.tree (bY (rf (b+13)) (rf (b+2))))] [15,15,15,15] (@seg_sp3 b t ν M2 J W P E2 sl vs gl w):=by revert w;refine @bs _ ?_ ?_<;>intro w<;>kernel_rfl
theorem split_3 (hsl:sl = #[]∨sl=bp) (g0:d0 < 5) (g1:d1 < 5) (g2:d2 < 5) (hB:J.cps.size≤2 ^ 20) (hJ:J.cps.toList=jn [d0,d1,d2]):HB w (fv req [Wd d0,Wd d1,Wd d2]) (eN J ν) ⟨854,15,854,39⟩ [(874,⟨.type "frame",none,.dict E2 M2,sl⟩)] b t vs gl:=by
  have hs:J.cps.size=(jn [d0,d1,d2]).length:=by rw [← hJ];simp
  refine qH (lS (W:=fun i=>Wd ([d0,d1,d2].getD i 0)) (P:=fun i=>[(0+((Qd d0).length+1)),((0+((Qd d0).length+1))+((Qd d1).length+1)),(((0+((Qd d0).length+1))+((Qd d1).length+1))+(Qd d2).length)].getD i 0)) rfl fun s _ Ξ ar=>?_
  refine f6 rfl ag (ao (dK.eq (c3 (by show b+13≠b+2;omega)))) (ik (p:=0) (κ:=(jI t)) (ι:=(jK t)) hB d0 g0 (dF (p:=0) (a:=[]) (b:=Qd d0) (c:=[32]++Qd d1++[32]++Qd d2) (by rw [hJ];simp [jn]) (by simp <;> omega)) (dF (p:=0+(Qd d0).length) (a:=[]++Qd d0) (b:=[32]) (c:=Qd d1++[32]++Qd d2) (by rw [hJ];simp [jn]) (by simp <;> omega) 0 32 rfl)) fun b1 t1 ak hb1 ht1 _ _=>?_
  refine gH rfl (ik (p:=(0+((Qd d0).length+1))) (κ:=(jI t)) (ι:=(jK t)) hB d1 g1 (dF (p:=(0+((Qd d0).length+1))) (a:=(Qd d0++[32])) (b:=Qd d1) (c:=[32]++Qd d2) (by rw [hJ];simp [jn]) (by simp <;> omega)) (dF (p:=(0+((Qd d0).length+1))+(Qd d1).length) (a:=(Qd d0++[32])++Qd d1) (b:=[32]) (c:=Qd d2) (by rw [hJ];simp [jn]) (by simp <;> omega) 0 32 rfl)) fun b2 t2 aw hb2 ht2 _ _=>?_
  refine gH rfl (j8 (p:=((0+((Qd d0).length+1))+((Qd d1).length+1))) (κ:=(jI t)) (ι:=(jK t)) hB d2 g2 (dF (p:=((0+((Qd d0).length+1))+((Qd d1).length+1))) (a:=((Qd d0++[32])++Qd d1++[32])) (b:=Qd d2) (c:=[]) (by rw [hJ];simp [jn]) (by simp <;> omega)) ((by rw [hs];simp [jn] <;> omega))) fun b3 t3 aL hb3 ht3 _ _=>?_
  refine gH rfl (iE hsl (p:=(((0+((Qd d0).length+1))+((Qd d1).length+1))+(Qd d2).length)) (κ:=(jI t)) (ι:=(jK t)) hB (by rw [hs];simp [jn] <;> omega)) fun b4 t4 aG hb4 ht4 _ _=>?_
  exact gD rfl ar fun s' hA hF=>⟨⟨fun n=>[b+13,5].getD n 0,fun _=>.none,fun _=>⟨[.str (Wd d0) (ak.n 0),.str (Wd d1) (aw.n 0),.str (Wd d2) (aL.n 0)]⟩,fun _=>⟨#[]⟩,fun _=>.plain⟩,_,_,(.cons _ _ (.cons _ _ (.cons _ _ .nil))),rfl,rfl,hA,hF,fun a h=>h,ao (by show b≤b+13;omega)⟩
noncomputable def seg_sp4:Rs :=
.nH (cR [5,3,17,15,23,25] (W 0) (P 0) lb) (aS (b+13) (b+2) b) ⟨778,11,778,20⟩ [(b+2,⟨rf 781,some (b+1),.plain,#[]⟩),(b+1,f2 w (t+36) (rf (b+8)) (t+38) .none (t+40) (.bool true) (t+42) .none (t+45) (sv "" (t+96)) (t+48) (.str fM (t+52)) (t+57) (.str (Str.mk #[32,9,13,10]) (t+55)) (t+59) (.bool true) (t+62) (.str (Str.mk #[39,34]) (t+60)) (t+65) (.str (Str.mk #[92]) (t+63)) (t+68) (.str (Str.mk #[34]) (t+66)) (t+71) (sv " " (t+69)) (t+73) (rf (b+11)) (t+76) (.int 1 (t+74)) (t+79) (.int 0 (t+77)) (t+82) (sv "" (t+80)) (t+84) (rf (b+12)) (t+86) .none (t+90) (sv "" (t+87))),(b+8,⟨rf 646,some (b+7),.plain,#[]⟩),(b+7,cf w (t+19) (.str (Str.mk #[10]) 825) (t+22) (.str J ν) (t+25) (.int 0 (t+23))),(b+11,fO "collections.deque" [.none,.int 0 0]),(b+12,fO "collections.deque" [.none,.int 0 0])] (b+15) (t+100) (cb vs) gl [] [⟨⟨.builtin "list.__init__" ⟨[rf (b+13),rf (b+2)],[]⟩,none,none,[(.builtin "type.__call__" ⟨[.type "list",rf (b+2)],[]⟩,⟨778,11,778,20⟩),(bW fc (dU b),⟨778,11,778,20⟩),Ze0,(bW aR au,⟨847,17,847,25⟩),(aI,p0)],none⟩,⟨778,11,778,20⟩,den (.builtin "list.__init__" ⟨[rf (b+13),rf (b+2)],[]⟩),bY (rf (b+13)) (rf (b+2)),false⟩] fun b1 t1 ak =>
ca (cR [5,3,17,15,23,25] (W 1) (P 1) lb) (aS (b+13) (b+2) b) ⟨778,11,778,20⟩ [(b+2,⟨rf 781,some (b+1),.plain,#[]⟩),(b+1,f2 w (t+36) (rf (b+8)) (t+38) .none (t+40) (.bool true) (t+42) .none (t+45) (sv "" (t+96)) (t+48) (.str fM (t+52)) (t+57) (.str (Str.mk #[32,9,13,10]) (t+55)) (t+59) (.bool true) (t+62) (.str (Str.mk #[39,34]) (t+60)) (t+65) (.str (Str.mk #[92]) (t+63)) (t+68) (.str (Str.mk #[34]) (t+66)) (t+71) (sv " " (ak.n 3)) (t+73) (rf (b+11)) (t+76) (.int 1 (t+74)) (t+79) (.int 0 (t+77)) (t+82) (sv "" (ak.n 1)) (t+84) (rf (b+12)) (t+86) .none (t+90) (sv "" (t+87))),(b+8,⟨rf 646,some (b+7),.plain,#[]⟩),(b+7,cf w (t+19) (.str (Str.mk #[10]) 825) (t+22) (.str J ν) (t+25) (nv (P 0) (ak.n 2))),(b+11,fO "collections.deque" [.none,.int 0 0]),(b+12,fO "collections.deque" [.none,.int 0 0])] b1 t1 vs gl fun b2 t2 aw =>
ca (cR [5,3,17,15,23,25] (W 2) (P 2) lb) (aS (b+13) (b+2) b) ⟨778,11,778,20⟩ [(b+2,⟨rf 781,some (b+1),.plain,#[]⟩),(b+1,f2 w (t+36) (rf (b+8)) (t+38) .none (t+40) (.bool true) (t+42) .none (t+45) (sv "" (t+96)) (t+48) (.str fM (t+52)) (t+57) (.str (Str.mk #[32,9,13,10]) (t+55)) (t+59) (.bool true) (t+62) (.str (Str.mk #[39,34]) (t+60)) (t+65) (.str (Str.mk #[92]) (t+63)) (t+68) (.str (Str.mk #[34]) (t+66)) (t+71) (sv " " (aw.n 3)) (t+73) (rf (b+11)) (t+76) (.int 1 (t+74)) (t+79) (.int 0 (t+77)) (t+82) (sv "" (aw.n 1)) (t+84) (rf (b+12)) (t+86) .none (t+90) (sv "" (t+87))),(b+8,⟨rf 646,some (b+7),.plain,#[]⟩),(b+7,cf w (t+19) (.str (Str.mk #[10]) 825) (t+22) (.str J ν) (t+25) (nv (P 1) (aw.n 2))),(b+11,fO "collections.deque" [.none,.int 0 0]),(b+12,fO "collections.deque" [.none,.int 0 0])] b2 t2 vs gl fun b3 t3 aL =>
ca (cR [5,3,17,15,23,25] (W 3) (P 3) stN) (aS (b+13) (b+2) b) ⟨778,11,778,20⟩ [(b+2,⟨rf 781,some (b+1),.plain,#[]⟩),(b+1,f2 w (t+36) (rf (b+8)) (t+38) .none (t+40) (.bool true) (t+42) .none (t+45) (sv "" (t+96)) (t+48) (.str fM (t+52)) (t+57) (.str (Str.mk #[32,9,13,10]) (t+55)) (t+59) (.bool true) (t+62) (.str (Str.mk #[39,34]) (t+60)) (t+65) (.str (Str.mk #[92]) (t+63)) (t+68) (.str (Str.mk #[34]) (t+66)) (t+71) (sv " " (aL.n 3)) (t+73) (rf (b+11)) (t+76) (.int 1 (t+74)) (t+79) (.int 0 (t+77)) (t+82) (sv "" (aL.n 1)) (t+84) (rf (b+12)) (t+86) .none (t+90) (sv "" (t+87))),(b+8,⟨rf 646,some (b+7),.plain,#[]⟩),(b+7,cf w (t+19) (.str (Str.mk #[10]) 825) (t+22) (.str J ν) (t+25) (nv (P 2) (aL.n 2))),(b+11,fO "collections.deque" [.none,.int 0 0]),(b+12,fO "collections.deque" [.none,.int 0 0])] b3 t3 vs gl fun b4 t4 aG =>
ca (dQ [5,3,17,15,23,25,1,0]) (aS (b+13) (b+2) b) ⟨778,11,778,20⟩ [(b+2,⟨rf 781,some (b+1),.plain,#[]⟩),(b+1,f2 w (t+36) (rf (b+8)) (t+38) .none (t+40) (.bool true) (t+42) .none (t+45) (sv "" (t+96)) (t+48) (.str fM (t+52)) (t+57) (.str (Str.mk #[32,9,13,10]) (t+55)) (t+59) (.bool true) (t+62) (.str (Str.mk #[39,34]) (t+60)) (t+65) (.str (Str.mk #[92]) (t+63)) (t+68) (.str (Str.mk #[34]) (t+66)) (t+71) .none (t+73) (rf (b+11)) (t+76) (.int 1 (t+74)) (t+79) (.int 0 (t+77)) (t+82) (sv "" (aG.n 1)) (t+84) (rf (b+12)) (t+86) .none (t+90) (sv "" (t+87))),(b+8,⟨rf 646,some (b+7),.plain,#[]⟩),(b+7,cf w (t+19) (.str (Str.mk #[10]) 825) (t+22) (.str J ν) (t+25) (nv (P 3) (aG.n 2))),(b+11,fO "collections.deque" [.none,.int 0 0]),(b+12,fO "collections.deque" [.none,.int 0 0]),(b,d2w w t (.str J ν) (t+1) (.bool false) (t+2) (.bool true) (t+93) (rf (b+2))),(874,⟨.type "frame",none,.dict E2 M2,sl⟩)] b4 t4 vs gl fun b5 t5 bx =>
cF (.ok (.ret (rf (b+13)))) [(874,⟨.type "frame",none,.dict E2 M2,#[some (rf 871),some (rf 3),none,some .notImplemented,none,some (rf 872),some (rf 0),some (rf 877),some (rf 876),some (rf 875)]⟩),(b+13,ab #[.str (W 0) (ak.n 0),.str (W 1) (aw.n 0),.str (W 2) (aL.n 0),.str (W 3) (aG.n 0)] 6)] b5 t5 vs gl
theorem lR:aZ w (ΓF.enter (aV 793 [.str J ν]) none ⟨854,15,854,39⟩) ⟨854,15,854,39⟩ [(874,⟨.type "frame",none,.dict E2 M2,sl⟩)] b t vs gl [0,27] 6 [K0,K32,K73,K73,K73,K73,K76] [0,0,0,0,0,0] [(0,.tree (bY (rf (b+13)) (rf (b+2))))] [15,15,15,15,15] (@seg_sp4 b t ν M2 J W P E2 sl vs gl w):=by revert w;refine @bs _ ?_ ?_<;>intro w<;>kernel_rfl
theorem split_4 (hsl:sl = #[]∨sl=bp) (g0:d0 < 5) (g1:d1 < 5) (g2:d2 < 5) (g3:d3 < 5) (hB:J.cps.size≤2 ^ 20) (hJ:J.cps.toList=jn [d0,d1,d2,d3]):HB w (fv req [Wd d0,Wd d1,Wd d2,Wd d3]) (eN J ν) ⟨854,15,854,39⟩ [(874,⟨.type "frame",none,.dict E2 M2,sl⟩)] b t vs gl:=by
  have hs:J.cps.size=(jn [d0,d1,d2,d3]).length:=by rw [← hJ];simp
  refine qH (lR (W:=fun i=>Wd ([d0,d1,d2,d3].getD i 0)) (P:=fun i=>[(0+((Qd d0).length+1)),((0+((Qd d0).length+1))+((Qd d1).length+1)),(((0+((Qd d0).length+1))+((Qd d1).length+1))+((Qd d2).length+1)),((((0+((Qd d0).length+1))+((Qd d1).length+1))+((Qd d2).length+1))+(Qd d3).length)].getD i 0)) rfl fun s _ Ξ ar=>?_
  refine f6 rfl ag (ao (dK.eq (c3 (by show b+13≠b+2;omega)))) (ik (p:=0) (κ:=(jI t)) (ι:=(jK t)) hB d0 g0 (dF (p:=0) (a:=[]) (b:=Qd d0) (c:=[32]++Qd d1++[32]++Qd d2++[32]++Qd d3) (by rw [hJ];simp [jn]) (by simp <;> omega)) (dF (p:=0+(Qd d0).length) (a:=[]++Qd d0) (b:=[32]) (c:=Qd d1++[32]++Qd d2++[32]++Qd d3) (by rw [hJ];simp [jn]) (by simp <;> omega) 0 32 rfl)) fun b1 t1 ak hb1 ht1 _ _=>?_
  refine gH rfl (ik (p:=(0+((Qd d0).length+1))) (κ:=(jI t)) (ι:=(jK t)) hB d1 g1 (dF (p:=(0+((Qd d0).length+1))) (a:=(Qd d0++[32])) (b:=Qd d1) (c:=[32]++Qd d2++[32]++Qd d3) (by rw [hJ];simp [jn]) (by simp <;> omega)) (dF (p:=(0+((Qd d0).length+1))+(Qd d1).length) (a:=(Qd d0++[32])++Qd d1) (b:=[32]) (c:=Qd d2++[32]++Qd d3) (by rw [hJ];simp [jn]) (by simp <;> omega) 0 32 rfl)) fun b2 t2 aw hb2 ht2 _ _=>?_
  refine gH rfl (ik (p:=((0+((Qd d0).length+1))+((Qd d1).length+1))) (κ:=(jI t)) (ι:=(jK t)) hB d2 g2 (dF (p:=((0+((Qd d0).length+1))+((Qd d1).length+1))) (a:=((Qd d0++[32])++Qd d1++[32])) (b:=Qd d2) (c:=[32]++Qd d3) (by rw [hJ];simp [jn]) (by simp <;> omega)) (dF (p:=((0+((Qd d0).length+1))+((Qd d1).length+1))+(Qd d2).length) (a:=((Qd d0++[32])++Qd d1++[32])++Qd d2) (b:=[32]) (c:=Qd d3) (by rw [hJ];simp [jn]) (by simp <;> omega) 0 32 rfl)) fun b3 t3 aL hb3 ht3 _ _=>?_
  refine gH rfl (j8 (p:=(((0+((Qd d0).length+1))+((Qd d1).length+1))+((Qd d2).length+1))) (κ:=(jI t)) (ι:=(jK t)) hB d3 g3 (dF (p:=(((0+((Qd d0).length+1))+((Qd d1).length+1))+((Qd d2).length+1))) (a:=(((Qd d0++[32])++Qd d1++[32])++Qd d2++[32])) (b:=Qd d3) (c:=[]) (by rw [hJ];simp [jn]) (by simp <;> omega)) ((by rw [hs];simp [jn] <;> omega))) fun b4 t4 aG hb4 ht4 _ _=>?_
  refine gH rfl (iE hsl (p:=((((0+((Qd d0).length+1))+((Qd d1).length+1))+((Qd d2).length+1))+(Qd d3).length)) (κ:=(jI t)) (ι:=(jK t)) hB (by rw [hs];simp [jn] <;> omega)) fun b5 t5 bx hb5 ht5 _ _=>?_
  exact gD rfl ar fun s' hA hF=>⟨⟨fun n=>[b+13,6].getD n 0,fun _=>.none,fun _=>⟨[.str (Wd d0) (ak.n 0),.str (Wd d1) (aw.n 0),.str (Wd d2) (aL.n 0),.str (Wd d3) (aG.n 0)]⟩,fun _=>⟨#[]⟩,fun _=>.plain⟩,_,_,(.cons _ _ (.cons _ _ (.cons _ _ (.cons _ _ .nil)))),rfl,rfl,hA,hF,fun a h=>h,ao (by show b≤b+13;omega)⟩
end
section
variable {jf it cd gf g l τ σ b t:Nat} {vs:Array Value} {gl:List GenState} {w:World}
noncomputable def seg_q0:Rs :=
cF (.ok (.ret (sv "a" σ))) [] (b+1) (t+3) vs gl
theorem seg_q0':aZ w (aP jf it cd gf g l τ (Wd 0) σ) dC [] b t vs gl [] 5 [0x13ec998812c11d16101] [] [] [] (@seg_q0 σ b t vs gl):=by revert w;refine @bs _ ?_ ?_<;>intro w<;>kernel_rfl
noncomputable def seg_q1:Rs :=
cF (.ok (.ret (sv "'A b'" (t+8)))) [] (b+3) (t+9) vs gl
theorem seg_q1':aZ w (aP jf it cd gf g l τ (Wd 1) σ) dC [] b t vs gl [] 5 [0x13ec998813a11d16101] [] [] [] (@seg_q1 b t vs gl):=by revert w;refine @bs _ ?_ ?_<;>intro w<;>kernel_rfl
noncomputable def seg_q2:Rs :=
cF (.ok (.ret (sv "''" (t+3)))) [] (b+1) (t+4) vs gl
theorem seg_q2':aZ w (aP jf it cd gf g l τ (Wd 2) σ) dC [] b t vs gl [] 5 [0x13ec998816101] [] [] [] (@seg_q2 b t vs gl):=by revert w;refine @bs _ ?_ ?_<;>intro w<;>kernel_rfl
noncomputable def seg_q3:Rs :=
cF (.ok (.ret (sv "'*'" (t+8)))) [] (b+3) (t+9) vs gl
theorem seg_q3':aZ w (aP jf it cd gf g l τ (Wd 3) σ) dC [] b t vs gl [] 5 [0x13ec998813a11d16101] [] [] [] (@seg_q3 b t vs gl):=by revert w;refine @bs _ ?_ ?_<;>intro w<;>kernel_rfl
noncomputable def seg_q4:Rs :=
aO (a9 [] fun ys=>.str (Str.mk #[98,39,34,39,34,39]) (ys.n 0)) (cB "str.replace" [sv "b'" σ,sv "'" (t+4),.str (Str.mk #[39,34,39,34,39]) (t+5)]) [] (b+3) (t+6) vs gl fun b1 t1 ak =>
cF (.ok (.ret (.str (Str.mk #[39,98,39,34,39,34,39,39]) (t1+2)))) [] b1 (t1+3) vs gl
theorem seg_q4':aZ w (aP jf it cd gf g l τ (Wd 4) σ) dC [] b t vs gl [] 5 [0x1513a11d16101] [99999] [] [3] (@seg_q4 σ b t vs gl):=by revert w;refine @bs _ ?_ ?_<;>intro w<;>kernel_rfl
theorem quote_0:HB w (a9 [] fun ys=>.str (Qs 0) (ys.n 0)) (aP jf it cd gf g l τ (Wd 0) σ) dC [] b t vs gl:=by
  refine qH seg_q0' rfl fun s _ Ξ ar=>?_
  exact gD rfl ar fun s' hA hF=>⟨dz fun _=>σ,_,_,trivial,rfl,rfl,hA,hF,fun a h=>h,ag⟩
theorem quote_1:HB w (a9 [] fun ys=>.str (Qs 1) (ys.n 0)) (aP jf it cd gf g l τ (Wd 1) σ) dC [] b t vs gl:=by
  refine qH seg_q1' rfl fun s _ Ξ ar=>?_
  exact gD rfl ar fun s' hA hF=>⟨dz fun _=>(t+8),_,_,trivial,rfl,rfl,hA,hF,fun a h=>h,ag⟩
theorem quote_2:HB w (a9 [] fun ys=>.str (Qs 2) (ys.n 0)) (aP jf it cd gf g l τ (Wd 2) σ) dC [] b t vs gl:=by
  refine qH seg_q2' rfl fun s _ Ξ ar=>?_
  exact gD rfl ar fun s' hA hF=>⟨dz fun _=>(t+3),_,_,trivial,rfl,rfl,hA,hF,fun a h=>h,ag⟩
theorem quote_3:HB w (a9 [] fun ys=>.str (Qs 3) (ys.n 0)) (aP jf it cd gf g l τ (Wd 3) σ) dC [] b t vs gl:=by
  refine qH seg_q3' rfl fun s _ Ξ ar=>?_
  exact gD rfl ar fun s' hA hF=>⟨dz fun _=>(t+8),_,_,trivial,rfl,rfl,hA,hF,fun a h=>h,ag⟩
theorem quote_4:HB w (a9 [] fun ys=>.str (Qs 4) (ys.n 0)) (aP jf it cd gf g l τ (Wd 4) σ) dC [] b t vs gl:=by
  refine qH seg_q4' rfl fun s _ Ξ ar=>?_
  refine gF rfl (jA (by show chLook [(795,vs)] 2=none;rfl) (by omega) (by omega) (by omega)) fun b1 t1 ak hb1 ht1 _ _=>?_
  exact gD rfl ar fun s' hA hF=>⟨dz fun _=>(t1+2),_,_,trivial,rfl,rfl,hA,hF,fun a h=>h,ag⟩
theorem aT:∀ dd,dd < 5→HB w (a9 [] fun ys=>.str (Qs dd) (ys.n 0)) (aP jf it cd gf g l τ (Wd dd) σ) dC [] b t vs gl
  | 0,_=>quote_0
  | 1,_=>quote_1
  | 2,_=>quote_2
  | 3,_=>quote_3
  | 4,_=>quote_4
  | n+5,h=>absurd h (by omega)
end
end
section
open PySem PySem.W PySem.W.X PyProof.Rows
section
variable {b t la cd m d0 τ0 d1 τ1 d2 τ2 d3 τ3:Nat} {W Q:Nat→Str} {τ:Nat→Nat} {F:Array Value} {R:Str} {w:World}
theorem eX {x y:Array Value}:ig [(795,x)] (ba [(795,x)] [(795,y)]):=fun a h=>by
  have e:ba [(795,x)] [(795,y)]=chPut [(795,x)] 795 y:=rfl
  rw [e,chPut_look] at h
  by_cases q:795=a
  · rw [if_pos q] at h;cases h
  · rw [if_neg q] at h;exact h
noncomputable abbrev bA:Pos:=⟨854,21,854,38⟩
theorem cZ:Cl dc:=by unfold dc;exact .gen _ _ _ _ _ rfl
noncomputable def aY (la:Addr):Ctx:=ΓF.enter (aV 800 [.ref la]) none bA
noncomputable def ek (ds:List Nat):Str:=⟨(jn ds).toArray⟩
theorem jZ:∀ d,d < 5→(Qd d).length≤8
  | 0,_=>by decide
  | 1,_=>by decide
  | 2,_=>by decide
  | 3,_=>by decide
  | 4,_=>by decide
  | n+5,h=>absurd h (by omega)
theorem jJ:∀ ds:List Nat,(∀ d∈ds,d < 5)→(jn ds).length≤9 * ds.length
  | [],_=>by decide
  | [d],h=>by have:=jZ d (h d (.head _));show (Qd d).length≤_;simp;omega
  | d :: e :: r,h=>by
    have h1:=jZ d (h d (.head _))
    have h2:=jJ (e :: r) fun x hx=>h x (.tail _ hx)
    show (Qd d++32 :: jn (e :: r)).length≤_
    simp only [List.length_append,List.length_cons] at h2 ⊢
    omega
theorem c8 (ds:List Nat) (hl:ds.length≤4) (hd:∀ d∈ds,d < 5):(ek ds).length≤sizeLine:=by
  have:=jJ ds hd
  show (jn ds).toArray.size≤2 ^ 24
  simp;omega
theorem jt:(aX " ").cps = #[32]:=by decide +kernel
theorem eZ {d:Nat} (h:d < 5):(Qs d).length≤8:=by
  have:=jZ d h
  show (Qd d).toArray.size≤8
  simpa using this
theorem js:(aX " ").length=1:=by decide +kernel
theorem jR (d0 d1:Nat):Builtin.Str.glued (aX " ") [Qs d0,Qs d1]=ek [d0,d1]:=by
  unfold Builtin.Str.glued ek Qs
  rw [jt]
  congr 1
  simp [jn]
theorem g4 {d0 d1:Nat} (g0:d0 < 5) (g1:d1 < 5):Builtin.Str.tooLong ((#[Qs d0,Qs d1]:Array Str).foldl (fun n (s:Str)=>n+s.length+(aX " ").length) 0)=false:=by
  have h0:=eZ g0
  have h1:=eZ g1
  have e:(aX " ").length=1:=js
  unfold Builtin.Str.tooLong
  simp only [List.foldl_toArray,List.foldl_cons,List.foldl_nil,e]
  exact decide_eq_false (by unfold sizeLine;omega)
theorem jQ (d0 d1 d2:Nat):Builtin.Str.glued (aX " ") [Qs d0,Qs d1,Qs d2]=ek [d0,d1,d2]:=by
  unfold Builtin.Str.glued ek Qs
  rw [jt]
  congr 1
  simp [jn]
theorem gZ {d0 d1 d2:Nat} (g0:d0 < 5) (g1:d1 < 5) (g2:d2 < 5):Builtin.Str.tooLong ((#[Qs d0,Qs d1,Qs d2]:Array Str).foldl (fun n (s:Str)=>n+s.length+(aX " ").length) 0)=false:=by
  have h0:=eZ g0
  have h1:=eZ g1
  have h2:=eZ g2
  have e:(aX " ").length=1:=js
  unfold Builtin.Str.tooLong
  simp only [List.foldl_toArray,List.foldl_cons,List.foldl_nil,e]
  exact decide_eq_false (by unfold sizeLine;omega)
theorem jP (d0 d1 d2 d3:Nat):Builtin.Str.glued (aX " ") [Qs d0,Qs d1,Qs d2,Qs d3]=ek [d0,d1,d2,d3]:=by
  unfold Builtin.Str.glued ek Qs
  rw [jt]
  congr 1
  simp [jn]
theorem gY {d0 d1 d2 d3:Nat} (g0:d0 < 5) (g1:d1 < 5) (g2:d2 < 5) (g3:d3 < 5):Builtin.Str.tooLong ((#[Qs d0,Qs d1,Qs d2,Qs d3]:Array Str).foldl (fun n (s:Str)=>n+s.length+(aX " ").length) 0)=false:=by
  have h0:=eZ g0
  have h1:=eZ g1
  have h2:=eZ g2
  have h3:=eZ g3
  have e:(aX " ").length=1:=js
  unfold Builtin.Str.tooLong
  simp only [List.foldl_toArray,List.foldl_cons,List.foldl_nil,e]
  exact decide_eq_false (by unfold sizeLine;omega)
noncomputable def dB (J:Str):Hk:=⟨[0,2],fun _ ys=>.ok (.ret (.str J (ys.n 0))),fun pre _=>pre.map (·.2),fun _ _=>[],fun _ _=>[],1,fun _ _=>True⟩
noncomputable def fw (J:Str):Hk:=⟨[0],fun _ ys=>.ok (.ret (.str J (ys.n 0))),fun pre _=>pre.map (·.2),fun _ ys=>[(ys.n 1,⟨.type "code",none,.fields (ys.a 0),#[]⟩)],fun _ ys=>[(795,#[.int 780 0,.int 20 0,.ref (ys.n 1)])],1,fun _ _=>True⟩
noncomputable abbrev Zg1 (b t:Nat):List Tr :=
  [⟨⟨.compStart dc 0 (rf (b+1)) .none (jF dc (aX "join.<locals>.<genexpr>.") none (rf (b+4)) (b+5) (some (b+5)) []),none,none,[(.builtin "generator.__next__" ⟨[rf (b+6)],[]⟩,⟨780,11,780,58⟩),(.builtin "list.extend.loop" ⟨[rf (b+7),rf (b+6),rf (b+7)],[]⟩,⟨780,11,780,58⟩),(.builtin "str.join" ⟨[sv " " (t+1),rf (b+6)],[]⟩,⟨780,11,780,58⟩),(bW eC (iH eC (aX "join.<locals>.") 800 799 b []),⟨780,11,780,58⟩),(aH (bt (az aR) 3) (rf 882) au,⟨854,21,854,38⟩),(bW aR au,⟨847,17,847,25⟩),(aI,p0)],none⟩,⟨780,11,780,58⟩,den (.compStart dc 0 (rf (b+1)) .none (jF dc (aX "join.<locals>.<genexpr>.") none (rf (b+4)) (b+5) (some (b+5)) [])),cC "list_iterator" dc (b+1) .none (cG (b+4) (b+5)),true⟩,⟨⟨.builtin "list.__iadd__" ⟨[rf (b+7),rf (b+6)],[]⟩,none,none,[(.builtin "str.join" ⟨[sv " " (t+1),rf (b+6)],[]⟩,⟨780,11,780,58⟩),(bW eC (iH eC (aX "join.<locals>.") 800 799 b []),⟨780,11,780,58⟩),(aH (bt (az aR) 3) (rf 882) au,⟨854,21,854,38⟩),(bW aR au,⟨847,17,847,25⟩),(aI,p0)],none⟩,⟨780,11,780,58⟩,den (.builtin "list.__iadd__" ⟨[rf (b+7),rf (b+6)],[]⟩),bC (rf (b+7)) (rf (b+6)) (rf (b+7)),false⟩]
noncomputable def seg_j00:Rs :=
.nD (.ok (.ret (sv "" (t+10)))) [(la,ab #[] m),(b+4,fO "code" [sv "<genexpr>" (t+2),sv "join.<locals>.<genexpr>" (t+3),sv "/claim/cut.py" (t+4),.int 780 0,.int 1 0,.int 0 0,.int 0 0,.int 51 0,rf (b+2),.bool true,.int 318 0,rf (b+3),.none,.none,.none,.none,nv (t+5) 0,.int 780 0,sv "/claim/cut.py" (t+6)])] (b+12) (t+11) [(795,#[.int 780 0,.int 20 0,rf (b+4)])] ej [] (Zg1 b t)
theorem mj:ok w (aY la) bA [(la,ab #[] m)] b t [(795,#[])] [] [0,9] 5 [K44,K35,0x13ec99881f12f52b4303100303131323] [0,0] [(0,.tree (bC (rf (b+7)) (rf (b+6)) (rf (b+7)))),(0,.tree (cC "list_iterator" dc (b+1) .none (cG (b+4) (b+5))))] [] (@seg_j00 b t la m):=by revert w;refine @bs _ ?_ ?_<;>intro w<;>kernel_rfl
theorem join_00:an (Vp w) (fw (ek [])) (aY la) bA [(la,ab #[] m)] b t [(795,#[])] []:=by
  refine qH mj rfl fun s hs Ξ ar=>?_
  exact gDx rfl ar ag (ae (bl cZ) (ao (dK.eq (bi (by show b+7≠b+6;omega))))) fun s' hA hF=>⟨bf [(t+10),b+4] [⟨[(.str (aX "<genexpr>") (t+2)),(.str (aX "join.<locals>.<genexpr>") (t+3)),(.str (aX "/claim/cut.py") (t+4)),(.int (780) 0),(.int (1) 0),(.int (0) 0),(.int (0) 0),(.int (51) 0),(.ref (b+2)),(.bool true),(.int (318) 0),(.ref (b+3)),.none,.none,.none,.none,(.int (.ofNat (t+5)) 0),(.int (780) 0),(.str (aX "/claim/cut.py") (t+6))]⟩] [] [] [],_,_,trivial,rfl,rfl,hA,hF,eX,ao (by show b≤b+4;omega)⟩
noncomputable abbrev Zg0 (b cd t:Nat):List Tr :=
  [⟨⟨.compStart dc 0 (rf (b+1)) .none (jF dc (aX "join.<locals>.<genexpr>.") none (rf cd) (b+2) (some (b+2)) []),none,none,[(.builtin "generator.__next__" ⟨[rf (b+3)],[]⟩,⟨780,11,780,58⟩),(.builtin "list.extend.loop" ⟨[rf (b+4),rf (b+3),rf (b+4)],[]⟩,⟨780,11,780,58⟩),(.builtin "str.join" ⟨[sv " " (t+1),rf (b+3)],[]⟩,⟨780,11,780,58⟩),(bW eC (iH eC (aX "join.<locals>.") 800 799 b []),⟨780,11,780,58⟩),(aH (bt (az aR) 3) (rf 882) au,⟨854,21,854,38⟩),(bW aR au,⟨847,17,847,25⟩),(aI,p0)],none⟩,⟨780,11,780,58⟩,den (.compStart dc 0 (rf (b+1)) .none (jF dc (aX "join.<locals>.<genexpr>.") none (rf cd) (b+2) (some (b+2)) [])),cC "list_iterator" dc (b+1) .none (cG cd (b+2)),true⟩,⟨⟨.builtin "list.__iadd__" ⟨[rf (b+4),rf (b+3)],[]⟩,none,none,[(.builtin "str.join" ⟨[sv " " (t+1),rf (b+3)],[]⟩,⟨780,11,780,58⟩),(bW eC (iH eC (aX "join.<locals>.") 800 799 b []),⟨780,11,780,58⟩),(aH (bt (az aR) 3) (rf 882) au,⟨854,21,854,38⟩),(bW aR au,⟨847,17,847,25⟩),(aI,p0)],none⟩,⟨780,11,780,58⟩,den (.builtin "list.__iadd__" ⟨[rf (b+4),rf (b+3)],[]⟩),bC (rf (b+4)) (rf (b+3)) (rf (b+4)),false⟩]
noncomputable def seg_j01:Rs :=
.nD (.ok (.ret (sv "" (t+5)))) [(la,ab #[] m),(cd,aB F)] (b+9) (t+6) [(795,#[.int 780 0,.int 20 0,rf cd])] ei [] (Zg0 b cd t)
theorem mi:ok w (aY la) bA [(la,ab #[] m),(cd,aB F)] b t [(795,#[.int 780 0,.int 20 0,rf cd])] ej [0,2] 5 [K50,K42,K49] [0,0] [(0,.tree (bC (rf (b+4)) (rf (b+3)) (rf (b+4)))),(0,.tree (cC "list_iterator" dc (b+1) .none (cG cd (b+2))))] [] (@seg_j01 b t la cd m F):=by revert w;refine @bs _ ?_ ?_<;>intro w<;>kernel_rfl
theorem join_01:an (Vp w) (dB (ek [])) (aY la) bA [(la,ab #[] m),(cd,aB F)] b t [(795,#[.int 780 0,.int 20 0,rf cd])] ej:=by
  refine qH mi rfl fun s hs Ξ ar=>?_
  exact gDx rfl ar ag (ae (bl cZ) (ao (dK.eq (bi (by show b+4≠b+3;omega))))) fun s' hA hF=>⟨bf [(t+5)] [] [] [] [],_,_,trivial,rfl,rfl,hA,hF,fun a h=>h,ag⟩
noncomputable def seg_j02:Rs :=
.nD (.ok (.ret (sv "" (t+5)))) [(la,ab #[] m),(cd,aB F)] (b+9) (t+6) [(795,#[.int 780 0,.int 20 0,rf cd])] ij [] (Zg0 b cd t)
theorem mh:ok w (aY la) bA [(la,ab #[] m),(cd,aB F)] b t [(795,#[.int 780 0,.int 20 0,rf cd])] ei [0,2] 5 [K50,K42,K49] [0,0] [(0,.tree (bC (rf (b+4)) (rf (b+3)) (rf (b+4)))),(0,.tree (cC "list_iterator" dc (b+1) .none (cG cd (b+2))))] [] (@seg_j02 b t la cd m F):=by revert w;refine @bs _ ?_ ?_<;>intro w<;>kernel_rfl
theorem join_02:an (Vp w) (dB (ek [])) (aY la) bA [(la,ab #[] m),(cd,aB F)] b t [(795,#[.int 780 0,.int 20 0,rf cd])] ei:=by
  refine qH mh rfl fun s hs Ξ ar=>?_
  exact gDx rfl ar ag (ae (bl cZ) (ao (dK.eq (bi (by show b+4≠b+3;omega))))) fun s' hA hF=>⟨bf [(t+5)] [] [] [] [],_,_,trivial,rfl,rfl,hA,hF,fun a h=>h,ag⟩
noncomputable def seg_j10:Rs :=
.nH (a9 [] fun ys=>.str (Q 0) (ys.n 0)) (aP b (b+1) (b+4) (b+5) (b+6) (b+7) (t+1) (W 0) (τ 0)) ⟨780,21,780,31⟩ [] (b+8) (t+11) [(795,#[.int 780 0,.int 20 0,rf (b+4)])] [.running] [] (Zg1 b t) fun b1 t1 ak =>
rD (.ok (.ret (.str (Q 0) (ak.n 0)))) [(la,ab #[.str (W 0) (τ 0)] m),(b+4,fO "code" [sv "<genexpr>" (t+2),sv "join.<locals>.<genexpr>" (t+3),sv "/claim/cut.py" (t+4),.int 780 0,.int 1 0,.int 0 0,.int 0 0,.int 51 0,rf (b+2),.bool true,.int 318 0,rf (b+3),.none,.none,.none,.none,nv (t+5) 0,.int 780 0,sv "/claim/cut.py" (t+6)])] (b1+4) t1 [(795,#[.int 780 0,.int 20 0,rf (b+4)])] ej
theorem mg:ok w (aY la) bA [(la,ab #[.str (W 0) (τ 0)] m)] b t [(795,#[])] [] [0,9] 5 [K44,K35,K57,0x13ec99881f12f52b4303100303131361d11d11d11f01f01f] [0,0,4] [(0,.tree (bC (rf (b+7)) (rf (b+6)) (rf (b+7)))),(0,.tree (cC "list_iterator" dc (b+1) .none (cG (b+4) (b+5))))] [8] (@seg_j10 b t la m W Q τ):=by revert w;refine @bs _ ?_ ?_<;>intro w<;>kernel_rfl
theorem join_10 (g0:d0 < 5):an (Vp w) (fw (ek [d0])) (aY la) bA [(la,ab #[.str (Wd d0) τ0] m)] b t [(795,#[])] []:=by
  refine qH (mg (W:=fun i=>Wd ([d0].getD i 0)) (Q:=fun i=>Qs ([d0].getD i 0)) (τ:=fun i=>[τ0].getD i 0)) rfl fun s hs Ξ ar=>?_
  refine f6 rfl ag (ae (bl cZ) (ao (dK.eq (bi (by show b+7≠b+6;omega))))) (aT _ g0) fun b1 t1 ak _ _ _ _=>?_
  exact gD rfl ar fun s' hA hF=>⟨bf [(ak.n 0),b+4] [⟨[(.str (aX "<genexpr>") (t+2)),(.str (aX "join.<locals>.<genexpr>") (t+3)),(.str (aX "/claim/cut.py") (t+4)),(.int (780) 0),(.int (1) 0),(.int (0) 0),(.int (0) 0),(.int (51) 0),(.ref (b+2)),(.bool true),(.int (318) 0),(.ref (b+3)),.none,.none,.none,.none,(.int (.ofNat (t+5)) 0),(.int (780) 0),(.str (aX "/claim/cut.py") (t+6))]⟩] [] [] [],_,_,trivial,rfl,rfl,hA,hF,eX,ao (by show b≤b+4;omega)⟩
noncomputable def seg_j11:Rs :=
.nH (a9 [] fun ys=>.str (Q 0) (ys.n 0)) (aP b (b+1) cd (b+2) (b+3) (b+4) (t+1) (W 0) (τ 0)) ⟨780,21,780,31⟩ [] (b+5) (t+6) [(795,#[.int 780 0,.int 20 0,rf cd])] [.finished,.running] [] (Zg0 b cd t) fun b1 t1 ak =>
rD (.ok (.ret (.str (Q 0) (ak.n 0)))) [(la,ab #[.str (W 0) (τ 0)] m),(cd,aB F)] (b1+4) t1 [(795,#[.int 780 0,.int 20 0,rf cd])] ei
theorem mf:ok w (aY la) bA [(la,ab #[.str (W 0) (τ 0)] m),(cd,aB F)] b t [(795,#[.int 780 0,.int 20 0,rf cd])] ej [0,2] 5 [K50,K42,K62,K38] [0,0,4] [(0,.tree (bC (rf (b+4)) (rf (b+3)) (rf (b+4)))),(0,.tree (cC "list_iterator" dc (b+1) .none (cG cd (b+2))))] [5] (@seg_j11 b t la cd m W Q τ F):=by revert w;refine @bs _ ?_ ?_<;>intro w<;>kernel_rfl
theorem join_11 (g0:d0 < 5):an (Vp w) (dB (ek [d0])) (aY la) bA [(la,ab #[.str (Wd d0) τ0] m),(cd,aB F)] b t [(795,#[.int 780 0,.int 20 0,rf cd])] ej:=by
  refine qH (mf (W:=fun i=>Wd ([d0].getD i 0)) (Q:=fun i=>Qs ([d0].getD i 0)) (τ:=fun i=>[τ0].getD i 0)) rfl fun s hs Ξ ar=>?_
  refine f6 rfl ag (ae (bl cZ) (ao (dK.eq (bi (by show b+4≠b+3;omega))))) (aT _ g0) fun b1 t1 ak _ _ _ _=>?_
  exact gD rfl ar fun s' hA hF=>⟨bf [(ak.n 0)] [] [] [] [],_,_,trivial,rfl,rfl,hA,hF,fun a h=>h,ag⟩
noncomputable def seg_j12:Rs :=
.nH (a9 [] fun ys=>.str (Q 0) (ys.n 0)) (aP b (b+1) cd (b+2) (b+3) (b+4) (t+1) (W 0) (τ 0)) ⟨780,21,780,31⟩ [] (b+5) (t+6) [(795,#[.int 780 0,.int 20 0,rf cd])] [.finished,.finished,.running] [] (Zg0 b cd t) fun b1 t1 ak =>
rD (.ok (.ret (.str (Q 0) (ak.n 0)))) [(la,ab #[.str (W 0) (τ 0)] m),(cd,aB F)] (b1+4) t1 [(795,#[.int 780 0,.int 20 0,rf cd])] ij
theorem mc:ok w (aY la) bA [(la,ab #[.str (W 0) (τ 0)] m),(cd,aB F)] b t [(795,#[.int 780 0,.int 20 0,rf cd])] ei [0,2] 5 [K50,K42,K62,K38] [0,0,4] [(0,.tree (bC (rf (b+4)) (rf (b+3)) (rf (b+4)))),(0,.tree (cC "list_iterator" dc (b+1) .none (cG cd (b+2))))] [5] (@seg_j12 b t la cd m W Q τ F):=by revert w;refine @bs _ ?_ ?_<;>intro w<;>kernel_rfl
theorem join_12 (g0:d0 < 5):an (Vp w) (dB (ek [d0])) (aY la) bA [(la,ab #[.str (Wd d0) τ0] m),(cd,aB F)] b t [(795,#[.int 780 0,.int 20 0,rf cd])] ei:=by
  refine qH (mc (W:=fun i=>Wd ([d0].getD i 0)) (Q:=fun i=>Qs ([d0].getD i 0)) (τ:=fun i=>[τ0].getD i 0)) rfl fun s hs Ξ ar=>?_
  refine f6 rfl ag (ae (bl cZ) (ao (dK.eq (bi (by show b+4≠b+3;omega))))) (aT _ g0) fun b1 t1 ak _ _ _ _=>?_
  exact gD rfl ar fun s' hA hF=>⟨bf [(ak.n 0)] [] [] [] [],_,_,trivial,rfl,rfl,hA,hF,fun a h=>h,ag⟩
noncomputable abbrev Zg2 (b:Nat):List (Code×Pos) :=
  [(bW eC (iH eC (aX "join.<locals>.") 800 799 b []),⟨780,11,780,58⟩),(aH (bt (az aR) 3) (rf 882) au,⟨854,21,854,38⟩),(bW aR au,⟨847,17,847,25⟩),(aI,p0)]
noncomputable abbrev Zg5 (b t:Nat):Ctx :=
  ⟨.builtin "str.join" ⟨[sv " " (t+1),rf (b+6)],[]⟩,none,none,(Zg2 b),none⟩
noncomputable def seg_j20:Rs :=
.nH (a9 [] fun ys=>.str (Q 0) (ys.n 0)) (aP b (b+1) (b+4) (b+5) (b+6) (b+7) (t+1) (W 0) (τ 0)) ⟨780,21,780,31⟩ [] (b+8) (t+11) [(795,#[.int 780 0,.int 20 0,rf (b+4)])] [.running] [] (Zg1 b t) fun b1 t1 ak =>
rH (a9 [] fun ys=>.str (Q 1) (ys.n 0)) (aP b (b+1) (b+4) (b+5) (b+6) (b+7) (t+1) (W 1) (τ 1)) ⟨780,21,780,31⟩ [] b1 (t1+1) [(795,#[.int 780 0,.int 20 0,rf (b+4)])] [.running] fun b2 t2 aw =>
.nR (a9 [] fun ys=>.str R (ys.n 0)) (Zg5 b t) (cX (aX " ") #[Q 0,Q 1]) ⟨780,11,780,58⟩ [] (b2+4) t2 [(795,#[.int 780 0,.int 20 0,rf (b+4)])] ej [] [] fun b3 t3 aL =>
rD (.ok (.ret (.str R (aL.n 0)))) [(la,ab #[.str (W 0) (τ 0),.str (W 1) (τ 1)] m),(b+4,fO "code" [sv "<genexpr>" (t+2),sv "join.<locals>.<genexpr>" (t+3),sv "/claim/cut.py" (t+4),.int 780 0,.int 1 0,.int 0 0,.int 0 0,.int 51 0,rf (b+2),.bool true,.int 318 0,rf (b+3),.none,.none,.none,.none,nv (t+5) 0,.int 780 0,sv "/claim/cut.py" (t+6)])] b3 t3 [(795,#[.int 780 0,.int 20 0,rf (b+4)])] ej
theorem mb:ok w (aY la) bA [(la,ab #[.str (W 0) (τ 0),.str (W 1) (τ 1)] m)] b t [(795,#[])] [] [0,9] 5 [K44,K35,K57,K39,K40] [0,0,4,4,99999] [(0,.tree (bC (rf (b+7)) (rf (b+6)) (rf (b+7)))),(0,.tree (cC "list_iterator" dc (b+1) .none (cG (b+4) (b+5))))] [8,8,12] (@seg_j20 b t la m W Q τ R):=by revert w;refine @bs _ ?_ ?_<;>intro w<;>kernel_rfl
theorem join_20 (g0:d0 < 5) (g1:d1 < 5):an (Vp w) (fw (ek [d0,d1])) (aY la) bA [(la,ab #[.str (Wd d0) τ0,.str (Wd d1) τ1] m)] b t [(795,#[])] []:=by
  refine qH (mb (W:=fun i=>Wd ([d0,d1].getD i 0)) (Q:=fun i=>Qs ([d0,d1].getD i 0)) (τ:=fun i=>[τ0,τ1].getD i 0) (R:=ek [d0,d1])) rfl fun s hs Ξ ar=>?_
  refine f6 rfl ag (ae (bl cZ) (ao (dK.eq (bi (by show b+7≠b+6;omega))))) (aT _ g0) fun b1 t1 ak _ _ _ _=>?_
  refine gH rfl (aT _ g1) fun b2 t2 aw _ _ _ _=>?_
  refine jS rfl ag ag (cu (jR _ _) (g4 g0 g1) (c8 _ (by simp) (by simp [*]))) fun b3 t3 aL _ _ _ _=>?_
  exact gD rfl ar fun s' hA hF=>⟨bf [(aL.n 0),b+4] [⟨[(.str (aX "<genexpr>") (t+2)),(.str (aX "join.<locals>.<genexpr>") (t+3)),(.str (aX "/claim/cut.py") (t+4)),(.int (780) 0),(.int (1) 0),(.int (0) 0),(.int (0) 0),(.int (51) 0),(.ref (b+2)),(.bool true),(.int (318) 0),(.ref (b+3)),.none,.none,.none,.none,(.int (.ofNat (t+5)) 0),(.int (780) 0),(.str (aX "/claim/cut.py") (t+6))]⟩] [] [] [],_,_,trivial,rfl,rfl,hA,hF,eX,ao (by show b≤b+4;omega)⟩
noncomputable abbrev Zg3 (b t:Nat):Ctx :=
  ⟨.builtin "str.join" ⟨[sv " " (t+1),rf (b+3)],[]⟩,none,none,(Zg2 b),none⟩
noncomputable def seg_j21:Rs :=
.nH (a9 [] fun ys=>.str (Q 0) (ys.n 0)) (aP b (b+1) cd (b+2) (b+3) (b+4) (t+1) (W 0) (τ 0)) ⟨780,21,780,31⟩ [] (b+5) (t+6) [(795,#[.int 780 0,.int 20 0,rf cd])] [.finished,.running] [] (Zg0 b cd t) fun b1 t1 ak =>
rH (a9 [] fun ys=>.str (Q 1) (ys.n 0)) (aP b (b+1) cd (b+2) (b+3) (b+4) (t+1) (W 1) (τ 1)) ⟨780,21,780,31⟩ [] b1 (t1+1) [(795,#[.int 780 0,.int 20 0,rf cd])] [.finished,.running] fun b2 t2 aw =>
.nR (a9 [] fun ys=>.str R (ys.n 0)) (Zg3 b t) (cX (aX " ") #[Q 0,Q 1]) ⟨780,11,780,58⟩ [] (b2+4) t2 [(795,#[.int 780 0,.int 20 0,rf cd])] ei [] [] fun b3 t3 aL =>
rD (.ok (.ret (.str R (aL.n 0)))) [(la,ab #[.str (W 0) (τ 0),.str (W 1) (τ 1)] m),(cd,aB F)] b3 t3 [(795,#[.int 780 0,.int 20 0,rf cd])] ei
theorem l9:ok w (aY la) bA [(la,ab #[.str (W 0) (τ 0),.str (W 1) (τ 1)] m),(cd,aB F)] b t [(795,#[.int 780 0,.int 20 0,rf cd])] ej [0,2] 5 [K50,K42,K62,K46,K43] [0,0,4,4,99999] [(0,.tree (bC (rf (b+4)) (rf (b+3)) (rf (b+4)))),(0,.tree (cC "list_iterator" dc (b+1) .none (cG cd (b+2))))] [5,5,9] (@seg_j21 b t la cd m W Q τ F R):=by revert w;refine @bs _ ?_ ?_<;>intro w<;>kernel_rfl
theorem join_21 (g0:d0 < 5) (g1:d1 < 5):an (Vp w) (dB (ek [d0,d1])) (aY la) bA [(la,ab #[.str (Wd d0) τ0,.str (Wd d1) τ1] m),(cd,aB F)] b t [(795,#[.int 780 0,.int 20 0,rf cd])] ej:=by
  refine qH (l9 (W:=fun i=>Wd ([d0,d1].getD i 0)) (Q:=fun i=>Qs ([d0,d1].getD i 0)) (τ:=fun i=>[τ0,τ1].getD i 0) (R:=ek [d0,d1])) rfl fun s hs Ξ ar=>?_
  refine f6 rfl ag (ae (bl cZ) (ao (dK.eq (bi (by show b+4≠b+3;omega))))) (aT _ g0) fun b1 t1 ak _ _ _ _=>?_
  refine gH rfl (aT _ g1) fun b2 t2 aw _ _ _ _=>?_
  refine jS rfl ag ag (cu (jR _ _) (g4 g0 g1) (c8 _ (by simp) (by simp [*]))) fun b3 t3 aL _ _ _ _=>?_
  exact gD rfl ar fun s' hA hF=>⟨bf [(aL.n 0)] [] [] [] [],_,_,trivial,rfl,rfl,hA,hF,fun a h=>h,ag⟩
noncomputable def seg_j22:Rs :=
.nH (a9 [] fun ys=>.str (Q 0) (ys.n 0)) (aP b (b+1) cd (b+2) (b+3) (b+4) (t+1) (W 0) (τ 0)) ⟨780,21,780,31⟩ [] (b+5) (t+6) [(795,#[.int 780 0,.int 20 0,rf cd])] [.finished,.finished,.running] [] (Zg0 b cd t) fun b1 t1 ak =>
rH (a9 [] fun ys=>.str (Q 1) (ys.n 0)) (aP b (b+1) cd (b+2) (b+3) (b+4) (t+1) (W 1) (τ 1)) ⟨780,21,780,31⟩ [] b1 (t1+1) [(795,#[.int 780 0,.int 20 0,rf cd])] [.finished,.finished,.running] fun b2 t2 aw =>
.nR (a9 [] fun ys=>.str R (ys.n 0)) (Zg3 b t) (cX (aX " ") #[Q 0,Q 1]) ⟨780,11,780,58⟩ [] (b2+4) t2 [(795,#[.int 780 0,.int 20 0,rf cd])] ij [] [] fun b3 t3 aL =>
rD (.ok (.ret (.str R (aL.n 0)))) [(la,ab #[.str (W 0) (τ 0),.str (W 1) (τ 1)] m),(cd,aB F)] b3 t3 [(795,#[.int 780 0,.int 20 0,rf cd])] ij
theorem l8:ok w (aY la) bA [(la,ab #[.str (W 0) (τ 0),.str (W 1) (τ 1)] m),(cd,aB F)] b t [(795,#[.int 780 0,.int 20 0,rf cd])] ei [0,2] 5 [K50,K42,K62,K46,K43] [0,0,4,4,99999] [(0,.tree (bC (rf (b+4)) (rf (b+3)) (rf (b+4)))),(0,.tree (cC "list_iterator" dc (b+1) .none (cG cd (b+2))))] [5,5,9] (@seg_j22 b t la cd m W Q τ F R):=by revert w;refine @bs _ ?_ ?_<;>intro w<;>kernel_rfl
theorem join_22 (g0:d0 < 5) (g1:d1 < 5):an (Vp w) (dB (ek [d0,d1])) (aY la) bA [(la,ab #[.str (Wd d0) τ0,.str (Wd d1) τ1] m),(cd,aB F)] b t [(795,#[.int 780 0,.int 20 0,rf cd])] ei:=by
  refine qH (l8 (W:=fun i=>Wd ([d0,d1].getD i 0)) (Q:=fun i=>Qs ([d0,d1].getD i 0)) (τ:=fun i=>[τ0,τ1].getD i 0) (R:=ek [d0,d1])) rfl fun s hs Ξ ar=>?_
  refine f6 rfl ag (ae (bl cZ) (ao (dK.eq (bi (by show b+4≠b+3;omega))))) (aT _ g0) fun b1 t1 ak _ _ _ _=>?_
  refine gH rfl (aT _ g1) fun b2 t2 aw _ _ _ _=>?_
  refine jS rfl ag ag (cu (jR _ _) (g4 g0 g1) (c8 _ (by simp) (by simp [*]))) fun b3 t3 aL _ _ _ _=>?_
  exact gD rfl ar fun s' hA hF=>⟨bf [(aL.n 0)] [] [] [] [],_,_,trivial,rfl,rfl,hA,hF,fun a h=>h,ag⟩
noncomputable def seg_j30:Rs :=
.nH (a9 [] fun ys=>.str (Q 0) (ys.n 0)) (aP b (b+1) (b+4) (b+5) (b+6) (b+7) (t+1) (W 0) (τ 0)) ⟨780,21,780,31⟩ [] (b+8) (t+11) [(795,#[.int 780 0,.int 20 0,rf (b+4)])] [.running] [] (Zg1 b t) fun b1 t1 ak =>
rH (a9 [] fun ys=>.str (Q 1) (ys.n 0)) (aP b (b+1) (b+4) (b+5) (b+6) (b+7) (t+1) (W 1) (τ 1)) ⟨780,21,780,31⟩ [] b1 (t1+1) [(795,#[.int 780 0,.int 20 0,rf (b+4)])] [.running] fun b2 t2 aw =>
rH (a9 [] fun ys=>.str (Q 2) (ys.n 0)) (aP b (b+1) (b+4) (b+5) (b+6) (b+7) (t+1) (W 2) (τ 2)) ⟨780,21,780,31⟩ [] b2 (t2+1) [(795,#[.int 780 0,.int 20 0,rf (b+4)])] [.running] fun b3 t3 aL =>
.nR (a9 [] fun ys=>.str R (ys.n 0)) (Zg5 b t) (cX (aX " ") #[Q 0,Q 1,Q 2]) ⟨780,11,780,58⟩ [] (b3+4) t3 [(795,#[.int 780 0,.int 20 0,rf (b+4)])] ej [] [] fun b4 t4 aG =>
rD (.ok (.ret (.str R (aG.n 0)))) [(la,ab #[.str (W 0) (τ 0),.str (W 1) (τ 1),.str (W 2) (τ 2)] m),(b+4,fO "code" [sv "<genexpr>" (t+2),sv "join.<locals>.<genexpr>" (t+3),sv "/claim/cut.py" (t+4),.int 780 0,.int 1 0,.int 0 0,.int 0 0,.int 51 0,rf (b+2),.bool true,.int 318 0,rf (b+3),.none,.none,.none,.none,nv (t+5) 0,.int 780 0,sv "/claim/cut.py" (t+6)])] b4 t4 [(795,#[.int 780 0,.int 20 0,rf (b+4)])] ej
theorem l7:ok w (aY la) bA [(la,ab #[.str (W 0) (τ 0),.str (W 1) (τ 1),.str (W 2) (τ 2)] m)] b t [(795,#[])] [] [0,9] 5 [K44,K35,K57,K39,K39,K40] [0,0,4,4,4,99999] [(0,.tree (bC (rf (b+7)) (rf (b+6)) (rf (b+7)))),(0,.tree (cC "list_iterator" dc (b+1) .none (cG (b+4) (b+5))))] [8,8,8,12] (@seg_j30 b t la m W Q τ R):=by revert w;refine @bs _ ?_ ?_<;>intro w<;>kernel_rfl
theorem join_30 (g0:d0 < 5) (g1:d1 < 5) (g2:d2 < 5):an (Vp w) (fw (ek [d0,d1,d2])) (aY la) bA [(la,ab #[.str (Wd d0) τ0,.str (Wd d1) τ1,.str (Wd d2) τ2] m)] b t [(795,#[])] []:=by
  refine qH (l7 (W:=fun i=>Wd ([d0,d1,d2].getD i 0)) (Q:=fun i=>Qs ([d0,d1,d2].getD i 0)) (τ:=fun i=>[τ0,τ1,τ2].getD i 0) (R:=ek [d0,d1,d2])) rfl fun s hs Ξ ar=>?_
  refine f6 rfl ag (ae (bl cZ) (ao (dK.eq (bi (by show b+7≠b+6;omega))))) (aT _ g0) fun b1 t1 ak _ _ _ _=>?_
  refine gH rfl (aT _ g1) fun b2 t2 aw _ _ _ _=>?_
  refine gH rfl (aT _ g2) fun b3 t3 aL _ _ _ _=>?_
  refine jS rfl ag ag (cu (jQ _ _ _) (gZ g0 g1 g2) (c8 _ (by simp) (by simp [*]))) fun b4 t4 aG _ _ _ _=>?_
  exact gD rfl ar fun s' hA hF=>⟨bf [(aG.n 0),b+4] [⟨[(.str (aX "<genexpr>") (t+2)),(.str (aX "join.<locals>.<genexpr>") (t+3)),(.str (aX "/claim/cut.py") (t+4)),(.int (780) 0),(.int (1) 0),(.int (0) 0),(.int (0) 0),(.int (51) 0),(.ref (b+2)),(.bool true),(.int (318) 0),(.ref (b+3)),.none,.none,.none,.none,(.int (.ofNat (t+5)) 0),(.int (780) 0),(.str (aX "/claim/cut.py") (t+6))]⟩] [] [] [],_,_,trivial,rfl,rfl,hA,hF,eX,ao (by show b≤b+4;omega)⟩
noncomputable def seg_j31:Rs :=
.nH (a9 [] fun ys=>.str (Q 0) (ys.n 0)) (aP b (b+1) cd (b+2) (b+3) (b+4) (t+1) (W 0) (τ 0)) ⟨780,21,780,31⟩ [] (b+5) (t+6) [(795,#[.int 780 0,.int 20 0,rf cd])] [.finished,.running] [] (Zg0 b cd t) fun b1 t1 ak =>
rH (a9 [] fun ys=>.str (Q 1) (ys.n 0)) (aP b (b+1) cd (b+2) (b+3) (b+4) (t+1) (W 1) (τ 1)) ⟨780,21,780,31⟩ [] b1 (t1+1) [(795,#[.int 780 0,.int 20 0,rf cd])] [.finished,.running] fun b2 t2 aw =>
rH (a9 [] fun ys=>.str (Q 2) (ys.n 0)) (aP b (b+1) cd (b+2) (b+3) (b+4) (t+1) (W 2) (τ 2)) ⟨780,21,780,31⟩ [] b2 (t2+1) [(795,#[.int 780 0,.int 20 0,rf cd])] [.finished,.running] fun b3 t3 aL =>
.nR (a9 [] fun ys=>.str R (ys.n 0)) (Zg3 b t) (cX (aX " ") #[Q 0,Q 1,Q 2]) ⟨780,11,780,58⟩ [] (b3+4) t3 [(795,#[.int 780 0,.int 20 0,rf cd])] ei [] [] fun b4 t4 aG =>
rD (.ok (.ret (.str R (aG.n 0)))) [(la,ab #[.str (W 0) (τ 0),.str (W 1) (τ 1),.str (W 2) (τ 2)] m),(cd,aB F)] b4 t4 [(795,#[.int 780 0,.int 20 0,rf cd])] ei
theorem l6:ok w (aY la) bA [(la,ab #[.str (W 0) (τ 0),.str (W 1) (τ 1),.str (W 2) (τ 2)] m),(cd,aB F)] b t [(795,#[.int 780 0,.int 20 0,rf cd])] ej [0,2] 5 [K50,K42,K62,K46,K46,K43] [0,0,4,4,4,99999] [(0,.tree (bC (rf (b+4)) (rf (b+3)) (rf (b+4)))),(0,.tree (cC "list_iterator" dc (b+1) .none (cG cd (b+2))))] [5,5,5,9] (@seg_j31 b t la cd m W Q τ F R):=by revert w;refine @bs _ ?_ ?_<;>intro w<;>kernel_rfl
theorem join_31 (g0:d0 < 5) (g1:d1 < 5) (g2:d2 < 5):an (Vp w) (dB (ek [d0,d1,d2])) (aY la) bA [(la,ab #[.str (Wd d0) τ0,.str (Wd d1) τ1,.str (Wd d2) τ2] m),(cd,aB F)] b t [(795,#[.int 780 0,.int 20 0,rf cd])] ej:=by
  refine qH (l6 (W:=fun i=>Wd ([d0,d1,d2].getD i 0)) (Q:=fun i=>Qs ([d0,d1,d2].getD i 0)) (τ:=fun i=>[τ0,τ1,τ2].getD i 0) (R:=ek [d0,d1,d2])) rfl fun s hs Ξ ar=>?_
  refine f6 rfl ag (ae (bl cZ) (ao (dK.eq (bi (by show b+4≠b+3;omega))))) (aT _ g0) fun b1 t1 ak _ _ _ _=>?_
  refine gH rfl (aT _ g1) fun b2 t2 aw _ _ _ _=>?_
  refine gH rfl (aT _ g2) fun b3 t3 aL _ _ _ _=>?_
  refine jS rfl ag ag (cu (jQ _ _ _) (gZ g0 g1 g2) (c8 _ (by simp) (by simp [*]))) fun b4 t4 aG _ _ _ _=>?_
  exact gD rfl ar fun s' hA hF=>⟨bf [(aG.n 0)] [] [] [] [],_,_,trivial,rfl,rfl,hA,hF,fun a h=>h,ag⟩
noncomputable def seg_j32:Rs :=
.nH (a9 [] fun ys=>.str (Q 0) (ys.n 0)) (aP b (b+1) cd (b+2) (b+3) (b+4) (t+1) (W 0) (τ 0)) ⟨780,21,780,31⟩ [] (b+5) (t+6) [(795,#[.int 780 0,.int 20 0,rf cd])] [.finished,.finished,.running] [] (Zg0 b cd t) fun b1 t1 ak =>
rH (a9 [] fun ys=>.str (Q 1) (ys.n 0)) (aP b (b+1) cd (b+2) (b+3) (b+4) (t+1) (W 1) (τ 1)) ⟨780,21,780,31⟩ [] b1 (t1+1) [(795,#[.int 780 0,.int 20 0,rf cd])] [.finished,.finished,.running] fun b2 t2 aw =>
rH (a9 [] fun ys=>.str (Q 2) (ys.n 0)) (aP b (b+1) cd (b+2) (b+3) (b+4) (t+1) (W 2) (τ 2)) ⟨780,21,780,31⟩ [] b2 (t2+1) [(795,#[.int 780 0,.int 20 0,rf cd])] [.finished,.finished,.running] fun b3 t3 aL =>
.nR (a9 [] fun ys=>.str R (ys.n 0)) (Zg3 b t) (cX (aX " ") #[Q 0,Q 1,Q 2]) ⟨780,11,780,58⟩ [] (b3+4) t3 [(795,#[.int 780 0,.int 20 0,rf cd])] ij [] [] fun b4 t4 aG =>
rD (.ok (.ret (.str R (aG.n 0)))) [(la,ab #[.str (W 0) (τ 0),.str (W 1) (τ 1),.str (W 2) (τ 2)] m),(cd,aB F)] b4 t4 [(795,#[.int 780 0,.int 20 0,rf cd])] ij
theorem l3:ok w (aY la) bA [(la,ab #[.str (W 0) (τ 0),.str (W 1) (τ 1),.str (W 2) (τ 2)] m),(cd,aB F)] b t [(795,#[.int 780 0,.int 20 0,rf cd])] ei [0,2] 5 [K50,K42,K62,K46,K46,K43] [0,0,4,4,4,99999] [(0,.tree (bC (rf (b+4)) (rf (b+3)) (rf (b+4)))),(0,.tree (cC "list_iterator" dc (b+1) .none (cG cd (b+2))))] [5,5,5,9] (@seg_j32 b t la cd m W Q τ F R):=by revert w;refine @bs _ ?_ ?_<;>intro w<;>kernel_rfl
theorem join_32 (g0:d0 < 5) (g1:d1 < 5) (g2:d2 < 5):an (Vp w) (dB (ek [d0,d1,d2])) (aY la) bA [(la,ab #[.str (Wd d0) τ0,.str (Wd d1) τ1,.str (Wd d2) τ2] m),(cd,aB F)] b t [(795,#[.int 780 0,.int 20 0,rf cd])] ei:=by
  refine qH (l3 (W:=fun i=>Wd ([d0,d1,d2].getD i 0)) (Q:=fun i=>Qs ([d0,d1,d2].getD i 0)) (τ:=fun i=>[τ0,τ1,τ2].getD i 0) (R:=ek [d0,d1,d2])) rfl fun s hs Ξ ar=>?_
  refine f6 rfl ag (ae (bl cZ) (ao (dK.eq (bi (by show b+4≠b+3;omega))))) (aT _ g0) fun b1 t1 ak _ _ _ _=>?_
  refine gH rfl (aT _ g1) fun b2 t2 aw _ _ _ _=>?_
  refine gH rfl (aT _ g2) fun b3 t3 aL _ _ _ _=>?_
  refine jS rfl ag ag (cu (jQ _ _ _) (gZ g0 g1 g2) (c8 _ (by simp) (by simp [*]))) fun b4 t4 aG _ _ _ _=>?_
  exact gD rfl ar fun s' hA hF=>⟨bf [(aG.n 0)] [] [] [] [],_,_,trivial,rfl,rfl,hA,hF,fun a h=>h,ag⟩
noncomputable def seg_j40:Rs :=
.nH (a9 [] fun ys=>.str (Q 0) (ys.n 0)) (aP b (b+1) (b+4) (b+5) (b+6) (b+7) (t+1) (W 0) (τ 0)) ⟨780,21,780,31⟩ [] (b+8) (t+11) [(795,#[.int 780 0,.int 20 0,rf (b+4)])] [.running] [] (Zg1 b t) fun b1 t1 ak =>
rH (a9 [] fun ys=>.str (Q 1) (ys.n 0)) (aP b (b+1) (b+4) (b+5) (b+6) (b+7) (t+1) (W 1) (τ 1)) ⟨780,21,780,31⟩ [] b1 (t1+1) [(795,#[.int 780 0,.int 20 0,rf (b+4)])] [.running] fun b2 t2 aw =>
rH (a9 [] fun ys=>.str (Q 2) (ys.n 0)) (aP b (b+1) (b+4) (b+5) (b+6) (b+7) (t+1) (W 2) (τ 2)) ⟨780,21,780,31⟩ [] b2 (t2+1) [(795,#[.int 780 0,.int 20 0,rf (b+4)])] [.running] fun b3 t3 aL =>
rH (a9 [] fun ys=>.str (Q 3) (ys.n 0)) (aP b (b+1) (b+4) (b+5) (b+6) (b+7) (t+1) (W 3) (τ 3)) ⟨780,21,780,31⟩ [] b3 (t3+1) [(795,#[.int 780 0,.int 20 0,rf (b+4)])] [.running] fun b4 t4 aG =>
.nR (a9 [] fun ys=>.str R (ys.n 0)) (Zg5 b t) (cX (aX " ") #[Q 0,Q 1,Q 2,Q 3]) ⟨780,11,780,58⟩ [] (b4+4) t4 [(795,#[.int 780 0,.int 20 0,rf (b+4)])] ej [] [] fun b5 t5 bx =>
rD (.ok (.ret (.str R (bx.n 0)))) [(la,ab #[.str (W 0) (τ 0),.str (W 1) (τ 1),.str (W 2) (τ 2),.str (W 3) (τ 3)] m),(b+4,fO "code" [sv "<genexpr>" (t+2),sv "join.<locals>.<genexpr>" (t+3),sv "/claim/cut.py" (t+4),.int 780 0,.int 1 0,.int 0 0,.int 0 0,.int 51 0,rf (b+2),.bool true,.int 318 0,rf (b+3),.none,.none,.none,.none,nv (t+5) 0,.int 780 0,sv "/claim/cut.py" (t+6)])] b5 t5 [(795,#[.int 780 0,.int 20 0,rf (b+4)])] ej
theorem l1:ok w (aY la) bA [(la,ab #[.str (W 0) (τ 0),.str (W 1) (τ 1),.str (W 2) (τ 2),.str (W 3) (τ 3)] m)] b t [(795,#[])] [] [0,9] 5 [K44,K35,K57,K39,K39,K39,K40] [0,0,4,4,4,4,99999] [(0,.tree (bC (rf (b+7)) (rf (b+6)) (rf (b+7)))),(0,.tree (cC "list_iterator" dc (b+1) .none (cG (b+4) (b+5))))] [8,8,8,8,12] (@seg_j40 b t la m W Q τ R):=by revert w;refine @bs _ ?_ ?_<;>intro w<;>kernel_rfl
theorem join_40 (g0:d0 < 5) (g1:d1 < 5) (g2:d2 < 5) (g3:d3 < 5):an (Vp w) (fw (ek [d0,d1,d2,d3])) (aY la) bA [(la,ab #[.str (Wd d0) τ0,.str (Wd d1) τ1,.str (Wd d2) τ2,.str (Wd d3) τ3] m)] b t [(795,#[])] []:=by
  refine qH (l1 (W:=fun i=>Wd ([d0,d1,d2,d3].getD i 0)) (Q:=fun i=>Qs ([d0,d1,d2,d3].getD i 0)) (τ:=fun i=>[τ0,τ1,τ2,τ3].getD i 0) (R:=ek [d0,d1,d2,d3])) rfl fun s hs Ξ ar=>?_
  refine f6 rfl ag (ae (bl cZ) (ao (dK.eq (bi (by show b+7≠b+6;omega))))) (aT _ g0) fun b1 t1 ak _ _ _ _=>?_
  refine gH rfl (aT _ g1) fun b2 t2 aw _ _ _ _=>?_
  refine gH rfl (aT _ g2) fun b3 t3 aL _ _ _ _=>?_
  refine gH rfl (aT _ g3) fun b4 t4 aG _ _ _ _=>?_
  refine jS rfl ag ag (cu (jP _ _ _ _) (gY g0 g1 g2 g3) (c8 _ (by simp) (by simp [*]))) fun b5 t5 bx _ _ _ _=>?_
  exact gD rfl ar fun s' hA hF=>⟨bf [(bx.n 0),b+4] [⟨[(.str (aX "<genexpr>") (t+2)),(.str (aX "join.<locals>.<genexpr>") (t+3)),(.str (aX "/claim/cut.py") (t+4)),(.int (780) 0),(.int (1) 0),(.int (0) 0),(.int (0) 0),(.int (51) 0),(.ref (b+2)),(.bool true),(.int (318) 0),(.ref (b+3)),.none,.none,.none,.none,(.int (.ofNat (t+5)) 0),(.int (780) 0),(.str (aX "/claim/cut.py") (t+6))]⟩] [] [] [],_,_,trivial,rfl,rfl,hA,hF,eX,ao (by show b≤b+4;omega)⟩
noncomputable abbrev Zg4 (F:Array Value) (W:Nat→Str) (cd la m:Nat) (τ:Nat→Nat):ax :=
  [(la,ab #[.str (W 0) (τ 0),.str (W 1) (τ 1),.str (W 2) (τ 2),.str (W 3) (τ 3)] m),(cd,aB F)]
noncomputable def seg_j41:Rs :=
.nH (a9 [] fun ys=>.str (Q 0) (ys.n 0)) (aP b (b+1) cd (b+2) (b+3) (b+4) (t+1) (W 0) (τ 0)) ⟨780,21,780,31⟩ [] (b+5) (t+6) [(795,#[.int 780 0,.int 20 0,rf cd])] [.finished,.running] [] (Zg0 b cd t) fun b1 t1 ak =>
rH (a9 [] fun ys=>.str (Q 1) (ys.n 0)) (aP b (b+1) cd (b+2) (b+3) (b+4) (t+1) (W 1) (τ 1)) ⟨780,21,780,31⟩ [] b1 (t1+1) [(795,#[.int 780 0,.int 20 0,rf cd])] [.finished,.running] fun b2 t2 aw =>
rH (a9 [] fun ys=>.str (Q 2) (ys.n 0)) (aP b (b+1) cd (b+2) (b+3) (b+4) (t+1) (W 2) (τ 2)) ⟨780,21,780,31⟩ [] b2 (t2+1) [(795,#[.int 780 0,.int 20 0,rf cd])] [.finished,.running] fun b3 t3 aL =>
rH (a9 [] fun ys=>.str (Q 3) (ys.n 0)) (aP b (b+1) cd (b+2) (b+3) (b+4) (t+1) (W 3) (τ 3)) ⟨780,21,780,31⟩ [] b3 (t3+1) [(795,#[.int 780 0,.int 20 0,rf cd])] [.finished,.running] fun b4 t4 aG =>
.nR (a9 [] fun ys=>.str R (ys.n 0)) (Zg3 b t) (cX (aX " ") #[Q 0,Q 1,Q 2,Q 3]) ⟨780,11,780,58⟩ [] (b4+4) t4 [(795,#[.int 780 0,.int 20 0,rf cd])] ei [] [] fun b5 t5 bx =>
rD (.ok (.ret (.str R (bx.n 0)))) (Zg4 F W cd la m τ) b5 t5 [(795,#[.int 780 0,.int 20 0,rf cd])] ei
theorem l0:ok w (aY la) bA (Zg4 F W cd la m τ) b t [(795,#[.int 780 0,.int 20 0,rf cd])] ej [0,2] 5 [K50,K42,K62,K46,K46,K46,K43] [0,0,4,4,4,4,99999] [(0,.tree (bC (rf (b+4)) (rf (b+3)) (rf (b+4)))),(0,.tree (cC "list_iterator" dc (b+1) .none (cG cd (b+2))))] [5,5,5,5,9] (@seg_j41 b t la cd m W Q τ F R):=by revert w;refine @bs _ ?_ ?_<;>intro w<;>kernel_rfl
theorem join_41 (g0:d0 < 5) (g1:d1 < 5) (g2:d2 < 5) (g3:d3 < 5):an (Vp w) (dB (ek [d0,d1,d2,d3])) (aY la) bA [(la,ab #[.str (Wd d0) τ0,.str (Wd d1) τ1,.str (Wd d2) τ2,.str (Wd d3) τ3] m),(cd,aB F)] b t [(795,#[.int 780 0,.int 20 0,rf cd])] ej:=by
  refine qH (l0 (W:=fun i=>Wd ([d0,d1,d2,d3].getD i 0)) (Q:=fun i=>Qs ([d0,d1,d2,d3].getD i 0)) (τ:=fun i=>[τ0,τ1,τ2,τ3].getD i 0) (R:=ek [d0,d1,d2,d3])) rfl fun s hs Ξ ar=>?_
  refine f6 rfl ag (ae (bl cZ) (ao (dK.eq (bi (by show b+4≠b+3;omega))))) (aT _ g0) fun b1 t1 ak _ _ _ _=>?_
  refine gH rfl (aT _ g1) fun b2 t2 aw _ _ _ _=>?_
  refine gH rfl (aT _ g2) fun b3 t3 aL _ _ _ _=>?_
  refine gH rfl (aT _ g3) fun b4 t4 aG _ _ _ _=>?_
  refine jS rfl ag ag (cu (jP _ _ _ _) (gY g0 g1 g2 g3) (c8 _ (by simp) (by simp [*]))) fun b5 t5 bx _ _ _ _=>?_
  exact gD rfl ar fun s' hA hF=>⟨bf [(bx.n 0)] [] [] [] [],_,_,trivial,rfl,rfl,hA,hF,fun a h=>h,ag⟩
noncomputable def seg_j42:Rs :=
.nH (a9 [] fun ys=>.str (Q 0) (ys.n 0)) (aP b (b+1) cd (b+2) (b+3) (b+4) (t+1) (W 0) (τ 0)) ⟨780,21,780,31⟩ [] (b+5) (t+6) [(795,#[.int 780 0,.int 20 0,rf cd])] [.finished,.finished,.running] [] (Zg0 b cd t) fun b1 t1 ak =>
rH (a9 [] fun ys=>.str (Q 1) (ys.n 0)) (aP b (b+1) cd (b+2) (b+3) (b+4) (t+1) (W 1) (τ 1)) ⟨780,21,780,31⟩ [] b1 (t1+1) [(795,#[.int 780 0,.int 20 0,rf cd])] [.finished,.finished,.running] fun b2 t2 aw =>
rH (a9 [] fun ys=>.str (Q 2) (ys.n 0)) (aP b (b+1) cd (b+2) (b+3) (b+4) (t+1) (W 2) (τ 2)) ⟨780,21,780,31⟩ [] b2 (t2+1) [(795,#[.int 780 0,.int 20 0,rf cd])] [.finished,.finished,.running] fun b3 t3 aL =>
rH (a9 [] fun ys=>.str (Q 3) (ys.n 0)) (aP b (b+1) cd (b+2) (b+3) (b+4) (t+1) (W 3) (τ 3)) ⟨780,21,780,31⟩ [] b3 (t3+1) [(795,#[.int 780 0,.int 20 0,rf cd])] [.finished,.finished,.running] fun b4 t4 aG =>
.nR (a9 [] fun ys=>.str R (ys.n 0)) (Zg3 b t) (cX (aX " ") #[Q 0,Q 1,Q 2,Q 3]) ⟨780,11,780,58⟩ [] (b4+4) t4 [(795,#[.int 780 0,.int 20 0,rf cd])] ij [] [] fun b5 t5 bx =>
rD (.ok (.ret (.str R (bx.n 0)))) (Zg4 F W cd la m τ) b5 t5 [(795,#[.int 780 0,.int 20 0,rf cd])] ij
theorem lZ:ok w (aY la) bA (Zg4 F W cd la m τ) b t [(795,#[.int 780 0,.int 20 0,rf cd])] ei [0,2] 5 [K50,K42,K62,K46,K46,K46,K43] [0,0,4,4,4,4,99999] [(0,.tree (bC (rf (b+4)) (rf (b+3)) (rf (b+4)))),(0,.tree (cC "list_iterator" dc (b+1) .none (cG cd (b+2))))] [5,5,5,5,9] (@seg_j42 b t la cd m W Q τ F R):=by revert w;refine @bs _ ?_ ?_<;>intro w<;>kernel_rfl
theorem join_42 (g0:d0 < 5) (g1:d1 < 5) (g2:d2 < 5) (g3:d3 < 5):an (Vp w) (dB (ek [d0,d1,d2,d3])) (aY la) bA [(la,ab #[.str (Wd d0) τ0,.str (Wd d1) τ1,.str (Wd d2) τ2,.str (Wd d3) τ3] m),(cd,aB F)] b t [(795,#[.int 780 0,.int 20 0,rf cd])] ei:=by
  refine qH (lZ (W:=fun i=>Wd ([d0,d1,d2,d3].getD i 0)) (Q:=fun i=>Qs ([d0,d1,d2,d3].getD i 0)) (τ:=fun i=>[τ0,τ1,τ2,τ3].getD i 0) (R:=ek [d0,d1,d2,d3])) rfl fun s hs Ξ ar=>?_
  refine f6 rfl ag (ae (bl cZ) (ao (dK.eq (bi (by show b+4≠b+3;omega))))) (aT _ g0) fun b1 t1 ak _ _ _ _=>?_
  refine gH rfl (aT _ g1) fun b2 t2 aw _ _ _ _=>?_
  refine gH rfl (aT _ g2) fun b3 t3 aL _ _ _ _=>?_
  refine gH rfl (aT _ g3) fun b4 t4 aG _ _ _ _=>?_
  refine jS rfl ag ag (cu (jP _ _ _ _) (gY g0 g1 g2 g3) (c8 _ (by simp) (by simp [*]))) fun b5 t5 bx _ _ _ _=>?_
  exact gD rfl ar fun s' hA hF=>⟨bf [(bx.n 0)] [] [] [] [],_,_,trivial,rfl,rfl,hA,hF,fun a h=>h,ag⟩
theorem mK:∀ {ds:List Nat} {vs:Array Value},ds.length≤4→(∀ d∈ds,d < 5)→aD vs (ds.map Wd)→an (Vp w) (fw (ek ds)) (aY la) bA [(la,ab vs m)] b t [(795,#[])] []
  | [],vs,_,hd,hs=>by
    have e:=bH (StrsAre.nil_inv hs)
    subst e
    exact join_00 
  | [d0],vs,_,hd,hs=>by
    obtain ⟨τ0,v0,hs,h1⟩:=StrsAre.cons_inv hs
    have e0:=StrsAre.nil_inv h1
    subst e0
    have e:=bH hs
    subst e
    exact join_10 (hd _ (.head _))
  | [d0,d1],vs,_,hd,hs=>by
    obtain ⟨τ0,v0,hs,h1⟩:=StrsAre.cons_inv hs
    obtain ⟨τ1,v1,e1,h2⟩:=StrsAre.cons_inv h1
    have e0:=StrsAre.nil_inv h2
    subst e0
    subst e1
    have e:=bH hs
    subst e
    exact join_20 (hd _ (.head _)) (hd _ Y1)
  | [d0,d1,d2],vs,_,hd,hs=>by
    obtain ⟨τ0,v0,hs,h1⟩:=StrsAre.cons_inv hs
    obtain ⟨τ1,v1,e1,h2⟩:=StrsAre.cons_inv h1
    obtain ⟨τ2,v2,e2,h3⟩:=StrsAre.cons_inv h2
    have e0:=StrsAre.nil_inv h3
    subst e0
    subst e2
    subst e1
    have e:=bH hs
    subst e
    exact join_30 (hd _ (.head _)) (hd _ Y1) (hd _ Y2)
  | [d0,d1,d2,d3],vs,_,hd,hs=>by
    obtain ⟨τ0,v0,hs,h1⟩:=StrsAre.cons_inv hs
    obtain ⟨τ1,v1,e1,h2⟩:=StrsAre.cons_inv h1
    obtain ⟨τ2,v2,e2,h3⟩:=StrsAre.cons_inv h2
    obtain ⟨τ3,v3,e3,h4⟩:=StrsAre.cons_inv h3
    have e0:=StrsAre.nil_inv h4
    subst e0
    subst e3
    subst e2
    subst e1
    have e:=bH hs
    subst e
    exact join_40 (hd _ (.head _)) (hd _ Y1) (hd _ Y2) (hd _ Y3)
  | _ :: _ :: _ :: _ :: _ :: _,_,h,_,_=>absurd h (by simp)
theorem mJ:∀ {ds:List Nat} {vs:Array Value},ds.length≤4→(∀ d∈ds,d < 5)→aD vs (ds.map Wd)→an (Vp w) (dB (ek ds)) (aY la) bA [(la,ab vs m),(cd,aB F)] b t [(795,#[.int 780 0,.int 20 0,rf cd])] ej
  | [],vs,_,hd,hs=>by
    have e:=bH (StrsAre.nil_inv hs)
    subst e
    exact join_01 
  | [d0],vs,_,hd,hs=>by
    obtain ⟨τ0,v0,hs,h1⟩:=StrsAre.cons_inv hs
    have e0:=StrsAre.nil_inv h1
    subst e0
    have e:=bH hs
    subst e
    exact join_11 (hd _ (.head _))
  | [d0,d1],vs,_,hd,hs=>by
    obtain ⟨τ0,v0,hs,h1⟩:=StrsAre.cons_inv hs
    obtain ⟨τ1,v1,e1,h2⟩:=StrsAre.cons_inv h1
    have e0:=StrsAre.nil_inv h2
    subst e0
    subst e1
    have e:=bH hs
    subst e
    exact join_21 (hd _ (.head _)) (hd _ Y1)
  | [d0,d1,d2],vs,_,hd,hs=>by
    obtain ⟨τ0,v0,hs,h1⟩:=StrsAre.cons_inv hs
    obtain ⟨τ1,v1,e1,h2⟩:=StrsAre.cons_inv h1
    obtain ⟨τ2,v2,e2,h3⟩:=StrsAre.cons_inv h2
    have e0:=StrsAre.nil_inv h3
    subst e0
    subst e2
    subst e1
    have e:=bH hs
    subst e
    exact join_31 (hd _ (.head _)) (hd _ Y1) (hd _ Y2)
  | [d0,d1,d2,d3],vs,_,hd,hs=>by
    obtain ⟨τ0,v0,hs,h1⟩:=StrsAre.cons_inv hs
    obtain ⟨τ1,v1,e1,h2⟩:=StrsAre.cons_inv h1
    obtain ⟨τ2,v2,e2,h3⟩:=StrsAre.cons_inv h2
    obtain ⟨τ3,v3,e3,h4⟩:=StrsAre.cons_inv h3
    have e0:=StrsAre.nil_inv h4
    subst e0
    subst e3
    subst e2
    subst e1
    have e:=bH hs
    subst e
    exact join_41 (hd _ (.head _)) (hd _ Y1) (hd _ Y2) (hd _ Y3)
  | _ :: _ :: _ :: _ :: _ :: _,_,h,_,_=>absurd h (by simp)
theorem mH:∀ {ds:List Nat} {vs:Array Value},ds.length≤4→(∀ d∈ds,d < 5)→aD vs (ds.map Wd)→an (Vp w) (dB (ek ds)) (aY la) bA [(la,ab vs m),(cd,aB F)] b t [(795,#[.int 780 0,.int 20 0,rf cd])] ei
  | [],vs,_,hd,hs=>by
    have e:=bH (StrsAre.nil_inv hs)
    subst e
    exact join_02 
  | [d0],vs,_,hd,hs=>by
    obtain ⟨τ0,v0,hs,h1⟩:=StrsAre.cons_inv hs
    have e0:=StrsAre.nil_inv h1
    subst e0
    have e:=bH hs
    subst e
    exact join_12 (hd _ (.head _))
  | [d0,d1],vs,_,hd,hs=>by
    obtain ⟨τ0,v0,hs,h1⟩:=StrsAre.cons_inv hs
    obtain ⟨τ1,v1,e1,h2⟩:=StrsAre.cons_inv h1
    have e0:=StrsAre.nil_inv h2
    subst e0
    subst e1
    have e:=bH hs
    subst e
    exact join_22 (hd _ (.head _)) (hd _ Y1)
  | [d0,d1,d2],vs,_,hd,hs=>by
    obtain ⟨τ0,v0,hs,h1⟩:=StrsAre.cons_inv hs
    obtain ⟨τ1,v1,e1,h2⟩:=StrsAre.cons_inv h1
    obtain ⟨τ2,v2,e2,h3⟩:=StrsAre.cons_inv h2
    have e0:=StrsAre.nil_inv h3
    subst e0
    subst e2
    subst e1
    have e:=bH hs
    subst e
    exact join_32 (hd _ (.head _)) (hd _ Y1) (hd _ Y2)
  | [d0,d1,d2,d3],vs,_,hd,hs=>by
    obtain ⟨τ0,v0,hs,h1⟩:=StrsAre.cons_inv hs
    obtain ⟨τ1,v1,e1,h2⟩:=StrsAre.cons_inv h1
    obtain ⟨τ2,v2,e2,h3⟩:=StrsAre.cons_inv h2
    obtain ⟨τ3,v3,e3,h4⟩:=StrsAre.cons_inv h3
    have e0:=StrsAre.nil_inv h4
    subst e0
    subst e3
    subst e2
    subst e1
    have e:=bH hs
    subst e
    exact join_42 (hd _ (.head _)) (hd _ Y1) (hd _ Y2) (hd _ Y3)
  | _ :: _ :: _ :: _ :: _ :: _,_,h,_,_=>absurd h (by simp)
end
section
variable {P:Pos} {b t m k0 k1 k2 k3 k4 k5 k6 k7 cd w0 m0 e0 d0 u0 r0 n0 o0 i00 i01 i02 i03 w1 m1 e1 d1 u1 r1 n1 o1 i10 i11 i12 i13 w2 m2 e2 d2 u2 r2 n2 o2 i20 i21 i22 i23 c la ν M2 wa:Nat} {ns F vs0 us0 vs1 us1 vs2 us2 A vs tb:Array Value} {D0 D1 D2 vp vc vr vw vd:Value} {S:Int} {w:World} {ds req es:List Nat} {E2:Array DictEntry} {gl:List GenState} {sl:Array (Option Value)} {J:Str}
noncomputable abbrev frF (P:Params) (k0 k1 k2 k3 k4 k5 k6 k7:Nat) (vp vc vr vw vd:Value) (sl:Array (Option Value)):Obj:=⟨.type "frame",none,.dict #[aq P "script" k0 (.ref 873),aq P "delays" k1 (.ref 879),aq P "entries" k2 (.ref 880),aq P "place" k3 vp,aq P "cell" k4 vc,aq P "rest" k5 vr,aq P "words" k6 vw,aq P "read" k7 vd] 8,sl⟩
noncomputable abbrev fA (w:World):=frF w.params
noncomputable abbrev frF0 (P:Params) (k0 k1 k2:Nat):Obj:=⟨.type "frame",none,.dict #[aq P "script" k0 (.ref 873),aq P "delays" k1 (.ref 879),aq P "entries" k2 (.ref 880)] 3,#[]⟩
noncomputable abbrev frF0w (w:World):=frF0 w.params
noncomputable def bh:Ctx:=j5 (bt (az aR) 3) (.ref 882) ⟨847,17,847,25⟩
noncomputable abbrev hkJ0 (req:List Nat):Hk:=⟨req,fun _ ys=>.ok (.ret (.str (ys.s 0) (ys.n 0))),fun pre _=>pre.map (·.2),fun _ ys=>[(ys.n 1,aB (ys.a 0))],fun _ ys=>[(795,#[.int 780 0,.int 20 0,.ref (ys.n 1)])],1,fun pre ys=>∃ ds:List Nat,ds.length≤4∧(∀ d∈ds,d < 5)∧StrsAre (bn pre 0).toList (ds.map Wd)∧ys.s 0=ek ds⟩
noncomputable abbrev kW (req:List Nat):Hk:=⟨req,fun _ ys=>.ok (.ret (.str (ys.s 0) (ys.n 0))),fun pre _=>pre.map (·.2),fun _ _=>[],fun _ _=>[],1,fun pre ys=>∃ ds:List Nat,ds.length≤4∧(∀ d∈ds,d < 5)∧StrsAre (bn pre 0).toList (ds.map Wd)∧ys.s 0=ek ds⟩
noncomputable abbrev jL (req:List Nat):Hk:=⟨req,fun _ ys=>.ok (.ret (.ref (ys.n 0))),fun pre _=>match pre with
  | [x,y]=>[fU bp x.2,y.2]
  | _=>[],fun _ ys=>[(ys.n 0,ab (ys.a 0) (ys.n 1))],fun _ _=>[],0,fun pre ys=>∃ Ws:List Str,Ws.length≤4∧StrsAre (bn pre 1).toList Ws∧StrsAre (ys.a 0).toList Ws⟩
noncomputable def natV:Value→Value
  | .int i τ=>.int (.ofNat i.toNat) τ
  | v=>v
noncomputable abbrev ay (D:Value):Prop:=D = .none∨∃ x τ:Nat,x < 512∧D = .int (.ofNat (32768+x)) τ
noncomputable abbrev fx (vs us:Array Value) (D:Value):Prop:=∃ ds:List Nat,ds.length≤4∧(∀ d∈ds,d < 5)∧StrsAre vs.toList (ds.map Wd)∧StrsAre us.toList (ds.map Wd)∧ay D
theorem dN {v u:List Value} {A B:List Str} (h1:StrsAre v A) (h2:StrsAre v B) (h3:StrsAre u B):StrsAre u A:=by
  have e:A=B:=by rw [← StrsAre.strs h1,StrsAre.strs h2]
  subst e;exact h3
theorem g8 (c:Nat) (τ:Nat):Value.int (Int.add 32768 (Int.fmod (.ofNat c) 512)) τ = .int (.ofNat (Int.toNat (Int.add 32768 (Int.fmod (.ofNat c) 512)))) τ:=by
  congr 1
  have h:0≤Int.fmod (.ofNat c) 512:=Int.fmod_nonneg_of_pos _ (by decide)
  generalize Int.fmod (.ofNat c) 512=z at h ⊢
  show (32768:Int)+z=Int.ofNat (Int.toNat ((32768:Int)+z))
  rw [Int.ofNat_eq_natCast]
  omega
theorem gk (c τ:Nat):ay (.int (.ofNat (Int.toNat (Int.add 32768 (Int.fmod (.ofNat c) 512)))) τ):=by
  have h:Int.fmod (.ofNat c) 512=((c % 512:Nat):Int):=by cases c <;> rfl
  refine .inr ⟨c % 512,τ,Nat.mod_lt _ (by decide),?_⟩
  rw [h]
  congr 2
theorem eE (ds:List Nat) (hl:ds.length≤4) (hd:∀ d∈ds,d < 5):(ek ds).cps.size≤2 ^ 20:=by
  have:=jJ ds hd
  show (jn ds).toArray.size≤2 ^ 20
  simp;omega
theorem mN (h4:ds.length≤4) (h5:∀ d∈ds,d < 5) (hs:aD vs (ds.map Wd)):an (Vp w) (hkJ0 req) (aY la) bA [(la,ab vs m)] b t [(795,#[])] [] :=
  (mK h4 h5 hs).conv fun ys _=>⟨{ ys with s:=fun _=>ek ds },⟨ds,h4,h5,hs,rfl⟩,rfl,rfl,rfl,rfl,rfl⟩
theorem mM (h4:ds.length≤4) (h5:∀ d∈ds,d < 5) (hs:aD vs (ds.map Wd)):an (Vp w) (kW req) (aY la) bA [(la,ab vs m),(cd,aB F)] b t [(795,#[.int 780 0,.int 20 0,rf cd])] ej :=
  (mJ h4 h5 hs).conv fun ys _=>⟨{ ys with s:=fun _=>ek ds },⟨ds,h4,h5,hs,rfl⟩,rfl,rfl,rfl,rfl,rfl⟩
theorem mL (h4:ds.length≤4) (h5:∀ d∈ds,d < 5) (hs:aD vs (ds.map Wd)):an (Vp w) (kW req) (aY la) bA [(la,ab vs m),(cd,aB F)] b t [(795,#[.int 780 0,.int 20 0,rf cd])] ei :=
  (mH h4 h5 hs).conv fun ys _=>⟨{ ys with s:=fun _=>ek ds },⟨ds,h4,h5,hs,rfl⟩,rfl,rfl,rfl,rfl,rfl⟩
theorem splitA (hsl:sl = #[]∨sl=bp):∀ {es:List Nat},es.length≤4→(∀ d∈es,d < 5)→HB w (fv req (es.map Wd)) (eN (ek es) ν) ⟨854,15,854,39⟩ [(874,⟨.type "frame",none,.dict E2 M2,sl⟩)] b t tb gl
  | [],_,hd=>split_0 hsl  (eE _ (by simp) hd) rfl
  | [d0],_,hd=>split_1 hsl (hd _ (.head _)) (eE _ (by simp) hd) rfl
  | [d0,d1],_,hd=>split_2 hsl (hd _ (.head _)) (hd _ Y1) (eE _ (by simp) hd) rfl
  | [d0,d1,d2],_,hd=>split_3 hsl (hd _ (.head _)) (hd _ Y1) (hd _ Y2) (eE _ (by simp) hd) rfl
  | [d0,d1,d2,d3],_,hd=>split_4 hsl (hd _ (.head _)) (hd _ Y1) (hd _ Y2) (hd _ Y3) (eE _ (by simp) hd) rfl
  | _ :: _ :: _ :: _ :: _ :: _,h,_=>absurd h (by simp)
theorem f7 (hsl:sl = #[]∨sl=bp) (hJ:J=ek es) (h4:es.length≤4) (h5:∀ d∈es,d < 5) (hs:aD vs (es.map Wd)):HB w (jL req) (eN J ν) ⟨854,15,854,39⟩ [(874,⟨.type "frame",none,.dict E2 M2,sl⟩),(wa,ab vs m)] b t tb gl:=by
  subst hJ
  exact (splitA (req:=req) hsl h4 h5).ext [(wa,ab vs m)] fun ys hk=>⟨ys,⟨es.map Wd,by simpa using h4,hs,hk⟩,rfl,rfl,rfl,rfl,rfl⟩
noncomputable def hkF0 (w:World) (req:List Nat):Hk:=⟨req,fun _ _=>.ok .next,fun pre ys=>match pre with
  | [x0,x1,x2,x3,x4,x5,x6]=>[x0.2,fA w (ys.n 0) (ys.n 1) (ys.n 2) (ys.n 3) (ys.n 4) (ys.n 5) (ys.n 6) (ys.n 7) (ys.v 0) (ys.v 1) (ys.v 2) (ys.v 3) (ys.v 4) bp,x2.2,ab ⟨(bn pre 3).toList++[.ref (ys.n 20),.ref (ys.n 40),.ref (ys.n 60)]⟩ (ys.n 10),ab ⟨(bn pre 4).toList++[ys.v 10,ys.v 11,ys.v 12]⟩ (ys.n 11),ab ⟨(bn pre 5).toList++[.ref (ys.n 22),.ref (ys.n 42),.ref (ys.n 62)]⟩ (ys.n 12),av 3 0]
  | _=>[],fun _ ys=>[(ys.n 8,aB (ys.a 0)),((ys.n 20),ab (ys.a 1) (ys.n 21)),((ys.n 22),af (ys.n 23)),((ys.n 23),ac w (ys.n 28) (ys.n 29) (ys.n 30) (ys.n 31) (ys.n 24) (ys.n 25) (ys.v 10)),((ys.n 24),ab (ys.a 2) (ys.n 26)),((ys.n 25),ab #[] (ys.n 27)),((ys.n 40),ab (ys.a 3) (ys.n 41)),((ys.n 42),af (ys.n 43)),((ys.n 43),ac w (ys.n 48) (ys.n 49) (ys.n 50) (ys.n 51) (ys.n 44) (ys.n 45) (ys.v 11)),((ys.n 44),ab (ys.a 4) (ys.n 46)),((ys.n 45),ab #[] (ys.n 47)),((ys.n 60),ab (ys.a 5) (ys.n 61)),((ys.n 62),af (ys.n 63)),((ys.n 63),ac w (ys.n 68) (ys.n 69) (ys.n 70) (ys.n 71) (ys.n 64) (ys.n 65) (ys.v 12)),((ys.n 64),ab (ys.a 6) (ys.n 66)),((ys.n 65),ab #[] (ys.n 67))],fun _ ys=>[(795,#[.int 780 0,.int 20 0,.ref (ys.n 8)])],3,fun _ ys=>fx (ys.a 1) (ys.a 2) (ys.v 10)∧fx (ys.a 3) (ys.a 4) (ys.v 11)∧fx (ys.a 5) (ys.a 6) (ys.v 12)⟩
noncomputable def hkF1 (w:World) (req:List Nat):Hk:=⟨req,fun _ _=>.ok .next,fun pre ys=>match pre with
  | [x0,x1,x2,x3,x4,x5,x6,x7,x8,x9,x10,x11,x12]=>[x0.2,fA w (ys.n 0) (ys.n 1) (ys.n 2) (ys.n 3) (ys.n 4) (ys.n 5) (ys.n 6) (ys.n 7) (ys.v 0) (ys.v 1) (ys.v 2) (ys.v 3) (ys.v 4) bp,x2.2,ab ⟨(bn pre 3).toList++[.ref (ys.n 40),.ref (ys.n 60)]⟩ (ys.n 10),ab ⟨(bn pre 4).toList++[ys.v 11,ys.v 12]⟩ (ys.n 11),ab ⟨(bn pre 5).toList++[.ref (ys.n 42),.ref (ys.n 62)]⟩ (ys.n 12),av 3 0,x7.2,x8.2,x9.2,x10.2,x11.2,x12.2]
  | _=>[],fun _ ys=>[((ys.n 40),ab (ys.a 3) (ys.n 41)),((ys.n 42),af (ys.n 43)),((ys.n 43),ac w (ys.n 48) (ys.n 49) (ys.n 50) (ys.n 51) (ys.n 44) (ys.n 45) (ys.v 11)),((ys.n 44),ab (ys.a 4) (ys.n 46)),((ys.n 45),ab #[] (ys.n 47)),((ys.n 60),ab (ys.a 5) (ys.n 61)),((ys.n 62),af (ys.n 63)),((ys.n 63),ac w (ys.n 68) (ys.n 69) (ys.n 70) (ys.n 71) (ys.n 64) (ys.n 65) (ys.v 12)),((ys.n 64),ab (ys.a 6) (ys.n 66)),((ys.n 65),ab #[] (ys.n 67))],fun _ ys=>[],2,fun _ ys=>fx (ys.a 3) (ys.a 4) (ys.v 11)∧fx (ys.a 5) (ys.a 6) (ys.v 12)⟩
noncomputable def hkF2 (w:World) (req:List Nat):Hk:=⟨req,fun _ _=>.ok .next,fun pre ys=>match pre with
  | [x0,x1,x2,x3,x4,x5,x6,x7,x8,x9,x10,x11,x12,x13,x14,x15,x16,x17]=>[x0.2,fA w (ys.n 0) (ys.n 1) (ys.n 2) (ys.n 3) (ys.n 4) (ys.n 5) (ys.n 6) (ys.n 7) (ys.v 0) (ys.v 1) (ys.v 2) (ys.v 3) (ys.v 4) bp,x2.2,ab ⟨(bn pre 3).toList++[.ref (ys.n 60)]⟩ (ys.n 10),ab ⟨(bn pre 4).toList++[ys.v 12]⟩ (ys.n 11),ab ⟨(bn pre 5).toList++[.ref (ys.n 62)]⟩ (ys.n 12),av 3 0,x7.2,x8.2,x9.2,x10.2,x11.2,x12.2,x13.2,x14.2,x15.2,x16.2,x17.2]
  | _=>[],fun _ ys=>[((ys.n 60),ab (ys.a 5) (ys.n 61)),((ys.n 62),af (ys.n 63)),((ys.n 63),ac w (ys.n 68) (ys.n 69) (ys.n 70) (ys.n 71) (ys.n 64) (ys.n 65) (ys.v 12)),((ys.n 64),ab (ys.a 6) (ys.n 66)),((ys.n 65),ab #[] (ys.n 67))],fun _ ys=>[],1,fun _ ys=>fx (ys.a 5) (ys.a 6) (ys.v 12)⟩
noncomputable def hkF3 (w:World) (req:List Nat):Hk:=⟨req,fun _ _=>.ok .next,fun pre ys=>match pre with
  | [x0,x1,x2,x3,x4,x5,x6,x7,x8,x9,x10,x11,x12,x13,x14,x15,x16,x17,x18,x19,x20,x21,x22]=>[x0.2,fA w (ys.n 0) (ys.n 1) (ys.n 2) (ys.n 3) (ys.n 4) (ys.n 5) (ys.n 6) (ys.n 7) (ys.v 0) (ys.v 1) (ys.v 2) (ys.v 3) (ys.v 4) bp,x2.2,ab ⟨(bn pre 3).toList++[]⟩ (ys.n 10),ab ⟨(bn pre 4).toList++[]⟩ (ys.n 11),ab ⟨(bn pre 5).toList++[]⟩ (ys.n 12),av 3 0,x7.2,x8.2,x9.2,x10.2,x11.2,x12.2,x13.2,x14.2,x15.2,x16.2,x17.2,x18.2,x19.2,x20.2,x21.2,x22.2]
  | _=>[],fun _ ys=>[],fun _ ys=>[],0,fun _ ys=>True⟩
noncomputable def for3:Rs :=
rD (.ok .next) [(873,ab ns m),(874,jg w k0 (rf 873) k1 (rf 879) k2 (rf 880) k3 vp k4 vc k5 vr k6 vw k7 vd),(875,ah (rf 878)),(878,ab #[rf w0,rf w1,rf w2] 3),(879,ab #[D0,D1,D2] 3),(880,ab #[rf e0,rf e1,rf e2] 3),(882,av 3 0),(cd,aB F),(w0,ab vs0 m0),(e0,af d0),(d0,ac w i00 i01 i02 i03 u0 r0 D0),(u0,ab us0 n0),(r0,ab #[] o0),(w1,ab vs1 m1),(e1,af d1),(d1,ac w i10 i11 i12 i13 u1 r1 D1),(u1,ab us1 n1),(r1,ab #[] o1),(w2,ab vs2 m2),(e2,af d2),(d2,ac w i20 i21 i22 i23 u2 r2 D2),(u2,ab us2 n2),(r2,ab #[] o2)] (b+2) t [(795,#[.int 780 0,.int 20 0,rf cd])] ij
theorem for3':ok w bh P [(873,ab ns m),(874,fA w k0 k1 k2 k3 k4 k5 k6 k7 vp vc vr vw vd bp),(875,ah (rf 878)),(878,ab #[rf w0,rf w1,rf w2] 3),(879,ab #[D0,D1,D2] 3),(880,ab #[rf e0,rf e1,rf e2] 3),(882,av 3 0),(cd,aB F),(w0,ab vs0 m0),(e0,af d0),(d0,ac w i00 i01 i02 i03 u0 r0 D0),(u0,ab us0 n0),(r0,ab #[] o0),(w1,ab vs1 m1),(e1,af d1),(d1,ac w i10 i11 i12 i13 u1 r1 D1),(u1,ab us1 n1),(r1,ab #[] o1),(w2,ab vs2 m2),(e2,af d2),(d2,ac w i20 i21 i22 i23 u2 r2 D2),(u2,ab us2 n2),(r2,ab #[] o2)] b t [(795,#[.int 780 0,.int 20 0,rf cd])] ij [0,2,4,6,8,10,12,14,16,18,20,22,24,26,28,30,32,34,36,38,40,42,44] 1 [0x13ec9988351c01c01c11c11c] [] [] [] (@for3 b t m k0 k1 k2 k3 k4 k5 k6 k7 cd w0 m0 e0 d0 u0 r0 n0 o0 i00 i01 i02 i03 w1 m1 e1 d1 u1 r1 n1 o1 i10 i11 i12 i13 w2 m2 e2 d2 u2 r2 n2 o2 i20 i21 i22 i23 ns F vs0 us0 vs1 us1 vs2 us2 D0 D1 D2 vp vc vr vw vd w):=by revert w;refine @bs _ ?_ ?_<;>intro w<;>kernel_rfl
theorem kp:an (Vp w) (hkF3 w req) bh P [(873,ab ns m),(874,fA w k0 k1 k2 k3 k4 k5 k6 k7 vp vc vr vw vd bp),(875,ah (rf 878)),(878,ab #[rf w0,rf w1,rf w2] 3),(879,ab #[D0,D1,D2] 3),(880,ab #[rf e0,rf e1,rf e2] 3),(882,av 3 0),(cd,aB F),(w0,ab vs0 m0),(e0,af d0),(d0,ac w i00 i01 i02 i03 u0 r0 D0),(u0,ab us0 n0),(r0,ab #[] o0),(w1,ab vs1 m1),(e1,af d1),(d1,ac w i10 i11 i12 i13 u1 r1 D1),(u1,ab us1 n1),(r1,ab #[] o1),(w2,ab vs2 m2),(e2,af d2),(d2,ac w i20 i21 i22 i23 u2 r2 D2),(u2,ab us2 n2),(r2,ab #[] o2)] b t [(795,#[.int 780 0,.int 20 0,rf cd])] ij:=by
  refine qH for3' rfl fun s hs Ξ ar=>?_
  exact gD rfl ar fun s' hA hF=>⟨bf [k0,k1,k2,k3,k4,k5,k6,k7,0,0,3,3,3] [] [vp,vc,vr,vw,vd] [] [],_,_,trivial,rfl,rfl,hA,hF,fun a h=>h,ag⟩
noncomputable abbrev Zj1 (b3:Nat) (aG bo:Ys):ax :=
  [(bo.n 0,ab (bo.a 0) (bo.n 1)),(b3,ab (aG.a 0) (aG.n 2))]
noncomputable def for20:Rs :=
rF (eS [0,3] A) (cB "list.__getitem__" [rf 873,rf (b+1)]) [(873,ab ns m),(b+1,fO "slice" [.int 2 t,.none,.int 3 (t+5)])] (b+2) (t+6) [(795,#[.int 780 0,.int 20 0,rf cd])] ei fun b1 t1 ak =>
rE (eF [36] S) bh (cB "sum" [rf (ak.n 0)]) ⟨848,45,848,66⟩ [(ak.n 0,ab A 0)] b1 t1 [(795,#[.int 780 0,.int 20 0,rf cd])] ei fun b2 t2 aw =>
.nF (hV [] c) (cB "abs" [.int (Int.add 299 S) t2]) [] b2 (t2+1) [(795,#[.int 780 0,.int 20 0,rf cd])] ei [(.int (Int.add 299 S) t2,.int (Int.add 299 S) t2)] [] fun b3 t3 aL =>
rH (mU [2,5]) cH ⟨851,8,853,28⟩ [(874,jg w k0 (rf 873) k1 (rf 879) k2 (rf 880) k3 (.int 2 t) k4 (nv c (aL.n 0)) k5 (nv c (aL.n 0)) k6 (rf b3) k7 vd),(b3,ab #[] 0)] (b3+1) (t3+3) [(795,#[.int 780 0,.int 20 0,rf cd])] ei fun b4 t4 aG =>
rH (kW [5,14]) (aY b3) ⟨854,21,854,38⟩ [(b3,ab (aG.a 0) (aG.n 2)),(cd,aB F)] b4 t4 [(795,#[.int 780 0,.int 20 0,rf cd])] ei fun b5 t5 bx =>
rE (jL [2,5]) bh (aV 793 [.str (bx.s 0) (bx.n 0)]) ⟨854,15,854,39⟩ [(874,jg w k0 (rf 873) k1 (rf 879) k2 (rf 880) k3 (.int 2 t) k4 (nv c (aL.n 0)) k5 (nv (aG.n 0) (aG.n 1)) k6 (rf b3) k7 vd),(b3,ab (aG.a 0) (aG.n 2))] b5 t5 [(795,#[.int 780 0,.int 20 0,rf cd])] ij fun b6 t6 bo =>
rF (a9 [38,5] fun _=>.bool false) (cB "list.__ne__" [rf (bo.n 0),rf b3]) (Zj1 b3 aG bo) b6 (t6+1) [(795,#[.int 780 0,.int 20 0,rf cd])] ij fun b7 t7 e6 =>
.nH (cJ w [38] (.none)) (bh.enter (aV 862 [rf (bo.n 0),.none]) none ⟨859,23,859,54⟩) ⟨859,23,859,54⟩ [(bo.n 0,ab (bo.a 0) (bo.n 1))] b7 (t7+3) [(795,#[.int 780 0,.int 20 0,rf cd])] ij [(.bool (decide (Int.fmod (.ofNat c) 4=0)),.bool true)] [] fun b8 t8 bb =>
rA (aH (bt (az aR) 3) (rf 882) au) ⟨859,8,859,55⟩ [(873,ab ns m),(874,jg w k0 (rf 873) k1 (rf 879) k2 (rf 880) k3 (.int 2 t) k4 (nv c (aL.n 0)) k5 (nv (aG.n 0) (aG.n 1)) k6 (rf b3) k7 (rf (bo.n 0))),(875,ah (rf 878)),(878,ab #[rf w0,rf w1,rf b3] 3),(879,ab #[D0,D1,.none] 3),(880,ab #[rf e0,rf e1,rf (bb.n 0)] 3),(882,av 3 0),(cd,aB F),(w0,ab vs0 m0),(e0,af d0),(d0,ac w i00 i01 i02 i03 u0 r0 D0),(u0,ab us0 n0),(r0,ab #[] o0),(w1,ab vs1 m1),(e1,af d1),(d1,ac w i10 i11 i12 i13 u1 r1 D1),(u1,ab us1 n1),(r1,ab #[] o1),(b3,ab (aG.a 0) (aG.n 2)),(bb.n 0,af (bb.n 1)),(bb.n 1,ac w (bb.n 10) (bb.n 11) (bb.n 12) (bb.n 13) (bb.n 2) (bb.n 3) .none),(bb.n 2,ab (bo.a 0) (bb.n 4)),(bb.n 3,ab #[] (bb.n 5))] b8 t8 [(795,#[.int 780 0,.int 20 0,rf cd])] ij
theorem for20':ok w bh P [(873,ab ns m),(874,fA w k0 k1 k2 k3 k4 k5 k6 k7 vp vc vr vw vd bp),(875,ah (rf 878)),(878,ab #[rf w0,rf w1] 2),(879,ab #[D0,D1] 2),(880,ab #[rf e0,rf e1] 2),(882,av 2 1),(cd,aB F),(w0,ab vs0 m0),(e0,af d0),(d0,ac w i00 i01 i02 i03 u0 r0 D0),(u0,ab us0 n0),(r0,ab #[] o0),(w1,ab vs1 m1),(e1,af d1),(d1,ac w i10 i11 i12 i13 u1 r1 D1),(u1,ab us1 n1),(r1,ab #[] o1)] b t [(795,#[.int 780 0,.int 20 0,rf cd])] ei [0,2,4,6,8,10,12,14,16,18,20,22,24,26,28,30,32,34,5,40,42,44,46] 1 [K33,1,1,1,K68,0x122,1,0x114e0504e22123202,K45,K36,K70] [2,2,4,5,6,3,5,3,4,3,0] [(2,.rw id),(5,.rw (cS (.bool true))),(0,.hookF (fun c=>cJ w [38] (gI c 1)))] [2,2,2,3,3,3,3,3] (@for20 b t m k0 k1 k2 k3 k4 k5 k6 k7 cd w0 m0 e0 d0 u0 r0 n0 o0 i00 i01 i02 i03 w1 m1 e1 d1 u1 r1 n1 o1 i10 i11 i12 i13 c ns F vs0 us0 vs1 us1 A D0 D1 vd S w):=by revert w;refine @bs _ ?_ ?_<;>intro w<;>kernel_rfl
theorem for_20 (hm:ns.size≤1000) (hi:AllInts ns) (hS:∀ {V:Vw} {p:Pos} {b t m:Nat} {l:Addr} {ch:Ch} {gl:List GenState} (hk:∀ a o,V.kt.get a=some o→a < V.n₁) {c:Code} {below:List (Code×Pos)} {req:List Nat},an V (eF req S) ⟨.call (.builtin "sum") ⟨[rf l],[]⟩,none,none,(c,p) :: below,none⟩ p [(l,ab (dD ns 2) m)] b t ch gl) (hq:Int.fmod (.ofNat (Int.natAbs (Int.add 299 S))) 4=0):an (Vp w) (hkF2 w req) bh P [(873,ab ns m),(874,fA w k0 k1 k2 k3 k4 k5 k6 k7 vp vc vr vw vd bp),(875,ah (rf 878)),(878,ab #[rf w0,rf w1] 2),(879,ab #[D0,D1] 2),(880,ab #[rf e0,rf e1] 2),(882,av 2 1),(cd,aB F),(w0,ab vs0 m0),(e0,af d0),(d0,ac w i00 i01 i02 i03 u0 r0 D0),(u0,ab us0 n0),(r0,ab #[] o0),(w1,ab vs1 m1),(e1,af d1),(d1,ac w i10 i11 i12 i13 u1 r1 D1),(u1,ab us1 n1),(r1,ab #[] o1)] b t [(795,#[.int 780 0,.int 20 0,rf cd])] ei:=by
  refine qH (for20' (c:=Int.natAbs (Int.add 299 S)) (S:=S) (A:=dD ns 2)) rfl fun s hs Ξ ar=>?_
  refine gF rfl (ez (ai w) hm) fun b1 t1 ak _ _ _ _=>?_
  refine gH rfl (hS (ai w)) fun b2 t2 aw _ _ _ _=>?_
  refine dJ rfl (ao (rfl)) ag (gq (ai w)) fun b3 t3 aL _ _ _ _=>?_
  refine gH rfl (ew 4 (ds:=[]) rfl (by simp) .nil) fun b4 t4 aG _ _ hk4 _=>?_
  obtain ⟨ds,hl4,hd5,hst⟩:=hk4
  refine gH rfl (mL hl4 hd5 hst) fun b5 t5 bx _ _ hk5 _=>?_
  obtain ⟨es,hl4',hd5',hst',hJ⟩:=hk5
  refine gH rfl (f7 (.inr rfl) hJ hl4' hd5' hst') fun b6 t6 bo _ _ hk6 _=>?_
  obtain ⟨Ws,hw4,hsw,hsr⟩:=hk6
  refine gF rfl (dn hsr hsw) fun b7 t7 e6 _ _ _ _=>?_
  refine f6 rfl (ao (by rw [decide_eq_true hq])) ag (iP hw4 hsr) fun b8 t8 bb _ _ _ ha8=>?_
  exact gA rfl ar fun s' hA hF=>d8 hs (kp (req:=[])) hA hF (by show b≤_;omega) (ae (.inl (.head _)) (ae (.inl Y1) (ae (.inl Y2) (ae (.inl Y3) (ae (.inl Y4) (ae (.inl Y5) (ae (.inl Y6) (ae (.inl Y7) (ae (.inl Y8) (ae (.inl (mI 9 rfl)) (ae (.inl (mI 10 rfl)) (ae (.inl (mI 11 rfl)) (ae (.inl (mI 12 rfl)) (ae (.inl (mI 13 rfl)) (ae (.inl (mI 14 rfl)) (ae (.inl (mI 15 rfl)) (ae (.inl (mI 16 rfl)) (ae (.inl (mI 17 rfl)) (ae (.inr (by show b≤b3+0;omega)) (ae (.inr (bT (by show b≤_;omega) (ha8 _ (.head _)).1)) (ae (.inr (bT (by show b≤_;omega) (ha8 _ Y1).1)) (ae (.inr (bT (by show b≤_;omega) (ha8 _ Y2).1)) (ae (.inr (bT (by show b≤_;omega) (ha8 _ Y3).1)) (ag)))))))))))))))))))))))) fun ys hk hd=>⟨⟨pk [(60,b3+0),(61,aG.n 2),(62,bb.n 0),(63,bb.n 1),(64,bb.n 2),(65,bb.n 3),(66,bb.n 4),(67,bb.n 5),(68,bb.n 10),(69,bb.n 11),(70,bb.n 12),(71,bb.n 13)] ys.n,pk [(12,.none)] ys.v,pk [(5,aG.a 0),(6,bo.a 0)] ys.a,ys.s,ys.d⟩,⟨ds,hl4,hd5,hst,dN hst hsw hsr,.inl rfl⟩,rfl,rfl,rfl,rfl,rfl,fun a h=>h,ae (by show b≤b3+0;omega) (ae (bT (by show b≤_;omega) (ha8 _ (.head _)).1) (ae (bT (by show b≤_;omega) (ha8 _ Y1).1) (ae (bT (by show b≤_;omega) (ha8 _ Y2).1) (ae (bT (by show b≤_;omega) (ha8 _ Y3).1) (fun x hx=>bT (by show b≤_;omega) (hd x hx))))))⟩
noncomputable def for21:Rs :=
rF (eS [0,3] A) (cB "list.__getitem__" [rf 873,rf (b+1)]) [(873,ab ns m),(b+1,fO "slice" [.int 2 t,.none,.int 3 (t+5)])] (b+2) (t+6) [(795,#[.int 780 0,.int 20 0,rf cd])] ei fun b1 t1 ak =>
rE (eF [36] S) bh (cB "sum" [rf (ak.n 0)]) ⟨848,45,848,66⟩ [(ak.n 0,ab A 0)] b1 t1 [(795,#[.int 780 0,.int 20 0,rf cd])] ei fun b2 t2 aw =>
.nF (hV [] c) (cB "abs" [.int (Int.add 299 S) t2]) [] b2 (t2+1) [(795,#[.int 780 0,.int 20 0,rf cd])] ei [(.int (Int.add 299 S) t2,.int (Int.add 299 S) t2)] [] fun b3 t3 aL =>
rH (mU [2,5]) cH ⟨851,8,853,28⟩ [(874,jg w k0 (rf 873) k1 (rf 879) k2 (rf 880) k3 (.int 2 t) k4 (nv c (aL.n 0)) k5 (nv c (aL.n 0)) k6 (rf b3) k7 vd),(b3,ab #[] 0)] (b3+1) (t3+3) [(795,#[.int 780 0,.int 20 0,rf cd])] ei fun b4 t4 aG =>
rH (kW [5,14]) (aY b3) ⟨854,21,854,38⟩ [(b3,ab (aG.a 0) (aG.n 2)),(cd,aB F)] b4 t4 [(795,#[.int 780 0,.int 20 0,rf cd])] ei fun b5 t5 bx =>
rE (jL [2,5]) bh (aV 793 [.str (bx.s 0) (bx.n 0)]) ⟨854,15,854,39⟩ [(874,jg w k0 (rf 873) k1 (rf 879) k2 (rf 880) k3 (.int 2 t) k4 (nv c (aL.n 0)) k5 (nv (aG.n 0) (aG.n 1)) k6 (rf b3) k7 vd),(b3,ab (aG.a 0) (aG.n 2))] b5 t5 [(795,#[.int 780 0,.int 20 0,rf cd])] ij fun b6 t6 bo =>
rF (a9 [38,5] fun _=>.bool false) (cB "list.__ne__" [rf (bo.n 0),rf b3]) (Zj1 b3 aG bo) b6 (t6+1) [(795,#[.int 780 0,.int 20 0,rf cd])] ij fun b7 t7 e6 =>
.nH (cJ w [38] (nv (Int.toNat (Int.add 32768 (Int.fmod (.ofNat c) 512))) (t7+6))) (bh.enter (aV 862 [rf (bo.n 0),nv (Int.toNat (Int.add 32768 (Int.fmod (.ofNat c) 512))) (t7+6)]) none ⟨859,23,859,54⟩) ⟨859,23,859,54⟩ [(bo.n 0,ab (bo.a 0) (bo.n 1))] b7 (t7+7) [(795,#[.int 780 0,.int 20 0,rf cd])] ij [(.int (Int.add 32768 (Int.fmod (.ofNat c) 512)) (t7+6),nv (Int.toNat (Int.add 32768 (Int.fmod (.ofNat c) 512))) (t7+6)),(.bool (decide (Int.fmod (.ofNat c) 4=0)),.bool false)] [] fun b8 t8 bb =>
rA (aH (bt (az aR) 3) (rf 882) au) ⟨859,8,859,55⟩ [(873,ab ns m),(874,jg w k0 (rf 873) k1 (rf 879) k2 (rf 880) k3 (.int 2 t) k4 (nv c (aL.n 0)) k5 (nv (aG.n 0) (aG.n 1)) k6 (rf b3) k7 (rf (bo.n 0))),(875,ah (rf 878)),(878,ab #[rf w0,rf w1,rf b3] 3),(879,ab #[D0,D1,nv (Int.toNat (Int.add 32768 (Int.fmod (.ofNat c) 512))) (t7+6)] 3),(880,ab #[rf e0,rf e1,rf (bb.n 0)] 3),(882,av 3 0),(cd,aB F),(w0,ab vs0 m0),(e0,af d0),(d0,ac w i00 i01 i02 i03 u0 r0 D0),(u0,ab us0 n0),(r0,ab #[] o0),(w1,ab vs1 m1),(e1,af d1),(d1,ac w i10 i11 i12 i13 u1 r1 D1),(u1,ab us1 n1),(r1,ab #[] o1),(b3,ab (aG.a 0) (aG.n 2)),(bb.n 0,af (bb.n 1)),(bb.n 1,ac w (bb.n 10) (bb.n 11) (bb.n 12) (bb.n 13) (bb.n 2) (bb.n 3) (nv (Int.toNat (Int.add 32768 (Int.fmod (.ofNat c) 512))) (t7+6))),(bb.n 2,ab (bo.a 0) (bb.n 4)),(bb.n 3,ab #[] (bb.n 5))] b8 t8 [(795,#[.int 780 0,.int 20 0,rf cd])] ij
theorem for21':ok w bh P [(873,ab ns m),(874,fA w k0 k1 k2 k3 k4 k5 k6 k7 vp vc vr vw vd bp),(875,ah (rf 878)),(878,ab #[rf w0,rf w1] 2),(879,ab #[D0,D1] 2),(880,ab #[rf e0,rf e1] 2),(882,av 2 1),(cd,aB F),(w0,ab vs0 m0),(e0,af d0),(d0,ac w i00 i01 i02 i03 u0 r0 D0),(u0,ab us0 n0),(r0,ab #[] o0),(w1,ab vs1 m1),(e1,af d1),(d1,ac w i10 i11 i12 i13 u1 r1 D1),(u1,ab us1 n1),(r1,ab #[] o1)] b t [(795,#[.int 780 0,.int 20 0,rf cd])] ei [0,2,4,6,8,10,12,14,16,18,20,22,24,26,28,30,32,34,5,40,42,44,46] 1 [K33,1,1,1,K68,0x122,1,0x114e0504e22123202,K45,0x172,K36,K70] [2,2,4,5,6,3,5,3,4,5,3,0] [(2,.rw id),(5,.rw (cS (.bool false))),(0,.rw natV),(0,.hookF (fun c=>cJ w [38] (gI c 1)))] [2,2,2,3,3,3,3,3] (@for21 b t m k0 k1 k2 k3 k4 k5 k6 k7 cd w0 m0 e0 d0 u0 r0 n0 o0 i00 i01 i02 i03 w1 m1 e1 d1 u1 r1 n1 o1 i10 i11 i12 i13 c ns F vs0 us0 vs1 us1 A D0 D1 vd S w):=by revert w;refine @bs _ ?_ ?_<;>intro w<;>kernel_rfl
theorem for_21 (hm:ns.size≤1000) (hi:AllInts ns) (hS:∀ {V:Vw} {p:Pos} {b t m:Nat} {l:Addr} {ch:Ch} {gl:List GenState} (hk:∀ a o,V.kt.get a=some o→a < V.n₁) {c:Code} {below:List (Code×Pos)} {req:List Nat},an V (eF req S) ⟨.call (.builtin "sum") ⟨[rf l],[]⟩,none,none,(c,p) :: below,none⟩ p [(l,ab (dD ns 2) m)] b t ch gl) (hq:¬ Int.fmod (.ofNat (Int.natAbs (Int.add 299 S))) 4=0):an (Vp w) (hkF2 w req) bh P [(873,ab ns m),(874,fA w k0 k1 k2 k3 k4 k5 k6 k7 vp vc vr vw vd bp),(875,ah (rf 878)),(878,ab #[rf w0,rf w1] 2),(879,ab #[D0,D1] 2),(880,ab #[rf e0,rf e1] 2),(882,av 2 1),(cd,aB F),(w0,ab vs0 m0),(e0,af d0),(d0,ac w i00 i01 i02 i03 u0 r0 D0),(u0,ab us0 n0),(r0,ab #[] o0),(w1,ab vs1 m1),(e1,af d1),(d1,ac w i10 i11 i12 i13 u1 r1 D1),(u1,ab us1 n1),(r1,ab #[] o1)] b t [(795,#[.int 780 0,.int 20 0,rf cd])] ei:=by
  refine qH (for21' (c:=Int.natAbs (Int.add 299 S)) (S:=S) (A:=dD ns 2)) rfl fun s hs Ξ ar=>?_
  refine gF rfl (ez (ai w) hm) fun b1 t1 ak _ _ _ _=>?_
  refine gH rfl (hS (ai w)) fun b2 t2 aw _ _ _ _=>?_
  refine dJ rfl (ao (rfl)) ag (gq (ai w)) fun b3 t3 aL _ _ _ _=>?_
  refine gH rfl (ew 4 (ds:=[]) rfl (by simp) .nil) fun b4 t4 aG _ _ hk4 _=>?_
  obtain ⟨ds,hl4,hd5,hst⟩:=hk4
  refine gH rfl (mL hl4 hd5 hst) fun b5 t5 bx _ _ hk5 _=>?_
  obtain ⟨es,hl4',hd5',hst',hJ⟩:=hk5
  refine gH rfl (f7 (.inr rfl) hJ hl4' hd5' hst') fun b6 t6 bo _ _ hk6 _=>?_
  obtain ⟨Ws,hw4,hsw,hsr⟩:=hk6
  refine gF rfl (dn hsr hsw) fun b7 t7 e6 _ _ _ _=>?_
  refine f6 rfl (ae (g8 _ _) (ao (by rw [decide_eq_false hq]))) ag (iO hw4 hsr) fun b8 t8 bb _ _ _ ha8=>?_
  exact gA rfl ar fun s' hA hF=>d8 hs (kp (req:=[])) hA hF (by show b≤_;omega) (ae (.inl (.head _)) (ae (.inl Y1) (ae (.inl Y2) (ae (.inl Y3) (ae (.inl Y4) (ae (.inl Y5) (ae (.inl Y6) (ae (.inl Y7) (ae (.inl Y8) (ae (.inl (mI 9 rfl)) (ae (.inl (mI 10 rfl)) (ae (.inl (mI 11 rfl)) (ae (.inl (mI 12 rfl)) (ae (.inl (mI 13 rfl)) (ae (.inl (mI 14 rfl)) (ae (.inl (mI 15 rfl)) (ae (.inl (mI 16 rfl)) (ae (.inl (mI 17 rfl)) (ae (.inr (by show b≤b3+0;omega)) (ae (.inr (bT (by show b≤_;omega) (ha8 _ (.head _)).1)) (ae (.inr (bT (by show b≤_;omega) (ha8 _ Y1).1)) (ae (.inr (bT (by show b≤_;omega) (ha8 _ Y2).1)) (ae (.inr (bT (by show b≤_;omega) (ha8 _ Y3).1)) (ag)))))))))))))))))))))))) fun ys hk hd=>⟨⟨pk [(60,b3+0),(61,aG.n 2),(62,bb.n 0),(63,bb.n 1),(64,bb.n 2),(65,bb.n 3),(66,bb.n 4),(67,bb.n 5),(68,bb.n 10),(69,bb.n 11),(70,bb.n 12),(71,bb.n 13)] ys.n,pk [(12,(.int (.ofNat (Int.toNat (Int.add 32768 (Int.fmod (.ofNat (Int.natAbs (Int.add 299 S))) 512)))) (t7+6)))] ys.v,pk [(5,aG.a 0),(6,bo.a 0)] ys.a,ys.s,ys.d⟩,⟨ds,hl4,hd5,hst,dN hst hsw hsr,gk _ _⟩,rfl,rfl,rfl,rfl,rfl,fun a h=>h,ae (by show b≤b3+0;omega) (ae (bT (by show b≤_;omega) (ha8 _ (.head _)).1) (ae (bT (by show b≤_;omega) (ha8 _ Y1).1) (ae (bT (by show b≤_;omega) (ha8 _ Y2).1) (ae (bT (by show b≤_;omega) (ha8 _ Y3).1) (fun x hx=>bT (by show b≤_;omega) (hd x hx))))))⟩
theorem kq (hm:ns.size≤1000) (hi:AllInts ns):an (Vp w) (hkF2 w req) bh P [(873,ab ns m),(874,fA w k0 k1 k2 k3 k4 k5 k6 k7 vp vc vr vw vd bp),(875,ah (rf 878)),(878,ab #[rf w0,rf w1] 2),(879,ab #[D0,D1] 2),(880,ab #[rf e0,rf e1] 2),(882,av 2 1),(cd,aB F),(w0,ab vs0 m0),(e0,af d0),(d0,ac w i00 i01 i02 i03 u0 r0 D0),(u0,ab us0 n0),(r0,ab #[] o0),(w1,ab vs1 m1),(e1,af d1),(d1,ac w i10 i11 i12 i13 u1 r1 D1),(u1,ab us1 n1),(r1,ab #[] o1)] b t [(795,#[.int 780 0,.int 20 0,rf cd])] ei:=by
  obtain ⟨S,hS⟩:=jq (vs:=dD ns 2) (ff hi)
  by_cases hq:Int.fmod (.ofNat (Int.natAbs (Int.add 299 S))) 4=0
  · exact for_20 hm hi (fun hk=>hS hk) hq
  · exact for_21 hm hi (fun hk=>hS hk) hq
noncomputable def for10:Rs :=
rF (eS [0,3] A) (cB "list.__getitem__" [rf 873,rf (b+1)]) [(873,ab ns m),(b+1,fO "slice" [.int 1 t,.none,.int 3 (t+5)])] (b+2) (t+6) [(795,#[.int 780 0,.int 20 0,rf cd])] ej fun b1 t1 ak =>
rE (eF [26] S) bh (cB "sum" [rf (ak.n 0)]) ⟨848,45,848,66⟩ [(ak.n 0,ab A 0)] b1 t1 [(795,#[.int 780 0,.int 20 0,rf cd])] ej fun b2 t2 aw =>
.nF (hV [] c) (cB "abs" [.int (Int.add 3205 S) t2]) [] b2 (t2+1) [(795,#[.int 780 0,.int 20 0,rf cd])] ej [(.int (Int.add 3205 S) t2,.int (Int.add 3205 S) t2)] [] fun b3 t3 aL =>
rH (mU [2,5]) cH ⟨851,8,853,28⟩ [(874,jg w k0 (rf 873) k1 (rf 879) k2 (rf 880) k3 (.int 1 t) k4 (nv c (aL.n 0)) k5 (nv c (aL.n 0)) k6 (rf b3) k7 vd),(b3,ab #[] 0)] (b3+1) (t3+3) [(795,#[.int 780 0,.int 20 0,rf cd])] ej fun b4 t4 aG =>
rH (kW [5,14]) (aY b3) ⟨854,21,854,38⟩ [(b3,ab (aG.a 0) (aG.n 2)),(cd,aB F)] b4 t4 [(795,#[.int 780 0,.int 20 0,rf cd])] ej fun b5 t5 bx =>
rE (jL [2,5]) bh (aV 793 [.str (bx.s 0) (bx.n 0)]) ⟨854,15,854,39⟩ [(874,jg w k0 (rf 873) k1 (rf 879) k2 (rf 880) k3 (.int 1 t) k4 (nv c (aL.n 0)) k5 (nv (aG.n 0) (aG.n 1)) k6 (rf b3) k7 vd),(b3,ab (aG.a 0) (aG.n 2))] b5 t5 [(795,#[.int 780 0,.int 20 0,rf cd])] ei fun b6 t6 bo =>
rF (a9 [28,5] fun _=>.bool false) (cB "list.__ne__" [rf (bo.n 0),rf b3]) (Zj1 b3 aG bo) b6 (t6+1) [(795,#[.int 780 0,.int 20 0,rf cd])] ei fun b7 t7 e6 =>
.nH (cJ w [28] (.none)) (bh.enter (aV 862 [rf (bo.n 0),.none]) none ⟨859,23,859,54⟩) ⟨859,23,859,54⟩ [(bo.n 0,ab (bo.a 0) (bo.n 1))] b7 (t7+3) [(795,#[.int 780 0,.int 20 0,rf cd])] ei [(.bool (decide (Int.fmod (.ofNat c) 4=0)),.bool true)] [] fun b8 t8 bb =>
rA (aH (bt (az aR) 3) (rf 882) au) ⟨859,8,859,55⟩ [(873,ab ns m),(874,jg w k0 (rf 873) k1 (rf 879) k2 (rf 880) k3 (.int 1 t) k4 (nv c (aL.n 0)) k5 (nv (aG.n 0) (aG.n 1)) k6 (rf b3) k7 (rf (bo.n 0))),(875,ah (rf 878)),(878,ab #[rf w0,rf b3] 2),(879,ab #[D0,.none] 2),(880,ab #[rf e0,rf (bb.n 0)] 2),(882,av 2 1),(cd,aB F),(w0,ab vs0 m0),(e0,af d0),(d0,ac w i00 i01 i02 i03 u0 r0 D0),(u0,ab us0 n0),(r0,ab #[] o0),(b3,ab (aG.a 0) (aG.n 2)),(bb.n 0,af (bb.n 1)),(bb.n 1,ac w (bb.n 10) (bb.n 11) (bb.n 12) (bb.n 13) (bb.n 2) (bb.n 3) .none),(bb.n 2,ab (bo.a 0) (bb.n 4)),(bb.n 3,ab #[] (bb.n 5))] b8 t8 [(795,#[.int 780 0,.int 20 0,rf cd])] ei
theorem for10':ok w bh P [(873,ab ns m),(874,fA w k0 k1 k2 k3 k4 k5 k6 k7 vp vc vr vw vd bp),(875,ah (rf 878)),(878,ab #[rf w0] 1),(879,ab #[D0] 1),(880,ab #[rf e0] 1),(882,av 1 2),(cd,aB F),(w0,ab vs0 m0),(e0,af d0),(d0,ac w i00 i01 i02 i03 u0 r0 D0),(u0,ab us0 n0),(r0,ab #[] o0)] b t [(795,#[.int 780 0,.int 20 0,rf cd])] ej [0,2,4,6,8,10,12,14,16,18,20,22,24,5,30,32,34,36] 1 [K33,1,1,1,K68,0x122,1,0x113c0503c22123202,K45,K36,K70] [2,2,4,5,6,3,5,3,4,3,0] [(2,.rw id),(5,.rw (cS (.bool true))),(0,.hookF (fun c=>cJ w [28] (gI c 1)))] [2,2,2,3,3,3,3,3] (@for10 b t m k0 k1 k2 k3 k4 k5 k6 k7 cd w0 m0 e0 d0 u0 r0 n0 o0 i00 i01 i02 i03 c ns F vs0 us0 A D0 vd S w):=by revert w;refine @bs _ ?_ ?_<;>intro w<;>kernel_rfl
theorem for_10 (hm:ns.size≤1000) (hi:AllInts ns) (hS:∀ {V:Vw} {p:Pos} {b t m:Nat} {l:Addr} {ch:Ch} {gl:List GenState} (hk:∀ a o,V.kt.get a=some o→a < V.n₁) {c:Code} {below:List (Code×Pos)} {req:List Nat},an V (eF req S) ⟨.call (.builtin "sum") ⟨[rf l],[]⟩,none,none,(c,p) :: below,none⟩ p [(l,ab (dD ns 1) m)] b t ch gl) (hq:Int.fmod (.ofNat (Int.natAbs (Int.add 3205 S))) 4=0):an (Vp w) (hkF1 w req) bh P [(873,ab ns m),(874,fA w k0 k1 k2 k3 k4 k5 k6 k7 vp vc vr vw vd bp),(875,ah (rf 878)),(878,ab #[rf w0] 1),(879,ab #[D0] 1),(880,ab #[rf e0] 1),(882,av 1 2),(cd,aB F),(w0,ab vs0 m0),(e0,af d0),(d0,ac w i00 i01 i02 i03 u0 r0 D0),(u0,ab us0 n0),(r0,ab #[] o0)] b t [(795,#[.int 780 0,.int 20 0,rf cd])] ej:=by
  refine qH (for10' (c:=Int.natAbs (Int.add 3205 S)) (S:=S) (A:=dD ns 1)) rfl fun s hs Ξ ar=>?_
  refine gF rfl (ez (ai w) hm) fun b1 t1 ak _ _ _ _=>?_
  refine gH rfl (hS (ai w)) fun b2 t2 aw _ _ _ _=>?_
  refine dJ rfl (ao (rfl)) ag (gq (ai w)) fun b3 t3 aL _ _ _ _=>?_
  refine gH rfl (ew 4 (ds:=[]) rfl (by simp) .nil) fun b4 t4 aG _ _ hk4 _=>?_
  obtain ⟨ds,hl4,hd5,hst⟩:=hk4
  refine gH rfl (mM hl4 hd5 hst) fun b5 t5 bx _ _ hk5 _=>?_
  obtain ⟨es,hl4',hd5',hst',hJ⟩:=hk5
  refine gH rfl (f7 (.inr rfl) hJ hl4' hd5' hst') fun b6 t6 bo _ _ hk6 _=>?_
  obtain ⟨Ws,hw4,hsw,hsr⟩:=hk6
  refine gF rfl (dn hsr hsw) fun b7 t7 e6 _ _ _ _=>?_
  refine f6 rfl (ao (by rw [decide_eq_true hq])) ag (iP hw4 hsr) fun b8 t8 bb _ _ _ ha8=>?_
  exact gA rfl ar fun s' hA hF=>d8 hs (kq hm hi (req:=[])) hA hF (by show b≤_;omega) (ae (.inl (.head _)) (ae (.inl Y1) (ae (.inl Y2) (ae (.inl Y3) (ae (.inl Y4) (ae (.inl Y5) (ae (.inl Y6) (ae (.inl Y7) (ae (.inl Y8) (ae (.inl (mI 9 rfl)) (ae (.inl (mI 10 rfl)) (ae (.inl (mI 11 rfl)) (ae (.inl (mI 12 rfl)) (ae (.inr (by show b≤b3+0;omega)) (ae (.inr (bT (by show b≤_;omega) (ha8 _ (.head _)).1)) (ae (.inr (bT (by show b≤_;omega) (ha8 _ Y1).1)) (ae (.inr (bT (by show b≤_;omega) (ha8 _ Y2).1)) (ae (.inr (bT (by show b≤_;omega) (ha8 _ Y3).1)) (ag))))))))))))))))))) fun ys hk hd=>⟨⟨pk [(40,b3+0),(41,aG.n 2),(42,bb.n 0),(43,bb.n 1),(44,bb.n 2),(45,bb.n 3),(46,bb.n 4),(47,bb.n 5),(48,bb.n 10),(49,bb.n 11),(50,bb.n 12),(51,bb.n 13)] ys.n,pk [(11,.none)] ys.v,pk [(3,aG.a 0),(4,bo.a 0)] ys.a,ys.s,ys.d⟩,⟨⟨ds,hl4,hd5,hst,dN hst hsw hsr,.inl rfl⟩,hk⟩,rfl,rfl,rfl,rfl,rfl,fun a h=>h,ae (by show b≤b3+0;omega) (ae (bT (by show b≤_;omega) (ha8 _ (.head _)).1) (ae (bT (by show b≤_;omega) (ha8 _ Y1).1) (ae (bT (by show b≤_;omega) (ha8 _ Y2).1) (ae (bT (by show b≤_;omega) (ha8 _ Y3).1) (fun x hx=>bT (by show b≤_;omega) (hd x hx))))))⟩
noncomputable def for11:Rs :=
rF (eS [0,3] A) (cB "list.__getitem__" [rf 873,rf (b+1)]) [(873,ab ns m),(b+1,fO "slice" [.int 1 t,.none,.int 3 (t+5)])] (b+2) (t+6) [(795,#[.int 780 0,.int 20 0,rf cd])] ej fun b1 t1 ak =>
rE (eF [26] S) bh (cB "sum" [rf (ak.n 0)]) ⟨848,45,848,66⟩ [(ak.n 0,ab A 0)] b1 t1 [(795,#[.int 780 0,.int 20 0,rf cd])] ej fun b2 t2 aw =>
.nF (hV [] c) (cB "abs" [.int (Int.add 3205 S) t2]) [] b2 (t2+1) [(795,#[.int 780 0,.int 20 0,rf cd])] ej [(.int (Int.add 3205 S) t2,.int (Int.add 3205 S) t2)] [] fun b3 t3 aL =>
rH (mU [2,5]) cH ⟨851,8,853,28⟩ [(874,jg w k0 (rf 873) k1 (rf 879) k2 (rf 880) k3 (.int 1 t) k4 (nv c (aL.n 0)) k5 (nv c (aL.n 0)) k6 (rf b3) k7 vd),(b3,ab #[] 0)] (b3+1) (t3+3) [(795,#[.int 780 0,.int 20 0,rf cd])] ej fun b4 t4 aG =>
rH (kW [5,14]) (aY b3) ⟨854,21,854,38⟩ [(b3,ab (aG.a 0) (aG.n 2)),(cd,aB F)] b4 t4 [(795,#[.int 780 0,.int 20 0,rf cd])] ej fun b5 t5 bx =>
rE (jL [2,5]) bh (aV 793 [.str (bx.s 0) (bx.n 0)]) ⟨854,15,854,39⟩ [(874,jg w k0 (rf 873) k1 (rf 879) k2 (rf 880) k3 (.int 1 t) k4 (nv c (aL.n 0)) k5 (nv (aG.n 0) (aG.n 1)) k6 (rf b3) k7 vd),(b3,ab (aG.a 0) (aG.n 2))] b5 t5 [(795,#[.int 780 0,.int 20 0,rf cd])] ei fun b6 t6 bo =>
rF (a9 [28,5] fun _=>.bool false) (cB "list.__ne__" [rf (bo.n 0),rf b3]) (Zj1 b3 aG bo) b6 (t6+1) [(795,#[.int 780 0,.int 20 0,rf cd])] ei fun b7 t7 e6 =>
.nH (cJ w [28] (nv (Int.toNat (Int.add 32768 (Int.fmod (.ofNat c) 512))) (t7+6))) (bh.enter (aV 862 [rf (bo.n 0),nv (Int.toNat (Int.add 32768 (Int.fmod (.ofNat c) 512))) (t7+6)]) none ⟨859,23,859,54⟩) ⟨859,23,859,54⟩ [(bo.n 0,ab (bo.a 0) (bo.n 1))] b7 (t7+7) [(795,#[.int 780 0,.int 20 0,rf cd])] ei [(.int (Int.add 32768 (Int.fmod (.ofNat c) 512)) (t7+6),nv (Int.toNat (Int.add 32768 (Int.fmod (.ofNat c) 512))) (t7+6)),(.bool (decide (Int.fmod (.ofNat c) 4=0)),.bool false)] [] fun b8 t8 bb =>
rA (aH (bt (az aR) 3) (rf 882) au) ⟨859,8,859,55⟩ [(873,ab ns m),(874,jg w k0 (rf 873) k1 (rf 879) k2 (rf 880) k3 (.int 1 t) k4 (nv c (aL.n 0)) k5 (nv (aG.n 0) (aG.n 1)) k6 (rf b3) k7 (rf (bo.n 0))),(875,ah (rf 878)),(878,ab #[rf w0,rf b3] 2),(879,ab #[D0,nv (Int.toNat (Int.add 32768 (Int.fmod (.ofNat c) 512))) (t7+6)] 2),(880,ab #[rf e0,rf (bb.n 0)] 2),(882,av 2 1),(cd,aB F),(w0,ab vs0 m0),(e0,af d0),(d0,ac w i00 i01 i02 i03 u0 r0 D0),(u0,ab us0 n0),(r0,ab #[] o0),(b3,ab (aG.a 0) (aG.n 2)),(bb.n 0,af (bb.n 1)),(bb.n 1,ac w (bb.n 10) (bb.n 11) (bb.n 12) (bb.n 13) (bb.n 2) (bb.n 3) (nv (Int.toNat (Int.add 32768 (Int.fmod (.ofNat c) 512))) (t7+6))),(bb.n 2,ab (bo.a 0) (bb.n 4)),(bb.n 3,ab #[] (bb.n 5))] b8 t8 [(795,#[.int 780 0,.int 20 0,rf cd])] ei
theorem for11':ok w bh P [(873,ab ns m),(874,fA w k0 k1 k2 k3 k4 k5 k6 k7 vp vc vr vw vd bp),(875,ah (rf 878)),(878,ab #[rf w0] 1),(879,ab #[D0] 1),(880,ab #[rf e0] 1),(882,av 1 2),(cd,aB F),(w0,ab vs0 m0),(e0,af d0),(d0,ac w i00 i01 i02 i03 u0 r0 D0),(u0,ab us0 n0),(r0,ab #[] o0)] b t [(795,#[.int 780 0,.int 20 0,rf cd])] ej [0,2,4,6,8,10,12,14,16,18,20,22,24,5,30,32,34,36] 1 [K33,1,1,1,K68,0x122,1,0x113c0503c22123202,K45,0x172,K36,K70] [2,2,4,5,6,3,5,3,4,5,3,0] [(2,.rw id),(5,.rw (cS (.bool false))),(0,.rw natV),(0,.hookF (fun c=>cJ w [28] (gI c 1)))] [2,2,2,3,3,3,3,3] (@for11 b t m k0 k1 k2 k3 k4 k5 k6 k7 cd w0 m0 e0 d0 u0 r0 n0 o0 i00 i01 i02 i03 c ns F vs0 us0 A D0 vd S w):=by revert w;refine @bs _ ?_ ?_<;>intro w<;>kernel_rfl
theorem for_11 (hm:ns.size≤1000) (hi:AllInts ns) (hS:∀ {V:Vw} {p:Pos} {b t m:Nat} {l:Addr} {ch:Ch} {gl:List GenState} (hk:∀ a o,V.kt.get a=some o→a < V.n₁) {c:Code} {below:List (Code×Pos)} {req:List Nat},an V (eF req S) ⟨.call (.builtin "sum") ⟨[rf l],[]⟩,none,none,(c,p) :: below,none⟩ p [(l,ab (dD ns 1) m)] b t ch gl) (hq:¬ Int.fmod (.ofNat (Int.natAbs (Int.add 3205 S))) 4=0):an (Vp w) (hkF1 w req) bh P [(873,ab ns m),(874,fA w k0 k1 k2 k3 k4 k5 k6 k7 vp vc vr vw vd bp),(875,ah (rf 878)),(878,ab #[rf w0] 1),(879,ab #[D0] 1),(880,ab #[rf e0] 1),(882,av 1 2),(cd,aB F),(w0,ab vs0 m0),(e0,af d0),(d0,ac w i00 i01 i02 i03 u0 r0 D0),(u0,ab us0 n0),(r0,ab #[] o0)] b t [(795,#[.int 780 0,.int 20 0,rf cd])] ej:=by
  refine qH (for11' (c:=Int.natAbs (Int.add 3205 S)) (S:=S) (A:=dD ns 1)) rfl fun s hs Ξ ar=>?_
  refine gF rfl (ez (ai w) hm) fun b1 t1 ak _ _ _ _=>?_
  refine gH rfl (hS (ai w)) fun b2 t2 aw _ _ _ _=>?_
  refine dJ rfl (ao (rfl)) ag (gq (ai w)) fun b3 t3 aL _ _ _ _=>?_
  refine gH rfl (ew 4 (ds:=[]) rfl (by simp) .nil) fun b4 t4 aG _ _ hk4 _=>?_
  obtain ⟨ds,hl4,hd5,hst⟩:=hk4
  refine gH rfl (mM hl4 hd5 hst) fun b5 t5 bx _ _ hk5 _=>?_
  obtain ⟨es,hl4',hd5',hst',hJ⟩:=hk5
  refine gH rfl (f7 (.inr rfl) hJ hl4' hd5' hst') fun b6 t6 bo _ _ hk6 _=>?_
  obtain ⟨Ws,hw4,hsw,hsr⟩:=hk6
  refine gF rfl (dn hsr hsw) fun b7 t7 e6 _ _ _ _=>?_
  refine f6 rfl (ae (g8 _ _) (ao (by rw [decide_eq_false hq]))) ag (iO hw4 hsr) fun b8 t8 bb _ _ _ ha8=>?_
  exact gA rfl ar fun s' hA hF=>d8 hs (kq hm hi (req:=[])) hA hF (by show b≤_;omega) (ae (.inl (.head _)) (ae (.inl Y1) (ae (.inl Y2) (ae (.inl Y3) (ae (.inl Y4) (ae (.inl Y5) (ae (.inl Y6) (ae (.inl Y7) (ae (.inl Y8) (ae (.inl (mI 9 rfl)) (ae (.inl (mI 10 rfl)) (ae (.inl (mI 11 rfl)) (ae (.inl (mI 12 rfl)) (ae (.inr (by show b≤b3+0;omega)) (ae (.inr (bT (by show b≤_;omega) (ha8 _ (.head _)).1)) (ae (.inr (bT (by show b≤_;omega) (ha8 _ Y1).1)) (ae (.inr (bT (by show b≤_;omega) (ha8 _ Y2).1)) (ae (.inr (bT (by show b≤_;omega) (ha8 _ Y3).1)) (ag))))))))))))))))))) fun ys hk hd=>⟨⟨pk [(40,b3+0),(41,aG.n 2),(42,bb.n 0),(43,bb.n 1),(44,bb.n 2),(45,bb.n 3),(46,bb.n 4),(47,bb.n 5),(48,bb.n 10),(49,bb.n 11),(50,bb.n 12),(51,bb.n 13)] ys.n,pk [(11,(.int (.ofNat (Int.toNat (Int.add 32768 (Int.fmod (.ofNat (Int.natAbs (Int.add 3205 S))) 512)))) (t7+6)))] ys.v,pk [(3,aG.a 0),(4,bo.a 0)] ys.a,ys.s,ys.d⟩,⟨⟨ds,hl4,hd5,hst,dN hst hsw hsr,gk _ _⟩,hk⟩,rfl,rfl,rfl,rfl,rfl,fun a h=>h,ae (by show b≤b3+0;omega) (ae (bT (by show b≤_;omega) (ha8 _ (.head _)).1) (ae (bT (by show b≤_;omega) (ha8 _ Y1).1) (ae (bT (by show b≤_;omega) (ha8 _ Y2).1) (ae (bT (by show b≤_;omega) (ha8 _ Y3).1) (fun x hx=>bT (by show b≤_;omega) (hd x hx))))))⟩
theorem kr (hm:ns.size≤1000) (hi:AllInts ns):an (Vp w) (hkF1 w req) bh P [(873,ab ns m),(874,fA w k0 k1 k2 k3 k4 k5 k6 k7 vp vc vr vw vd bp),(875,ah (rf 878)),(878,ab #[rf w0] 1),(879,ab #[D0] 1),(880,ab #[rf e0] 1),(882,av 1 2),(cd,aB F),(w0,ab vs0 m0),(e0,af d0),(d0,ac w i00 i01 i02 i03 u0 r0 D0),(u0,ab us0 n0),(r0,ab #[] o0)] b t [(795,#[.int 780 0,.int 20 0,rf cd])] ej:=by
  obtain ⟨S,hS⟩:=jq (vs:=dD ns 1) (ff hi)
  by_cases hq:Int.fmod (.ofNat (Int.natAbs (Int.add 3205 S))) 4=0
  · exact for_10 hm hi (fun hk=>hS hk) hq
  · exact for_11 hm hi (fun hk=>hS hk) hq
noncomputable def for00:Rs :=
rF (eS [0,3] A) (cB "list.__getitem__" [rf 873,rf (b+1)]) [(873,ab ns m),(b+1,fO "slice" [.int 0 t,.none,.int 3 (t+5)])] (b+2) (t+6) [(795,#[])] [] fun b1 t1 ak =>
rE (eF [14] S) bh (cB "sum" [rf (ak.n 0)]) ⟨848,45,848,66⟩ [(ak.n 0,ab A 0)] b1 t1 [(795,#[])] [] fun b2 t2 aw =>
.nF (hV [] c) (cB "abs" [.int (Int.add 586 S) t2]) [] b2 (t2+1) [(795,#[])] [] [(.int (Int.add 586 S) t2,.int (Int.add 586 S) t2)] [] fun b3 t3 aL =>
rH (mU [2,5]) cH ⟨851,8,853,28⟩ [(874,d6w w k0 (rf 873) k1 (rf 879) k2 (rf 880) (t+1) (.int 0 t) t3 (nv c (aL.n 0)) (t3+1) (nv c (aL.n 0)) (t3+2) (rf b3)),(b3,ab #[] 0)] (b3+1) (t3+3) [(795,#[])] [] fun b4 t4 aG =>
rH (hkJ0 [5]) (aY b3) ⟨854,21,854,38⟩ [(b3,ab (aG.a 0) (aG.n 2))] b4 t4 [(795,#[])] [] fun b5 t5 bx =>
rE (jL [2,5]) bh (aV 793 [.str (bx.s 0) (bx.n 0)]) ⟨854,15,854,39⟩ [(874,d6w w k0 (rf 873) k1 (rf 879) k2 (rf 880) (t+1) (.int 0 t) t3 (nv c (aL.n 0)) (t3+1) (nv (aG.n 0) (aG.n 1)) (t3+2) (rf b3)),(b3,ab (aG.a 0) (aG.n 2))] b5 t5 [(795,#[.int 780 0,.int 20 0,rf (bx.n 1)])] ej fun b6 t6 bo =>
rF (a9 [18,5] fun _=>.bool false) (cB "list.__ne__" [rf (bo.n 0),rf b3]) (Zj1 b3 aG bo) b6 (t6+1) [(795,#[.int 780 0,.int 20 0,rf (bx.n 1)])] ej fun b7 t7 e6 =>
.nH (cJ w [18] (.none)) (bh.enter (aV 862 [rf (bo.n 0),.none]) none ⟨859,23,859,54⟩) ⟨859,23,859,54⟩ [(bo.n 0,ab (bo.a 0) (bo.n 1))] b7 (t7+3) [(795,#[.int 780 0,.int 20 0,rf (bx.n 1)])] ej [(.bool (decide (Int.fmod (.ofNat c) 4=0)),.bool true)] [] fun b8 t8 bb =>
rA (aH (bt (az aR) 3) (rf 882) au) ⟨859,8,859,55⟩ [(873,ab ns m),(874,jg w k0 (rf 873) k1 (rf 879) k2 (rf 880) (t+1) (.int 0 t) t3 (nv c (aL.n 0)) (t3+1) (nv (aG.n 0) (aG.n 1)) (t3+2) (rf b3) t6 (rf (bo.n 0))),(875,ah (rf 878)),(878,ab #[rf b3] 1),(879,ab #[.none] 1),(880,ab #[rf (bb.n 0)] 1),(882,av 1 2),(bx.n 1,aB (bx.a 0)),(b3,ab (aG.a 0) (aG.n 2)),(bb.n 0,af (bb.n 1)),(bb.n 1,ac w (bb.n 10) (bb.n 11) (bb.n 12) (bb.n 13) (bb.n 2) (bb.n 3) .none),(bb.n 2,ab (bo.a 0) (bb.n 4)),(bb.n 3,ab #[] (bb.n 5))] b8 t8 [(795,#[.int 780 0,.int 20 0,rf (bx.n 1)])] ej
noncomputable abbrev Zj0 (k0 k1 k2 m:Nat) (ns:Array Value) (w:World):ax :=
  [(873,ab ns m),(874,frF0w w k0 k1 k2),(875,ah (rf 878)),(878,ab #[] 0),(879,ab #[] 0),(880,ab #[] 0),(882,av 0 3)]
theorem for00':ok w bh P (Zj0 k0 k1 k2 m ns w) b t [(795,#[])] [] [0,2,4,6,8,10,12,16,5,20,22,24,26] 1 [K33,1,1,1,K68,0x122,1,0x112a0502a22123202,K45,K36,K70] [2,2,4,5,6,3,5,3,4,3,0] [(2,.rw id),(5,.rw (cS (.bool true))),(0,.hookF (fun c=>cJ w [18] (gI c 1)))] [2,2,2,3,3,3,3,3] (@for00 b t m k0 k1 k2 c ns A S w):=by revert w;refine @bs _ ?_ ?_<;>intro w<;>kernel_rfl
theorem for_00 (hm:ns.size≤1000) (hi:AllInts ns) (hS:∀ {V:Vw} {p:Pos} {b t m:Nat} {l:Addr} {ch:Ch} {gl:List GenState} (hk:∀ a o,V.kt.get a=some o→a < V.n₁) {c:Code} {below:List (Code×Pos)} {req:List Nat},an V (eF req S) ⟨.call (.builtin "sum") ⟨[rf l],[]⟩,none,none,(c,p) :: below,none⟩ p [(l,ab (dD ns 0) m)] b t ch gl) (hq:Int.fmod (.ofNat (Int.natAbs (Int.add 586 S))) 4=0):an (Vp w) (hkF0 w req) bh P (Zj0 k0 k1 k2 m ns w) b t [(795,#[])] []:=by
  refine qH (for00' (c:=Int.natAbs (Int.add 586 S)) (S:=S) (A:=dD ns 0)) rfl fun s hs Ξ ar=>?_
  refine gF rfl (ez (ai w) hm) fun b1 t1 ak _ _ _ _=>?_
  refine gH rfl (hS (ai w)) fun b2 t2 aw _ _ _ _=>?_
  refine dJ rfl (ao (rfl)) ag (gq (ai w)) fun b3 t3 aL _ _ _ _=>?_
  refine gH rfl (ew 4 (ds:=[]) rfl (by simp) .nil) fun b4 t4 aG _ _ hk4 _=>?_
  obtain ⟨ds,hl4,hd5,hst⟩:=hk4
  refine gH rfl (mN hl4 hd5 hst) fun b5 t5 bx _ _ hk5 ha5=>?_
  obtain ⟨es,hl4',hd5',hst',hJ⟩:=hk5
  refine gH rfl (f7 (.inl rfl) hJ hl4' hd5' hst') fun b6 t6 bo _ _ hk6 _=>?_
  obtain ⟨Ws,hw4,hsw,hsr⟩:=hk6
  refine gF rfl (dn hsr hsw) fun b7 t7 e6 _ _ _ _=>?_
  refine f6 rfl (ao (by rw [decide_eq_true hq])) ag (iP hw4 hsr) fun b8 t8 bb _ _ _ ha8=>?_
  exact gA rfl ar fun s' hA hF=>d8 hs (kr hm hi (req:=[])) hA hF (by show b≤_;omega) (ae (.inl (.head _)) (ae (.inl Y1) (ae (.inl Y2) (ae (.inl Y3) (ae (.inl Y4) (ae (.inl Y5) (ae (.inl Y6) (ae (.inr (bT (by show b≤_;omega) (ha5 _ (.head _)).1)) (ae (.inr (by show b≤b3+0;omega)) (ae (.inr (bT (by show b≤_;omega) (ha8 _ (.head _)).1)) (ae (.inr (bT (by show b≤_;omega) (ha8 _ Y1).1)) (ae (.inr (bT (by show b≤_;omega) (ha8 _ Y2).1)) (ae (.inr (bT (by show b≤_;omega) (ha8 _ Y3).1)) (ag)))))))))))))) fun ys hk hd=>⟨⟨pk [(20,b3+0),(21,aG.n 2),(22,bb.n 0),(23,bb.n 1),(24,bb.n 2),(25,bb.n 3),(26,bb.n 4),(27,bb.n 5),(28,bb.n 10),(29,bb.n 11),(30,bb.n 12),(31,bb.n 13),(8,bx.n 1)] ys.n,pk [(10,.none)] ys.v,pk [(1,aG.a 0),(2,bo.a 0),(0,bx.a 0)] ys.a,ys.s,ys.d⟩,⟨⟨ds,hl4,hd5,hst,dN hst hsw hsr,.inl rfl⟩,hk⟩,rfl,rfl,rfl,rfl,rfl,eX,ae (bT (by show b≤_;omega) (ha5 _ (.head _)).1) (ae (by show b≤b3+0;omega) (ae (bT (by show b≤_;omega) (ha8 _ (.head _)).1) (ae (bT (by show b≤_;omega) (ha8 _ Y1).1) (ae (bT (by show b≤_;omega) (ha8 _ Y2).1) (ae (bT (by show b≤_;omega) (ha8 _ Y3).1) (fun x hx=>bT (by show b≤_;omega) (hd x hx)))))))⟩
noncomputable def for01:Rs :=
rF (eS [0,3] A) (cB "list.__getitem__" [rf 873,rf (b+1)]) [(873,ab ns m),(b+1,fO "slice" [.int 0 t,.none,.int 3 (t+5)])] (b+2) (t+6) [(795,#[])] [] fun b1 t1 ak =>
rE (eF [14] S) bh (cB "sum" [rf (ak.n 0)]) ⟨848,45,848,66⟩ [(ak.n 0,ab A 0)] b1 t1 [(795,#[])] [] fun b2 t2 aw =>
.nF (hV [] c) (cB "abs" [.int (Int.add 586 S) t2]) [] b2 (t2+1) [(795,#[])] [] [(.int (Int.add 586 S) t2,.int (Int.add 586 S) t2)] [] fun b3 t3 aL =>
rH (mU [2,5]) cH ⟨851,8,853,28⟩ [(874,d6w w k0 (rf 873) k1 (rf 879) k2 (rf 880) (t+1) (.int 0 t) t3 (nv c (aL.n 0)) (t3+1) (nv c (aL.n 0)) (t3+2) (rf b3)),(b3,ab #[] 0)] (b3+1) (t3+3) [(795,#[])] [] fun b4 t4 aG =>
rH (hkJ0 [5]) (aY b3) ⟨854,21,854,38⟩ [(b3,ab (aG.a 0) (aG.n 2))] b4 t4 [(795,#[])] [] fun b5 t5 bx =>
rE (jL [2,5]) bh (aV 793 [.str (bx.s 0) (bx.n 0)]) ⟨854,15,854,39⟩ [(874,d6w w k0 (rf 873) k1 (rf 879) k2 (rf 880) (t+1) (.int 0 t) t3 (nv c (aL.n 0)) (t3+1) (nv (aG.n 0) (aG.n 1)) (t3+2) (rf b3)),(b3,ab (aG.a 0) (aG.n 2))] b5 t5 [(795,#[.int 780 0,.int 20 0,rf (bx.n 1)])] ej fun b6 t6 bo =>
rF (a9 [18,5] fun _=>.bool false) (cB "list.__ne__" [rf (bo.n 0),rf b3]) (Zj1 b3 aG bo) b6 (t6+1) [(795,#[.int 780 0,.int 20 0,rf (bx.n 1)])] ej fun b7 t7 e6 =>
.nH (cJ w [18] (nv (Int.toNat (Int.add 32768 (Int.fmod (.ofNat c) 512))) (t7+6))) (bh.enter (aV 862 [rf (bo.n 0),nv (Int.toNat (Int.add 32768 (Int.fmod (.ofNat c) 512))) (t7+6)]) none ⟨859,23,859,54⟩) ⟨859,23,859,54⟩ [(bo.n 0,ab (bo.a 0) (bo.n 1))] b7 (t7+7) [(795,#[.int 780 0,.int 20 0,rf (bx.n 1)])] ej [(.int (Int.add 32768 (Int.fmod (.ofNat c) 512)) (t7+6),nv (Int.toNat (Int.add 32768 (Int.fmod (.ofNat c) 512))) (t7+6)),(.bool (decide (Int.fmod (.ofNat c) 4=0)),.bool false)] [] fun b8 t8 bb =>
rA (aH (bt (az aR) 3) (rf 882) au) ⟨859,8,859,55⟩ [(873,ab ns m),(874,jg w k0 (rf 873) k1 (rf 879) k2 (rf 880) (t+1) (.int 0 t) t3 (nv c (aL.n 0)) (t3+1) (nv (aG.n 0) (aG.n 1)) (t3+2) (rf b3) t6 (rf (bo.n 0))),(875,ah (rf 878)),(878,ab #[rf b3] 1),(879,ab #[nv (Int.toNat (Int.add 32768 (Int.fmod (.ofNat c) 512))) (t7+6)] 1),(880,ab #[rf (bb.n 0)] 1),(882,av 1 2),(bx.n 1,aB (bx.a 0)),(b3,ab (aG.a 0) (aG.n 2)),(bb.n 0,af (bb.n 1)),(bb.n 1,ac w (bb.n 10) (bb.n 11) (bb.n 12) (bb.n 13) (bb.n 2) (bb.n 3) (nv (Int.toNat (Int.add 32768 (Int.fmod (.ofNat c) 512))) (t7+6))),(bb.n 2,ab (bo.a 0) (bb.n 4)),(bb.n 3,ab #[] (bb.n 5))] b8 t8 [(795,#[.int 780 0,.int 20 0,rf (bx.n 1)])] ej
theorem for01':ok w bh P (Zj0 k0 k1 k2 m ns w) b t [(795,#[])] [] [0,2,4,6,8,10,12,16,5,20,22,24,26] 1 [K33,1,1,1,K68,0x122,1,0x112a0502a22123202,K45,0x172,K36,K70] [2,2,4,5,6,3,5,3,4,5,3,0] [(2,.rw id),(5,.rw (cS (.bool false))),(0,.rw natV),(0,.hookF (fun c=>cJ w [18] (gI c 1)))] [2,2,2,3,3,3,3,3] (@for01 b t m k0 k1 k2 c ns A S w):=by revert w;refine @bs _ ?_ ?_<;>intro w<;>kernel_rfl
theorem for_01 (hm:ns.size≤1000) (hi:AllInts ns) (hS:∀ {V:Vw} {p:Pos} {b t m:Nat} {l:Addr} {ch:Ch} {gl:List GenState} (hk:∀ a o,V.kt.get a=some o→a < V.n₁) {c:Code} {below:List (Code×Pos)} {req:List Nat},an V (eF req S) ⟨.call (.builtin "sum") ⟨[rf l],[]⟩,none,none,(c,p) :: below,none⟩ p [(l,ab (dD ns 0) m)] b t ch gl) (hq:¬ Int.fmod (.ofNat (Int.natAbs (Int.add 586 S))) 4=0):an (Vp w) (hkF0 w req) bh P (Zj0 k0 k1 k2 m ns w) b t [(795,#[])] []:=by
  refine qH (for01' (c:=Int.natAbs (Int.add 586 S)) (S:=S) (A:=dD ns 0)) rfl fun s hs Ξ ar=>?_
  refine gF rfl (ez (ai w) hm) fun b1 t1 ak _ _ _ _=>?_
  refine gH rfl (hS (ai w)) fun b2 t2 aw _ _ _ _=>?_
  refine dJ rfl (ao (rfl)) ag (gq (ai w)) fun b3 t3 aL _ _ _ _=>?_
  refine gH rfl (ew 4 (ds:=[]) rfl (by simp) .nil) fun b4 t4 aG _ _ hk4 _=>?_
  obtain ⟨ds,hl4,hd5,hst⟩:=hk4
  refine gH rfl (mN hl4 hd5 hst) fun b5 t5 bx _ _ hk5 ha5=>?_
  obtain ⟨es,hl4',hd5',hst',hJ⟩:=hk5
  refine gH rfl (f7 (.inl rfl) hJ hl4' hd5' hst') fun b6 t6 bo _ _ hk6 _=>?_
  obtain ⟨Ws,hw4,hsw,hsr⟩:=hk6
  refine gF rfl (dn hsr hsw) fun b7 t7 e6 _ _ _ _=>?_
  refine f6 rfl (ae (g8 _ _) (ao (by rw [decide_eq_false hq]))) ag (iO hw4 hsr) fun b8 t8 bb _ _ _ ha8=>?_
  exact gA rfl ar fun s' hA hF=>d8 hs (kr hm hi (req:=[])) hA hF (by show b≤_;omega) (ae (.inl (.head _)) (ae (.inl Y1) (ae (.inl Y2) (ae (.inl Y3) (ae (.inl Y4) (ae (.inl Y5) (ae (.inl Y6) (ae (.inr (bT (by show b≤_;omega) (ha5 _ (.head _)).1)) (ae (.inr (by show b≤b3+0;omega)) (ae (.inr (bT (by show b≤_;omega) (ha8 _ (.head _)).1)) (ae (.inr (bT (by show b≤_;omega) (ha8 _ Y1).1)) (ae (.inr (bT (by show b≤_;omega) (ha8 _ Y2).1)) (ae (.inr (bT (by show b≤_;omega) (ha8 _ Y3).1)) (ag)))))))))))))) fun ys hk hd=>⟨⟨pk [(20,b3+0),(21,aG.n 2),(22,bb.n 0),(23,bb.n 1),(24,bb.n 2),(25,bb.n 3),(26,bb.n 4),(27,bb.n 5),(28,bb.n 10),(29,bb.n 11),(30,bb.n 12),(31,bb.n 13),(8,bx.n 1)] ys.n,pk [(10,(.int (.ofNat (Int.toNat (Int.add 32768 (Int.fmod (.ofNat (Int.natAbs (Int.add 586 S))) 512)))) (t7+6)))] ys.v,pk [(1,aG.a 0),(2,bo.a 0),(0,bx.a 0)] ys.a,ys.s,ys.d⟩,⟨⟨ds,hl4,hd5,hst,dN hst hsw hsr,gk _ _⟩,hk⟩,rfl,rfl,rfl,rfl,rfl,eX,ae (bT (by show b≤_;omega) (ha5 _ (.head _)).1) (ae (by show b≤b3+0;omega) (ae (bT (by show b≤_;omega) (ha8 _ (.head _)).1) (ae (bT (by show b≤_;omega) (ha8 _ Y1).1) (ae (bT (by show b≤_;omega) (ha8 _ Y2).1) (ae (bT (by show b≤_;omega) (ha8 _ Y3).1) (fun x hx=>bT (by show b≤_;omega) (hd x hx)))))))⟩
theorem for_ok0 (hm:ns.size≤1000) (hi:AllInts ns):an (Vp w) (hkF0 w req) bh P (Zj0 k0 k1 k2 m ns w) b t [(795,#[])] []:=by
  obtain ⟨S,hS⟩:=jq (vs:=dD ns 0) (ff hi)
  by_cases hq:Int.fmod (.ofNat (Int.natAbs (Int.add 586 S))) 4=0
  · exact for_00 hm hi (fun hk=>hS hk) hq
  · exact for_01 hm hi (fun hk=>hS hk) hq
end
section
variable {P:Pos} {b t e1 d1 u1 r1 e2 d2 u2 r2 n1 o1 n2 o2 i0 i1 i2 i3 j0 j1 j2 j3 x σ:Nat} {DD D1 D2:Value} {vs us tb:Array Value} {gl:List GenState} {w:World} {req:List Nat} {Vs Us:List Str}
noncomputable def gt (P:Pos) (e1 e2:Addr):Ctx:=dy.enter (aV 93 [.ref e1,.ref e2]) none P
noncomputable def fg (D1 D2:Value):Value:=match D2 with
  | .none=>D1
  | v=>v
noncomputable abbrev dI (w:World) (req:List Nat) (D:Value):Hk:=dS req (fun _ ys=>.ok (.ret (.ref (ys.n 0)))) (fun pre _=>pre.map (·.2)) (fun _ ys=>[(ys.n 0,af (ys.n 1)),(ys.n 1,ac w (ys.n 10) (ys.n 11) (ys.n 12) (ys.n 13) (ys.n 2) (ys.n 3) D),(ys.n 2,ab (ys.a 0) (ys.n 4)),(ys.n 3,ab #[] (ys.n 5))]) (fun pre ys=>(ys.a 0).toList=(bn pre 2).toList.filter fun v=>(dA pre 6).any (· == strOf v))
noncomputable abbrev Zl0 (b1 n1 u1:Nat) (vs:Array Value) (ak:Ys):ax :=
  [(b1+2,fO "filter" [rf b1,rf (b1+1)]),(b1,fO "builtin_function_or_method" [.builtin "set.__contains__",rf (ak.n 0)]),(b1+1,ad u1 0),(u1,ab vs n1),(ak.n 0,⟨.type "set",none,.set (cj (ak.d 0)) (ck (ak.d 0)) (ci (ak.d 0)),#[]⟩)]
noncomputable abbrev Zl1 (P:Pos) (b b1:Nat):Ctx :=
  ⟨.call (.type "list") ⟨[rf (b1+2)],[]⟩,none,none,[(bW (cY top 5) (iH (cY top 5) (aX "merge_entries.<locals>.") 93 92 b []),⟨47,23,47,83⟩),(bW aR au,P),(aI,p0)],none⟩
noncomputable abbrev Zl2 (P:Pos) (b u2:Nat):Ctx :=
  ⟨.call (.type "set") ⟨[rf u2],[]⟩,none,none,[(bW (cY top 5) (iH (cY top 5) (aX "merge_entries.<locals>.") 93 92 b []),⟨47,35,47,53⟩),(bW aR au,P),(aI,p0)],none⟩
noncomputable def mer0:Rs :=
ca (km w [12]) (Zl2 P b u2) ⟨47,35,47,53⟩ [(u2,ab us n2)] (b+6) (t+13) tb gl fun b1 t1 ak =>
ca (kn w [17,13,15,4,16]) (Zl1 P b b1) ⟨47,23,47,83⟩ (Zl0 b1 n1 u1 vs ak) (b1+3) (t1+2) tb gl fun b2 t2 aw =>
cF (.ok (.ret (rf (b+2)))) [(e1,af d1),(d1,ac w i0 i1 i2 i3 u1 r1 DD),(u1,ab vs n1),(r1,ab #[] o1),(e2,af d2),(d2,ac w j0 j1 j2 j3 u2 r2 (nv x σ)),(u2,ab us n2),(r2,ab #[] o2),(b+2,af (b+1)),(b+1,ac w (t+4) (t+6) (t+8) (t+10) (aw.n 0) b2 (nv x σ)),(aw.n 0,ab (aw.a 0) (aw.n 2)),(b2,ab #[] 0)] (b2+1) (t2+14) tb gl
theorem mer0':aZ w (gt P e1 e2) P [(e1,af d1),(d1,ac w i0 i1 i2 i3 u1 r1 DD),(u1,ab vs n1),(r1,ab #[] o1),(e2,af d2),(d2,ac w j0 j1 j2 j3 u2 r2 (nv x σ)),(u2,ab us n2),(r2,ab #[] o2)] b t tb gl [0,2,4,6,8,10,12,14,5,3,18,19] 5 [K20,K34,0x13ec9988133030335351525452132100030402141a1180183184182133030335351525452131a1180183184182141a1180183184182143030335351525452141e0601e162601e0631a11801831841821321000304021430303353515254521] [3,2] [] [6,9] (@mer0 P b t e1 d1 u1 r1 e2 d2 u2 r2 n1 o1 n2 o2 i0 i1 i2 i3 j0 j1 j2 j3 x σ DD vs us tb gl w):=by revert w;refine @bs _ ?_ ?_<;>intro w<;>kernel_rfl
theorem merge_0 (hv:aD vs Vs) (hv4:Vs.length≤4) (hu:aD us Us) (hu4:Us.length≤100):HB w (dI w req (nv x σ)) (gt P e1 e2) P [(e1,af d1),(d1,ac w i0 i1 i2 i3 u1 r1 DD),(u1,ab vs n1),(r1,ab #[] o1),(e2,af d2),(d2,ac w j0 j1 j2 j3 u2 r2 (nv x σ)),(u2,ab us n2),(r2,ab #[] o2)] b t tb gl:=by
  refine qH mer0' rfl fun s hs Ξ ar=>?_
  refine gH rfl (jw hu hu4) fun b1 t1 ak _ _ hk1 _=>?_
  refine gH rfl (jT hk1 hv hv4) fun b2 t2 aw _ _ hk2 ha2=>?_
  obtain ⟨S,hS,hfl⟩:=hk2
  exact gD rfl ar fun s' hA hF=>⟨bf [b+2,b+1,aw.n 0,b2+0,aw.n 2,0,0,0,0,0,(t+4),(t+6),(t+8),(t+10)] [aw.a 0] [] [] [],_,_,by rw [cp.uniq hS (cp.obj hk1)] at hfl;exact hfl,rfl,rfl,hA,hF,fun a h=>h,ae (by show b≤b+2;omega) (ae (by show b≤b+1;omega) (ae (bT (by show b≤_;omega) (ha2 _ (.head _)).1) (ao (by show b≤b2+0;omega))))⟩
noncomputable def mer1:Rs :=
ca (km w [12]) (Zl2 P b u2) ⟨47,35,47,53⟩ [(u2,ab us n2)] (b+6) (t+13) tb gl fun b1 t1 ak =>
ca (kn w [17,13,15,4,16]) (Zl1 P b b1) ⟨47,23,47,83⟩ (Zl0 b1 n1 u1 vs ak) (b1+3) (t1+2) tb gl fun b2 t2 aw =>
cF (.ok (.ret (rf (b+2)))) [(e1,af d1),(d1,ac w i0 i1 i2 i3 u1 r1 .none),(u1,ab vs n1),(r1,ab #[] o1),(e2,af d2),(d2,ac w j0 j1 j2 j3 u2 r2 .none),(u2,ab us n2),(r2,ab #[] o2),(b+2,af (b+1)),(b+1,ac w (t+4) (t+6) (t+8) (t+10) (aw.n 0) b2 .none),(aw.n 0,ab (aw.a 0) (aw.n 2)),(b2,ab #[] 0)] (b2+1) (t2+14) tb gl
theorem mer1':aZ w (gt P e1 e2) P [(e1,af d1),(d1,ac w i0 i1 i2 i3 u1 r1 .none),(u1,ab vs n1),(r1,ab #[] o1),(e2,af d2),(d2,ac w j0 j1 j2 j3 u2 r2 .none),(u2,ab us n2),(r2,ab #[] o2)] b t tb gl [0,2,4,6,8,10,12,14,5,3,18,19] 5 [K20,K34,K8] [3,2] [] [6,9] (@mer1 P b t e1 d1 u1 r1 e2 d2 u2 r2 n1 o1 n2 o2 i0 i1 i2 i3 j0 j1 j2 j3 vs us tb gl w):=by revert w;refine @bs _ ?_ ?_<;>intro w<;>kernel_rfl
theorem merge_1 (hv:aD vs Vs) (hv4:Vs.length≤4) (hu:aD us Us) (hu4:Us.length≤100):HB w (dI w req (.none)) (gt P e1 e2) P [(e1,af d1),(d1,ac w i0 i1 i2 i3 u1 r1 .none),(u1,ab vs n1),(r1,ab #[] o1),(e2,af d2),(d2,ac w j0 j1 j2 j3 u2 r2 .none),(u2,ab us n2),(r2,ab #[] o2)] b t tb gl:=by
  refine qH mer1' rfl fun s hs Ξ ar=>?_
  refine gH rfl (jw hu hu4) fun b1 t1 ak _ _ hk1 _=>?_
  refine gH rfl (jT hk1 hv hv4) fun b2 t2 aw _ _ hk2 ha2=>?_
  obtain ⟨S,hS,hfl⟩:=hk2
  exact gD rfl ar fun s' hA hF=>⟨bf [b+2,b+1,aw.n 0,b2+0,aw.n 2,0,0,0,0,0,(t+4),(t+6),(t+8),(t+10)] [aw.a 0] [] [] [],_,_,by rw [cp.uniq hS (cp.obj hk1)] at hfl;exact hfl,rfl,rfl,hA,hF,fun a h=>h,ae (by show b≤b+2;omega) (ae (by show b≤b+1;omega) (ae (bT (by show b≤_;omega) (ha2 _ (.head _)).1) (ao (by show b≤b2+0;omega))))⟩
noncomputable def mer2:Rs :=
ca (km w [12]) (Zl2 P b u2) ⟨47,35,47,53⟩ [(u2,ab us n2)] (b+6) (t+13) tb gl fun b1 t1 ak =>
ca (kn w [17,13,15,4,16]) (Zl1 P b b1) ⟨47,23,47,83⟩ (Zl0 b1 n1 u1 vs ak) (b1+3) (t1+2) tb gl fun b2 t2 aw =>
cF (.ok (.ret (rf (b+2)))) [(e1,af d1),(d1,ac w i0 i1 i2 i3 u1 r1 (nv x σ)),(u1,ab vs n1),(r1,ab #[] o1),(e2,af d2),(d2,ac w j0 j1 j2 j3 u2 r2 .none),(u2,ab us n2),(r2,ab #[] o2),(b+2,af (b+1)),(b+1,ac w (t+4) (t+6) (t+8) (t+10) (aw.n 0) b2 (nv x σ)),(aw.n 0,ab (aw.a 0) (aw.n 2)),(b2,ab #[] 0)] (b2+1) (t2+14) tb gl
theorem mer2':aZ w (gt P e1 e2) P [(e1,af d1),(d1,ac w i0 i1 i2 i3 u1 r1 (nv x σ)),(u1,ab vs n1),(r1,ab #[] o1),(e2,af d2),(d2,ac w j0 j1 j2 j3 u2 r2 .none),(u2,ab us n2),(r2,ab #[] o2)] b t tb gl [0,2,4,6,8,10,12,14,5,3,18,19] 5 [K20,K34,K8] [3,2] [] [6,9] (@mer2 P b t e1 d1 u1 r1 e2 d2 u2 r2 n1 o1 n2 o2 i0 i1 i2 i3 j0 j1 j2 j3 x σ vs us tb gl w):=by revert w;refine @bs _ ?_ ?_<;>intro w<;>kernel_rfl
theorem merge_2 (hv:aD vs Vs) (hv4:Vs.length≤4) (hu:aD us Us) (hu4:Us.length≤100):HB w (dI w req (nv x σ)) (gt P e1 e2) P [(e1,af d1),(d1,ac w i0 i1 i2 i3 u1 r1 (nv x σ)),(u1,ab vs n1),(r1,ab #[] o1),(e2,af d2),(d2,ac w j0 j1 j2 j3 u2 r2 .none),(u2,ab us n2),(r2,ab #[] o2)] b t tb gl:=by
  refine qH mer2' rfl fun s hs Ξ ar=>?_
  refine gH rfl (jw hu hu4) fun b1 t1 ak _ _ hk1 _=>?_
  refine gH rfl (jT hk1 hv hv4) fun b2 t2 aw _ _ hk2 ha2=>?_
  obtain ⟨S,hS,hfl⟩:=hk2
  exact gD rfl ar fun s' hA hF=>⟨bf [b+2,b+1,aw.n 0,b2+0,aw.n 2,0,0,0,0,0,(t+4),(t+6),(t+8),(t+10)] [aw.a 0] [] [] [],_,_,by rw [cp.uniq hS (cp.obj hk1)] at hfl;exact hfl,rfl,rfl,hA,hF,fun a h=>h,ae (by show b≤b+2;omega) (ae (by show b≤b+1;omega) (ae (bT (by show b≤_;omega) (ha2 _ (.head _)).1) (ao (by show b≤b2+0;omega))))⟩
theorem mE (h1:ay D1) (h2:ay D2) (hv:aD vs Vs) (hv4:Vs.length≤4) (hu:aD us Us) (hu4:Us.length≤100):HB w (dI w req (fg D1 D2)) (gt P e1 e2) P [(e1,af d1),(d1,ac w i0 i1 i2 i3 u1 r1 D1),(u1,ab vs n1),(r1,ab #[] o1),(e2,af d2),(d2,ac w j0 j1 j2 j3 u2 r2 D2),(u2,ab us n2),(r2,ab #[] o2)] b t tb gl:=by
  rcases h2 with rfl | ⟨x,τ,hx,rfl⟩
  · rcases h1 with rfl | ⟨y,τ,hy,rfl⟩
    · exact merge_1 hv hv4 hu hu4
    · exact merge_2 hv hv4 hu hu4
  · exact merge_0 hv hv4 hu hu4
theorem i4 {D1 D2:Value} (h1:ay D1) (h2:ay D2):ay (fg D1 D2):=by
  rcases h2 with rfl | ⟨x,τ,hx,rfl⟩
  · exact h1
  · exact .inr ⟨x,τ,hx,rfl⟩
end
section
noncomputable def fI (x y:Str):Str:=⟨x.cps++y.cps⟩
noncomputable def gb (n:Nat):Str:=Str.ofString (toString (Int.ofNat n))
noncomputable abbrev cm (req:List Nat) (r:Str):Hk:=dS req (fun _ ys=>.ok (.ret (.str r (ys.n 0)))) (fun pre _=>pre.map (·.2)) (fun _ _=>[]) (fun _ _=>True)
noncomputable def bu (x:Str):Str:=fI (aX "User-agent: ") x
noncomputable def cdS (n:Nat):Str:=fI (aX "Crawl-delay: ") (gb n)
noncomputable def dlS:Value→List Str
  | .int (.ofNat n) _=>[cdS n]
  | _=>[]
noncomputable def iX (Ws:List Str) (D:Value):Str:=match Ws with
  | []=>⟨#[]⟩
  | W :: r=>Txt.join (Str.mk #[10]) ((W :: r).map bu++dlS D++[aX "Allow:"])
theorem bj {f:Str→Str} {vs:Array Value} {i τ σ:Nat} {x:Str} {A r:List Value} (h:vs[i]?=some (.str x σ)) (e:∃ Bs,StrsAre Bs (((vs.toList.map strOf).drop (i+1)).map f)∧r=(A++[.str (f x) τ])++Bs):∃ Bs,StrsAre Bs (((vs.toList.map strOf).drop i).map f)∧r=A++Bs:=by
  obtain ⟨Bs,h1,h2⟩:=e
  refine ⟨.str (f x) τ :: Bs,?_,by rw [h2];simp⟩
  have hd:(vs.toList.map strOf).drop i=x :: (vs.toList.map strOf).drop (i+1):=by
    rw [← List.map_drop,gj h,List.map_cons,List.map_drop]
    rfl
  rw [hd,List.map_cons]
  exact .cons _ _ h1
theorem gO {f:Str→Str} {vs:Array Value} {i:Nat} {A:List Value} (h:vs[i]?=none):∃ Bs,StrsAre Bs (((vs.toList.map strOf).drop i).map f)∧A=A++Bs:=by
  have:vs.size≤i:=Array.getElem?_eq_none_iff.mp h
  refine ⟨[],?_,by simp⟩
  rw [List.drop_of_length_le (by simpa using this)]
  exact .nil
section
variable {V:Vw} {p:Pos} {b t c:Nat} {ch:Ch} {gl:List GenState} {vs:Array Value} {m:Nat} {l:Addr}
theorem kd {Γ:Ctx} {l':Addr} {vs':Array Value} {m':Nat} {req:List Nat} (h:(vs.size != vs'.size)=true) :
    an V (a9 req fun _=>.bool false) (Γ.enter (.call (.builtin "list.__eq__") ⟨[.ref l,.ref l'],[]⟩) none p) p [(l,ab vs m),(l',ab vs' m')] b t ch gl :=
  br fun s hs A=>by
    have ho:=hs.olds (l,ab vs m) (.head _)
    have ho':=hs.olds (l',ab vs' m') Y1
    refine call_meets F.slot_list_eq (bP ho).typeIs F.entry_list_eq (F.args_list_eq_2 _ _) (SeqAt.list_eq_lengthsAt l l' vs vs' m m' none none #[] #[] h) ⟨ho,ho',?_⟩
    exact ⟨⟨dz fun _=>0,rfl⟩,bV _⟩
theorem gM (hk:∀ a o,V.kt.get a=some o→a < V.n₁) {Γ:Ctx} {x y r:Str} {τ σ:Nat} {req:List Nat} (hr:fI x y=r) (hl:x.cps.size+y.cps.size≤10000) :
    an V (cm req r) (Γ.enter (.call (.builtin "str.__add__") ⟨[.str x τ,.str y σ],[]⟩) none p) p [] b t ch gl :=
  cA hk fun s hs A _=>by
    refine call_gives F.slot_str_add (typeIs_str s x τ) F.entry_str_add (F.args_str_add_2 _ _) (gives_str_add x y τ σ) ?_
    subst hr
    by_cases h1:(x.length == 0)=true
    · rw [if_pos h1]
      have e:fI x y=y:=by
        have:x.cps = #[]:=Array.eq_empty_of_size_eq_zero (by simpa [Str.length] using h1)
        unfold fI;rw [this];simp
      rw [e]
      exact ⟨bf [σ] [] [] [] [],trivial,rfl,rfl,c5.heap hs rfl rfl rfl rfl⟩
    · rw [if_neg h1]
      by_cases h2:(y.length == 0)=true
      · rw [if_pos h2]
        have e:fI x y=x:=by
          have:y.cps = #[]:=Array.eq_empty_of_size_eq_zero (by simpa [Str.length] using h2)
          unfold fI;rw [this];simp
        rw [e]
        exact ⟨bf [τ] [] [] [] [],trivial,rfl,rfl,c5.heap hs rfl rfl rfl rfl⟩
      · rw [if_neg h2]
        refine ⟨?_,bf [s.toks] [] [] [] [],trivial,rfl,rfl,c5.heap hs rfl rfl rfl rfl⟩
        show (x.cps++y.cps).size≤sizeLine
        rw [Array.size_append,bM];omega
theorem stri_ok (hk:∀ a o,V.kt.get a=some o→a < V.n₁) {Γ:Ctx} {n τ:Nat} {req:List Nat} (hn:n < 2 ^ 100) :
    an V (cm req (gb n)) (Γ.enter (.call (.type "str") ⟨[.int (.ofNat n) τ],[]⟩) none p) p [] b t ch gl :=
  cA hk fun s hs A _=>by
    have hlog:(Int.ofNat n).natAbs.log2 < 1920:=by
      show n.log2 < 1920
      rcases Nat.eq_zero_or_pos n with h | h
      · subst h;decide
      · have:n.log2 < 100:=(Nat.log2_lt (by omega)).mpr hn
        omega
    exact P.str_of_int hlog ⟨bf [s.toks] [] [] [] [],trivial,rfl,rfl,c5.heap hs rfl rfl rfl rfl⟩
noncomputable abbrev jM (req:List Nat):Hk:=dS req (fun _ ys=>.ok (.ret (.ref (ys.n 0)))) (fun pre _=>pre.map (·.2)) (fun _ ys=>[(ys.n 0,ab (ys.a 0) (ys.n 1))]) (fun pre ys=>ys.a 0=bn pre 0++bn pre 1)
theorem kg (hk:∀ a o,V.kt.get a=some o→a < V.n₁) {Γ:Ctx} {l':Addr} {vs':Array Value} {m':Nat} {req:List Nat} (h:vs.size+vs'.size≤1000) :
    an V (jM req) (Γ.enter (.call (.builtin "list.__add__") ⟨[.ref l,.ref l'],[]⟩) none p) p [(l,ab vs m),(l',ab vs' m')] b t ch gl :=
  cA hk fun s hs A _=>by
    have ho:=hs.olds (l,ab vs m) (.head _)
    have ho':=hs.olds (l',ab vs' m') Y1
    refine call_meets F.slot_list_add (bP ho).typeIs F.entry_list_add (F.args_list_add_2 _ _) (AutoSeq1.list___add___list_list_0 l vs m l' vs' m' (by rw [bM];omega)) ⟨ho,ho',?_⟩
    exact ⟨bf [s.heap.objs.size,_] [vs++vs'] [] [] [],rfl,rfl,rfl,c5.pushed hs rfl rfl rfl rfl rfl⟩
noncomputable abbrev eT (req:List Nat) (sep:Str):Hk:=dS req (fun _ ys=>.ok (.ret (.str (ys.s 0) (ys.n 0)))) (fun pre _=>pre.map (·.2)) (fun _ _=>[]) (fun pre ys=>ys.s 0=Builtin.Str.glued sep ((bn pre 0).toList.map strOf))
theorem jr {vs:List Value} {Ws:List Str} (h:StrsAre vs Ws):∃ l:List (Str×Tok),vs=strValues l∧l.map (·.1)=Ws:=by
  induction h with
  | nil=>exact ⟨[],rfl,rfl⟩
  | cons y t _ ih =>
    obtain ⟨l,e1,e2⟩:=ih
    exact ⟨(y,t) :: l,by rw [e1];rfl,by rw [List.map_cons,e2]⟩
theorem eA (hk:∀ a o,V.kt.get a=some o→a < V.n₁) {Γ:Ctx} {sep:Str} {τ:Nat} {Ws:List Str} {req:List Nat} (hw:StrsAre vs.toList Ws) (hl:JoinOk sep Ws=true) (hg:Txt.join sep Ws=Builtin.Str.glued sep Ws) :
    an V (eT req sep) (Γ.enter (.call (.builtin "str.join") ⟨[.str sep τ,.ref l],[]⟩) none p) p [(l,ab vs m)] b t ch gl :=
  cA hk fun s hs A _=>by
    have ho:=hs.olds (l,ab vs m) (.head _)
    obtain ⟨ps,e1,e2⟩:=jr hw
    have e3:vs=(strValues ps).toArray:=by rw [← e1]
    refine SC.join (texts:=Ws) (by rw [← e3];exact bP ho) e2 hl fun t' k=>?_
    refine ⟨bf [t'] [] [] [Txt.join sep Ws] [],?_,rfl,rfl,c5.heap hs rfl rfl rfl rfl⟩
    show Txt.join sep Ws=Builtin.Str.glued sep (vs.toList.map strOf)
    rw [StrsAre.strs hw,hg]
theorem ec {Γ:Ctx} {x y:Str} {τ σ:Nat} {req:List Nat} (h:x=y) :
    an V (a9 req fun _=>.bool false) (Γ.enter (.call (.builtin "str.__ne__") ⟨[.str x τ,.str y σ],[]⟩) none p) p [] b t ch gl :=
  br (pre:=[]) fun s hs A=>by
    refine call_gives F.slot_str_ne (typeIs_str s x τ) F.entry_str_ne (F.args_str_ne_2 _ _) (gives_str_ne x y τ σ) ?_
    subst h
    exact ⟨⟨dz fun _=>0,by simp⟩,bV _⟩
end
end
section
variable {P P1 P2:Pos} {b t aj it l am i m ml k0 σ f la:Nat} {v0 fi DD D:Value} {a vs tb:Array Value} {dd:Data} {gl:List GenState} {S:Stmt} {w:World} {req:List Nat} {Ws:List Str}
noncomputable def ΓtoldB (S:Stmt) (fi:Value) (P1 P2:Pos) (f:Addr):List (Code×Pos):=[(bW fQ (e7 fQ "_law_told.<locals>." 867 866 f []),⟨839,12,839,56⟩),(aH S fi au,P2),(bW aR au,P1),(aI,p0)]
noncomputable def fF (S:Stmt) (fi:Value) (P1 P2:Pos) (la:Addr) (D:Value):Ctx:=(j5 S fi P1).enter (aV 867 [.ref la,D]) none P2
theorem cl_to:Cl dV:=by unfold dV;exact .list _ _ _ _ _ rfl
noncomputable abbrev iL (w:World) (req:List Nat):Hk:=dS req (fun _ _=>.ok .next) (fun pre ys=>match pre with
  | [_,_,l,_]=>[ab (ys.a 0) (ys.n 0),cc (ys.n 1),l.2,ap (.dict #[aq w.params "agent" (ys.n 3) (ys.v 0)] 1)]
  | _=>[]) (fun _ _=>[]) (fun pre ys=>∃ Bs,StrsAre Bs (((dA pre 2).drop (iK pre 1)).map bu)∧(ys.a 0).toList=(bn pre 0).toList++Bs)
noncomputable abbrev hkTc0 (req:List Nat):Hk:=dS req (fun _ _=>.ok .next) (fun pre ys=>match pre with
  | [_,_,l,_]=>[ab (ys.a 0) (ys.n 0),cc (ys.n 1),l.2,ap (.dict #[] 0)]
  | _=>[]) (fun _ _=>[]) (fun pre ys=>∃ Bs,StrsAre Bs (((dA pre 2).drop (iK pre 1)).map bu)∧(ys.a 0).toList=(bn pre 0).toList++Bs)
theorem kV {sep:Str} (h1:sep.length=1):∀ {L:List Str},(∀ y∈L,y.cps.size≤2000)→L.length≤100→JoinOk sep L=true:=by
  intro L hL hl
  have key:∀ (L:List Str) (n:Nat),(∀ y∈L,y.cps.size≤2000)→L.foldl (fun n (s:Str)=>n+s.length+sep.length) n≤n+2001 * L.length:=by
    intro L
    induction L with
    | nil=>intro n _;simp
    | cons y r ih =>
      intro n h
      have h2:=ih (n+y.length+sep.length) fun z hz=>h z (.tail _ hz)
      have h3:y.length≤2000:=h y (.head _)
      simp only [List.foldl_cons,List.length_cons]
      omega
  unfold JoinOk Builtin.Str.tooLong
  have:=key L 0 hL
  simp only [List.foldl_toArray,Bool.not_eq_true',decide_eq_false_iff_not,bM]
  omega
theorem fP {vs r:Array Value} {Ws:List Str} {Bs:List Value} (hw:StrsAre vs.toList Ws) (h:StrsAre Bs (((vs.toList.map strOf).drop 0).map bu)) (e:r.toList=(#[]:Array Value).toList++Bs):StrsAre r.toList (Ws.map bu):=by
  rw [StrsAre.strs hw] at h
  rw [e]
  simpa using h
theorem fN {a r:Array Value} {L:List Str} {c:Str} {τ:Nat} (h:StrsAre a.toList L) (e:r=a.push (.str c τ)):StrsAre r.toList (L++[c]):=by
  rw [e,Array.toList_push]
  exact StrsAre.append' h (.cons _ _ .nil)
theorem iV {a r:Array Value} {L:List Str} {c:Str} {τ:Nat} (h:StrsAre a.toList L) (e:r=a ++ #[.str c τ]):StrsAre r.toList (L++[c]):=by
  rw [e,Array.toList_append]
  exact StrsAre.append' h (.cons _ _ .nil)
theorem ey {a:Array Value} {L:List Str} (h:StrsAre a.toList L) (hl:L.length≤100):a.size≤1000:=by
  have:a.toList.length=L.length:=StrsAre.length h
  simp at this;omega
theorem iW {a:Array Value} {x:Value} {L:List Str} (h:StrsAre a.toList L) (hl:L.length≤100):a.size+(#[x]:Array Value).size≤1000:=by
  have:=ey h hl
  have h2:a.toList.length=L.length:=StrsAre.length h
  simp at h2 ⊢;omega
theorem lj {Ws:List Str} (hW:∀ W∈Ws,W.cps.size≤100):∀ y∈Ws.map bu,y.cps.size≤2000:=fun y hy=>by
  obtain ⟨x,hx,rfl⟩:=List.mem_map.mp hy
  have:=hW x hx
  show ((aX "User-agent: ").cps++x.cps).size≤2000
  rw [Array.size_append,show (aX "User-agent: ").cps.size=12 by decide +kernel];omega
theorem fq {Ws:List Str} {L:List Str} (hW:∀ W∈Ws,W.cps.size≤100) (hn:Ws.length≤50) (hL:L.length≤10) (hc:∀ y∈L,y.cps.size≤2000):JoinOk (Str.mk #[10]) (Ws.map bu++L)=true :=
  kV rfl (fun y hy=>(List.mem_append.mp hy).elim (lj hW y) (hc y)) (by simp;omega)
noncomputable abbrev c9 (req:List Nat) (D:Value):Hk:=dS req (fun _ ys=>.ok (.ret (.str (ys.s 0) (ys.n 0)))) (fun pre _=>pre.map (·.2)) (fun _ _=>[]) (fun pre ys=>ys.s 0=iX (dA pre 0) D)
theorem dZ:∀ y∈[aX "Allow:"],y.cps.size≤2000:=ao (by decide +kernel)
theorem gL {vs r:Array Value} {Ws M:List Str} {D:Value} (hw:StrsAre vs.toList Ws) (hpos:0 < Ws.length) (hB:StrsAre r.toList M) (hM:M=Ws.map bu++dlS D++[aX "Allow:"]) {J:Str} (hJ:J=Builtin.Str.glued (Str.mk #[10]) (r.toList.map strOf)):J=iX (vs.toList.map strOf) D:=by
  rw [hJ,StrsAre.strs hB,StrsAre.strs hw,hM]
  cases Ws with
  | nil=>exact absurd hpos (Nat.lt_irrefl _)
  | cons W r=>rfl
noncomputable abbrev nu (aj:Nat) (it:Nat) (am:Nat) (S:Stmt) (fi:Value) (P1:Pos) (P2:Pos) (f:Nat):Ctx:=⟨.compLoop dV 0 (rf it) (rf aj) (jF dV (aX "_law_told.<locals>.") none (rf 866) am (some f) []),none,none,ΓtoldB S fi P1 P2 f,none⟩
noncomputable def tc_M0 {x:Str}:Rs :=
aO (aF [2,4] fun _=>.str x σ) (cB "list_iterator.__next__" [rf it]) [(it,ad l i),(l,ab vs ml)] b t tb gl fun b1 t1 ak =>
aO (cm [] (bu x)) (cB "str.__add__" [sv "User-agent: " (t1+1),.str x σ]) [] b1 (t1+2) tb gl fun b2 t2 aw =>
aO (aN [0] fun v=>∃ τ,v = .str (bu x) τ) (cB "list.append" [rf aj,.str (bu x) (aw.n 0)]) [(aj,ab a m)] b2 t2 tb gl fun b3 t3 aL =>
bF (.compLoop dV 0 (rf it) (rf aj) (jF dV (aX "_law_told.<locals>.") none (rf 866) am (some f) [])) ⟨839,13,839,35⟩ [(aj,ab (aL.a 0) (aL.n 0)),(it,ad l (i+1)),(l,ab vs ml),(am,ap (.dict #[aq w.params "agent" t1 (.str x σ)] 1))] b3 t3 tb gl
theorem tc_M0' {x:Str}:ok w (nu aj it am S fi P1 P2 f) P [(aj,ab a m),(it,ad l i),(l,ab vs ml),(am,ap (.dict #[] 0))] b t (cb tb) gl [0,2,4,6] 1 [K82,0x1263606,1,1] [4,0,0,0] [] [] (@tc_M0 b t aj it l am i m ml σ f a vs tb gl w x):=by revert w;refine @bs _ ?_ ?_<;>intro w<;>kernel_rfl
theorem tc_tM0 {x:Str} (hA:a.size≤100) (hq:x.cps.size≤100) (hx:vs[i]?=some (.str x σ)) (IH:∀ P b t mq k0 v0 (a1:Array Value),(∃ τ,a1=a.push (.str (bu x) τ))→HB w (iL w req) (nu aj it am S fi P1 P2 f) P [(aj,ab a1 mq),(it,ad l (i+1)),(l,ab vs ml),(am,ap (.dict #[aq w.params "agent" k0 v0] 1))] b t tb gl):HB w (iL w req) (nu aj it am S fi P1 P2 f) P [(aj,ab a m),(it,ad l i),(l,ab vs ml),(am,ap (.dict #[] 0))] b t tb gl:=by
  refine qH (tc_M0' (x:=x) (σ:=σ)) rfl fun s hs Ξ ar=>?_
  refine gF rfl (aA (ai w) ⟨bf [] [] [] [] [],hx⟩) fun b1 t1 ak _ _ _ _=>?_
  refine gF rfl (gM (ai w) rfl (by show 12+x.cps.size≤10000;omega)) fun b2 t2 aw _ _ _ _=>?_
  refine gF rfl (aC (ai w) (by omega) ⟨_,rfl⟩) fun b3 t3 aL _ _ hk3 _=>?_
  obtain ⟨_,⟨τq,rfl⟩,hap0⟩:=hk3;have hap:aL.a 0=a.push (.str (bu x) τq):=hap0
  exact gG rfl ar hs (IH _ _ _ _ _ _ _ ⟨τq,hap⟩) fun ys hk=>bj (f:=bu) (A:=a.toList) (τ:=τq) hx (by rw [← Array.toList_push,← hap];exact hk)
noncomputable def tc_M1 {x:Str}:Rs :=
aO (aF [2,4] fun _=>.str x σ) (cB "list_iterator.__next__" [rf it]) [(it,ad l i),(l,ab vs ml)] b t tb gl fun b1 t1 ak =>
aO (cm [] (bu x)) (cB "str.__add__" [sv "User-agent: " (t1+1),.str x σ]) [] b1 (t1+2) tb gl fun b2 t2 aw =>
aO (aN [0] fun v=>∃ τ,v = .str (bu x) τ) (cB "list.append" [rf aj,.str (bu x) (aw.n 0)]) [(aj,ab a m)] b2 t2 tb gl fun b3 t3 aL =>
bF (.compLoop dV 0 (rf it) (rf aj) (jF dV (aX "_law_told.<locals>.") none (rf 866) am (some f) [])) ⟨839,13,839,35⟩ [(aj,ab (aL.a 0) (aL.n 0)),(it,ad l (i+1)),(l,ab vs ml),(am,ap (.dict #[aq w.params "agent" k0 (.str x σ)] 1))] b3 t3 tb gl
theorem tc_M1' {x:Str}:ok w (nu aj it am S fi P1 P2 f) P [(aj,ab a m),(it,ad l i),(l,ab vs ml),(am,ap (.dict #[aq w.params "agent" k0 v0] 1))] b t (cb tb) gl [0,2,4,6] 1 [K82,0x1263606,1,1] [4,0,0,0] [] [] (@tc_M1 b t aj it l am i m ml k0 σ f a vs tb gl w x):=by revert w;refine @bs _ ?_ ?_<;>intro w<;>kernel_rfl
theorem tc_tM1 {x:Str} (hA:a.size≤100) (hq:x.cps.size≤100) (hx:vs[i]?=some (.str x σ)) (IH:∀ P b t mq k0 v0 (a1:Array Value),(∃ τ,a1=a.push (.str (bu x) τ))→HB w (iL w req) (nu aj it am S fi P1 P2 f) P [(aj,ab a1 mq),(it,ad l (i+1)),(l,ab vs ml),(am,ap (.dict #[aq w.params "agent" k0 v0] 1))] b t tb gl):HB w (iL w req) (nu aj it am S fi P1 P2 f) P [(aj,ab a m),(it,ad l i),(l,ab vs ml),(am,ap (.dict #[aq w.params "agent" k0 v0] 1))] b t tb gl:=by
  refine qH (tc_M1' (x:=x) (σ:=σ)) rfl fun s hs Ξ ar=>?_
  refine gF rfl (aA (ai w) ⟨bf [] [] [] [] [],hx⟩) fun b1 t1 ak _ _ _ _=>?_
  refine gF rfl (gM (ai w) rfl (by show 12+x.cps.size≤10000;omega)) fun b2 t2 aw _ _ _ _=>?_
  refine gF rfl (aC (ai w) (by omega) ⟨_,rfl⟩) fun b3 t3 aL _ _ hk3 _=>?_
  obtain ⟨_,⟨τq,rfl⟩,hap0⟩:=hk3;have hap:aL.a 0=a.push (.str (bu x) τq):=hap0
  exact gG rfl ar hs (IH _ _ _ _ _ _ _ ⟨τq,hap⟩) fun ys hk=>bj (f:=bu) (A:=a.toList) (τ:=τq) hx (by rw [← Array.toList_push,← hap];exact hk)
noncomputable def tc_E:Rs :=
ca (e8 [2,4]) ⟨cB "list_iterator.__next__" [rf it],none,none,[(.compLoop dV 0 (rf it) (rf aj) (jF dV (aX "_law_told.<locals>.") none (rf 866) am (some f) []),⟨839,49,839,55⟩),(bW fQ (iH fQ (aX "_law_told.<locals>.") 867 866 f []),⟨839,12,839,56⟩),(aH S fi au,P2),(bW aR au,P1),(aI,p0)],none⟩ ⟨839,49,839,55⟩ [(it,ad l i),(l,ab vs ml)] b t tb gl fun b1 t1 ak =>
cF (.ok .next) [(aj,ab a m),(it,fO "list_iterator" [.none,nv i 0]),(l,ab vs ml),(am,⟨.type "dict",none,dd,#[]⟩)] b1 t1 tb gl
theorem tc_E':aZ w (nu aj it am S fi P1 P2 f) P [(aj,ab a m),(it,ad l i),(l,ab vs ml),(am,ap dd)] b t tb gl [0,2,4,6] 1 [K82,K74] [0] [] [] (@tc_E P1 P2 b t aj it l am i m ml f fi a vs tb dd gl S):=by revert w;refine @bs _ ?_ ?_<;>intro w<;>kernel_rfl
theorem tc_tE1 (hx:vs[i]?=none):HB w (iL w req) (nu aj it am S fi P1 P2 f) P [(aj,ab a m),(it,ad l i),(l,ab vs ml),(am,ap (.dict #[aq w.params "agent" k0 v0] 1))] b t tb gl:=by
  refine qH tc_E' rfl fun s hs Ξ ar=>?_
  refine gH rfl (cT (ai w) hx) fun b1 t1 ak _ _ _ _=>?_
  exact gD rfl ar fun s' hA hF=>⟨bf [m,i,0,k0] [a] [v0] [] [],_,_,gO hx,rfl,rfl,hA,hF,fun a h=>h,ag⟩
theorem tc_tE0 (hx:vs[i]?=none):HB w (hkTc0 req) (nu aj it am S fi P1 P2 f) P [(aj,ab a m),(it,ad l i),(l,ab vs ml),(am,ap (.dict #[] 0))] b t tb gl:=by
  refine qH tc_E' rfl fun s hs Ξ ar=>?_
  refine gH rfl (cT (ai w) hx) fun b1 t1 ak _ _ _ _=>?_
  exact gD rfl ar fun s' hA hF=>⟨bf [m,i] [a] [] [] [],_,_,gO hx,rfl,rfl,hA,hF,fun a h=>h,ag⟩
theorem tc_ok1 (hW:∀ W∈Ws,W.cps.size≤100) (hw:aD vs Ws) (hn:Ws.length≤50):∀ (k:Nat) {P:Pos} {b t i m k0:Nat} {v0:Value} {a:Array Value},Ws.length - i=k→a.size≤i→HB w (iL w req) (nu aj it am S fi P1 P2 f) P [(aj,ab a m),(it,ad l i),(l,ab vs ml),(am,ap (.dict #[aq w.params "agent" k0 v0] 1))] b t tb gl:=by
  intro k
  induction k with
  | zero =>
    intro P b t i m k0 v0 a hk ha
    have hl:vs.toList.length=Ws.length:=StrsAre.length hw
    exact tc_tE1 (Array.getElem?_eq_none (by simp at hl;omega))
  | succ k ih =>
    intro P b t i m k0 v0 a hk ha
    have hi:i < Ws.length:=by omega
    obtain ⟨σ,hσ⟩:=StrsAre.get hw i Ws[i] (by simp [hi])
    rw [Array.getElem?_toList] at hσ
    have hA:a.size≤100:=by omega
    have hq:=hW Ws[i] (by simp)
    exact tc_tM1 hA hq hσ fun P b t mq k0 v0 a1 e=>by obtain ⟨τ,rfl⟩:=e;exact ih (by omega) (by rw [Array.size_push];omega)
theorem lm (hW:∀ W∈Ws,W.cps.size≤100) (hw:aD vs Ws) (hn:Ws.length≤50) (hi:0 < Ws.length):HB w (iL w req) (nu aj it am S fi P1 P2 f) P [(aj,ab #[] m),(it,ad l 0),(l,ab vs ml),(am,ap (.dict #[] 0))] b t tb gl:=by
    obtain ⟨σ,hσ⟩:=StrsAre.get hw 0 Ws[0] (by simp [hi])
    rw [Array.getElem?_toList] at hσ
    have hA:(#[]:Array Value).size≤100:=by simp
    have h00:(#[]:Array Value).size=0:=rfl
    have hq:=hW Ws[0] (by simp)
    exact tc_tM0 hA hq hσ fun P b t mq k0 v0 a1 e=>by obtain ⟨τ,rfl⟩:=e;exact tc_ok1 hW hw hn (Ws.length - 1) rfl (by rw [Array.size_push];omega)
noncomputable def to0:Rs :=
aO (a9 [0,3] fun _=>.bool false) (cB "list.__eq__" [rf la,rf (b+1)]) [(la,ab vs m),(b+1,ab #[] 0)] (b+2) (t+2) tb gl fun b1 t1 ak =>
ca (iL w [7,5,0,9]) ⟨.compStart dV 0 (rf b1) (rf (b1+1)) (jF dV (aX "_law_told.<locals>.") none (rf 866) (b1+2) (some b) []),none,none,[(bW fQ (iH fQ (aX "_law_told.<locals>.") 867 866 b []),⟨839,12,839,56⟩),(aH S fi au,P2),(bW aR au,P1),(aI,p0)],none⟩ ⟨839,12,839,56⟩ [(b1+1,ab #[] 0),(b1,ad la 0),(la,ab vs m),(b1+2,ap (.dict #[] 0))] (b1+3) t1 tb gl fun b2 t2 aw =>
aO (jM [7,11]) (cB "list.__add__" [rf (b1+1),rf b2]) [(b1+1,ab (aw.a 0) (aw.n 0)),(b2,ab #[sv "Allow:" (t2+2)] 0)] (b2+1) (t2+3) tb gl fun b3 t3 aL =>
aO (eT [2] (Str.mk #[10])) (cB "str.join" [.str (Str.mk #[10]) (t2+1),rf (aL.n 0)]) [(aL.n 0,ab (aL.a 0) (aL.n 1))] b3 t3 tb gl fun b4 t4 aG =>
cF (.ok (.ret (.str (aG.s 0) (aG.n 0)))) [(la,ab vs m)] b4 t4 tb gl
theorem to0':aZ w (fF S fi P1 P2 la .none) P2 [(la,ab vs m)] b t tb gl [0] 5 [0x11003004161012101,0x13530200011,0x11701b0741613190191191101,1] [3,5,2,99999] [] [2,5,6,6] (@to0 P1 P2 b t m la fi vs tb gl S w):=by revert w;refine @bs _ ?_ ?_<;>intro w<;>kernel_rfl
theorem told_0 (hW:∀ W∈Ws,W.cps.size≤100) (hn:Ws.length≤50) (hw:aD vs Ws) (hpos:0 < Ws.length):HB w (c9 req .none) (fF S fi P1 P2 la .none) P2 [(la,ab vs m)] b t tb gl:=by
  have hsz:vs.toList.length=Ws.length:=StrsAre.length hw;simp at hsz
  refine qH to0' rfl fun s hs Ξ ar=>?_
  refine gF rfl (kd (by rw [bne_iff_ne];show vs.size≠0;omega)) fun b1 t1 ak _ _ _ _=>?_
  refine gH rfl (co cl_to Y1 rfl (lm hW hw hn hpos)) fun b2 t2 aw _ _ hk2 _=>?_
  obtain ⟨Bs,hBs,hBe⟩:=hk2;have hB:StrsAre (aw.a 0).toList (Ws.map bu):=fP hw hBs hBe
  refine gF rfl (kg (ai w) (iW hB (by simp;omega))) fun b3 t3 aL _ _ hk3 _=>?_
  have hB:StrsAre (aL.a 0).toList ((Ws.map bu)++[aX "Allow:"]):=iV hB hk3
  refine gF rfl (eA (ai w) hB (fq hW hn (by simp) dZ) rfl) fun b4 t4 aG _ _ hk4 _=>?_
  exact gD rfl ar fun s' hA hF=>⟨aG,_,_,gL (D:=.none) hw hpos hB (by simp [dlS]) hk4,rfl,rfl,hA,hF,fun a h=>h,ag⟩
noncomputable def to1 {x:Nat}:Rs :=
aO (a9 [0,3] fun _=>.bool false) (cB "list.__eq__" [rf la,rf (b+1)]) [(la,ab vs m),(b+1,ab #[] 0)] (b+2) (t+2) tb gl fun b1 t1 ak =>
ca (iL w [7,5,0,9]) ⟨.compStart dV 0 (rf b1) (rf (b1+1)) (jF dV (aX "_law_told.<locals>.") none (rf 866) (b1+2) (some b) []),none,none,[(bW fQ (iH fQ (aX "_law_told.<locals>.") 867 866 b []),⟨839,12,839,56⟩),(aH S fi au,P2),(bW aR au,P1),(aI,p0)],none⟩ ⟨839,12,839,56⟩ [(b1+1,ab #[] 0),(b1,ad la 0),(la,ab vs m),(b1+2,ap (.dict #[] 0))] (b1+3) t1 tb gl fun b2 t2 aw =>
aO (cm [] (gb x)) (.call (.type "str") ⟨[nv x σ],[]⟩) [] b2 (t2+2) tb gl fun b3 t3 aL =>
aO (cm [] (cdS x)) (cB "str.__add__" [sv "Crawl-delay: " (t2+1),.str (gb x) (aL.n 0)]) [] b3 t3 tb gl fun b4 t4 aG =>
aO (aN [7] fun v=>∃ τ,v = .str (cdS x) τ) (cB "list.append" [rf (b1+1),.str (cdS x) (aG.n 0)]) [(b1+1,ab (aw.a 0) (aw.n 0))] b4 t4 tb gl fun b5 t5 bx =>
aO (jM [7,11]) (cB "list.__add__" [rf (b1+1),rf b5]) [(b1+1,ab (bx.a 0) (bx.n 0)),(b5,ab #[sv "Allow:" (t5+1)] 0)] (b5+1) (t5+2) tb gl fun b6 t6 bo =>
aO (eT [2] (Str.mk #[10])) (cB "str.join" [.str (Str.mk #[10]) t5,rf (bo.n 0)]) [(bo.n 0,ab (bo.a 0) (bo.n 1))] b6 t6 tb gl fun b7 t7 e6 =>
cF (.ok (.ret (.str (e6.s 0) (e6.n 0)))) [(la,ab vs m)] b7 t7 tb gl
theorem to1' {x:Nat}:ok w (fF S fi P1 P2 la (nv x σ)) P2 [(la,ab vs m)] b t (cb tb) gl [0] 5 [0x11003004161012101,0x13530200011,0x1116707070711313190191191101,1,1,0x11701b0741,1] [3,5,3,1,6,2,99999] [] [2,5,5,5,5,6,6] (@to1 P1 P2 b t m σ la fi vs tb gl S w x):=by revert w;refine @bs _ ?_ ?_<;>intro w<;>kernel_rfl
theorem told_1 {x:Nat} (hW:∀ W∈Ws,W.cps.size≤100) (hn:Ws.length≤50) (hw:aD vs Ws) (hpos:0 < Ws.length) (hxx:x≤100000) (hcd0:(gb x).cps.size≤1000):HB w (c9 req (nv x σ)) (fF S fi P1 P2 la (nv x σ)) P2 [(la,ab vs m)] b t tb gl:=by
  have hsz:vs.toList.length=Ws.length:=StrsAre.length hw;simp at hsz
  refine qH to1' rfl fun s hs Ξ ar=>?_
  refine gF rfl (kd (by rw [bne_iff_ne];show vs.size≠0;omega)) fun b1 t1 ak _ _ _ _=>?_
  refine gH rfl (co cl_to Y1 rfl (lm hW hw hn hpos)) fun b2 t2 aw _ _ hk2 _=>?_
  obtain ⟨Bs,hBs,hBe⟩:=hk2;have hB:StrsAre (aw.a 0).toList (Ws.map bu):=fP hw hBs hBe
  refine gF rfl (stri_ok (ai w) (Nat.lt_of_le_of_lt hxx (by decide +kernel))) fun b3 t3 aL _ _ _ _=>?_
  refine gF rfl (gM (ai w) rfl (by show 13+(gb x).cps.size≤10000;omega)) fun b4 t4 aG _ _ _ _=>?_
  refine gF rfl (aC (ai w) (ey hB (by simp;omega)) ⟨_,rfl⟩) fun b5 t5 bx _ _ hk5 _=>?_
  obtain ⟨_,⟨τq,rfl⟩,hap0⟩:=hk5;have hB:StrsAre (bx.a 0).toList (Ws.map bu++[cdS x]):=fN hB hap0
  refine gF rfl (kg (ai w) (iW hB (by simp;omega))) fun b6 t6 bo _ _ hk6 _=>?_
  have hB:StrsAre (bo.a 0).toList ((Ws.map bu++[cdS x])++[aX "Allow:"]):=iV hB hk6
  refine gF rfl (eA (ai w) hB (by rw [List.append_assoc];exact fq hW hn (by simp) (ae (by show ((aX "Crawl-delay: ").cps++(gb x).cps).size≤2000;rw [Array.size_append,show (aX "Crawl-delay: ").cps.size=13 by decide +kernel];omega) dZ)) rfl) fun b7 t7 e6 _ _ hk7 _=>?_
  exact gD rfl ar fun s' hA hF=>⟨e6,_,_,gL (D:=(.int (.ofNat x) σ)) hw hpos hB (by simp [dlS]) hk7,rfl,rfl,hA,hF,fun a h=>h,ag⟩
noncomputable def to2:Rs :=
cF (.ok (.ret (sv "" (t+2)))) [(la,ab #[] m)] (b+2) (t+3) tb gl
theorem to2':aZ w (fF S fi P1 P2 la DD) P2 [(la,ab #[] m)] b t tb gl [0] 5 [0x13ec99883000300130003102003004161012101] [] [] [] (@to2 b t m la tb gl):=by revert w;refine @bs _ ?_ ?_<;>intro w<;>kernel_rfl
theorem told_2:HB w (c9 req DD) (fF S fi P1 P2 la DD) P2 [(la,ab #[] m)] b t tb gl:=by
  refine qH to2' rfl fun s hs Ξ ar=>?_
  exact gD rfl ar fun s' hA hF=>⟨bf [(t+2)] [] [] [⟨#[]⟩] [],_,_,rfl,rfl,rfl,hA,hF,fun a h=>h,ag⟩
theorem hH:∀ y,y < 512→(gb (32768+y)).cps.size=5:=by decide +kernel
theorem dq (hD:ay D) (hW:∀ W∈Ws,W.cps.size≤100) (hn:Ws.length≤50) (hw:aD vs Ws):HB w (c9 req D) (fF S fi P1 P2 la D) P2 [(la,ab vs m)] b t tb gl:=by
  rcases Nat.eq_zero_or_pos Ws.length with h0 | hpos
  · have:Ws=[]:=List.eq_nil_of_length_eq_zero h0
    subst this
    have e:=bH (StrsAre.nil_inv hw)
    subst e
    exact told_2
  · rcases hD with rfl | ⟨x,τ,hx,rfl⟩
    · exact told_0 hW hn hw hpos
    · exact told_1 hW hn hw hpos (by omega) (by rw [hH x hx];omega)
end
section
variable {V:Vw} {p:Pos} {b t c:Nat} {ch:Ch} {gl:List GenState} {vs:Array Value} {m:Nat} {l:Addr}
theorem kx (hk:∀ a o,V.kt.get a=some o→a < V.n₁) {Γ:Ctx} {n:Nat} {req:List Nat} (hc:Γ.code = .builtin "len" ⟨[.ref l],[]⟩) (hn:vs.size=n) (hb:n≤1000) :
    an V (dS req (fun _ ys=>.ok (.ret (.int (.ofNat n) (ys.n 0)))) (fun pre _=>pre.map (·.2)) (fun _ _=>[]) (fun _ _=>True)) Γ p [(l,ab vs m)] b t ch gl :=
  hN hk fun s hs A _=>by
    rw [hc]
    have ho:=hs.olds (l,ab vs m) (.head _)
    have hl:=bP ho
    subst hn
    refine codeAny_builtin entry_len ?_
    unfold Builtin.«len»
    refine wpAny_bind (m:=oneArg "len" _) (wpAny_pure ?_)
    refine wpAny_bind (m:=callSpecial? (.ref l) (aX "__len__")) (wpAny_callSpecial?_slot (name:=aX "__len__") hl.typeIs slot_list_len
      (wpAny_call_entry slot_list_len hl.typeIs entry_list_len ?_ (args_list_len _)))
    show wpAny _ _ (do retInt (← seqSize l)) _ _ s
    unfold seqSize
    refine wpAny_bind (wpAny_bind (wpAny_load ho ?_))
    refine wpAny_pure (wpAny_bind (wpAny_mkInt (wpAny_pure ⟨_,rfl,?_⟩)))
    refine wpAny_bind (wpAny_holding (wpAny_pure ?_))
    refine wpAny_bind (wpAny_letGo ?_)
    show wpAny _ _ (if ((vs.size:Nat):Int) < 0 then _ else _) _ _ _
    rw [if_neg (by omega)]
    show wpAny _ _ (if ((vs.size:Nat):Int)≥2 ^ 63 then _ else _) _ _ _
    rw [if_neg (by omega)]
    exact wpAny_bind (wpAny_mkInt (wpAny_pure ⟨bf [s.toks+1] [] [] [] [],trivial,rfl,rfl,c5.heap hs rfl rfl rfl rfl⟩))
theorem fmt_ok (hk:∀ a o,V.kt.get a=some o→a < V.n₁) {Γ:Ctx} {n τ σ:Nat} {r:Str} {req:List Nat} (hn:n < 2 ^ 100) (hr:gb n=r) (hz:r.cps.size≤1000) :
    an V (cm req r) (Γ.enter (.call (.builtin "int.__format__") ⟨[.int (.ofNat n) τ,.str ⟨#[]⟩ σ],[]⟩) none p) p [] b t ch gl :=
  cA hk fun s hs A _=>by
    have hlog:(Int.ofNat n).natAbs.log2 < 1920:=by
      show n.log2 < 1920
      rcases Nat.eq_zero_or_pos n with h | h
      · subst h;decide
      · have:n.log2 < 100:=(Nat.log2_lt (by omega)).mpr hn
        omega
    refine call_gives F.slot_int_format (typeIs_int s (Int.ofNat n) τ) F.entry_int_format (F.args_int_format_2 _ _) (gives_int_format_empty (Int.ofNat n) τ σ hlog) ?_
    subst hr
    refine ⟨?_,bf [s.toks] [] [] [] [],trivial,rfl,rfl,c5.heap hs rfl rfl rfl rfl⟩
    show (gb n).cps.size≤sizeLine
    rw [bM];omega
end
section
variable {P P1 P2:Pos} {b t aj it l am i m ml k0 σ e q0 q1 d u r n o i0 i1 i2 i3 x k:Nat} {v0 fi DD D:Value} {a vs tb:Array Value} {dd:Data} {gl:List GenState} {S:Stmt} {c:Nat→Nat} {w:World} {req:List Nat} {Ws:List Str}
noncomputable abbrev wR (w:World) (b:Bool):World:=w.withFollow "fstring-hands-on-the-str" b
noncomputable def dh:Stmt:=cY (eu top 4) 1
noncomputable def bB (f:Addr):Env:=e7 dh "Entry.__str__.<locals>." 65 64 f []
noncomputable def ΓstrB (S:Stmt) (fi:Value) (P1 P2:Pos) (e f:Addr):List (Code×Pos):=[(bW dh (bB f),⟨19,21,19,36⟩),(.builtin "str.__new__" ⟨[.type "str",.ref e],[]⟩,P2),(.builtin "type.__call__" ⟨[.type "str",.ref e],[]⟩,P2),(aH S fi au,P2),(bW aR au,P1),(aI,p0)]
noncomputable def gV (S:Stmt) (fi:Value) (P1 P2:Pos) (e:Addr):Ctx:=(j5 S fi P1).enter (.call (.type "str") ⟨[.ref e],[]⟩) none P2
noncomputable def frAg (P:Params) (k0:Nat) (v0:Value):Obj→Obj
  | ⟨c,d,.dict es n,sl⟩=>⟨c,d,.dict ⟨es.toList.take 2++[aq P "agent" k0 v0]⟩ 3,sl⟩
  | o=>o
noncomputable abbrev frAgw (w:World):=frAg w.params
noncomputable abbrev bI (w:World) (req:List Nat):Hk:=dS req (fun _ _=>.ok .next) (fun pre ys=>match pre with
  | [_,_,l,f]=>[ab (ys.a 0) (ys.n 0),cc (ys.n 1),l.2,frAgw w (ys.n 3) (ys.v 0) f.2]
  | _=>[]) (fun _ _=>[]) (fun pre ys=>∃ Bs,StrsAre Bs (((dA pre 2).drop (iK pre 1)).map bu)∧(ys.a 0).toList=(bn pre 0).toList++Bs)
theorem ua_0:aX "User-agent: a" = bu (Wd 0):=by decide +kernel
theorem ua_1:aX "User-agent: A b" = bu (Wd 1):=by decide +kernel
theorem ua_2:aX "User-agent: " = bu (Wd 2):=by decide +kernel
theorem ua_3:aX "User-agent: *" = bu (Wd 3):=by decide +kernel
theorem ua_4:aX "User-agent: b'" = bu (Wd 4):=by decide +kernel
theorem cd_is {c:Nat→Nat} {x:Nat} (h:gb x=⟨#[c 0,c 1,c 2,c 3,c 4]⟩):(⟨#[67,114,97,119,108,45,100,101,108,97,121,58,32,c 0,c 1,c 2,c 3,c 4]⟩:Str)=cdS x:=by
  unfold cdS fI
  rw [h,show (aX "Crawl-delay: ").cps = #[67,114,97,119,108,45,100,101,108,97,121,58,32] by decide +kernel]
  rfl
theorem lr (s:Str) (h:s.cps.size=5):∃ c:Nat→Nat,s=⟨#[c 0,c 1,c 2,c 3,c 4]⟩:=by
  obtain ⟨⟨l⟩⟩:=s
  match l,h with
  | [a,b,c,d,e],_=>exact ⟨fun n=>[a,b,c,d,e].getD n 0,rfl⟩
noncomputable def delayAt (pre:ax) (j:Nat):Value:=match gm pre j with
  | .dict es _=>match es.toList with
    | _ :: _ :: e :: _=>e.val
    | _=>.none
  | _=>.none
noncomputable abbrev da (req:List Nat):Hk:=dS req (fun _ ys=>.ok (.ret (.str (ys.s 0) (ys.n 0)))) (fun pre _=>pre.map (·.2)) (fun _ _=>[]) (fun pre ys=>ys.s 0=iX (dA pre 2) (delayAt pre 1))
theorem gX:∀ d,d < 5→(Wd d).cps.size≤100
  | 0,_=>by decide
  | 1,_=>by decide
  | 2,_=>by decide
  | 3,_=>by decide
  | 4,_=>by decide
  | n+5,h=>absurd h (by omega)
noncomputable abbrev cP (it:Nat) (am:Nat) (S:Stmt) (fi:Value) (P1:Pos) (P2:Pos) (e:Nat):Ctx:=⟨aH (bt (az dh) 2) (rf it) (bB am),none,none,ΓstrB S fi P1 P2 e am,none⟩
noncomputable def slf_00:Rs :=
aO (aF [2,4] fun _=>.str (Wd 0) σ) (cB "list_iterator.__next__" [rf it]) [(it,ad l i),(l,ab vs ml)] b t tb gl fun b1 t1 ak =>
aO (aN [0] fun v=>∃ τ,v = .str (bu (Wd 0)) τ) (cB "list.append" [rf aj,sv "User-agent: a" (t1+2)]) [(aj,ab a m)] b1 (t1+3) tb gl fun b2 t2 aw =>
bF (aH (bt (az dh) 2) (rf it) (bB am)) ⟨20,12,20,46⟩ [(aj,ab (aw.a 0) (aw.n 0)),(it,ad l (i+1)),(l,ab vs ml),(am,eJ w q0 (rf e) q1 (rf aj) t1 (sv "a" σ))] b2 t2 tb gl
noncomputable abbrev iy (a vs:Array Value) (aj e i it l am m ml q0 q1:Nat) (w:World):ax :=
  [(aj,ab a m),(it,ad l i),(l,ab vs ml),(am,d8w w q0 (rf e) q1 (rf aj))]
theorem slf_00':aZ (wR w false) (cP it am S fi P1 P2 e) P (iy a vs aj e i it l am m ml q0 q1 w) b t tb gl [0,2,4,6] 1 [K82,K66,1] [4,1,0] [] [] (@slf_00 b t aj it l am i m ml σ e q0 q1 a vs tb gl w):=by kernel_rfl
theorem slf_t00 (hA:a.size≤100) (hx:vs[i]?=some (.str (Wd 0) σ)) (IH:∀ P b t mq k0 v0 (a1:Array Value),(∃ τ,a1=a.push (.str (bu (Wd 0)) τ))→an (Vp (wR w false)) (bI w req) (cP it am S fi P1 P2 e) P [(aj,ab a1 mq),(it,ad l (i+1)),(l,ab vs ml),(am,eJ w q0 (rf e) q1 (rf aj) k0 v0)] b t (cb tb) gl):an (Vp (wR w false)) (bI w req) (cP it am S fi P1 P2 e) P (iy a vs aj e i it l am m ml q0 q1 w) b t (cb tb) gl:=by
  refine qH (slf_00' (σ:=σ)) rfl fun s hs Ξ ar=>?_
  refine gF rfl (aA (ai _) ⟨bf [] [] [] [] [],hx⟩) fun b1 t1 ak _ _ _ _=>?_
  refine gF rfl (aC (ai _) (by omega) ⟨_,congrArg (fun z=>Value.str z _) ua_0⟩) fun b2 t2 aw _ _ hk2 _=>?_
  obtain ⟨_,⟨τq,rfl⟩,hap0⟩:=hk2;have hap:aw.a 0=a.push (.str (bu (Wd 0)) τq):=hap0
  exact gG rfl ar hs (IH _ _ _ _ _ _ _ ⟨τq,hap⟩) fun ys hk=>bj (f:=bu) (A:=a.toList) (τ:=τq) hx (by rw [← Array.toList_push,← hap];exact hk)
noncomputable def slf_01:Rs :=
aO (aF [2,4] fun _=>.str (Wd 0) σ) (cB "list_iterator.__next__" [rf it]) [(it,ad l i),(l,ab vs ml)] b t tb gl fun b1 t1 ak =>
aO (aN [0] fun v=>∃ τ,v = .str (bu (Wd 0)) τ) (cB "list.append" [rf aj,sv "User-agent: a" (t1+2)]) [(aj,ab a m)] b1 (t1+3) tb gl fun b2 t2 aw =>
bF (aH (bt (az dh) 2) (rf it) (bB am)) ⟨20,12,20,46⟩ [(aj,ab (aw.a 0) (aw.n 0)),(it,ad l (i+1)),(l,ab vs ml),(am,eJ w q0 (rf e) q1 (rf aj) k0 (sv "a" σ))] b2 t2 tb gl
noncomputable abbrev gS (a vs:Array Value) (aj e i it k0 l am m ml q0 q1:Nat) (v0:Value) (w:World):ax :=
  [(aj,ab a m),(it,ad l i),(l,ab vs ml),(am,eJ w q0 (rf e) q1 (rf aj) k0 v0)]
theorem slf_01':aZ (wR w false) (cP it am S fi P1 P2 e) P (gS a vs aj e i it k0 l am m ml q0 q1 v0 w) b t tb gl [0,2,4,6] 1 [K82,K66,1] [4,1,0] [] [] (@slf_01 b t aj it l am i m ml k0 σ e q0 q1 a vs tb gl w):=by kernel_rfl
theorem slf_t01 (hA:a.size≤100) (hx:vs[i]?=some (.str (Wd 0) σ)) (IH:∀ P b t mq k0 v0 (a1:Array Value),(∃ τ,a1=a.push (.str (bu (Wd 0)) τ))→an (Vp (wR w false)) (bI w req) (cP it am S fi P1 P2 e) P [(aj,ab a1 mq),(it,ad l (i+1)),(l,ab vs ml),(am,eJ w q0 (rf e) q1 (rf aj) k0 v0)] b t (cb tb) gl):an (Vp (wR w false)) (bI w req) (cP it am S fi P1 P2 e) P (gS a vs aj e i it k0 l am m ml q0 q1 v0 w) b t (cb tb) gl:=by
  refine qH (slf_01' (σ:=σ)) rfl fun s hs Ξ ar=>?_
  refine gF rfl (aA (ai _) ⟨bf [] [] [] [] [],hx⟩) fun b1 t1 ak _ _ _ _=>?_
  refine gF rfl (aC (ai _) (by omega) ⟨_,congrArg (fun z=>Value.str z _) ua_0⟩) fun b2 t2 aw _ _ hk2 _=>?_
  obtain ⟨_,⟨τq,rfl⟩,hap0⟩:=hk2;have hap:aw.a 0=a.push (.str (bu (Wd 0)) τq):=hap0
  exact gG rfl ar hs (IH _ _ _ _ _ _ _ ⟨τq,hap⟩) fun ys hk=>bj (f:=bu) (A:=a.toList) (τ:=τq) hx (by rw [← Array.toList_push,← hap];exact hk)
noncomputable def slf_10:Rs :=
aO (aF [2,4] fun _=>.str (Wd 1) σ) (cB "list_iterator.__next__" [rf it]) [(it,ad l i),(l,ab vs ml)] b t tb gl fun b1 t1 ak =>
aO (aN [0] fun v=>∃ τ,v = .str (bu (Wd 1)) τ) (cB "list.append" [rf aj,sv "User-agent: A b" (t1+2)]) [(aj,ab a m)] b1 (t1+3) tb gl fun b2 t2 aw =>
bF (aH (bt (az dh) 2) (rf it) (bB am)) ⟨20,12,20,46⟩ [(aj,ab (aw.a 0) (aw.n 0)),(it,ad l (i+1)),(l,ab vs ml),(am,eJ w q0 (rf e) q1 (rf aj) t1 (sv "A b" σ))] b2 t2 tb gl
theorem slf_10':aZ (wR w false) (cP it am S fi P1 P2 e) P (iy a vs aj e i it l am m ml q0 q1 w) b t tb gl [0,2,4,6] 1 [K82,K66,1] [4,1,0] [] [] (@slf_10 b t aj it l am i m ml σ e q0 q1 a vs tb gl w):=by kernel_rfl
theorem slf_t10 (hA:a.size≤100) (hx:vs[i]?=some (.str (Wd 1) σ)) (IH:∀ P b t mq k0 v0 (a1:Array Value),(∃ τ,a1=a.push (.str (bu (Wd 1)) τ))→an (Vp (wR w false)) (bI w req) (cP it am S fi P1 P2 e) P [(aj,ab a1 mq),(it,ad l (i+1)),(l,ab vs ml),(am,eJ w q0 (rf e) q1 (rf aj) k0 v0)] b t (cb tb) gl):an (Vp (wR w false)) (bI w req) (cP it am S fi P1 P2 e) P (iy a vs aj e i it l am m ml q0 q1 w) b t (cb tb) gl:=by
  refine qH (slf_10' (σ:=σ)) rfl fun s hs Ξ ar=>?_
  refine gF rfl (aA (ai _) ⟨bf [] [] [] [] [],hx⟩) fun b1 t1 ak _ _ _ _=>?_
  refine gF rfl (aC (ai _) (by omega) ⟨_,congrArg (fun z=>Value.str z _) ua_1⟩) fun b2 t2 aw _ _ hk2 _=>?_
  obtain ⟨_,⟨τq,rfl⟩,hap0⟩:=hk2;have hap:aw.a 0=a.push (.str (bu (Wd 1)) τq):=hap0
  exact gG rfl ar hs (IH _ _ _ _ _ _ _ ⟨τq,hap⟩) fun ys hk=>bj (f:=bu) (A:=a.toList) (τ:=τq) hx (by rw [← Array.toList_push,← hap];exact hk)
noncomputable def slf_11:Rs :=
aO (aF [2,4] fun _=>.str (Wd 1) σ) (cB "list_iterator.__next__" [rf it]) [(it,ad l i),(l,ab vs ml)] b t tb gl fun b1 t1 ak =>
aO (aN [0] fun v=>∃ τ,v = .str (bu (Wd 1)) τ) (cB "list.append" [rf aj,sv "User-agent: A b" (t1+2)]) [(aj,ab a m)] b1 (t1+3) tb gl fun b2 t2 aw =>
bF (aH (bt (az dh) 2) (rf it) (bB am)) ⟨20,12,20,46⟩ [(aj,ab (aw.a 0) (aw.n 0)),(it,ad l (i+1)),(l,ab vs ml),(am,eJ w q0 (rf e) q1 (rf aj) k0 (sv "A b" σ))] b2 t2 tb gl
theorem slf_11':aZ (wR w false) (cP it am S fi P1 P2 e) P (gS a vs aj e i it k0 l am m ml q0 q1 v0 w) b t tb gl [0,2,4,6] 1 [K82,K66,1] [4,1,0] [] [] (@slf_11 b t aj it l am i m ml k0 σ e q0 q1 a vs tb gl w):=by kernel_rfl
theorem slf_t11 (hA:a.size≤100) (hx:vs[i]?=some (.str (Wd 1) σ)) (IH:∀ P b t mq k0 v0 (a1:Array Value),(∃ τ,a1=a.push (.str (bu (Wd 1)) τ))→an (Vp (wR w false)) (bI w req) (cP it am S fi P1 P2 e) P [(aj,ab a1 mq),(it,ad l (i+1)),(l,ab vs ml),(am,eJ w q0 (rf e) q1 (rf aj) k0 v0)] b t (cb tb) gl):an (Vp (wR w false)) (bI w req) (cP it am S fi P1 P2 e) P (gS a vs aj e i it k0 l am m ml q0 q1 v0 w) b t (cb tb) gl:=by
  refine qH (slf_11' (σ:=σ)) rfl fun s hs Ξ ar=>?_
  refine gF rfl (aA (ai _) ⟨bf [] [] [] [] [],hx⟩) fun b1 t1 ak _ _ _ _=>?_
  refine gF rfl (aC (ai _) (by omega) ⟨_,congrArg (fun z=>Value.str z _) ua_1⟩) fun b2 t2 aw _ _ hk2 _=>?_
  obtain ⟨_,⟨τq,rfl⟩,hap0⟩:=hk2;have hap:aw.a 0=a.push (.str (bu (Wd 1)) τq):=hap0
  exact gG rfl ar hs (IH _ _ _ _ _ _ _ ⟨τq,hap⟩) fun ys hk=>bj (f:=bu) (A:=a.toList) (τ:=τq) hx (by rw [← Array.toList_push,← hap];exact hk)
noncomputable def slf_20:Rs :=
aO (aF [2,4] fun _=>.str (Wd 2) σ) (cB "list_iterator.__next__" [rf it]) [(it,ad l i),(l,ab vs ml)] b t tb gl fun b1 t1 ak =>
aO (aN [0] fun v=>∃ τ,v = .str (bu (Wd 2)) τ) (cB "list.append" [rf aj,sv "User-agent: " (t1+2)]) [(aj,ab a m)] b1 (t1+3) tb gl fun b2 t2 aw =>
bF (aH (bt (az dh) 2) (rf it) (bB am)) ⟨20,12,20,46⟩ [(aj,ab (aw.a 0) (aw.n 0)),(it,ad l (i+1)),(l,ab vs ml),(am,eJ w q0 (rf e) q1 (rf aj) t1 (sv "" σ))] b2 t2 tb gl
theorem slf_20':aZ (wR w false) (cP it am S fi P1 P2 e) P (iy a vs aj e i it l am m ml q0 q1 w) b t tb gl [0,2,4,6] 1 [K82,K66,1] [4,1,0] [] [] (@slf_20 b t aj it l am i m ml σ e q0 q1 a vs tb gl w):=by kernel_rfl
theorem slf_t20 (hA:a.size≤100) (hx:vs[i]?=some (.str (Wd 2) σ)) (IH:∀ P b t mq k0 v0 (a1:Array Value),(∃ τ,a1=a.push (.str (bu (Wd 2)) τ))→an (Vp (wR w false)) (bI w req) (cP it am S fi P1 P2 e) P [(aj,ab a1 mq),(it,ad l (i+1)),(l,ab vs ml),(am,eJ w q0 (rf e) q1 (rf aj) k0 v0)] b t (cb tb) gl):an (Vp (wR w false)) (bI w req) (cP it am S fi P1 P2 e) P (iy a vs aj e i it l am m ml q0 q1 w) b t (cb tb) gl:=by
  refine qH (slf_20' (σ:=σ)) rfl fun s hs Ξ ar=>?_
  refine gF rfl (aA (ai _) ⟨bf [] [] [] [] [],hx⟩) fun b1 t1 ak _ _ _ _=>?_
  refine gF rfl (aC (ai _) (by omega) ⟨_,congrArg (fun z=>Value.str z _) ua_2⟩) fun b2 t2 aw _ _ hk2 _=>?_
  obtain ⟨_,⟨τq,rfl⟩,hap0⟩:=hk2;have hap:aw.a 0=a.push (.str (bu (Wd 2)) τq):=hap0
  exact gG rfl ar hs (IH _ _ _ _ _ _ _ ⟨τq,hap⟩) fun ys hk=>bj (f:=bu) (A:=a.toList) (τ:=τq) hx (by rw [← Array.toList_push,← hap];exact hk)
noncomputable def slf_21:Rs :=
aO (aF [2,4] fun _=>.str (Wd 2) σ) (cB "list_iterator.__next__" [rf it]) [(it,ad l i),(l,ab vs ml)] b t tb gl fun b1 t1 ak =>
aO (aN [0] fun v=>∃ τ,v = .str (bu (Wd 2)) τ) (cB "list.append" [rf aj,sv "User-agent: " (t1+2)]) [(aj,ab a m)] b1 (t1+3) tb gl fun b2 t2 aw =>
bF (aH (bt (az dh) 2) (rf it) (bB am)) ⟨20,12,20,46⟩ [(aj,ab (aw.a 0) (aw.n 0)),(it,ad l (i+1)),(l,ab vs ml),(am,eJ w q0 (rf e) q1 (rf aj) k0 (sv "" σ))] b2 t2 tb gl
theorem slf_21':aZ (wR w false) (cP it am S fi P1 P2 e) P (gS a vs aj e i it k0 l am m ml q0 q1 v0 w) b t tb gl [0,2,4,6] 1 [K82,K66,1] [4,1,0] [] [] (@slf_21 b t aj it l am i m ml k0 σ e q0 q1 a vs tb gl w):=by kernel_rfl
theorem slf_t21 (hA:a.size≤100) (hx:vs[i]?=some (.str (Wd 2) σ)) (IH:∀ P b t mq k0 v0 (a1:Array Value),(∃ τ,a1=a.push (.str (bu (Wd 2)) τ))→an (Vp (wR w false)) (bI w req) (cP it am S fi P1 P2 e) P [(aj,ab a1 mq),(it,ad l (i+1)),(l,ab vs ml),(am,eJ w q0 (rf e) q1 (rf aj) k0 v0)] b t (cb tb) gl):an (Vp (wR w false)) (bI w req) (cP it am S fi P1 P2 e) P (gS a vs aj e i it k0 l am m ml q0 q1 v0 w) b t (cb tb) gl:=by
  refine qH (slf_21' (σ:=σ)) rfl fun s hs Ξ ar=>?_
  refine gF rfl (aA (ai _) ⟨bf [] [] [] [] [],hx⟩) fun b1 t1 ak _ _ _ _=>?_
  refine gF rfl (aC (ai _) (by omega) ⟨_,congrArg (fun z=>Value.str z _) ua_2⟩) fun b2 t2 aw _ _ hk2 _=>?_
  obtain ⟨_,⟨τq,rfl⟩,hap0⟩:=hk2;have hap:aw.a 0=a.push (.str (bu (Wd 2)) τq):=hap0
  exact gG rfl ar hs (IH _ _ _ _ _ _ _ ⟨τq,hap⟩) fun ys hk=>bj (f:=bu) (A:=a.toList) (τ:=τq) hx (by rw [← Array.toList_push,← hap];exact hk)
noncomputable def slf_30:Rs :=
aO (aF [2,4] fun _=>.str (Wd 3) σ) (cB "list_iterator.__next__" [rf it]) [(it,ad l i),(l,ab vs ml)] b t tb gl fun b1 t1 ak =>
aO (aN [0] fun v=>∃ τ,v = .str (bu (Wd 3)) τ) (cB "list.append" [rf aj,sv "User-agent: *" (t1+2)]) [(aj,ab a m)] b1 (t1+3) tb gl fun b2 t2 aw =>
bF (aH (bt (az dh) 2) (rf it) (bB am)) ⟨20,12,20,46⟩ [(aj,ab (aw.a 0) (aw.n 0)),(it,ad l (i+1)),(l,ab vs ml),(am,eJ w q0 (rf e) q1 (rf aj) t1 (sv "*" σ))] b2 t2 tb gl
theorem slf_30':aZ (wR w false) (cP it am S fi P1 P2 e) P (iy a vs aj e i it l am m ml q0 q1 w) b t tb gl [0,2,4,6] 1 [K82,K66,1] [4,1,0] [] [] (@slf_30 b t aj it l am i m ml σ e q0 q1 a vs tb gl w):=by kernel_rfl
theorem slf_t30 (hA:a.size≤100) (hx:vs[i]?=some (.str (Wd 3) σ)) (IH:∀ P b t mq k0 v0 (a1:Array Value),(∃ τ,a1=a.push (.str (bu (Wd 3)) τ))→an (Vp (wR w false)) (bI w req) (cP it am S fi P1 P2 e) P [(aj,ab a1 mq),(it,ad l (i+1)),(l,ab vs ml),(am,eJ w q0 (rf e) q1 (rf aj) k0 v0)] b t (cb tb) gl):an (Vp (wR w false)) (bI w req) (cP it am S fi P1 P2 e) P (iy a vs aj e i it l am m ml q0 q1 w) b t (cb tb) gl:=by
  refine qH (slf_30' (σ:=σ)) rfl fun s hs Ξ ar=>?_
  refine gF rfl (aA (ai _) ⟨bf [] [] [] [] [],hx⟩) fun b1 t1 ak _ _ _ _=>?_
  refine gF rfl (aC (ai _) (by omega) ⟨_,congrArg (fun z=>Value.str z _) ua_3⟩) fun b2 t2 aw _ _ hk2 _=>?_
  obtain ⟨_,⟨τq,rfl⟩,hap0⟩:=hk2;have hap:aw.a 0=a.push (.str (bu (Wd 3)) τq):=hap0
  exact gG rfl ar hs (IH _ _ _ _ _ _ _ ⟨τq,hap⟩) fun ys hk=>bj (f:=bu) (A:=a.toList) (τ:=τq) hx (by rw [← Array.toList_push,← hap];exact hk)
noncomputable def slf_31:Rs :=
aO (aF [2,4] fun _=>.str (Wd 3) σ) (cB "list_iterator.__next__" [rf it]) [(it,ad l i),(l,ab vs ml)] b t tb gl fun b1 t1 ak =>
aO (aN [0] fun v=>∃ τ,v = .str (bu (Wd 3)) τ) (cB "list.append" [rf aj,sv "User-agent: *" (t1+2)]) [(aj,ab a m)] b1 (t1+3) tb gl fun b2 t2 aw =>
bF (aH (bt (az dh) 2) (rf it) (bB am)) ⟨20,12,20,46⟩ [(aj,ab (aw.a 0) (aw.n 0)),(it,ad l (i+1)),(l,ab vs ml),(am,eJ w q0 (rf e) q1 (rf aj) k0 (sv "*" σ))] b2 t2 tb gl
theorem slf_31':aZ (wR w false) (cP it am S fi P1 P2 e) P (gS a vs aj e i it k0 l am m ml q0 q1 v0 w) b t tb gl [0,2,4,6] 1 [K82,K66,1] [4,1,0] [] [] (@slf_31 b t aj it l am i m ml k0 σ e q0 q1 a vs tb gl w):=by kernel_rfl
theorem slf_t31 (hA:a.size≤100) (hx:vs[i]?=some (.str (Wd 3) σ)) (IH:∀ P b t mq k0 v0 (a1:Array Value),(∃ τ,a1=a.push (.str (bu (Wd 3)) τ))→an (Vp (wR w false)) (bI w req) (cP it am S fi P1 P2 e) P [(aj,ab a1 mq),(it,ad l (i+1)),(l,ab vs ml),(am,eJ w q0 (rf e) q1 (rf aj) k0 v0)] b t (cb tb) gl):an (Vp (wR w false)) (bI w req) (cP it am S fi P1 P2 e) P (gS a vs aj e i it k0 l am m ml q0 q1 v0 w) b t (cb tb) gl:=by
  refine qH (slf_31' (σ:=σ)) rfl fun s hs Ξ ar=>?_
  refine gF rfl (aA (ai _) ⟨bf [] [] [] [] [],hx⟩) fun b1 t1 ak _ _ _ _=>?_
  refine gF rfl (aC (ai _) (by omega) ⟨_,congrArg (fun z=>Value.str z _) ua_3⟩) fun b2 t2 aw _ _ hk2 _=>?_
  obtain ⟨_,⟨τq,rfl⟩,hap0⟩:=hk2;have hap:aw.a 0=a.push (.str (bu (Wd 3)) τq):=hap0
  exact gG rfl ar hs (IH _ _ _ _ _ _ _ ⟨τq,hap⟩) fun ys hk=>bj (f:=bu) (A:=a.toList) (τ:=τq) hx (by rw [← Array.toList_push,← hap];exact hk)
noncomputable def slf_40:Rs :=
aO (aF [2,4] fun _=>.str (Wd 4) σ) (cB "list_iterator.__next__" [rf it]) [(it,ad l i),(l,ab vs ml)] b t tb gl fun b1 t1 ak =>
aO (aN [0] fun v=>∃ τ,v = .str (bu (Wd 4)) τ) (cB "list.append" [rf aj,sv "User-agent: b'" (t1+2)]) [(aj,ab a m)] b1 (t1+3) tb gl fun b2 t2 aw =>
bF (aH (bt (az dh) 2) (rf it) (bB am)) ⟨20,12,20,46⟩ [(aj,ab (aw.a 0) (aw.n 0)),(it,ad l (i+1)),(l,ab vs ml),(am,eJ w q0 (rf e) q1 (rf aj) t1 (sv "b'" σ))] b2 t2 tb gl
theorem slf_40':aZ (wR w false) (cP it am S fi P1 P2 e) P (iy a vs aj e i it l am m ml q0 q1 w) b t tb gl [0,2,4,6] 1 [K82,K66,1] [4,1,0] [] [] (@slf_40 b t aj it l am i m ml σ e q0 q1 a vs tb gl w):=by kernel_rfl
theorem slf_t40 (hA:a.size≤100) (hx:vs[i]?=some (.str (Wd 4) σ)) (IH:∀ P b t mq k0 v0 (a1:Array Value),(∃ τ,a1=a.push (.str (bu (Wd 4)) τ))→an (Vp (wR w false)) (bI w req) (cP it am S fi P1 P2 e) P [(aj,ab a1 mq),(it,ad l (i+1)),(l,ab vs ml),(am,eJ w q0 (rf e) q1 (rf aj) k0 v0)] b t (cb tb) gl):an (Vp (wR w false)) (bI w req) (cP it am S fi P1 P2 e) P (iy a vs aj e i it l am m ml q0 q1 w) b t (cb tb) gl:=by
  refine qH (slf_40' (σ:=σ)) rfl fun s hs Ξ ar=>?_
  refine gF rfl (aA (ai _) ⟨bf [] [] [] [] [],hx⟩) fun b1 t1 ak _ _ _ _=>?_
  refine gF rfl (aC (ai _) (by omega) ⟨_,congrArg (fun z=>Value.str z _) ua_4⟩) fun b2 t2 aw _ _ hk2 _=>?_
  obtain ⟨_,⟨τq,rfl⟩,hap0⟩:=hk2;have hap:aw.a 0=a.push (.str (bu (Wd 4)) τq):=hap0
  exact gG rfl ar hs (IH _ _ _ _ _ _ _ ⟨τq,hap⟩) fun ys hk=>bj (f:=bu) (A:=a.toList) (τ:=τq) hx (by rw [← Array.toList_push,← hap];exact hk)
noncomputable def slf_41:Rs :=
aO (aF [2,4] fun _=>.str (Wd 4) σ) (cB "list_iterator.__next__" [rf it]) [(it,ad l i),(l,ab vs ml)] b t tb gl fun b1 t1 ak =>
aO (aN [0] fun v=>∃ τ,v = .str (bu (Wd 4)) τ) (cB "list.append" [rf aj,sv "User-agent: b'" (t1+2)]) [(aj,ab a m)] b1 (t1+3) tb gl fun b2 t2 aw =>
bF (aH (bt (az dh) 2) (rf it) (bB am)) ⟨20,12,20,46⟩ [(aj,ab (aw.a 0) (aw.n 0)),(it,ad l (i+1)),(l,ab vs ml),(am,eJ w q0 (rf e) q1 (rf aj) k0 (sv "b'" σ))] b2 t2 tb gl
theorem slf_41':aZ (wR w false) (cP it am S fi P1 P2 e) P (gS a vs aj e i it k0 l am m ml q0 q1 v0 w) b t tb gl [0,2,4,6] 1 [K82,K66,1] [4,1,0] [] [] (@slf_41 b t aj it l am i m ml k0 σ e q0 q1 a vs tb gl w):=by kernel_rfl
theorem slf_t41 (hA:a.size≤100) (hx:vs[i]?=some (.str (Wd 4) σ)) (IH:∀ P b t mq k0 v0 (a1:Array Value),(∃ τ,a1=a.push (.str (bu (Wd 4)) τ))→an (Vp (wR w false)) (bI w req) (cP it am S fi P1 P2 e) P [(aj,ab a1 mq),(it,ad l (i+1)),(l,ab vs ml),(am,eJ w q0 (rf e) q1 (rf aj) k0 v0)] b t (cb tb) gl):an (Vp (wR w false)) (bI w req) (cP it am S fi P1 P2 e) P (gS a vs aj e i it k0 l am m ml q0 q1 v0 w) b t (cb tb) gl:=by
  refine qH (slf_41' (σ:=σ)) rfl fun s hs Ξ ar=>?_
  refine gF rfl (aA (ai _) ⟨bf [] [] [] [] [],hx⟩) fun b1 t1 ak _ _ _ _=>?_
  refine gF rfl (aC (ai _) (by omega) ⟨_,congrArg (fun z=>Value.str z _) ua_4⟩) fun b2 t2 aw _ _ hk2 _=>?_
  obtain ⟨_,⟨τq,rfl⟩,hap0⟩:=hk2;have hap:aw.a 0=a.push (.str (bu (Wd 4)) τq):=hap0
  exact gG rfl ar hs (IH _ _ _ _ _ _ _ ⟨τq,hap⟩) fun ys hk=>bj (f:=bu) (A:=a.toList) (τ:=τq) hx (by rw [← Array.toList_push,← hap];exact hk)
noncomputable abbrev Zp2 (P1 P2:Pos) (S:Stmt) (e it am:Nat) (fi:Value):Ctx :=
  ⟨cB "list_iterator.__next__" [rf it],none,none,[(aH (bt (az dh) 2) (rf it) (bB am),⟨19,12,19,17⟩),(bW dh (bB am),⟨19,21,19,36⟩),(.builtin "str.__new__" ⟨[.type "str",rf e],[]⟩,P2),(.builtin "type.__call__" ⟨[.type "str",rf e],[]⟩,P2),(aH S fi au,P2),(bW aR au,P1),(aI,p0)],none⟩
noncomputable def slf_E:Rs :=
ca (e8 [2,4]) (Zp2 P1 P2 S e it am fi) ⟨19,12,19,17⟩ [(it,ad l i),(l,ab vs ml)] b t tb gl fun b1 t1 ak =>
cF (.ok .next) [(aj,ab a m),(it,fO "list_iterator" [.none,nv i 0]),(l,ab vs ml),(am,⟨.type "frame",none,dd,#[]⟩)] b1 t1 tb gl
theorem slf_E':aZ (wR w false) (cP it am S fi P1 P2 e) P [(aj,ab a m),(it,ad l i),(l,ab vs ml),(am,⟨.type "frame",none,dd,#[]⟩)] b t tb gl [0,2,4,6] 1 [K82,K74] [0] [] [] (@slf_E P1 P2 b t aj it l am i m ml e fi a vs tb dd gl S):=by kernel_rfl
theorem slf_tE1 (hx:vs[i]?=none):an (Vp (wR w false)) (bI w req) (cP it am S fi P1 P2 e) P (gS a vs aj e i it k0 l am m ml q0 q1 v0 w) b t (cb tb) gl:=by
  refine qH slf_E' rfl fun s hs Ξ ar=>?_
  refine gH rfl (cT (ai _) hx) fun b1 t1 ak _ _ _ _=>?_
  exact gD rfl ar fun s' hA hF=>⟨bf [m,i,0,k0] [a] [v0] [] [],_,_,gO hx,rfl,rfl,hA,hF,fun a h=>h,ag⟩
noncomputable def slt_00:Rs :=
aO (aF [2,4] fun _=>.str (Wd 0) σ) (cB "list_iterator.__next__" [rf it]) [(it,ad l i),(l,ab vs ml)] b t tb gl fun b1 t1 ak =>
aO (aN [0] fun v=>∃ τ,v = .str (bu (Wd 0)) τ) (cB "list.append" [rf aj,sv "User-agent: a" (t1+3)]) [(aj,ab a m)] b1 (t1+4) tb gl fun b2 t2 aw =>
bF (aH (bt (az dh) 2) (rf it) (bB am)) ⟨20,12,20,46⟩ [(aj,ab (aw.a 0) (aw.n 0)),(it,ad l (i+1)),(l,ab vs ml),(am,eJ w q0 (rf e) q1 (rf aj) t1 (sv "a" σ))] b2 t2 tb gl
theorem slt_00':aZ (wR w true) (cP it am S fi P1 P2 e) P (iy a vs aj e i it l am m ml q0 q1 w) b t tb gl [0,2,4,6] 1 [K82,K67,1] [4,1,0] [] [] (@slt_00 b t aj it l am i m ml σ e q0 q1 a vs tb gl w):=by kernel_rfl
theorem slt_t00 (hA:a.size≤100) (hx:vs[i]?=some (.str (Wd 0) σ)) (IH:∀ P b t mq k0 v0 (a1:Array Value),(∃ τ,a1=a.push (.str (bu (Wd 0)) τ))→an (Vp (wR w true)) (bI w req) (cP it am S fi P1 P2 e) P [(aj,ab a1 mq),(it,ad l (i+1)),(l,ab vs ml),(am,eJ w q0 (rf e) q1 (rf aj) k0 v0)] b t (cb tb) gl):an (Vp (wR w true)) (bI w req) (cP it am S fi P1 P2 e) P (iy a vs aj e i it l am m ml q0 q1 w) b t (cb tb) gl:=by
  refine qH (slt_00' (σ:=σ)) rfl fun s hs Ξ ar=>?_
  refine gF rfl (aA (ai _) ⟨bf [] [] [] [] [],hx⟩) fun b1 t1 ak _ _ _ _=>?_
  refine gF rfl (aC (ai _) (by omega) ⟨_,congrArg (fun z=>Value.str z _) ua_0⟩) fun b2 t2 aw _ _ hk2 _=>?_
  obtain ⟨_,⟨τq,rfl⟩,hap0⟩:=hk2;have hap:aw.a 0=a.push (.str (bu (Wd 0)) τq):=hap0
  exact gG rfl ar hs (IH _ _ _ _ _ _ _ ⟨τq,hap⟩) fun ys hk=>bj (f:=bu) (A:=a.toList) (τ:=τq) hx (by rw [← Array.toList_push,← hap];exact hk)
noncomputable def slt_01:Rs :=
aO (aF [2,4] fun _=>.str (Wd 0) σ) (cB "list_iterator.__next__" [rf it]) [(it,ad l i),(l,ab vs ml)] b t tb gl fun b1 t1 ak =>
aO (aN [0] fun v=>∃ τ,v = .str (bu (Wd 0)) τ) (cB "list.append" [rf aj,sv "User-agent: a" (t1+3)]) [(aj,ab a m)] b1 (t1+4) tb gl fun b2 t2 aw =>
bF (aH (bt (az dh) 2) (rf it) (bB am)) ⟨20,12,20,46⟩ [(aj,ab (aw.a 0) (aw.n 0)),(it,ad l (i+1)),(l,ab vs ml),(am,eJ w q0 (rf e) q1 (rf aj) k0 (sv "a" σ))] b2 t2 tb gl
theorem slt_01':aZ (wR w true) (cP it am S fi P1 P2 e) P (gS a vs aj e i it k0 l am m ml q0 q1 v0 w) b t tb gl [0,2,4,6] 1 [K82,K67,1] [4,1,0] [] [] (@slt_01 b t aj it l am i m ml k0 σ e q0 q1 a vs tb gl w):=by kernel_rfl
theorem slt_t01 (hA:a.size≤100) (hx:vs[i]?=some (.str (Wd 0) σ)) (IH:∀ P b t mq k0 v0 (a1:Array Value),(∃ τ,a1=a.push (.str (bu (Wd 0)) τ))→an (Vp (wR w true)) (bI w req) (cP it am S fi P1 P2 e) P [(aj,ab a1 mq),(it,ad l (i+1)),(l,ab vs ml),(am,eJ w q0 (rf e) q1 (rf aj) k0 v0)] b t (cb tb) gl):an (Vp (wR w true)) (bI w req) (cP it am S fi P1 P2 e) P (gS a vs aj e i it k0 l am m ml q0 q1 v0 w) b t (cb tb) gl:=by
  refine qH (slt_01' (σ:=σ)) rfl fun s hs Ξ ar=>?_
  refine gF rfl (aA (ai _) ⟨bf [] [] [] [] [],hx⟩) fun b1 t1 ak _ _ _ _=>?_
  refine gF rfl (aC (ai _) (by omega) ⟨_,congrArg (fun z=>Value.str z _) ua_0⟩) fun b2 t2 aw _ _ hk2 _=>?_
  obtain ⟨_,⟨τq,rfl⟩,hap0⟩:=hk2;have hap:aw.a 0=a.push (.str (bu (Wd 0)) τq):=hap0
  exact gG rfl ar hs (IH _ _ _ _ _ _ _ ⟨τq,hap⟩) fun ys hk=>bj (f:=bu) (A:=a.toList) (τ:=τq) hx (by rw [← Array.toList_push,← hap];exact hk)
noncomputable def slt_10:Rs :=
aO (aF [2,4] fun _=>.str (Wd 1) σ) (cB "list_iterator.__next__" [rf it]) [(it,ad l i),(l,ab vs ml)] b t tb gl fun b1 t1 ak =>
aO (aN [0] fun v=>∃ τ,v = .str (bu (Wd 1)) τ) (cB "list.append" [rf aj,sv "User-agent: A b" (t1+3)]) [(aj,ab a m)] b1 (t1+4) tb gl fun b2 t2 aw =>
bF (aH (bt (az dh) 2) (rf it) (bB am)) ⟨20,12,20,46⟩ [(aj,ab (aw.a 0) (aw.n 0)),(it,ad l (i+1)),(l,ab vs ml),(am,eJ w q0 (rf e) q1 (rf aj) t1 (sv "A b" σ))] b2 t2 tb gl
theorem slt_10':aZ (wR w true) (cP it am S fi P1 P2 e) P (iy a vs aj e i it l am m ml q0 q1 w) b t tb gl [0,2,4,6] 1 [K82,K67,1] [4,1,0] [] [] (@slt_10 b t aj it l am i m ml σ e q0 q1 a vs tb gl w):=by kernel_rfl
theorem slt_t10 (hA:a.size≤100) (hx:vs[i]?=some (.str (Wd 1) σ)) (IH:∀ P b t mq k0 v0 (a1:Array Value),(∃ τ,a1=a.push (.str (bu (Wd 1)) τ))→an (Vp (wR w true)) (bI w req) (cP it am S fi P1 P2 e) P [(aj,ab a1 mq),(it,ad l (i+1)),(l,ab vs ml),(am,eJ w q0 (rf e) q1 (rf aj) k0 v0)] b t (cb tb) gl):an (Vp (wR w true)) (bI w req) (cP it am S fi P1 P2 e) P (iy a vs aj e i it l am m ml q0 q1 w) b t (cb tb) gl:=by
  refine qH (slt_10' (σ:=σ)) rfl fun s hs Ξ ar=>?_
  refine gF rfl (aA (ai _) ⟨bf [] [] [] [] [],hx⟩) fun b1 t1 ak _ _ _ _=>?_
  refine gF rfl (aC (ai _) (by omega) ⟨_,congrArg (fun z=>Value.str z _) ua_1⟩) fun b2 t2 aw _ _ hk2 _=>?_
  obtain ⟨_,⟨τq,rfl⟩,hap0⟩:=hk2;have hap:aw.a 0=a.push (.str (bu (Wd 1)) τq):=hap0
  exact gG rfl ar hs (IH _ _ _ _ _ _ _ ⟨τq,hap⟩) fun ys hk=>bj (f:=bu) (A:=a.toList) (τ:=τq) hx (by rw [← Array.toList_push,← hap];exact hk)
noncomputable def slt_11:Rs :=
aO (aF [2,4] fun _=>.str (Wd 1) σ) (cB "list_iterator.__next__" [rf it]) [(it,ad l i),(l,ab vs ml)] b t tb gl fun b1 t1 ak =>
aO (aN [0] fun v=>∃ τ,v = .str (bu (Wd 1)) τ) (cB "list.append" [rf aj,sv "User-agent: A b" (t1+3)]) [(aj,ab a m)] b1 (t1+4) tb gl fun b2 t2 aw =>
bF (aH (bt (az dh) 2) (rf it) (bB am)) ⟨20,12,20,46⟩ [(aj,ab (aw.a 0) (aw.n 0)),(it,ad l (i+1)),(l,ab vs ml),(am,eJ w q0 (rf e) q1 (rf aj) k0 (sv "A b" σ))] b2 t2 tb gl
theorem slt_11':aZ (wR w true) (cP it am S fi P1 P2 e) P (gS a vs aj e i it k0 l am m ml q0 q1 v0 w) b t tb gl [0,2,4,6] 1 [K82,K67,1] [4,1,0] [] [] (@slt_11 b t aj it l am i m ml k0 σ e q0 q1 a vs tb gl w):=by kernel_rfl
theorem slt_t11 (hA:a.size≤100) (hx:vs[i]?=some (.str (Wd 1) σ)) (IH:∀ P b t mq k0 v0 (a1:Array Value),(∃ τ,a1=a.push (.str (bu (Wd 1)) τ))→an (Vp (wR w true)) (bI w req) (cP it am S fi P1 P2 e) P [(aj,ab a1 mq),(it,ad l (i+1)),(l,ab vs ml),(am,eJ w q0 (rf e) q1 (rf aj) k0 v0)] b t (cb tb) gl):an (Vp (wR w true)) (bI w req) (cP it am S fi P1 P2 e) P (gS a vs aj e i it k0 l am m ml q0 q1 v0 w) b t (cb tb) gl:=by
  refine qH (slt_11' (σ:=σ)) rfl fun s hs Ξ ar=>?_
  refine gF rfl (aA (ai _) ⟨bf [] [] [] [] [],hx⟩) fun b1 t1 ak _ _ _ _=>?_
  refine gF rfl (aC (ai _) (by omega) ⟨_,congrArg (fun z=>Value.str z _) ua_1⟩) fun b2 t2 aw _ _ hk2 _=>?_
  obtain ⟨_,⟨τq,rfl⟩,hap0⟩:=hk2;have hap:aw.a 0=a.push (.str (bu (Wd 1)) τq):=hap0
  exact gG rfl ar hs (IH _ _ _ _ _ _ _ ⟨τq,hap⟩) fun ys hk=>bj (f:=bu) (A:=a.toList) (τ:=τq) hx (by rw [← Array.toList_push,← hap];exact hk)
noncomputable def slt_20:Rs :=
aO (aF [2,4] fun _=>.str (Wd 2) σ) (cB "list_iterator.__next__" [rf it]) [(it,ad l i),(l,ab vs ml)] b t tb gl fun b1 t1 ak =>
aO (aN [0] fun v=>∃ τ,v = .str (bu (Wd 2)) τ) (cB "list.append" [rf aj,sv "User-agent: " (t1+3)]) [(aj,ab a m)] b1 (t1+4) tb gl fun b2 t2 aw =>
bF (aH (bt (az dh) 2) (rf it) (bB am)) ⟨20,12,20,46⟩ [(aj,ab (aw.a 0) (aw.n 0)),(it,ad l (i+1)),(l,ab vs ml),(am,eJ w q0 (rf e) q1 (rf aj) t1 (sv "" σ))] b2 t2 tb gl
theorem slt_20':aZ (wR w true) (cP it am S fi P1 P2 e) P (iy a vs aj e i it l am m ml q0 q1 w) b t tb gl [0,2,4,6] 1 [K82,K67,1] [4,1,0] [] [] (@slt_20 b t aj it l am i m ml σ e q0 q1 a vs tb gl w):=by kernel_rfl
theorem slt_t20 (hA:a.size≤100) (hx:vs[i]?=some (.str (Wd 2) σ)) (IH:∀ P b t mq k0 v0 (a1:Array Value),(∃ τ,a1=a.push (.str (bu (Wd 2)) τ))→an (Vp (wR w true)) (bI w req) (cP it am S fi P1 P2 e) P [(aj,ab a1 mq),(it,ad l (i+1)),(l,ab vs ml),(am,eJ w q0 (rf e) q1 (rf aj) k0 v0)] b t (cb tb) gl):an (Vp (wR w true)) (bI w req) (cP it am S fi P1 P2 e) P (iy a vs aj e i it l am m ml q0 q1 w) b t (cb tb) gl:=by
  refine qH (slt_20' (σ:=σ)) rfl fun s hs Ξ ar=>?_
  refine gF rfl (aA (ai _) ⟨bf [] [] [] [] [],hx⟩) fun b1 t1 ak _ _ _ _=>?_
  refine gF rfl (aC (ai _) (by omega) ⟨_,congrArg (fun z=>Value.str z _) ua_2⟩) fun b2 t2 aw _ _ hk2 _=>?_
  obtain ⟨_,⟨τq,rfl⟩,hap0⟩:=hk2;have hap:aw.a 0=a.push (.str (bu (Wd 2)) τq):=hap0
  exact gG rfl ar hs (IH _ _ _ _ _ _ _ ⟨τq,hap⟩) fun ys hk=>bj (f:=bu) (A:=a.toList) (τ:=τq) hx (by rw [← Array.toList_push,← hap];exact hk)
noncomputable def slt_21:Rs :=
aO (aF [2,4] fun _=>.str (Wd 2) σ) (cB "list_iterator.__next__" [rf it]) [(it,ad l i),(l,ab vs ml)] b t tb gl fun b1 t1 ak =>
aO (aN [0] fun v=>∃ τ,v = .str (bu (Wd 2)) τ) (cB "list.append" [rf aj,sv "User-agent: " (t1+3)]) [(aj,ab a m)] b1 (t1+4) tb gl fun b2 t2 aw =>
bF (aH (bt (az dh) 2) (rf it) (bB am)) ⟨20,12,20,46⟩ [(aj,ab (aw.a 0) (aw.n 0)),(it,ad l (i+1)),(l,ab vs ml),(am,eJ w q0 (rf e) q1 (rf aj) k0 (sv "" σ))] b2 t2 tb gl
theorem slt_21':aZ (wR w true) (cP it am S fi P1 P2 e) P (gS a vs aj e i it k0 l am m ml q0 q1 v0 w) b t tb gl [0,2,4,6] 1 [K82,K67,1] [4,1,0] [] [] (@slt_21 b t aj it l am i m ml k0 σ e q0 q1 a vs tb gl w):=by kernel_rfl
theorem slt_t21 (hA:a.size≤100) (hx:vs[i]?=some (.str (Wd 2) σ)) (IH:∀ P b t mq k0 v0 (a1:Array Value),(∃ τ,a1=a.push (.str (bu (Wd 2)) τ))→an (Vp (wR w true)) (bI w req) (cP it am S fi P1 P2 e) P [(aj,ab a1 mq),(it,ad l (i+1)),(l,ab vs ml),(am,eJ w q0 (rf e) q1 (rf aj) k0 v0)] b t (cb tb) gl):an (Vp (wR w true)) (bI w req) (cP it am S fi P1 P2 e) P (gS a vs aj e i it k0 l am m ml q0 q1 v0 w) b t (cb tb) gl:=by
  refine qH (slt_21' (σ:=σ)) rfl fun s hs Ξ ar=>?_
  refine gF rfl (aA (ai _) ⟨bf [] [] [] [] [],hx⟩) fun b1 t1 ak _ _ _ _=>?_
  refine gF rfl (aC (ai _) (by omega) ⟨_,congrArg (fun z=>Value.str z _) ua_2⟩) fun b2 t2 aw _ _ hk2 _=>?_
  obtain ⟨_,⟨τq,rfl⟩,hap0⟩:=hk2;have hap:aw.a 0=a.push (.str (bu (Wd 2)) τq):=hap0
  exact gG rfl ar hs (IH _ _ _ _ _ _ _ ⟨τq,hap⟩) fun ys hk=>bj (f:=bu) (A:=a.toList) (τ:=τq) hx (by rw [← Array.toList_push,← hap];exact hk)
noncomputable def slt_30:Rs :=
aO (aF [2,4] fun _=>.str (Wd 3) σ) (cB "list_iterator.__next__" [rf it]) [(it,ad l i),(l,ab vs ml)] b t tb gl fun b1 t1 ak =>
aO (aN [0] fun v=>∃ τ,v = .str (bu (Wd 3)) τ) (cB "list.append" [rf aj,sv "User-agent: *" (t1+3)]) [(aj,ab a m)] b1 (t1+4) tb gl fun b2 t2 aw =>
bF (aH (bt (az dh) 2) (rf it) (bB am)) ⟨20,12,20,46⟩ [(aj,ab (aw.a 0) (aw.n 0)),(it,ad l (i+1)),(l,ab vs ml),(am,eJ w q0 (rf e) q1 (rf aj) t1 (sv "*" σ))] b2 t2 tb gl
theorem slt_30':aZ (wR w true) (cP it am S fi P1 P2 e) P (iy a vs aj e i it l am m ml q0 q1 w) b t tb gl [0,2,4,6] 1 [K82,K67,1] [4,1,0] [] [] (@slt_30 b t aj it l am i m ml σ e q0 q1 a vs tb gl w):=by kernel_rfl
theorem slt_t30 (hA:a.size≤100) (hx:vs[i]?=some (.str (Wd 3) σ)) (IH:∀ P b t mq k0 v0 (a1:Array Value),(∃ τ,a1=a.push (.str (bu (Wd 3)) τ))→an (Vp (wR w true)) (bI w req) (cP it am S fi P1 P2 e) P [(aj,ab a1 mq),(it,ad l (i+1)),(l,ab vs ml),(am,eJ w q0 (rf e) q1 (rf aj) k0 v0)] b t (cb tb) gl):an (Vp (wR w true)) (bI w req) (cP it am S fi P1 P2 e) P (iy a vs aj e i it l am m ml q0 q1 w) b t (cb tb) gl:=by
  refine qH (slt_30' (σ:=σ)) rfl fun s hs Ξ ar=>?_
  refine gF rfl (aA (ai _) ⟨bf [] [] [] [] [],hx⟩) fun b1 t1 ak _ _ _ _=>?_
  refine gF rfl (aC (ai _) (by omega) ⟨_,congrArg (fun z=>Value.str z _) ua_3⟩) fun b2 t2 aw _ _ hk2 _=>?_
  obtain ⟨_,⟨τq,rfl⟩,hap0⟩:=hk2;have hap:aw.a 0=a.push (.str (bu (Wd 3)) τq):=hap0
  exact gG rfl ar hs (IH _ _ _ _ _ _ _ ⟨τq,hap⟩) fun ys hk=>bj (f:=bu) (A:=a.toList) (τ:=τq) hx (by rw [← Array.toList_push,← hap];exact hk)
noncomputable def slt_31:Rs :=
aO (aF [2,4] fun _=>.str (Wd 3) σ) (cB "list_iterator.__next__" [rf it]) [(it,ad l i),(l,ab vs ml)] b t tb gl fun b1 t1 ak =>
aO (aN [0] fun v=>∃ τ,v = .str (bu (Wd 3)) τ) (cB "list.append" [rf aj,sv "User-agent: *" (t1+3)]) [(aj,ab a m)] b1 (t1+4) tb gl fun b2 t2 aw =>
bF (aH (bt (az dh) 2) (rf it) (bB am)) ⟨20,12,20,46⟩ [(aj,ab (aw.a 0) (aw.n 0)),(it,ad l (i+1)),(l,ab vs ml),(am,eJ w q0 (rf e) q1 (rf aj) k0 (sv "*" σ))] b2 t2 tb gl
theorem slt_31':aZ (wR w true) (cP it am S fi P1 P2 e) P (gS a vs aj e i it k0 l am m ml q0 q1 v0 w) b t tb gl [0,2,4,6] 1 [K82,K67,1] [4,1,0] [] [] (@slt_31 b t aj it l am i m ml k0 σ e q0 q1 a vs tb gl w):=by kernel_rfl
theorem slt_t31 (hA:a.size≤100) (hx:vs[i]?=some (.str (Wd 3) σ)) (IH:∀ P b t mq k0 v0 (a1:Array Value),(∃ τ,a1=a.push (.str (bu (Wd 3)) τ))→an (Vp (wR w true)) (bI w req) (cP it am S fi P1 P2 e) P [(aj,ab a1 mq),(it,ad l (i+1)),(l,ab vs ml),(am,eJ w q0 (rf e) q1 (rf aj) k0 v0)] b t (cb tb) gl):an (Vp (wR w true)) (bI w req) (cP it am S fi P1 P2 e) P (gS a vs aj e i it k0 l am m ml q0 q1 v0 w) b t (cb tb) gl:=by
  refine qH (slt_31' (σ:=σ)) rfl fun s hs Ξ ar=>?_
  refine gF rfl (aA (ai _) ⟨bf [] [] [] [] [],hx⟩) fun b1 t1 ak _ _ _ _=>?_
  refine gF rfl (aC (ai _) (by omega) ⟨_,congrArg (fun z=>Value.str z _) ua_3⟩) fun b2 t2 aw _ _ hk2 _=>?_
  obtain ⟨_,⟨τq,rfl⟩,hap0⟩:=hk2;have hap:aw.a 0=a.push (.str (bu (Wd 3)) τq):=hap0
  exact gG rfl ar hs (IH _ _ _ _ _ _ _ ⟨τq,hap⟩) fun ys hk=>bj (f:=bu) (A:=a.toList) (τ:=τq) hx (by rw [← Array.toList_push,← hap];exact hk)
noncomputable def slt_40:Rs :=
aO (aF [2,4] fun _=>.str (Wd 4) σ) (cB "list_iterator.__next__" [rf it]) [(it,ad l i),(l,ab vs ml)] b t tb gl fun b1 t1 ak =>
aO (aN [0] fun v=>∃ τ,v = .str (bu (Wd 4)) τ) (cB "list.append" [rf aj,sv "User-agent: b'" (t1+3)]) [(aj,ab a m)] b1 (t1+4) tb gl fun b2 t2 aw =>
bF (aH (bt (az dh) 2) (rf it) (bB am)) ⟨20,12,20,46⟩ [(aj,ab (aw.a 0) (aw.n 0)),(it,ad l (i+1)),(l,ab vs ml),(am,eJ w q0 (rf e) q1 (rf aj) t1 (sv "b'" σ))] b2 t2 tb gl
theorem slt_40':aZ (wR w true) (cP it am S fi P1 P2 e) P (iy a vs aj e i it l am m ml q0 q1 w) b t tb gl [0,2,4,6] 1 [K82,K67,1] [4,1,0] [] [] (@slt_40 b t aj it l am i m ml σ e q0 q1 a vs tb gl w):=by kernel_rfl
theorem slt_t40 (hA:a.size≤100) (hx:vs[i]?=some (.str (Wd 4) σ)) (IH:∀ P b t mq k0 v0 (a1:Array Value),(∃ τ,a1=a.push (.str (bu (Wd 4)) τ))→an (Vp (wR w true)) (bI w req) (cP it am S fi P1 P2 e) P [(aj,ab a1 mq),(it,ad l (i+1)),(l,ab vs ml),(am,eJ w q0 (rf e) q1 (rf aj) k0 v0)] b t (cb tb) gl):an (Vp (wR w true)) (bI w req) (cP it am S fi P1 P2 e) P (iy a vs aj e i it l am m ml q0 q1 w) b t (cb tb) gl:=by
  refine qH (slt_40' (σ:=σ)) rfl fun s hs Ξ ar=>?_
  refine gF rfl (aA (ai _) ⟨bf [] [] [] [] [],hx⟩) fun b1 t1 ak _ _ _ _=>?_
  refine gF rfl (aC (ai _) (by omega) ⟨_,congrArg (fun z=>Value.str z _) ua_4⟩) fun b2 t2 aw _ _ hk2 _=>?_
  obtain ⟨_,⟨τq,rfl⟩,hap0⟩:=hk2;have hap:aw.a 0=a.push (.str (bu (Wd 4)) τq):=hap0
  exact gG rfl ar hs (IH _ _ _ _ _ _ _ ⟨τq,hap⟩) fun ys hk=>bj (f:=bu) (A:=a.toList) (τ:=τq) hx (by rw [← Array.toList_push,← hap];exact hk)
noncomputable def slt_41:Rs :=
aO (aF [2,4] fun _=>.str (Wd 4) σ) (cB "list_iterator.__next__" [rf it]) [(it,ad l i),(l,ab vs ml)] b t tb gl fun b1 t1 ak =>
aO (aN [0] fun v=>∃ τ,v = .str (bu (Wd 4)) τ) (cB "list.append" [rf aj,sv "User-agent: b'" (t1+3)]) [(aj,ab a m)] b1 (t1+4) tb gl fun b2 t2 aw =>
bF (aH (bt (az dh) 2) (rf it) (bB am)) ⟨20,12,20,46⟩ [(aj,ab (aw.a 0) (aw.n 0)),(it,ad l (i+1)),(l,ab vs ml),(am,eJ w q0 (rf e) q1 (rf aj) k0 (sv "b'" σ))] b2 t2 tb gl
theorem slt_41':aZ (wR w true) (cP it am S fi P1 P2 e) P (gS a vs aj e i it k0 l am m ml q0 q1 v0 w) b t tb gl [0,2,4,6] 1 [K82,K67,1] [4,1,0] [] [] (@slt_41 b t aj it l am i m ml k0 σ e q0 q1 a vs tb gl w):=by kernel_rfl
theorem slt_t41 (hA:a.size≤100) (hx:vs[i]?=some (.str (Wd 4) σ)) (IH:∀ P b t mq k0 v0 (a1:Array Value),(∃ τ,a1=a.push (.str (bu (Wd 4)) τ))→an (Vp (wR w true)) (bI w req) (cP it am S fi P1 P2 e) P [(aj,ab a1 mq),(it,ad l (i+1)),(l,ab vs ml),(am,eJ w q0 (rf e) q1 (rf aj) k0 v0)] b t (cb tb) gl):an (Vp (wR w true)) (bI w req) (cP it am S fi P1 P2 e) P (gS a vs aj e i it k0 l am m ml q0 q1 v0 w) b t (cb tb) gl:=by
  refine qH (slt_41' (σ:=σ)) rfl fun s hs Ξ ar=>?_
  refine gF rfl (aA (ai _) ⟨bf [] [] [] [] [],hx⟩) fun b1 t1 ak _ _ _ _=>?_
  refine gF rfl (aC (ai _) (by omega) ⟨_,congrArg (fun z=>Value.str z _) ua_4⟩) fun b2 t2 aw _ _ hk2 _=>?_
  obtain ⟨_,⟨τq,rfl⟩,hap0⟩:=hk2;have hap:aw.a 0=a.push (.str (bu (Wd 4)) τq):=hap0
  exact gG rfl ar hs (IH _ _ _ _ _ _ _ ⟨τq,hap⟩) fun ys hk=>bj (f:=bu) (A:=a.toList) (τ:=τq) hx (by rw [← Array.toList_push,← hap];exact hk)
noncomputable def slt_E:Rs :=
ca (e8 [2,4]) (Zp2 P1 P2 S e it am fi) ⟨19,12,19,17⟩ [(it,ad l i),(l,ab vs ml)] b t tb gl fun b1 t1 ak =>
cF (.ok .next) [(aj,ab a m),(it,fO "list_iterator" [.none,nv i 0]),(l,ab vs ml),(am,⟨.type "frame",none,dd,#[]⟩)] b1 t1 tb gl
theorem slt_E':aZ (wR w true) (cP it am S fi P1 P2 e) P [(aj,ab a m),(it,ad l i),(l,ab vs ml),(am,⟨.type "frame",none,dd,#[]⟩)] b t tb gl [0,2,4,6] 1 [K82,K74] [0] [] [] (@slt_E P1 P2 b t aj it l am i m ml e fi a vs tb dd gl S):=by kernel_rfl
theorem slt_tE1 (hx:vs[i]?=none):an (Vp (wR w true)) (bI w req) (cP it am S fi P1 P2 e) P (gS a vs aj e i it k0 l am m ml q0 q1 v0 w) b t (cb tb) gl:=by
  refine qH slt_E' rfl fun s hs Ξ ar=>?_
  refine gH rfl (cT (ai _) hx) fun b1 t1 ak _ _ _ _=>?_
  exact gD rfl ar fun s' hA hF=>⟨bf [m,i,0,k0] [a] [v0] [] [],_,_,gO hx,rfl,rfl,hA,hF,fun a h=>h,ag⟩
abbrev aJ (l:List Str):Prop:=∀ W∈l,∃ d,d < 5∧W=Wd d
theorem fS (hWd:aJ Ws) (hw:aD vs Ws) (hn:Ws.length≤50):∀ (k:Nat) {P:Pos} {b t i m k0:Nat} {v0:Value} {a:Array Value},Ws.length - i=k→a.size≤i→an (Vp (wR w false)) (bI w req) (cP it am S fi P1 P2 e) P (gS a vs aj e i it k0 l am m ml q0 q1 v0 w) b t (cb tb) gl:=by
  intro k
  induction k with
  | zero =>
    intro P b t i m k0 v0 a hk ha
    have hl:vs.toList.length=Ws.length:=StrsAre.length hw
    exact slf_tE1 (Array.getElem?_eq_none (by simp at hl;omega))
  | succ k ih =>
    intro P b t i m k0 v0 a hk ha
    have hi:i < Ws.length:=by omega
    obtain ⟨σ,hσ⟩:=StrsAre.get hw i Ws[i] (by simp [hi])
    rw [Array.getElem?_toList] at hσ
    have hA:a.size≤100:=by omega
    obtain ⟨d,hd,e⟩:=hWd Ws[i] (by simp)
    rw [e] at hσ
    match d,hd,hσ with
    | 0,_,hσ=>exact slf_t01 hA hσ fun P b t mq k0 v0 a1 e=>by obtain ⟨τ,rfl⟩:=e;exact ih (by omega) (by rw [Array.size_push];omega)
    | 1,_,hσ=>exact slf_t11 hA hσ fun P b t mq k0 v0 a1 e=>by obtain ⟨τ,rfl⟩:=e;exact ih (by omega) (by rw [Array.size_push];omega)
    | 2,_,hσ=>exact slf_t21 hA hσ fun P b t mq k0 v0 a1 e=>by obtain ⟨τ,rfl⟩:=e;exact ih (by omega) (by rw [Array.size_push];omega)
    | 3,_,hσ=>exact slf_t31 hA hσ fun P b t mq k0 v0 a1 e=>by obtain ⟨τ,rfl⟩:=e;exact ih (by omega) (by rw [Array.size_push];omega)
    | 4,_,hσ=>exact slf_t41 hA hσ fun P b t mq k0 v0 a1 e=>by obtain ⟨τ,rfl⟩:=e;exact ih (by omega) (by rw [Array.size_push];omega)
    | n+5,h,_=>exact absurd h (by omega)
theorem slf_ok0 (hWd:aJ Ws) (hw:aD vs Ws) (hn:Ws.length≤50) (hi:0 < Ws.length):an (Vp (wR w false)) (bI w req) (cP it am S fi P1 P2 e) P [(aj,ab #[] m),(it,ad l 0),(l,ab vs ml),(am,d8w w q0 (rf e) q1 (rf aj))] b t (cb tb) gl:=by
    obtain ⟨σ,hσ⟩:=StrsAre.get hw 0 Ws[0] (by simp [hi])
    rw [Array.getElem?_toList] at hσ
    have hA:(#[]:Array Value).size≤100:=by simp
    have h00:(#[]:Array Value).size=0:=rfl
    obtain ⟨d,hd,e⟩:=hWd Ws[0] (by simp)
    rw [e] at hσ
    match d,hd,hσ with
    | 0,_,hσ=>exact slf_t00 hA hσ fun P b t mq k0 v0 a1 e=>by obtain ⟨τ,rfl⟩:=e;exact fS hWd hw hn (Ws.length - 1) rfl (by rw [Array.size_push];omega)
    | 1,_,hσ=>exact slf_t10 hA hσ fun P b t mq k0 v0 a1 e=>by obtain ⟨τ,rfl⟩:=e;exact fS hWd hw hn (Ws.length - 1) rfl (by rw [Array.size_push];omega)
    | 2,_,hσ=>exact slf_t20 hA hσ fun P b t mq k0 v0 a1 e=>by obtain ⟨τ,rfl⟩:=e;exact fS hWd hw hn (Ws.length - 1) rfl (by rw [Array.size_push];omega)
    | 3,_,hσ=>exact slf_t30 hA hσ fun P b t mq k0 v0 a1 e=>by obtain ⟨τ,rfl⟩:=e;exact fS hWd hw hn (Ws.length - 1) rfl (by rw [Array.size_push];omega)
    | 4,_,hσ=>exact slf_t40 hA hσ fun P b t mq k0 v0 a1 e=>by obtain ⟨τ,rfl⟩:=e;exact fS hWd hw hn (Ws.length - 1) rfl (by rw [Array.size_push];omega)
    | n+5,h,_=>exact absurd h (by omega)
theorem fR (hWd:aJ Ws) (hw:aD vs Ws) (hn:Ws.length≤50):∀ (k:Nat) {P:Pos} {b t i m k0:Nat} {v0:Value} {a:Array Value},Ws.length - i=k→a.size≤i→an (Vp (wR w true)) (bI w req) (cP it am S fi P1 P2 e) P (gS a vs aj e i it k0 l am m ml q0 q1 v0 w) b t (cb tb) gl:=by
  intro k
  induction k with
  | zero =>
    intro P b t i m k0 v0 a hk ha
    have hl:vs.toList.length=Ws.length:=StrsAre.length hw
    exact slt_tE1 (Array.getElem?_eq_none (by simp at hl;omega))
  | succ k ih =>
    intro P b t i m k0 v0 a hk ha
    have hi:i < Ws.length:=by omega
    obtain ⟨σ,hσ⟩:=StrsAre.get hw i Ws[i] (by simp [hi])
    rw [Array.getElem?_toList] at hσ
    have hA:a.size≤100:=by omega
    obtain ⟨d,hd,e⟩:=hWd Ws[i] (by simp)
    rw [e] at hσ
    match d,hd,hσ with
    | 0,_,hσ=>exact slt_t01 hA hσ fun P b t mq k0 v0 a1 e=>by obtain ⟨τ,rfl⟩:=e;exact ih (by omega) (by rw [Array.size_push];omega)
    | 1,_,hσ=>exact slt_t11 hA hσ fun P b t mq k0 v0 a1 e=>by obtain ⟨τ,rfl⟩:=e;exact ih (by omega) (by rw [Array.size_push];omega)
    | 2,_,hσ=>exact slt_t21 hA hσ fun P b t mq k0 v0 a1 e=>by obtain ⟨τ,rfl⟩:=e;exact ih (by omega) (by rw [Array.size_push];omega)
    | 3,_,hσ=>exact slt_t31 hA hσ fun P b t mq k0 v0 a1 e=>by obtain ⟨τ,rfl⟩:=e;exact ih (by omega) (by rw [Array.size_push];omega)
    | 4,_,hσ=>exact slt_t41 hA hσ fun P b t mq k0 v0 a1 e=>by obtain ⟨τ,rfl⟩:=e;exact ih (by omega) (by rw [Array.size_push];omega)
    | n+5,h,_=>exact absurd h (by omega)
theorem slt_ok0 (hWd:aJ Ws) (hw:aD vs Ws) (hn:Ws.length≤50) (hi:0 < Ws.length):an (Vp (wR w true)) (bI w req) (cP it am S fi P1 P2 e) P [(aj,ab #[] m),(it,ad l 0),(l,ab vs ml),(am,d8w w q0 (rf e) q1 (rf aj))] b t (cb tb) gl:=by
    obtain ⟨σ,hσ⟩:=StrsAre.get hw 0 Ws[0] (by simp [hi])
    rw [Array.getElem?_toList] at hσ
    have hA:(#[]:Array Value).size≤100:=by simp
    have h00:(#[]:Array Value).size=0:=rfl
    obtain ⟨d,hd,e⟩:=hWd Ws[0] (by simp)
    rw [e] at hσ
    match d,hd,hσ with
    | 0,_,hσ=>exact slt_t00 hA hσ fun P b t mq k0 v0 a1 e=>by obtain ⟨τ,rfl⟩:=e;exact fR hWd hw hn (Ws.length - 1) rfl (by rw [Array.size_push];omega)
    | 1,_,hσ=>exact slt_t10 hA hσ fun P b t mq k0 v0 a1 e=>by obtain ⟨τ,rfl⟩:=e;exact fR hWd hw hn (Ws.length - 1) rfl (by rw [Array.size_push];omega)
    | 2,_,hσ=>exact slt_t20 hA hσ fun P b t mq k0 v0 a1 e=>by obtain ⟨τ,rfl⟩:=e;exact fR hWd hw hn (Ws.length - 1) rfl (by rw [Array.size_push];omega)
    | 3,_,hσ=>exact slt_t30 hA hσ fun P b t mq k0 v0 a1 e=>by obtain ⟨τ,rfl⟩:=e;exact fR hWd hw hn (Ws.length - 1) rfl (by rw [Array.size_push];omega)
    | 4,_,hσ=>exact slt_t40 hA hσ fun P b t mq k0 v0 a1 e=>by obtain ⟨τ,rfl⟩:=e;exact fR hWd hw hn (Ws.length - 1) rfl (by rw [Array.size_push];omega)
    | n+5,h,_=>exact absurd h (by omega)
theorem ls (hWd:aJ Ws) (hw:aD vs Ws) (hn:Ws.length≤50) (hi:0 < Ws.length):HB w (bI w req) (cP it am S fi P1 P2 e) P [(aj,ab #[] m),(it,ad l 0),(l,ab vs ml),(am,d8w w q0 (rf e) q1 (rf aj))] b t tb gl :=
  byRow2 "fstring-hands-on-the-str" (P:=fun w=>an (Vp w) (bI w req) (cP it am S fi P1 P2 e) P [(aj,ab #[] m),(it,ad l 0),(l,ab vs ml),(am,⟨.type "frame",none,.dict #[aq w.params "self" q0 (.ref e),aq w.params "ret" q1 (.ref aj)] 2,#[]⟩)] b t [(795,tb)] gl) (fun w=>slf_ok0 hWd hw hn hi) (fun w=>slt_ok0 hWd hw hn hi) w
noncomputable abbrev Zp3 (P1 P2:Pos) (S:Stmt) (b b1 e:Nat) (fi:Value):Ctx :=
  ⟨aH (bt (az dh) 2) (rf (b1+1)) (bB b),none,none,[(bW dh (bB b),⟨19,21,19,36⟩),(.builtin "str.__new__" ⟨[.type "str",rf e],[]⟩,P2),(.builtin "type.__call__" ⟨[.type "str",rf e],[]⟩,P2),(aH S fi au,P2),(bW aR au,P1),(aI,p0)],none⟩
noncomputable abbrev Zp4 (P1 P2:Pos) (S:Stmt) (b e u:Nat) (fi:Value):Ctx :=
  ⟨.builtin "len" ⟨[rf u],[]⟩,none,none,[(bW dh (bB b),⟨16,15,16,30⟩),(.builtin "str.__new__" ⟨[.type "str",rf e],[]⟩,P2),(.builtin "type.__call__" ⟨[.type "str",rf e],[]⟩,P2),(aH S fi au,P2),(bW aR au,P1),(aI,p0)],none⟩
noncomputable def st0:Rs :=
ca (a9 [4] fun ys=>.int (.ofNat (k+1)) (ys.n 0)) (Zp4 P1 P2 S b e u fi) ⟨16,15,16,30⟩ [(u,ab vs n)] (b+1) (t+2) tb gl fun b1 t1 ak =>
ca (bI w [3,5,4,1]) (Zp3 P1 P2 S b b1 e fi) ⟨19,21,19,36⟩ [(b1,ab #[] 0),(b1+1,ad u 0),(u,ab vs n),(b,d8w w t (rf e) t1 (rf b1))] (b1+2) (t1+2) tb gl fun b2 t2 aw =>
aO (aN [3] fun v=>∃ τ,v = .str (aX "Allow:") τ) (cB "list.append" [rf b1,sv "Allow:" (t2+5)]) [(b1,ab (aw.a 0) (aw.n 0))] b2 (t2+6) tb gl fun b3 t3 aL =>
aO (eT [3] (Str.mk #[10])) (cB "str.join" [.str (Str.mk #[10]) t3,rf b1]) [(b1,ab (aL.a 0) (aL.n 0))] b3 (t3+1) tb gl fun b4 t4 aG =>
cF (.ok (.ret (.str (aG.s 0) (aG.n 0)))) [(e,af d),(d,ac w i0 i1 i2 i3 u r .none),(u,ab vs n),(r,ab #[] o)] b4 t4 tb gl
theorem st0':aZ w (gV S fi P1 P2 e) P2 [(e,af d),(d,ac w i0 i1 i2 i3 u r .none),(u,ab vs n),(r,ab #[] o)] b t tb gl [0,2,4,6] 4 [K60,K58,0x133030303117616161606321000304021521000304021521000304021,0x111] [7,2,6,99999] [] [1,3,3,3] (@st0 P1 P2 b t e d u r n o i0 i1 i2 i3 k fi vs tb gl S w):=by revert w;refine @bs _ ?_ ?_<;>intro w<;>kernel_rfl
theorem str_0 (hWd:aJ Ws) (hn:Ws.length≤50) (hw:aD vs Ws) (hkz:vs.size=k+1):HB w (da req) (gV S fi P1 P2 e) P2 [(e,af d),(d,ac w i0 i1 i2 i3 u r .none),(u,ab vs n),(r,ab #[] o)] b t tb gl:=by
  have hsz:vs.toList.length=Ws.length:=StrsAre.length hw;simp at hsz;have hW:∀ W∈Ws,W.cps.size≤100:=fun W h=>by obtain ⟨d,hd,e⟩:=hWd W h;subst e;exact gX d hd
  refine qH (st0' (k:=k)) rfl fun s hs Ξ ar=>?_
  refine gH rfl (kx (ai _) rfl hkz (by omega)) fun b1 t1 ak _ _ _ _=>?_
  refine gH rfl (ls hWd hw hn (by omega)) fun b2 t2 aw _ _ hk2 _=>?_
  obtain ⟨Bs,hBs,hBe⟩:=hk2;have hB:StrsAre (aw.a 0).toList (Ws.map bu):=fP hw hBs hBe
  refine gF rfl (aC (ai _) (ey hB (by simp;omega)) ⟨_,rfl⟩) fun b3 t3 aL _ _ hk3 _=>?_
  obtain ⟨_,⟨τr,rfl⟩,hap1⟩:=hk3;have hB:StrsAre (aL.a 0).toList ((Ws.map bu)++[aX "Allow:"]):=fN hB hap1
  refine gF rfl (eA (ai _) hB (fq hW hn (by simp) dZ) rfl) fun b4 t4 aG _ _ hk4 _=>?_
  exact gD rfl ar fun s' hA hF=>⟨aG,_,_,gL (D:=.none) hw (by omega) hB (by simp [dlS]) hk4,rfl,rfl,hA,hF,fun a h=>h,ag⟩
noncomputable def st1:Rs :=
ca (a9 [4] fun ys=>.int (.ofNat (k+1)) (ys.n 0)) (Zp4 P1 P2 S b e u fi) ⟨16,15,16,30⟩ [(u,ab vs n)] (b+1) (t+2) tb gl fun b1 t1 ak =>
ca (bI w [3,5,4,1]) (Zp3 P1 P2 S b b1 e fi) ⟨19,21,19,36⟩ [(b1,ab #[] 0),(b1+1,ad u 0),(u,ab vs n),(b,d8w w t (rf e) t1 (rf b1))] (b1+2) (t1+2) tb gl fun b2 t2 aw =>
aO (cm [] ⟨#[c 0,c 1,c 2,c 3,c 4]⟩) (cB "int.__format__" [nv x σ,sv "" (t2+3)]) [] b2 (t2+4) tb gl fun b3 t3 aL =>
aO (aN [3] fun v=>∃ τ,v = .str ⟨#[67,114,97,119,108,45,100,101,108,97,121,58,32,c 0,c 1,c 2,c 3,c 4]⟩ τ) (cB "list.append" [rf b1,.str (Str.mk #[67,114,97,119,108,45,100,101,108,97,121,58,32,c 0,c 1,c 2,c 3,c 4]) t3]) [(b1,ab (aw.a 0) (aw.n 0))] b3 (t3+1) tb gl fun b4 t4 aG =>
aO (aN [3] fun v=>∃ τ,v = .str (aX "Allow:") τ) (cB "list.append" [rf b1,sv "Allow:" (t4+4)]) [(b1,ab (aG.a 0) (aG.n 0))] b4 (t4+5) tb gl fun b5 t5 bx =>
aO (eT [3] (Str.mk #[10])) (cB "str.join" [.str (Str.mk #[10]) t5,rf b1]) [(b1,ab (bx.a 0) (bx.n 0))] b5 (t5+1) tb gl fun b6 t6 bo =>
cF (.ok (.ret (.str (bo.s 0) (bo.n 0)))) [(e,af d),(d,ac w i0 i1 i2 i3 u r (nv x σ)),(u,ab vs n),(r,ab #[] o)] b6 t6 tb gl
theorem st1':aZ w (gV S fi P1 P2 e) P2 [(e,af d),(d,ac w i0 i1 i2 i3 u r (nv x σ)),(u,ab vs n),(r,ab #[] o)] b t tb gl [0,2,4,6] 4 [K60,K58,0x14210003040213303030311521000304021,1,0x133030303117616161606321000304021521000304021,0x111] [7,2,2,3,6,99999] [] [1,3,3,3,3,3] (@st1 P1 P2 b t σ e d u r n o i0 i1 i2 i3 x k fi vs tb gl S c w):=by revert w;refine @bs _ ?_ ?_<;>intro w<;>kernel_rfl
theorem str_1 (hWd:aJ Ws) (hn:Ws.length≤50) (hw:aD vs Ws) (hkz:vs.size=k+1) (hxx:x≤100000) (hcx:gb x=⟨#[c 0,c 1,c 2,c 3,c 4]⟩):HB w (da req) (gV S fi P1 P2 e) P2 [(e,af d),(d,ac w i0 i1 i2 i3 u r (nv x σ)),(u,ab vs n),(r,ab #[] o)] b t tb gl:=by
  have hsz:vs.toList.length=Ws.length:=StrsAre.length hw;simp at hsz;have hW:∀ W∈Ws,W.cps.size≤100:=fun W h=>by obtain ⟨d,hd,e⟩:=hWd W h;subst e;exact gX d hd
  refine qH (st1' (k:=k) (c:=c)) rfl fun s hs Ξ ar=>?_
  refine gH rfl (kx (ai _) rfl hkz (by omega)) fun b1 t1 ak _ _ _ _=>?_
  refine gH rfl (ls hWd hw hn (by omega)) fun b2 t2 aw _ _ hk2 _=>?_
  obtain ⟨Bs,hBs,hBe⟩:=hk2;have hB:StrsAre (aw.a 0).toList (Ws.map bu):=fP hw hBs hBe
  refine gF rfl (fmt_ok (ai _) (Nat.lt_of_le_of_lt hxx (by decide +kernel)) hcx (by simp)) fun b3 t3 aL _ _ _ _=>?_
  refine gF rfl (aC (ai _) (ey hB (by simp;omega)) ⟨_,rfl⟩) fun b4 t4 aG _ _ hk4 _=>?_
  obtain ⟨_,⟨τq,rfl⟩,hap0⟩:=hk4;have hB:StrsAre (aG.a 0).toList (Ws.map bu++[cdS x]):=by rw [← cd_is hcx];exact fN hB hap0
  refine gF rfl (aC (ai _) (ey hB (by simp;omega)) ⟨_,rfl⟩) fun b5 t5 bx _ _ hk5 _=>?_
  obtain ⟨_,⟨τr,rfl⟩,hap1⟩:=hk5;have hB:StrsAre (bx.a 0).toList ((Ws.map bu++[cdS x])++[aX "Allow:"]):=fN hB hap1
  refine gF rfl (eA (ai _) hB (by rw [List.append_assoc];exact fq hW hn (by simp) (ae (by show ((aX "Crawl-delay: ").cps++(gb x).cps).size≤2000;rw [Array.size_append,show (aX "Crawl-delay: ").cps.size=13 by decide +kernel,hcx];simp) dZ)) rfl) fun b6 t6 bo _ _ hk6 _=>?_
  exact gD rfl ar fun s' hA hF=>⟨bo,_,_,gL (D:=(.int (.ofNat x) σ)) hw (by omega) hB (by simp [dlS]) hk6,rfl,rfl,hA,hF,fun a h=>h,ag⟩
noncomputable def st2:Rs :=
cF (.ok (.ret (sv "" (t+4)))) [(e,af d),(d,ac w i0 i1 i2 i3 u r DD),(u,ab #[] n),(r,ab #[] o)] (b+1) (t+5) tb gl
theorem st2':aZ w (gV S fi P1 P2 e) P2 [(e,af d),(d,ac w i0 i1 i2 i3 u r DD),(u,ab #[] n),(r,ab #[] o)] b t tb gl [0,2,4,6] 4 [0x13ec998841414140432100030402161011a0] [] [] [] (@st2 b t e d u r n o i0 i1 i2 i3 DD tb gl w):=by kernel_rfl
theorem str_2:HB w (da req) (gV S fi P1 P2 e) P2 [(e,af d),(d,ac w i0 i1 i2 i3 u r DD),(u,ab #[] n),(r,ab #[] o)] b t tb gl:=by
  refine qH st2' rfl fun s hs Ξ ar=>?_
  exact gD rfl ar fun s' hA hF=>⟨bf [(t+4)] [] [] [⟨#[]⟩] [],_,_,rfl,rfl,rfl,hA,hF,fun a h=>h,ag⟩
theorem eb (hD:ay D) (hWd:aJ Ws) (hn:Ws.length≤50) (hw:aD vs Ws):HB w (da req) (gV S fi P1 P2 e) P2 [(e,af d),(d,ac w i0 i1 i2 i3 u r D),(u,ab vs n),(r,ab #[] o)] b t tb gl:=by
  have hsz:vs.toList.length=Ws.length:=StrsAre.length hw
  rcases Nat.eq_zero_or_pos Ws.length with h0 | hpos
  · have:Ws=[]:=List.eq_nil_of_length_eq_zero h0
    subst this
    have e:=bH (StrsAre.nil_inv hw)
    subst e
    exact str_2
  · have hk:vs.size=(vs.size - 1)+1:=by simp at hsz;omega
    rcases hD with rfl | ⟨x,τ,hx,rfl⟩
    · exact str_0 hWd hn hw hk
    · obtain ⟨c,hc⟩:=lr _ (hH x hx)
      exact str_1 hWd hn hw hk (by omega) hc
end
section
noncomputable def lowS (x:Str):Str:=⟨placed x fun i _=>Unicode.lowerAt x.cps i⟩
noncomputable def iR (x y:Str):Bool:=!(Builtin.Str.occurrences x y 0 x.length 1).isEmpty
noncomputable def bD:Str:=Str.mk #[42]
section
variable {V:Vw} {p:Pos} {b t c:Nat} {ch:Ch} {gl:List GenState}
theorem bz (hk:∀ a o,V.kt.get a=some o→a < V.n₁) {Γ:Ctx} {x r:Str} {τ:Nat} {req:List Nat} (hr:lowS x=r) (hz:r.cps.size≤1000) :
    an V (cm req r) (Γ.enter (.call (.builtin "str.lower") ⟨[.str x τ],[]⟩) none p) p [] b t ch gl :=
  cA hk fun s hs A _=>by
    have h2:(placed x fun i _=>Unicode.lowerAt x.cps i).size≤1000:=by rw [← hr] at hz;exact hz
    refine call_gives F.slot_str_lower (typeIs_str s x τ) F.entry_str_lower (F.args_str_lower_1 _) (gives_str_lower x τ (by unfold Builtin.Str.tooLong;rw [decide_eq_false_iff_not,bM];omega)) ?_
    subst hr
    refine ⟨?_,bf [s.toks] [] [] [] [],trivial,rfl,rfl,c5.heap hs rfl rfl rfl rfl⟩
    show (placed x fun i _=>Unicode.lowerAt x.cps i).size≤sizeLine
    rw [bM];omega
theorem ee {Γ:Ctx} {x y:Str} {τ σ:Nat} {v:Bool} {req:List Nat} (h:iR x y=v) :
    an V (a9 req fun _=>.bool v) (Γ.enter (.call (.builtin "str.__contains__") ⟨[.str x τ,.str y σ],[]⟩) none p) p [] b t ch gl :=
  br (pre:=[]) fun s hs A=>by
    refine call_gives F.slot_str_contains (typeIs_str s x τ) F.entry_str_contains (F.args_str_contains_2 _ _) (gives_str_contains x y τ σ) ?_
    subst h
    exact ⟨⟨dz fun _=>0,rfl⟩,bV _⟩
theorem ce {Γ:Ctx} {x y:Str} {τ σ:Nat} {v:Bool} {req:List Nat} (h:(x.cps.toList != y.cps.toList)=v) :
    an V (a9 req fun _=>.bool v) (Γ.enter (.call (.builtin "str.__ne__") ⟨[.str x τ,.str y σ],[]⟩) none p) p [] b t ch gl :=
  br (pre:=[]) fun s hs A=>by
    refine call_gives F.slot_str_ne (typeIs_str s x τ) F.entry_str_ne (F.args_str_ne_2 _ _) (gives_str_ne x y τ σ) ?_
    subst h
    exact ⟨⟨dz fun _=>0,rfl⟩,bV _⟩
end
noncomputable def fB:Nat→Str
  | 0=>aX "A"
  | 1=>aX "xa b/1"
  | 2=>aX "B'/a"
  | 3=>aX "Q/a"
  | _=>aX ""
noncomputable def fD:Nat→Str
  | 0=>aX "A"
  | 1=>aX "xa b"
  | 2=>aX "B'"
  | 3=>aX "Q"
  | _=>aX ""
noncomputable abbrev dE (req:List Nat) (p:Str):Hk:=dS req (fun _ ys=>.ok (.ret (.ref (ys.n 0)))) (fun pre _=>pre.map (·.2)) (fun _ ys=>[(ys.n 0,ab (ys.a 0) (ys.n 1))]) (fun _ ys=>∃ τ,(ys.a 0)[0]?=some (.str p τ))
end
section
variable {P P3 P4 P5:Pos} {S4 S5:Stmt} {f4 f5 v0 DD:Value} {b t it l f i ml q0 q1 k0 e τ σ d u r n i0 i1 i2 i3 q:Nat} {x H U F:Str} {dd:Data} {vs tb:Array Value} {gl:List GenState} {below:List (Code×Pos)} {w:World} {req:List Nat} {Ws:List Str} {v:Bool}
noncomputable def ΓF5 (S4 S5:Stmt) (f4 f5:Value) (P3 P4:Pos):Ctx:=⟨aH S5 f5 au,none,none,[(aH S4 f4 au,P4),(bW aR au,P3),(aI,p0)],none⟩
noncomputable def iU (S4 S5:Stmt) (f4 f5:Value) (P3 P4 P5:Pos) (e:Addr) (U:Value):Ctx:=(ΓF5 S4 S5 f4 f5 P3 P4).enter (aV 72 [.ref e,U]) none P5
noncomputable def fJ:Stmt:=cY (eu top 4) 2
noncomputable def de (f:Addr):Env:=e7 fJ "Entry.applies_to.<locals>." 72 71 f []
noncomputable def ΓappB (S4 S5:Stmt) (f4 f5:Value) (P3 P4 P5:Pos) (f:Addr):List (Code×Pos):=[(bW fJ (de f),⟨36,21,36,36⟩),(aH S5 f5 au,P5),(aH S4 f4 au,P4),(bW aR au,P3),(aI,p0)]
noncomputable def itSet (n:Nat):Obj→Obj
  | ⟨c,d,.fields vs,sl⟩=>⟨c,d,.fields #[vs.getD 0 .none,.int (.ofNat n) 0],sl⟩
  | o=>o
noncomputable def frT (d:Data) (m:Nat):Obj→Obj
  | ⟨c,dd,.dict es _,sl⟩=>⟨c,dd,.dict ⟨es.toList.take 2++lp d⟩ m,sl⟩
  | o=>o
noncomputable abbrev eG (req:List Nat):Hk:=dS req (fun _ _=>.ok (.ret (.bool true))) (fun pre ys=>match pre with
  | [i,l,f]=>[itSet (ys.n 0) i.2,l.2,frT (ys.d 0) (ys.n 1) f.2]
  | _=>[]) (fun _ _=>[]) (fun _ _=>True)
noncomputable abbrev eH (req:List Nat):Hk:=dS req (fun _ _=>.ok .next) (fun pre ys=>match pre with
  | [_,l,f]=>[cc (ys.n 0),l.2,frT (ys.d 0) (ys.n 1) f.2]
  | _=>[]) (fun _ _=>[]) (fun _ _=>True)
noncomputable def bL (H W:Str):Bool:=(W.cps.toList != bD.cps.toList) && iR H (lowS W)
noncomputable abbrev fL (S4:Stmt) (S5:Stmt) (f4:Value) (f5:Value) (P3:Pos) (P4:Pos) (P5:Pos) (it:Nat) (f:Nat):Ctx:=⟨aH (bt (az fJ) 2) (rf it) (de f),none,none,ΓappB S4 S5 f4 f5 P3 P4 P5 f,none⟩
noncomputable def alS0:Rs :=
aO (aF [0,2] fun _=>.str x σ) (cB "list_iterator.__next__" [rf it]) [(it,ad l i),(l,ab vs ml)] b t tb gl fun b1 t1 ak =>
aO (a9 [] fun _=>.bool false) (cB "str.__ne__" [.str x σ,sv "*" (t1+1)]) [] b1 (t1+2) tb gl fun b2 t2 aw =>
bF (aH (bt (az fJ) 2) (rf it) (de f)) ⟨37,15,37,27⟩ [(it,ad l (i+1)),(l,ab vs ml),(f,d9w w q0 (rf e) q1 (.str H τ) t1 (.str x σ))] b2 t2 tb gl
noncomputable abbrev Zq1 (H:Str) (e f i it l ml q0 q1 τ:Nat) (vs:Array Value) (w:World):ax :=
  [(it,ad l i),(l,ab vs ml),(f,nl w q0 (rf e) q1 (.str H τ))]
theorem alS0':aZ w (fL S4 S5 f4 f5 P3 P4 P5 it f) P (Zq1 H e f i it l ml q0 q1 τ vs w) b t tb gl [0,2,4] 1 [K83,K79,1] [4,0,0] [] [] (@alS0 b t it l f i ml q0 q1 e τ σ x H vs tb gl w):=by revert w;refine @bs _ ?_ ?_<;>intro w<;>kernel_rfl
noncomputable abbrev Zq2 (H:Str) (e f i it k0 l ml q0 q1 τ:Nat) (v0:Value) (vs:Array Value) (w:World):ax :=
  [(it,ad l (i+1)),(l,ab vs ml),(f,d9w w q0 (rf e) q1 (.str H τ) k0 v0)]
theorem al_S0T (hx:vs[i]?=some (.str x σ)) (hn:(x.cps.toList != bD.cps.toList)=false) (IH:∀ P b t k0 v0,HB w (eG req) (fL S4 S5 f4 f5 P3 P4 P5 it f) P (Zq2 H e f i it k0 l ml q0 q1 τ v0 vs w) b t tb gl):HB w (eG req) (fL S4 S5 f4 f5 P3 P4 P5 it f) P (Zq1 H e f i it l ml q0 q1 τ vs w) b t tb gl:=by
  refine qH (alS0' (σ:=σ) (x:=x)) rfl fun s hs Ξ ar=>?_
  refine gF rfl (aA (ai _) ⟨bf [] [] [] [] [],hx⟩) fun b1 t1 ak _ _ _ _=>?_
  refine gF rfl (ce hn) fun b2 t2 aw _ _ _ _=>?_
  exact gG rfl ar hs (IH _ _ _ _ _) fun ys hk=>hk
theorem al_S0F (hx:vs[i]?=some (.str x σ)) (hn:(x.cps.toList != bD.cps.toList)=false) (IH:∀ P b t k0 v0,HB w (eH req) (fL S4 S5 f4 f5 P3 P4 P5 it f) P (Zq2 H e f i it k0 l ml q0 q1 τ v0 vs w) b t tb gl):HB w (eH req) (fL S4 S5 f4 f5 P3 P4 P5 it f) P (Zq1 H e f i it l ml q0 q1 τ vs w) b t tb gl:=by
  refine qH (alS0' (σ:=σ) (x:=x)) rfl fun s hs Ξ ar=>?_
  refine gF rfl (aA (ai _) ⟨bf [] [] [] [] [],hx⟩) fun b1 t1 ak _ _ _ _=>?_
  refine gF rfl (ce hn) fun b2 t2 aw _ _ _ _=>?_
  exact gG rfl ar hs (IH _ _ _ _ _) fun ys hk=>hk
noncomputable def alN0:Rs :=
aO (aF [0,2] fun _=>.str x σ) (cB "list_iterator.__next__" [rf it]) [(it,ad l i),(l,ab vs ml)] b t tb gl fun b1 t1 ak =>
aO (a9 [] fun _=>.bool true) (cB "str.__ne__" [.str x σ,sv "*" (t1+1)]) [] b1 (t1+2) tb gl fun b2 t2 aw =>
aO (cm [] (lowS x)) (cB "str.lower" [.str x σ]) [] b2 t2 tb gl fun b3 t3 aL =>
aO (a9 [] fun _=>.bool false) (cB "str.__contains__" [.str H τ,.str (lowS x) (aL.n 0)]) [] b3 (t3+1) tb gl fun b4 t4 aG =>
bF (aH (bt (az fJ) 2) (rf it) (de f)) ⟨39,19,39,37⟩ [(it,ad l (i+1)),(l,ab vs ml),(f,d9w w q0 (rf e) q1 (.str H τ) t1 (.str (lowS x) (aL.n 0)))] b4 t4 tb gl
theorem alN0':aZ w (fL S4 S5 f4 f5 P3 P4 P5 it f) P (Zq1 H e f i it l ml q0 q1 τ vs w) b t tb gl [0,2,4] 1 [K83,K79,0x134,K77,1] [4,2,5,0,0] [] [] (@alN0 b t it l f i ml q0 q1 e τ σ x H vs tb gl w):=by revert w;refine @bs _ ?_ ?_<;>intro w<;>kernel_rfl
theorem al_N0T (hx:vs[i]?=some (.str x σ)) (hn:(x.cps.toList != bD.cps.toList)=true) (hlow:(lowS x).cps.size≤1000) (hin:iR H (lowS x)=false) (IH:∀ P b t k0 v0,HB w (eG req) (fL S4 S5 f4 f5 P3 P4 P5 it f) P (Zq2 H e f i it k0 l ml q0 q1 τ v0 vs w) b t tb gl):HB w (eG req) (fL S4 S5 f4 f5 P3 P4 P5 it f) P (Zq1 H e f i it l ml q0 q1 τ vs w) b t tb gl:=by
  refine qH (alN0' (σ:=σ) (x:=x)) rfl fun s hs Ξ ar=>?_
  refine gF rfl (aA (ai _) ⟨bf [] [] [] [] [],hx⟩) fun b1 t1 ak _ _ _ _=>?_
  refine gF rfl (ce hn) fun b2 t2 aw _ _ _ _=>?_
  refine gF rfl (bz (ai _) rfl hlow) fun b3 t3 aL _ _ _ _=>?_
  refine gF rfl (ee hin) fun b4 t4 aG _ _ _ _=>?_
  exact gG rfl ar hs (IH _ _ _ _ _) fun ys hk=>hk
theorem al_N0F (hx:vs[i]?=some (.str x σ)) (hn:(x.cps.toList != bD.cps.toList)=true) (hlow:(lowS x).cps.size≤1000) (hin:iR H (lowS x)=false) (IH:∀ P b t k0 v0,HB w (eH req) (fL S4 S5 f4 f5 P3 P4 P5 it f) P (Zq2 H e f i it k0 l ml q0 q1 τ v0 vs w) b t tb gl):HB w (eH req) (fL S4 S5 f4 f5 P3 P4 P5 it f) P (Zq1 H e f i it l ml q0 q1 τ vs w) b t tb gl:=by
  refine qH (alN0' (σ:=σ) (x:=x)) rfl fun s hs Ξ ar=>?_
  refine gF rfl (aA (ai _) ⟨bf [] [] [] [] [],hx⟩) fun b1 t1 ak _ _ _ _=>?_
  refine gF rfl (ce hn) fun b2 t2 aw _ _ _ _=>?_
  refine gF rfl (bz (ai _) rfl hlow) fun b3 t3 aL _ _ _ _=>?_
  refine gF rfl (ee hin) fun b4 t4 aG _ _ _ _=>?_
  exact gG rfl ar hs (IH _ _ _ _ _) fun ys hk=>hk
noncomputable def alY0:Rs :=
aO (aF [0,2] fun _=>.str x σ) (cB "list_iterator.__next__" [rf it]) [(it,ad l i),(l,ab vs ml)] b t tb gl fun b1 t1 ak =>
aO (a9 [] fun _=>.bool true) (cB "str.__ne__" [.str x σ,sv "*" (t1+1)]) [] b1 (t1+2) tb gl fun b2 t2 aw =>
aO (cm [] (lowS x)) (cB "str.lower" [.str x σ]) [] b2 t2 tb gl fun b3 t3 aL =>
aO (a9 [] fun _=>.bool true) (cB "str.__contains__" [.str H τ,.str (lowS x) (aL.n 0)]) [] b3 (t3+1) tb gl fun b4 t4 aG =>
cF (.ok (.ret (.bool true))) [(it,ad l (i+1)),(l,ab vs ml),(f,d9w w q0 (rf e) q1 (.str H τ) t1 (.str (lowS x) (aL.n 0)))] b4 t4 tb gl
theorem alY0':aZ w (fL S4 S5 f4 f5 P3 P4 P5 it f) P (Zq1 H e f i it l ml q0 q1 τ vs w) b t tb gl [0,2,4] 1 [K83,K79,0x134,K77] [4,2,5,99999] [] [] (@alY0 b t it l f i ml q0 q1 e τ σ x H vs tb gl w):=by revert w;refine @bs _ ?_ ?_<;>intro w<;>kernel_rfl
theorem al_Y0 (hx:vs[i]?=some (.str x σ)) (hn:(x.cps.toList != bD.cps.toList)=true) (hlow:(lowS x).cps.size≤1000) (hin:iR H (lowS x)=true):HB w (eG req) (fL S4 S5 f4 f5 P3 P4 P5 it f) P (Zq1 H e f i it l ml q0 q1 τ vs w) b t tb gl:=by
  refine qH (alY0' (σ:=σ) (x:=x)) rfl fun s hs Ξ ar=>?_
  refine gF rfl (aA (ai _) ⟨bf [] [] [] [] [],hx⟩) fun b1 t1 ak _ _ _ _=>?_
  refine gF rfl (ce hn) fun b2 t2 aw _ _ _ _=>?_
  refine gF rfl (bz (ai _) rfl hlow) fun b3 t3 aL _ _ _ _=>?_
  refine gF rfl (ee hin) fun b4 t4 aG _ _ _ _=>?_
  exact gD rfl ar fun s' hA hF=>⟨bf [i+1,3] [] [] [] [.dict #[aq w.params "agent" t1 (.str (Mine.lowS x) (aL.n 0))] 0],_,_,trivial,rfl,rfl,hA,hF,fun a h=>h,ag⟩
noncomputable def alS1:Rs :=
aO (aF [0,2] fun _=>.str x σ) (cB "list_iterator.__next__" [rf it]) [(it,ad l i),(l,ab vs ml)] b t tb gl fun b1 t1 ak =>
aO (a9 [] fun _=>.bool false) (cB "str.__ne__" [.str x σ,sv "*" (t1+1)]) [] b1 (t1+2) tb gl fun b2 t2 aw =>
bF (aH (bt (az fJ) 2) (rf it) (de f)) ⟨37,15,37,27⟩ [(it,ad l (i+1)),(l,ab vs ml),(f,d9w w q0 (rf e) q1 (.str H τ) k0 (.str x σ))] b2 t2 tb gl
noncomputable abbrev nt (H:Str) (e f i it k0 l ml q0 q1 τ:Nat) (v0:Value) (vs:Array Value) (w:World):ax :=
  [(it,ad l i),(l,ab vs ml),(f,d9w w q0 (rf e) q1 (.str H τ) k0 v0)]
theorem alS1':aZ w (fL S4 S5 f4 f5 P3 P4 P5 it f) P (nt H e f i it k0 l ml q0 q1 τ v0 vs w) b t tb gl [0,2,4] 1 [K83,K79,1] [4,0,0] [] [] (@alS1 b t it l f i ml q0 q1 k0 e τ σ x H vs tb gl w):=by revert w;refine @bs _ ?_ ?_<;>intro w<;>kernel_rfl
theorem al_S1T (hx:vs[i]?=some (.str x σ)) (hn:(x.cps.toList != bD.cps.toList)=false) (IH:∀ P b t k0 v0,HB w (eG req) (fL S4 S5 f4 f5 P3 P4 P5 it f) P (Zq2 H e f i it k0 l ml q0 q1 τ v0 vs w) b t tb gl):HB w (eG req) (fL S4 S5 f4 f5 P3 P4 P5 it f) P (nt H e f i it k0 l ml q0 q1 τ v0 vs w) b t tb gl:=by
  refine qH (alS1' (σ:=σ) (x:=x)) rfl fun s hs Ξ ar=>?_
  refine gF rfl (aA (ai _) ⟨bf [] [] [] [] [],hx⟩) fun b1 t1 ak _ _ _ _=>?_
  refine gF rfl (ce hn) fun b2 t2 aw _ _ _ _=>?_
  exact gG rfl ar hs (IH _ _ _ _ _) fun ys hk=>hk
theorem al_S1F (hx:vs[i]?=some (.str x σ)) (hn:(x.cps.toList != bD.cps.toList)=false) (IH:∀ P b t k0 v0,HB w (eH req) (fL S4 S5 f4 f5 P3 P4 P5 it f) P (Zq2 H e f i it k0 l ml q0 q1 τ v0 vs w) b t tb gl):HB w (eH req) (fL S4 S5 f4 f5 P3 P4 P5 it f) P (nt H e f i it k0 l ml q0 q1 τ v0 vs w) b t tb gl:=by
  refine qH (alS1' (σ:=σ) (x:=x)) rfl fun s hs Ξ ar=>?_
  refine gF rfl (aA (ai _) ⟨bf [] [] [] [] [],hx⟩) fun b1 t1 ak _ _ _ _=>?_
  refine gF rfl (ce hn) fun b2 t2 aw _ _ _ _=>?_
  exact gG rfl ar hs (IH _ _ _ _ _) fun ys hk=>hk
noncomputable def alN1:Rs :=
aO (aF [0,2] fun _=>.str x σ) (cB "list_iterator.__next__" [rf it]) [(it,ad l i),(l,ab vs ml)] b t tb gl fun b1 t1 ak =>
aO (a9 [] fun _=>.bool true) (cB "str.__ne__" [.str x σ,sv "*" (t1+1)]) [] b1 (t1+2) tb gl fun b2 t2 aw =>
aO (cm [] (lowS x)) (cB "str.lower" [.str x σ]) [] b2 t2 tb gl fun b3 t3 aL =>
aO (a9 [] fun _=>.bool false) (cB "str.__contains__" [.str H τ,.str (lowS x) (aL.n 0)]) [] b3 (t3+1) tb gl fun b4 t4 aG =>
bF (aH (bt (az fJ) 2) (rf it) (de f)) ⟨39,19,39,37⟩ [(it,ad l (i+1)),(l,ab vs ml),(f,d9w w q0 (rf e) q1 (.str H τ) k0 (.str (lowS x) (aL.n 0)))] b4 t4 tb gl
theorem alN1':aZ w (fL S4 S5 f4 f5 P3 P4 P5 it f) P (nt H e f i it k0 l ml q0 q1 τ v0 vs w) b t tb gl [0,2,4] 1 [K83,K79,0x134,K77,1] [4,2,5,0,0] [] [] (@alN1 b t it l f i ml q0 q1 k0 e τ σ x H vs tb gl w):=by revert w;refine @bs _ ?_ ?_<;>intro w<;>kernel_rfl
theorem al_N1T (hx:vs[i]?=some (.str x σ)) (hn:(x.cps.toList != bD.cps.toList)=true) (hlow:(lowS x).cps.size≤1000) (hin:iR H (lowS x)=false) (IH:∀ P b t k0 v0,HB w (eG req) (fL S4 S5 f4 f5 P3 P4 P5 it f) P (Zq2 H e f i it k0 l ml q0 q1 τ v0 vs w) b t tb gl):HB w (eG req) (fL S4 S5 f4 f5 P3 P4 P5 it f) P (nt H e f i it k0 l ml q0 q1 τ v0 vs w) b t tb gl:=by
  refine qH (alN1' (σ:=σ) (x:=x)) rfl fun s hs Ξ ar=>?_
  refine gF rfl (aA (ai _) ⟨bf [] [] [] [] [],hx⟩) fun b1 t1 ak _ _ _ _=>?_
  refine gF rfl (ce hn) fun b2 t2 aw _ _ _ _=>?_
  refine gF rfl (bz (ai _) rfl hlow) fun b3 t3 aL _ _ _ _=>?_
  refine gF rfl (ee hin) fun b4 t4 aG _ _ _ _=>?_
  exact gG rfl ar hs (IH _ _ _ _ _) fun ys hk=>hk
theorem al_N1F (hx:vs[i]?=some (.str x σ)) (hn:(x.cps.toList != bD.cps.toList)=true) (hlow:(lowS x).cps.size≤1000) (hin:iR H (lowS x)=false) (IH:∀ P b t k0 v0,HB w (eH req) (fL S4 S5 f4 f5 P3 P4 P5 it f) P (Zq2 H e f i it k0 l ml q0 q1 τ v0 vs w) b t tb gl):HB w (eH req) (fL S4 S5 f4 f5 P3 P4 P5 it f) P (nt H e f i it k0 l ml q0 q1 τ v0 vs w) b t tb gl:=by
  refine qH (alN1' (σ:=σ) (x:=x)) rfl fun s hs Ξ ar=>?_
  refine gF rfl (aA (ai _) ⟨bf [] [] [] [] [],hx⟩) fun b1 t1 ak _ _ _ _=>?_
  refine gF rfl (ce hn) fun b2 t2 aw _ _ _ _=>?_
  refine gF rfl (bz (ai _) rfl hlow) fun b3 t3 aL _ _ _ _=>?_
  refine gF rfl (ee hin) fun b4 t4 aG _ _ _ _=>?_
  exact gG rfl ar hs (IH _ _ _ _ _) fun ys hk=>hk
noncomputable def alY1:Rs :=
aO (aF [0,2] fun _=>.str x σ) (cB "list_iterator.__next__" [rf it]) [(it,ad l i),(l,ab vs ml)] b t tb gl fun b1 t1 ak =>
aO (a9 [] fun _=>.bool true) (cB "str.__ne__" [.str x σ,sv "*" (t1+1)]) [] b1 (t1+2) tb gl fun b2 t2 aw =>
aO (cm [] (lowS x)) (cB "str.lower" [.str x σ]) [] b2 t2 tb gl fun b3 t3 aL =>
aO (a9 [] fun _=>.bool true) (cB "str.__contains__" [.str H τ,.str (lowS x) (aL.n 0)]) [] b3 (t3+1) tb gl fun b4 t4 aG =>
cF (.ok (.ret (.bool true))) [(it,ad l (i+1)),(l,ab vs ml),(f,d9w w q0 (rf e) q1 (.str H τ) k0 (.str (lowS x) (aL.n 0)))] b4 t4 tb gl
theorem alY1':aZ w (fL S4 S5 f4 f5 P3 P4 P5 it f) P (nt H e f i it k0 l ml q0 q1 τ v0 vs w) b t tb gl [0,2,4] 1 [K83,K79,0x134,K77] [4,2,5,99999] [] [] (@alY1 b t it l f i ml q0 q1 k0 e τ σ x H vs tb gl w):=by revert w;refine @bs _ ?_ ?_<;>intro w<;>kernel_rfl
theorem al_Y1 (hx:vs[i]?=some (.str x σ)) (hn:(x.cps.toList != bD.cps.toList)=true) (hlow:(lowS x).cps.size≤1000) (hin:iR H (lowS x)=true):HB w (eG req) (fL S4 S5 f4 f5 P3 P4 P5 it f) P (nt H e f i it k0 l ml q0 q1 τ v0 vs w) b t tb gl:=by
  refine qH (alY1' (σ:=σ) (x:=x)) rfl fun s hs Ξ ar=>?_
  refine gF rfl (aA (ai _) ⟨bf [] [] [] [] [],hx⟩) fun b1 t1 ak _ _ _ _=>?_
  refine gF rfl (ce hn) fun b2 t2 aw _ _ _ _=>?_
  refine gF rfl (bz (ai _) rfl hlow) fun b3 t3 aL _ _ _ _=>?_
  refine gF rfl (ee hin) fun b4 t4 aG _ _ _ _=>?_
  exact gD rfl ar fun s' hA hF=>⟨bf [i+1,3] [] [] [] [.dict #[aq w.params "agent" k0 (.str (Mine.lowS x) (aL.n 0))] 0],_,_,trivial,rfl,rfl,hA,hF,fun a h=>h,ag⟩
noncomputable def alE:Rs :=
ca (e8 [0,2]) ⟨cB "list_iterator.__next__" [rf it],none,none,[(aH (bt (az fJ) 2) (rf it) (de f),⟨36,12,36,17⟩),(bW fJ (de f),⟨36,21,36,36⟩),(aH S5 f5 au,P5),(aH S4 f4 au,P4),(bW aR au,P3),(aI,p0)],none⟩ ⟨36,12,36,17⟩ [(it,ad l i),(l,ab vs ml)] b t tb gl fun b1 t1 ak =>
cF (.ok .next) [(it,fO "list_iterator" [.none,nv i 0]),(l,ab vs ml),(f,⟨.type "frame",none,dd,#[]⟩)] b1 t1 tb gl
theorem alE':aZ w (fL S4 S5 f4 f5 P3 P4 P5 it f) P [(it,ad l i),(l,ab vs ml),(f,⟨.type "frame",none,dd,#[]⟩)] b t tb gl [0,2,4] 1 [K83,0x13ec99886] [0] [] [] (@alE P3 P4 P5 S4 S5 f4 f5 b t it l f i ml dd vs tb gl):=by kernel_rfl
theorem al_E0 (hx:vs[i]?=none):HB w (eH req) (fL S4 S5 f4 f5 P3 P4 P5 it f) P (Zq1 H e f i it l ml q0 q1 τ vs w) b t tb gl:=by
  refine qH alE' rfl fun s hs Ξ ar=>?_
  refine gH rfl (cT (ai _) hx) fun b1 t1 ak _ _ _ _=>?_
  exact gD rfl ar fun s' hA hF=>⟨bf [i,2] [] [] [] [.dict #[] 0],_,_,trivial,rfl,rfl,hA,hF,fun a h=>h,ag⟩
theorem al_E1 (hx:vs[i]?=none):HB w (eH req) (fL S4 S5 f4 f5 P3 P4 P5 it f) P (nt H e f i it k0 l ml q0 q1 τ v0 vs w) b t tb gl:=by
  refine qH alE' rfl fun s hs Ξ ar=>?_
  refine gH rfl (cT (ai _) hx) fun b1 t1 ak _ _ _ _=>?_
  exact gD rfl ar fun s' hA hF=>⟨bf [i,3] [] [] [] [.dict #[aq w.params "agent" k0 v0] 0],_,_,trivial,rfl,rfl,hA,hF,fun a h=>h,ag⟩
theorem ky (hlo:∀ W∈Ws,(lowS W).cps.size≤1000) (hw:aD vs Ws):∀ (k:Nat) {P:Pos} {b t i k0:Nat} {v0:Value},Ws.length - i=k→(Ws.drop i).any (bL H)=true→HB w (eG req) (fL S4 S5 f4 f5 P3 P4 P5 it f) P (nt H e f i it k0 l ml q0 q1 τ v0 vs w) b t tb gl:=by
  intro k
  induction k with
  | zero =>
    intro P b t i k0 v0 hk hany
    rw [List.drop_of_length_le (by omega)] at hany
    simp at hany
  | succ k ih =>
    intro P b t i k0 v0 hk hany
    have hi:i < Ws.length:=by omega
    obtain ⟨σ,hσ⟩:=StrsAre.get hw i Ws[i] (by simp [hi])
    rw [Array.getElem?_toList] at hσ
    have hd:Ws.drop i=Ws[i] :: Ws.drop (i+1):=List.drop_eq_getElem_cons hi
    rw [hd,List.any_cons] at hany
    cases hn:(Ws[i].cps.toList != bD.cps.toList) with
    | false=>exact al_S1T hσ hn fun P b t k0 v0=>ih (by omega) (by simpa [bL, *] using hany)
    | true =>
      cases hin:iR H (lowS Ws[i]) with
      | false=>exact al_N1T hσ hn (hlo _ (by simp)) hin fun P b t k0 v0=>ih (by omega) (by simpa [bL, *] using hany)
      | true=>exact al_Y1 hσ hn (hlo _ (by simp)) hin
theorem alT_ok0 (hlo:∀ W∈Ws,(lowS W).cps.size≤1000) (hw:aD vs Ws) (hany:Ws.any (bL H)=true):HB w (eG req) (fL S4 S5 f4 f5 P3 P4 P5 it f) P [(it,ad l 0),(l,ab vs ml),(f,nl w q0 (rf e) q1 (.str H τ))] b t tb gl:=by
  match Ws,hlo,hw,hany with
  | [],_,hw,hany=>simp at hany
  | W :: Ws',hlo,hw,hany =>
    have hσ0:=StrsAre.get hw 0 W rfl
    obtain ⟨σ,hσ⟩:=hσ0
    rw [Array.getElem?_toList] at hσ
    rw [List.any_cons] at hany
    cases hn:(W.cps.toList != bD.cps.toList) with
    | false=>exact al_S0T hσ hn fun P b t k0 v0=>ky hlo hw _ rfl (by simpa [bL, *] using hany)
    | true =>
      cases hin:iR H (lowS W) with
      | false=>exact al_N0T hσ hn (hlo _ (.head _)) hin fun P b t k0 v0=>ky hlo hw _ rfl (by simpa [bL, *] using hany)
      | true=>exact al_Y0 hσ hn (hlo _ (.head _)) hin
theorem kz (hlo:∀ W∈Ws,(lowS W).cps.size≤1000) (hw:aD vs Ws):∀ (k:Nat) {P:Pos} {b t i k0:Nat} {v0:Value},Ws.length - i=k→(Ws.drop i).any (bL H)=false→HB w (eH req) (fL S4 S5 f4 f5 P3 P4 P5 it f) P (nt H e f i it k0 l ml q0 q1 τ v0 vs w) b t tb gl:=by
  intro k
  induction k with
  | zero =>
    intro P b t i k0 v0 hk hany
    rw [List.drop_of_length_le (by omega)] at hany
    have hl:vs.toList.length=Ws.length:=StrsAre.length hw
    exact al_E1 (Array.getElem?_eq_none (by simp at hl;omega))
  | succ k ih =>
    intro P b t i k0 v0 hk hany
    have hi:i < Ws.length:=by omega
    obtain ⟨σ,hσ⟩:=StrsAre.get hw i Ws[i] (by simp [hi])
    rw [Array.getElem?_toList] at hσ
    have hd:Ws.drop i=Ws[i] :: Ws.drop (i+1):=List.drop_eq_getElem_cons hi
    rw [hd,List.any_cons] at hany
    cases hn:(Ws[i].cps.toList != bD.cps.toList) with
    | false=>exact al_S1F hσ hn fun P b t k0 v0=>ih (by omega) (by simpa [bL, *] using hany)
    | true =>
      cases hin:iR H (lowS Ws[i]) with
      | false=>exact al_N1F hσ hn (hlo _ (by simp)) hin fun P b t k0 v0=>ih (by omega) (by simpa [bL, *] using hany)
      | true=>rw [bL,hn,hin] at hany;simp at hany
theorem alF_ok0 (hlo:∀ W∈Ws,(lowS W).cps.size≤1000) (hw:aD vs Ws) (hany:Ws.any (bL H)=false):HB w (eH req) (fL S4 S5 f4 f5 P3 P4 P5 it f) P [(it,ad l 0),(l,ab vs ml),(f,nl w q0 (rf e) q1 (.str H τ))] b t tb gl:=by
  match Ws,hlo,hw,hany with
  | [],_,hw,hany=>exact al_E0 (by rw [bH (StrsAre.nil_inv hw)];rfl)
  | W :: Ws',hlo,hw,hany =>
    have hσ0:=StrsAre.get hw 0 W rfl
    obtain ⟨σ,hσ⟩:=hσ0
    rw [Array.getElem?_toList] at hσ
    rw [List.any_cons] at hany
    cases hn:(W.cps.toList != bD.cps.toList) with
    | false=>exact al_S0F hσ hn fun P b t k0 v0=>kz hlo hw _ rfl (by simpa [bL, *] using hany)
    | true =>
      cases hin:iR H (lowS W) with
      | false=>exact al_N0F hσ hn (hlo _ (.head _)) hin fun P b t k0 v0=>kz hlo hw _ rfl (by simpa [bL, *] using hany)
      | true=>rw [bL,hn,hin] at hany;simp at hany
noncomputable abbrev dY (req:List Nat) (v:Bool):Hk:=dS req (fun _ _=>.ok (.ret (.bool v))) (fun pre _=>pre.map (·.2)) (fun _ _=>[]) (fun _ _=>True)
noncomputable def spu0:Rs :=
cF (.ok (.ret (rf b))) [(b,ab #[sv "A" τ] 0)] (b+1) t tb gl
theorem spu0':aZ w (bg below (cB "str.split" [.str (fB 0) τ,.str (aX "/") σ])) P [] b t tb gl [1] 1000000 [] [] [] [] (@spu0 b t τ tb gl):=by kernel_rfl
theorem spl_0:HB w (dE req (fD 0)) (bg below (cB "str.split" [.str (fB 0) τ,.str (aX "/") σ])) P [] b t tb gl:=by
  refine qH spu0' rfl fun s hs Ξ ar=>?_
  exact gD rfl ar fun s' hA hF=>⟨bf [b+0,0] [⟨[(.str (aX "A") τ)]⟩] [] [] [],_,_,⟨_,rfl⟩,rfl,rfl,hA,hF,fun a h=>h,ao (by show b≤b+0;omega)⟩
noncomputable def spu1:Rs :=
cF (.ok (.ret (rf b))) [(b,ab #[sv "xa b" t,sv "1" (t+1)] 0)] (b+1) (t+2) tb gl
theorem spu1':aZ w (bg below (cB "str.split" [.str (fB 1) τ,.str (aX "/") σ])) P [] b t tb gl [1] 1000000 [] [] [] [] (@spu1 b t tb gl):=by kernel_rfl
theorem spl_1:HB w (dE req (fD 1)) (bg below (cB "str.split" [.str (fB 1) τ,.str (aX "/") σ])) P [] b t tb gl:=by
  refine qH spu1' rfl fun s hs Ξ ar=>?_
  exact gD rfl ar fun s' hA hF=>⟨bf [b+0,0] [⟨[(.str (aX "xa b") t),(.str (aX "1") (t+1))]⟩] [] [] [],_,_,⟨_,rfl⟩,rfl,rfl,hA,hF,fun a h=>h,ao (by show b≤b+0;omega)⟩
noncomputable def spu2:Rs :=
cF (.ok (.ret (rf b))) [(b,ab #[sv "B'" t,sv "a" (t+1)] 0)] (b+1) (t+2) tb gl
theorem spu2':aZ w (bg below (cB "str.split" [.str (fB 2) τ,.str (aX "/") σ])) P [] b t tb gl [1] 1000000 [] [] [] [] (@spu2 b t tb gl):=by kernel_rfl
theorem spl_2:HB w (dE req (fD 2)) (bg below (cB "str.split" [.str (fB 2) τ,.str (aX "/") σ])) P [] b t tb gl:=by
  refine qH spu2' rfl fun s hs Ξ ar=>?_
  exact gD rfl ar fun s' hA hF=>⟨bf [b+0,0] [⟨[(.str (aX "B'") t),(.str (aX "a") (t+1))]⟩] [] [] [],_,_,⟨_,rfl⟩,rfl,rfl,hA,hF,fun a h=>h,ao (by show b≤b+0;omega)⟩
noncomputable def spu3:Rs :=
cF (.ok (.ret (rf b))) [(b,ab #[sv "Q" t,sv "a" (t+1)] 0)] (b+1) (t+2) tb gl
theorem spu3':aZ w (bg below (cB "str.split" [.str (fB 3) τ,.str (aX "/") σ])) P [] b t tb gl [1] 1000000 [] [] [] [] (@spu3 b t tb gl):=by kernel_rfl
theorem spl_3:HB w (dE req (fD 3)) (bg below (cB "str.split" [.str (fB 3) τ,.str (aX "/") σ])) P [] b t tb gl:=by
  refine qH spu3' rfl fun s hs Ξ ar=>?_
  exact gD rfl ar fun s' hA hF=>⟨bf [b+0,0] [⟨[(.str (aX "Q") t),(.str (aX "a") (t+1))]⟩] [] [] [],_,_,⟨_,rfl⟩,rfl,rfl,hA,hF,fun a h=>h,ao (by show b≤b+0;omega)⟩
noncomputable def spu4:Rs :=
cF (.ok (.ret (rf b))) [(b,ab #[sv "" τ] 0)] (b+1) t tb gl
theorem spu4':aZ w (bg below (cB "str.split" [.str (fB 4) τ,.str (aX "/") σ])) P [] b t tb gl [1] 1000000 [] [] [] [] (@spu4 b t τ tb gl):=by kernel_rfl
theorem spl_4:HB w (dE req (fD 4)) (bg below (cB "str.split" [.str (fB 4) τ,.str (aX "/") σ])) P [] b t tb gl:=by
  refine qH spu4' rfl fun s hs Ξ ar=>?_
  exact gD rfl ar fun s' hA hF=>⟨bf [b+0,0] [⟨[(.str (aX "") τ)]⟩] [] [] [],_,_,⟨_,rfl⟩,rfl,rfl,hA,hF,fun a h=>h,ao (by show b≤b+0;omega)⟩
theorem fd:∀ q,q < 5→HB w (dE req (fD q)) (bg below (cB "str.split" [.str (fB q) τ,.str (aX "/") σ])) P [] b t tb gl
  | 0,_=>spl_0
  | 1,_=>spl_1
  | 2,_=>spl_2
  | 3,_=>spl_3
  | 4,_=>spl_4
  | n+5,h=>absurd h (by omega)
noncomputable def ap1:Rs :=
ca (dE [] F) ⟨cB "str.split" [.str U τ,sv "/" (t+2)],none,none,[(bW fJ (de b),⟨35,20,35,40⟩),(aH S5 f5 au,P5),(aH S4 f4 au,P4),(bW aR au,P3),(aI,p0)],none⟩ ⟨35,20,35,40⟩ [] (b+1) (t+3) tb gl fun b1 t1 ak =>
aO (a9 [6] fun ys=>.str F (ys.n 0)) (cB "list.__getitem__" [rf (ak.n 0),.int 0 t1]) [(ak.n 0,ab (ak.a 0) (ak.n 1))] b1 (t1+1) tb gl fun b2 t2 aw =>
aO (cm [] H) (cB "str.lower" [.str F (aw.n 0)]) [] b2 t2 tb gl fun b3 t3 aL =>
ca (eG [3,4,1]) ⟨aH (bt (az fJ) 2) (rf b3) (de b),none,none,[(bW fJ (de b),⟨36,21,36,36⟩),(aH S5 f5 au,P5),(aH S4 f4 au,P4),(bW aR au,P3),(aI,p0)],none⟩ ⟨36,21,36,36⟩ [(b3,ad u 0),(u,ab vs n),(b,nl w t (rf e) (t+1) (.str H (aL.n 0)))] (b3+1) (t3+2) tb gl fun b4 t4 aG =>
cF (.ok (.ret (.bool true))) [(e,af d),(d,ac w i0 i1 i2 i3 u r DD),(u,ab vs n)] b4 t4 tb gl
theorem ap1':aZ w (iU S4 S5 f4 f5 P3 P4 P5 e (.str U τ)) P5 [(e,af d),(d,ac w i0 i1 i2 i3 u r DD),(u,ab vs n)] b t tb gl [0,2,4] 5 [0x1413161012101,0x1060606,1,K59] [3,5,5,99999] [] [1,1,1,2] (@ap1 P3 P4 P5 S4 S5 f4 f5 DD b t e τ d u r n i0 i1 i2 i3 H U F vs tb gl w):=by revert w;refine @bs _ ?_ ?_<;>intro w<;>kernel_rfl
theorem app_1 (hsp:∀ {P:Pos} {b t τ σ:Nat} {below:List (Code×Pos)} {req:List Nat},HB w (dE req F) (bg below (cB "str.split" [.str U τ,.str (aX "/") σ])) P [] b t tb gl) (hF:lowS F=H) (hz:H.cps.size≤1000) (hlo:∀ W∈Ws,(lowS W).cps.size≤1000) (hw:aD vs Ws) (hany:Ws.any (bL H)=true):HB w (dY req true) (iU S4 S5 f4 f5 P3 P4 P5 e (.str U τ)) P5 [(e,af d),(d,ac w i0 i1 i2 i3 u r DD),(u,ab vs n)] b t tb gl:=by
  refine qH (ap1' (F:=F) (H:=H)) rfl fun s hs Ξ ar=>?_
  refine gH rfl hsp fun b1 t1 ak _ _ hk1 _=>?_
  obtain ⟨τs,hsz⟩:=hk1
  refine gF rfl (dH (k:=0) ⟨bf [τs] [] [] [] [],hsz⟩ (Nat.zero_le _)) fun b2 t2 aw _ _ _ _=>?_
  refine gF rfl (bz (ai _) hF hz) fun b3 t3 aL _ _ _ _=>?_
  refine gH rfl (alT_ok0 hlo hw hany) fun b4 t4 aG _ _ _ _=>?_
  exact gD rfl ar fun s' hA hF=>⟨dz fun _=>0,_,_,trivial,rfl,rfl,hA,hF,fun a h=>h,ag⟩
noncomputable def ap0:Rs :=
ca (dE [] F) ⟨cB "str.split" [.str U τ,sv "/" (t+2)],none,none,[(bW fJ (de b),⟨35,20,35,40⟩),(aH S5 f5 au,P5),(aH S4 f4 au,P4),(bW aR au,P3),(aI,p0)],none⟩ ⟨35,20,35,40⟩ [] (b+1) (t+3) tb gl fun b1 t1 ak =>
aO (a9 [6] fun ys=>.str F (ys.n 0)) (cB "list.__getitem__" [rf (ak.n 0),.int 0 t1]) [(ak.n 0,ab (ak.a 0) (ak.n 1))] b1 (t1+1) tb gl fun b2 t2 aw =>
aO (cm [] H) (cB "str.lower" [.str F (aw.n 0)]) [] b2 t2 tb gl fun b3 t3 aL =>
ca (eH [3,4,1]) ⟨aH (bt (az fJ) 2) (rf b3) (de b),none,none,[(bW fJ (de b),⟨36,21,36,36⟩),(aH S5 f5 au,P5),(aH S4 f4 au,P4),(bW aR au,P3),(aI,p0)],none⟩ ⟨36,21,36,36⟩ [(b3,ad u 0),(u,ab vs n),(b,nl w t (rf e) (t+1) (.str H (aL.n 0)))] (b3+1) (t3+2) tb gl fun b4 t4 aG =>
cF (.ok (.ret (.bool false))) [(e,af d),(d,ac w i0 i1 i2 i3 u r DD),(u,ab vs n)] b4 t4 tb gl
theorem ap0':aZ w (iU S4 S5 f4 f5 P3 P4 P5 e (.str U τ)) P5 [(e,af d),(d,ac w i0 i1 i2 i3 u r DD),(u,ab vs n)] b t tb gl [0,2,4] 5 [0x1413161012101,0x1060606,1,K59] [3,5,5,99999] [] [1,1,1,2] (@ap0 P3 P4 P5 S4 S5 f4 f5 DD b t e τ d u r n i0 i1 i2 i3 H U F vs tb gl w):=by revert w;refine @bs _ ?_ ?_<;>intro w<;>kernel_rfl
theorem app_0 (hsp:∀ {P:Pos} {b t τ σ:Nat} {below:List (Code×Pos)} {req:List Nat},HB w (dE req F) (bg below (cB "str.split" [.str U τ,.str (aX "/") σ])) P [] b t tb gl) (hF:lowS F=H) (hz:H.cps.size≤1000) (hlo:∀ W∈Ws,(lowS W).cps.size≤1000) (hw:aD vs Ws) (hany:Ws.any (bL H)=false):HB w (dY req false) (iU S4 S5 f4 f5 P3 P4 P5 e (.str U τ)) P5 [(e,af d),(d,ac w i0 i1 i2 i3 u r DD),(u,ab vs n)] b t tb gl:=by
  refine qH (ap0' (F:=F) (H:=H)) rfl fun s hs Ξ ar=>?_
  refine gH rfl hsp fun b1 t1 ak _ _ hk1 _=>?_
  obtain ⟨τs,hsz⟩:=hk1
  refine gF rfl (dH (k:=0) ⟨bf [τs] [] [] [] [],hsz⟩ (Nat.zero_le _)) fun b2 t2 aw _ _ _ _=>?_
  refine gF rfl (bz (ai _) hF hz) fun b3 t3 aL _ _ _ _=>?_
  refine gH rfl (alF_ok0 hlo hw hany) fun b4 t4 aG _ _ _ _=>?_
  exact gD rfl ar fun s' hA hF=>⟨dz fun _=>0,_,_,trivial,rfl,rfl,hA,hF,fun a h=>h,ag⟩
theorem dw:∀ q,q < 5→(lowS (fD q)).cps.size≤1000
  | 0,_=>by decide +kernel
  | 1,_=>by decide +kernel
  | 2,_=>by decide +kernel
  | 3,_=>by decide +kernel
  | 4,_=>by decide +kernel
  | n+5,h=>absurd h (by omega)
theorem dp (hq:q < 5) (hlo:∀ W∈Ws,(lowS W).cps.size≤1000) (hw:aD vs Ws) (hany:Ws.any (bL (lowS (fD q)))=v):HB w (dY req v) (iU S4 S5 f4 f5 P3 P4 P5 e (.str (fB q) τ)) P5 [(e,af d),(d,ac w i0 i1 i2 i3 u r DD),(u,ab vs n)] b t tb gl:=by
  cases v with
  | true=>exact app_1 (fd q hq) rfl (dw q hq) hlo hw hany
  | false=>exact app_0 (fd q hq) rfl (dw q hq) hlo hw hany
end
section
variable {S4:Stmt} {f4 DD:Value} {P3 P4:Pos} {b t e d u r n i0 i1 i2 i3:Nat} {v:Bool} {vs tb:Array Value} {gl:List GenState} {w:World} {req:List Nat} {Ws:List Str}
noncomputable def j4 (S4:Stmt) (f4:Value) (P3 P4:Pos) (e:Addr):Ctx:=(⟨aH S4 f4 au,none,none,[(bW aR au,P3),(aI,p0)],none⟩:Ctx).enter (aV 72 [.ref e,.none]) none P4
noncomputable def apno:Rs :=
aO (a9 [4] fun _=>.bool v) (cB "list.__contains__" [rf u,sv "*" (t+2)]) [(u,ab vs n)] (b+1) (t+4) tb gl fun b1 t1 ak =>
cF (.ok (.ret (.bool v))) [(e,af d),(d,ac w i0 i1 i2 i3 u r DD),(u,ab vs n)] b1 t1 tb gl
theorem apno':aZ w (j4 S4 f4 P3 P4 e) P4 [(e,af d),(d,ac w i0 i1 i2 i3 u r DD),(u,ab vs n)] b t tb gl [0,2,4] 5 [0x104043210003040214161012101] [99999] [] [1] (@apno DD b t e d u r n i0 i1 i2 i3 v vs tb gl w):=by kernel_rfl
theorem gN (hw:aD vs Ws) (hv:(vs.toList.map strOf).any (· == bD)=v):HB w (dY req v) (j4 S4 f4 P3 P4 e) P4 [(e,af d),(d,ac w i0 i1 i2 i3 u r DD),(u,ab vs n)] b t tb gl:=by
  refine qH (apno' (v:=v)) rfl fun s hs Ξ ar=>?_
  refine gF rfl (dP hw hv) fun b1 t1 ak _ _ _ _=>?_
  exact gD rfl ar fun s' hA hF=>⟨dz fun _=>0,_,_,trivial,rfl,rfl,hA,hF,fun a h=>h,ag⟩
end
section
variable {P P3 P4 P5:Pos} {b t aj it l am i m ml k0 σ τ:Nat} {x H:Str} {v0 f4 f5:Value} {a vs tb:Array Value} {dd:Data} {gl:List GenState} {S4 S5:Stmt} {w:World} {req:List Nat} {Ws:List Str}
theorem iw:Cl gw:=by unfold gw;exact .list _ _ _ _ _ rfl
noncomputable abbrev eQ (w:World) (req:List Nat) (H:Str):Hk:=dS req (fun _ _=>.ok .next) (fun pre ys=>match pre with
  | [_,_,l,_,x1]=>[ab (ys.a 0) (ys.n 0),cc (ys.n 1),l.2,ap (.dict #[aq w.params "word" (ys.n 3) (ys.v 0)] 1),x1.2]
  | _=>[]) (fun _ _=>[]) (fun pre ys=>(ys.a 0).toList=(bn pre 0).toList++((bn pre 2).toList.drop (iK pre 1)).filter fun v=>bL H (strOf v))
noncomputable abbrev mT (req:List Nat):Hk:=dS req (fun _ _=>.ok .next) (fun pre ys=>match pre with
  | [_,_,l,_,x1]=>[ab #[] (ys.n 0),cc (ys.n 1),l.2,ap (.dict #[] 0),x1.2]
  | _=>[]) (fun _ _=>[]) (fun _ _=>True)
noncomputable abbrev gT (aj:Nat) (it:Nat) (am:Nat) (S4:Stmt) (S5:Stmt) (f4:Value) (f5:Value) (P3:Pos) (P4:Pos) (P5:Pos):Ctx:=⟨.compLoop gw 0 (rf it) (rf aj) (mkC gw (aX "law.<locals>.") none (rf 871) am (some 874) [(aX "head",877)]),none,none,[(aH S5 f5 au,P5),(aH S4 f4 au,P4),(bW aR au,P3),(aI,p0)],none⟩
noncomputable abbrev Zr0 (aj it am:Nat):Code :=
  (.compLoop gw 0 (rf it) (rf aj) (mkC gw (aX "law.<locals>.") none (rf 871) am (some 874) [(aX "head",877)]))
noncomputable def wc_S0:Rs :=
aO (aF [2,4] fun _=>.str x σ) (cB "list_iterator.__next__" [rf it]) [(it,ad l i),(l,ab vs ml)] b t tb gl fun b1 t1 ak =>
aO (a9 [] fun _=>.bool false) (cB "str.__ne__" [.str x σ,sv "*" (t1+1)]) [] b1 (t1+2) tb gl fun b2 t2 aw =>
bF (Zr0 aj it am) ⟨874,73,874,84⟩ [(aj,ab a m),(it,ad l (i+1)),(l,ab vs ml),(am,ap (.dict #[aq w.params "word" t1 (.str x σ)] 1)),(877,ah (.str H τ))] b2 t2 tb gl
noncomputable abbrev Zr2 (H:Str) (a vs:Array Value) (aj i it l am m ml τ:Nat):ax :=
  [(aj,ab a m),(it,ad l i),(l,ab vs ml),(am,ap (.dict #[] 0)),(877,ah (.str H τ))]
theorem wc_S0':aZ w (gT aj it am S4 S5 f4 f5 P3 P4 P5) P (Zr2 H a vs aj i it l am m ml τ) b t tb gl [0,2,4,6,8] 1 [K82,K80,1] [4,0,0] [] [] (@wc_S0 b t aj it l am i m ml σ τ x H a vs tb gl w):=by revert w;refine @bs _ ?_ ?_<;>intro w<;>kernel_rfl
theorem wc_tS0 (hA:a.size≤100) (hx:vs[i]?=some (.str x σ)) (hn:(x.cps.toList != bD.cps.toList)=false) (IH:∀ P b t k0 v0,HB w (eQ w req H) (gT aj it am S4 S5 f4 f5 P3 P4 P5) P [(aj,ab a m),(it,ad l (i+1)),(l,ab vs ml),(am,ap (.dict #[aq w.params "word" k0 v0] 1)),(877,ah (.str H τ))] b t tb gl):HB w (eQ w req H) (gT aj it am S4 S5 f4 f5 P3 P4 P5) P (Zr2 H a vs aj i it l am m ml τ) b t tb gl:=by
  refine qH (wc_S0' (x:=x) (σ:=σ)) rfl fun s hs Ξ ar=>?_
  refine gF rfl (aA (ai _) ⟨bf [] [] [] [] [],hx⟩) fun b1 t1 ak _ _ _ _=>?_
  refine gF rfl (ce hn) fun b2 t2 aw _ _ _ _=>?_
  exact gG rfl ar hs (IH _ _ _ _ _) fun ys hk=>cD (f:=(fun v=>bL H (strOf v))) (A:=a.toList) hx (by show bL H x=false;simp [bL, *]) hk
noncomputable def wc_S1:Rs :=
aO (aF [2,4] fun _=>.str x σ) (cB "list_iterator.__next__" [rf it]) [(it,ad l i),(l,ab vs ml)] b t tb gl fun b1 t1 ak =>
aO (a9 [] fun _=>.bool false) (cB "str.__ne__" [.str x σ,sv "*" (t1+1)]) [] b1 (t1+2) tb gl fun b2 t2 aw =>
bF (Zr0 aj it am) ⟨874,73,874,84⟩ [(aj,ab a m),(it,ad l (i+1)),(l,ab vs ml),(am,ap (.dict #[aq w.params "word" k0 (.str x σ)] 1)),(877,ah (.str H τ))] b2 t2 tb gl
noncomputable abbrev Zr1 (H:Str) (a vs:Array Value) (aj i it k0 l am m ml τ:Nat) (v0:Value) (w:World):ax :=
  [(aj,ab a m),(it,ad l i),(l,ab vs ml),(am,ap (.dict #[aq w.params "word" k0 v0] 1)),(877,ah (.str H τ))]
theorem wc_S1':aZ w (gT aj it am S4 S5 f4 f5 P3 P4 P5) P (Zr1 H a vs aj i it k0 l am m ml τ v0 w) b t tb gl [0,2,4,6,8] 1 [K82,K80,1] [4,0,0] [] [] (@wc_S1 b t aj it l am i m ml k0 σ τ x H a vs tb gl w):=by revert w;refine @bs _ ?_ ?_<;>intro w<;>kernel_rfl
theorem wc_tS1 (hA:a.size≤100) (hx:vs[i]?=some (.str x σ)) (hn:(x.cps.toList != bD.cps.toList)=false) (IH:∀ P b t k0 v0,HB w (eQ w req H) (gT aj it am S4 S5 f4 f5 P3 P4 P5) P [(aj,ab a m),(it,ad l (i+1)),(l,ab vs ml),(am,ap (.dict #[aq w.params "word" k0 v0] 1)),(877,ah (.str H τ))] b t tb gl):HB w (eQ w req H) (gT aj it am S4 S5 f4 f5 P3 P4 P5) P (Zr1 H a vs aj i it k0 l am m ml τ v0 w) b t tb gl:=by
  refine qH (wc_S1' (x:=x) (σ:=σ)) rfl fun s hs Ξ ar=>?_
  refine gF rfl (aA (ai _) ⟨bf [] [] [] [] [],hx⟩) fun b1 t1 ak _ _ _ _=>?_
  refine gF rfl (ce hn) fun b2 t2 aw _ _ _ _=>?_
  exact gG rfl ar hs (IH _ _ _ _ _) fun ys hk=>cD (f:=(fun v=>bL H (strOf v))) (A:=a.toList) hx (by show bL H x=false;simp [bL, *]) hk
noncomputable def wc_N0:Rs :=
aO (aF [2,4] fun _=>.str x σ) (cB "list_iterator.__next__" [rf it]) [(it,ad l i),(l,ab vs ml)] b t tb gl fun b1 t1 ak =>
aO (a9 [] fun _=>.bool true) (cB "str.__ne__" [.str x σ,sv "*" (t1+1)]) [] b1 (t1+2) tb gl fun b2 t2 aw =>
aO (cm [] (lowS x)) (cB "str.lower" [.str x σ]) [] b2 t2 tb gl fun b3 t3 aL =>
aO (a9 [] fun _=>.bool false) (cB "str.__contains__" [.str H τ,.str (lowS x) (aL.n 0)]) [] b3 t3 tb gl fun b4 t4 aG =>
bF (Zr0 aj it am) ⟨874,89,874,109⟩ [(aj,ab a m),(it,ad l (i+1)),(l,ab vs ml),(am,ap (.dict #[aq w.params "word" t1 (.str x σ)] 1)),(877,ah (.str H τ))] b4 t4 tb gl
theorem wc_N0':aZ w (gT aj it am S4 S5 f4 f5 P3 P4 P5) P (Zr2 H a vs aj i it l am m ml τ) b t tb gl [0,2,4,6,8] 1 [K82,K80,0x136,0x1118,1] [4,1,2,0,0] [] [] (@wc_N0 b t aj it l am i m ml σ τ x H a vs tb gl w):=by revert w;refine @bs _ ?_ ?_<;>intro w<;>kernel_rfl
theorem wc_tN0 (hA:a.size≤100) (hx:vs[i]?=some (.str x σ)) (hn:(x.cps.toList != bD.cps.toList)=true) (hlow:(lowS x).cps.size≤1000) (hin:iR H (lowS x)=false) (IH:∀ P b t k0 v0,HB w (eQ w req H) (gT aj it am S4 S5 f4 f5 P3 P4 P5) P [(aj,ab a m),(it,ad l (i+1)),(l,ab vs ml),(am,ap (.dict #[aq w.params "word" k0 v0] 1)),(877,ah (.str H τ))] b t tb gl):HB w (eQ w req H) (gT aj it am S4 S5 f4 f5 P3 P4 P5) P (Zr2 H a vs aj i it l am m ml τ) b t tb gl:=by
  refine qH (wc_N0' (x:=x) (σ:=σ)) rfl fun s hs Ξ ar=>?_
  refine gF rfl (aA (ai _) ⟨bf [] [] [] [] [],hx⟩) fun b1 t1 ak _ _ _ _=>?_
  refine gF rfl (ce hn) fun b2 t2 aw _ _ _ _=>?_
  refine gF rfl (bz (ai _) rfl hlow) fun b3 t3 aL _ _ _ _=>?_
  refine gF rfl (ee hin) fun b4 t4 aG _ _ _ _=>?_
  exact gG rfl ar hs (IH _ _ _ _ _) fun ys hk=>cD (f:=(fun v=>bL H (strOf v))) (A:=a.toList) hx (by show bL H x=false;simp [bL, *]) hk
noncomputable def wc_N1:Rs :=
aO (aF [2,4] fun _=>.str x σ) (cB "list_iterator.__next__" [rf it]) [(it,ad l i),(l,ab vs ml)] b t tb gl fun b1 t1 ak =>
aO (a9 [] fun _=>.bool true) (cB "str.__ne__" [.str x σ,sv "*" (t1+1)]) [] b1 (t1+2) tb gl fun b2 t2 aw =>
aO (cm [] (lowS x)) (cB "str.lower" [.str x σ]) [] b2 t2 tb gl fun b3 t3 aL =>
aO (a9 [] fun _=>.bool false) (cB "str.__contains__" [.str H τ,.str (lowS x) (aL.n 0)]) [] b3 t3 tb gl fun b4 t4 aG =>
bF (Zr0 aj it am) ⟨874,89,874,109⟩ [(aj,ab a m),(it,ad l (i+1)),(l,ab vs ml),(am,ap (.dict #[aq w.params "word" k0 (.str x σ)] 1)),(877,ah (.str H τ))] b4 t4 tb gl
theorem wc_N1':aZ w (gT aj it am S4 S5 f4 f5 P3 P4 P5) P (Zr1 H a vs aj i it k0 l am m ml τ v0 w) b t tb gl [0,2,4,6,8] 1 [K82,K80,0x136,0x1118,1] [4,1,2,0,0] [] [] (@wc_N1 b t aj it l am i m ml k0 σ τ x H a vs tb gl w):=by revert w;refine @bs _ ?_ ?_<;>intro w<;>kernel_rfl
theorem wc_tN1 (hA:a.size≤100) (hx:vs[i]?=some (.str x σ)) (hn:(x.cps.toList != bD.cps.toList)=true) (hlow:(lowS x).cps.size≤1000) (hin:iR H (lowS x)=false) (IH:∀ P b t k0 v0,HB w (eQ w req H) (gT aj it am S4 S5 f4 f5 P3 P4 P5) P [(aj,ab a m),(it,ad l (i+1)),(l,ab vs ml),(am,ap (.dict #[aq w.params "word" k0 v0] 1)),(877,ah (.str H τ))] b t tb gl):HB w (eQ w req H) (gT aj it am S4 S5 f4 f5 P3 P4 P5) P (Zr1 H a vs aj i it k0 l am m ml τ v0 w) b t tb gl:=by
  refine qH (wc_N1' (x:=x) (σ:=σ)) rfl fun s hs Ξ ar=>?_
  refine gF rfl (aA (ai _) ⟨bf [] [] [] [] [],hx⟩) fun b1 t1 ak _ _ _ _=>?_
  refine gF rfl (ce hn) fun b2 t2 aw _ _ _ _=>?_
  refine gF rfl (bz (ai _) rfl hlow) fun b3 t3 aL _ _ _ _=>?_
  refine gF rfl (ee hin) fun b4 t4 aG _ _ _ _=>?_
  exact gG rfl ar hs (IH _ _ _ _ _) fun ys hk=>cD (f:=(fun v=>bL H (strOf v))) (A:=a.toList) hx (by show bL H x=false;simp [bL, *]) hk
noncomputable def wc_Y0:Rs :=
aO (aF [2,4] fun _=>.str x σ) (cB "list_iterator.__next__" [rf it]) [(it,ad l i),(l,ab vs ml)] b t tb gl fun b1 t1 ak =>
aO (a9 [] fun _=>.bool true) (cB "str.__ne__" [.str x σ,sv "*" (t1+1)]) [] b1 (t1+2) tb gl fun b2 t2 aw =>
aO (cm [] (lowS x)) (cB "str.lower" [.str x σ]) [] b2 t2 tb gl fun b3 t3 aL =>
aO (a9 [] fun _=>.bool true) (cB "str.__contains__" [.str H τ,.str (lowS x) (aL.n 0)]) [] b3 t3 tb gl fun b4 t4 aG =>
aO (aN [0] fun v=>v = .str x σ) (cB "list.append" [rf aj,.str x σ]) [(aj,ab a m)] b4 t4 tb gl fun b5 t5 bx =>
bF (Zr0 aj it am) ⟨874,47,874,51⟩ [(aj,ab (bx.a 0) (bx.n 0)),(it,ad l (i+1)),(l,ab vs ml),(am,ap (.dict #[aq w.params "word" t1 (.str x σ)] 1)),(877,ah (.str H τ))] b5 t5 tb gl
theorem wc_Y0':aZ w (gT aj it am S4 S5 f4 f5 P3 P4 P5) P (Zr2 H a vs aj i it l am m ml τ) b t tb gl [0,2,4,6,8] 1 [K82,K80,0x136,0x1118,0x106,1] [4,1,2,1,0,0] [] [] (@wc_Y0 b t aj it l am i m ml σ τ x H a vs tb gl w):=by revert w;refine @bs _ ?_ ?_<;>intro w<;>kernel_rfl
theorem wc_tY0 (hA:a.size≤100) (hx:vs[i]?=some (.str x σ)) (hn:(x.cps.toList != bD.cps.toList)=true) (hlow:(lowS x).cps.size≤1000) (hin:iR H (lowS x)=true) (IH:∀ P b t mq k0 v0 (a1:Array Value),a1=a.push (.str x σ)→HB w (eQ w req H) (gT aj it am S4 S5 f4 f5 P3 P4 P5) P [(aj,ab a1 mq),(it,ad l (i+1)),(l,ab vs ml),(am,ap (.dict #[aq w.params "word" k0 v0] 1)),(877,ah (.str H τ))] b t tb gl):HB w (eQ w req H) (gT aj it am S4 S5 f4 f5 P3 P4 P5) P (Zr2 H a vs aj i it l am m ml τ) b t tb gl:=by
  refine qH (wc_Y0' (x:=x) (σ:=σ)) rfl fun s hs Ξ ar=>?_
  refine gF rfl (aA (ai _) ⟨bf [] [] [] [] [],hx⟩) fun b1 t1 ak _ _ _ _=>?_
  refine gF rfl (ce hn) fun b2 t2 aw _ _ _ _=>?_
  refine gF rfl (bz (ai _) rfl hlow) fun b3 t3 aL _ _ _ _=>?_
  refine gF rfl (ee hin) fun b4 t4 aG _ _ _ _=>?_
  refine gF rfl (aC (ai _) (by omega) rfl) fun b5 t5 bx _ _ hk5 _=>?_
  obtain ⟨_,rfl,hap0⟩:=hk5;have hap:bx.a 0=a.push (.str x σ):=hap0
  exact gG rfl ar hs (IH _ _ _ _ _ _ _ hap) fun ys hk=>dM (f:=(fun v=>bL H (strOf v))) (A:=a.toList) hx (by show bL H x=true;simp [bL, *]) (by rw [← Array.toList_push,← hap];exact hk)
noncomputable def wc_Y1:Rs :=
aO (aF [2,4] fun _=>.str x σ) (cB "list_iterator.__next__" [rf it]) [(it,ad l i),(l,ab vs ml)] b t tb gl fun b1 t1 ak =>
aO (a9 [] fun _=>.bool true) (cB "str.__ne__" [.str x σ,sv "*" (t1+1)]) [] b1 (t1+2) tb gl fun b2 t2 aw =>
aO (cm [] (lowS x)) (cB "str.lower" [.str x σ]) [] b2 t2 tb gl fun b3 t3 aL =>
aO (a9 [] fun _=>.bool true) (cB "str.__contains__" [.str H τ,.str (lowS x) (aL.n 0)]) [] b3 t3 tb gl fun b4 t4 aG =>
aO (aN [0] fun v=>v = .str x σ) (cB "list.append" [rf aj,.str x σ]) [(aj,ab a m)] b4 t4 tb gl fun b5 t5 bx =>
bF (Zr0 aj it am) ⟨874,47,874,51⟩ [(aj,ab (bx.a 0) (bx.n 0)),(it,ad l (i+1)),(l,ab vs ml),(am,ap (.dict #[aq w.params "word" k0 (.str x σ)] 1)),(877,ah (.str H τ))] b5 t5 tb gl
theorem wc_Y1':aZ w (gT aj it am S4 S5 f4 f5 P3 P4 P5) P (Zr1 H a vs aj i it k0 l am m ml τ v0 w) b t tb gl [0,2,4,6,8] 1 [K82,K80,0x136,0x1118,0x106,1] [4,1,2,1,0,0] [] [] (@wc_Y1 b t aj it l am i m ml k0 σ τ x H a vs tb gl w):=by revert w;refine @bs _ ?_ ?_<;>intro w<;>kernel_rfl
theorem wc_tY1 (hA:a.size≤100) (hx:vs[i]?=some (.str x σ)) (hn:(x.cps.toList != bD.cps.toList)=true) (hlow:(lowS x).cps.size≤1000) (hin:iR H (lowS x)=true) (IH:∀ P b t mq k0 v0 (a1:Array Value),a1=a.push (.str x σ)→HB w (eQ w req H) (gT aj it am S4 S5 f4 f5 P3 P4 P5) P [(aj,ab a1 mq),(it,ad l (i+1)),(l,ab vs ml),(am,ap (.dict #[aq w.params "word" k0 v0] 1)),(877,ah (.str H τ))] b t tb gl):HB w (eQ w req H) (gT aj it am S4 S5 f4 f5 P3 P4 P5) P (Zr1 H a vs aj i it k0 l am m ml τ v0 w) b t tb gl:=by
  refine qH (wc_Y1' (x:=x) (σ:=σ)) rfl fun s hs Ξ ar=>?_
  refine gF rfl (aA (ai _) ⟨bf [] [] [] [] [],hx⟩) fun b1 t1 ak _ _ _ _=>?_
  refine gF rfl (ce hn) fun b2 t2 aw _ _ _ _=>?_
  refine gF rfl (bz (ai _) rfl hlow) fun b3 t3 aL _ _ _ _=>?_
  refine gF rfl (ee hin) fun b4 t4 aG _ _ _ _=>?_
  refine gF rfl (aC (ai _) (by omega) rfl) fun b5 t5 bx _ _ hk5 _=>?_
  obtain ⟨_,rfl,hap0⟩:=hk5;have hap:bx.a 0=a.push (.str x σ):=hap0
  exact gG rfl ar hs (IH _ _ _ _ _ _ _ hap) fun ys hk=>dM (f:=(fun v=>bL H (strOf v))) (A:=a.toList) hx (by show bL H x=true;simp [bL, *]) (by rw [← Array.toList_push,← hap];exact hk)
noncomputable def wc_E:Rs :=
cW (e8 [2,4]) (gT aj it am S4 S5 f4 f5 P3 P4 P5) (cB "list_iterator.__next__" [rf it]) ⟨874,64,874,69⟩ [(it,ad l i),(l,ab vs ml)] b t tb gl fun b1 t1 ak =>
cF (.ok .next) [(aj,ab a m),(it,fO "list_iterator" [.none,nv i 0]),(l,ab vs ml),(am,⟨.type "dict",none,dd,#[]⟩),(877,ah (.str H τ))] b1 t1 tb gl
theorem wc_E':aZ w (gT aj it am S4 S5 f4 f5 P3 P4 P5) P [(aj,ab a m),(it,ad l i),(l,ab vs ml),(am,ap dd),(877,ah (.str H τ))] b t tb gl [0,2,4,6,8] 1 [K82,0x13ec99881a] [0] [] [] (@wc_E P3 P4 P5 b t aj it l am i m ml τ H f4 f5 a vs tb dd gl S4 S5):=by kernel_rfl
theorem wc_tE1 (hx:vs[i]?=none):HB w (eQ w req H) (gT aj it am S4 S5 f4 f5 P3 P4 P5) P (Zr1 H a vs aj i it k0 l am m ml τ v0 w) b t tb gl:=by
  refine qH wc_E' rfl fun s hs Ξ ar=>?_
  refine gH rfl (cT (ai _) hx) fun b1 t1 ak _ _ _ _=>?_
  exact gD rfl ar fun s' hA hF=>⟨bf [m,i,0,k0] [a] [v0] [] [],_,_,fa (f:=(fun v=>bL H (strOf v))) hx,rfl,rfl,hA,hF,fun a h=>h,ag⟩
theorem lg {a:Array Value}:HB w (mT req) (gT aj it am S4 S5 f4 f5 P3 P4 P5) P [(aj,ab #[] m),(it,ad l 0),(l,ab #[] ml),(am,ap (.dict #[] 0)),(877,ah (.str H τ))] b t tb gl:=by
  have hx:(#[]:Array Value)[0]?=none:=rfl
  refine qH wc_E' rfl fun s hs Ξ ar=>?_
  refine gH rfl (cT (ai _) hx) fun b1 t1 ak _ _ _ _=>?_
  exact gD rfl ar fun s' hA hF=>⟨bf [m,0] [] [] [] [],_,_,trivial,rfl,rfl,hA,hF,fun a h=>h,ag⟩
theorem jm (hlo:∀ W∈Ws,(lowS W).cps.size≤1000) (hw:aD vs Ws) (hn50:Ws.length≤50):∀ (k:Nat) {P:Pos} {b t i m k0:Nat} {v0:Value} {a:Array Value},Ws.length - i=k→a.size≤i→HB w (eQ w req H) (gT aj it am S4 S5 f4 f5 P3 P4 P5) P (Zr1 H a vs aj i it k0 l am m ml τ v0 w) b t tb gl:=by
  intro k
  induction k with
  | zero =>
    intro P b t i m k0 v0 a hk ha
    have hl:vs.toList.length=Ws.length:=StrsAre.length hw
    exact wc_tE1 (Array.getElem?_eq_none (by simp at hl;omega))
  | succ k ih =>
    intro P b t i m k0 v0 a hk ha
    have hi:i < Ws.length:=by omega
    obtain ⟨σ,hσ⟩:=StrsAre.get hw i Ws[i] (by simp [hi])
    rw [Array.getElem?_toList] at hσ
    have hA:a.size≤100:=by omega
    have hl:=hlo Ws[i] (by simp)
    cases hn:(Ws[i].cps.toList != bD.cps.toList) with
    | false=>exact wc_tS1 hA hσ hn fun P b t k0 v0=>ih (by omega) (by omega)
    | true =>
      cases hin:iR H (lowS Ws[i]) with
      | false=>exact wc_tN1 hA hσ hn hl hin fun P b t k0 v0=>ih (by omega) (by omega)
      | true=>exact wc_tY1 hA hσ hn hl hin fun P b t mq k0 v0 a1 e=>by subst e;exact ih (by omega) (by rw [Array.size_push];omega)
theorem iC (hlo:∀ W∈Ws,(lowS W).cps.size≤1000) (hw:aD vs Ws) (hn50:Ws.length≤50) (hi:0 < Ws.length):HB w (eQ w req H) (gT aj it am S4 S5 f4 f5 P3 P4 P5) P [(aj,ab #[] m),(it,ad l 0),(l,ab vs ml),(am,ap (.dict #[] 0)),(877,ah (.str H τ))] b t tb gl:=by
    obtain ⟨σ,hσ⟩:=StrsAre.get hw 0 Ws[0] (by simp [hi])
    rw [Array.getElem?_toList] at hσ
    have hA:(#[]:Array Value).size≤100:=by simp
    have h00:(#[]:Array Value).size=0:=rfl
    have hl:=hlo Ws[0] (by simp)
    cases hn:(Ws[0].cps.toList != bD.cps.toList) with
    | false=>exact wc_tS0 hA hσ hn fun P b t k0 v0=>jm hlo hw hn50 (Ws.length - 1) rfl (by omega)
    | true =>
      cases hin:iR H (lowS Ws[0]) with
      | false=>exact wc_tN0 hA hσ hn hl hin fun P b t k0 v0=>jm hlo hw hn50 (Ws.length - 1) rfl (by omega)
      | true=>exact wc_tY0 hA hσ hn hl hin fun P b t mq k0 v0 a1 e=>by subst e;exact jm hlo hw hn50 (Ws.length - 1) rfl (by rw [Array.size_push];omega)
end
section
variable {V:Vw} {p:Pos} {b t c:Nat} {ch:Ch} {gl:List GenState} {vs:Array Value} {m:Nat} {l:Addr}
theorem lnet_ok {Γ:Ctx} {l':Addr} {vs':Array Value} {m':Nat} {req:List Nat} (h:(vs.size != vs'.size)=true) :
    an V (a9 req fun _=>.bool true) (Γ.enter (.call (.builtin "list.__ne__") ⟨[.ref l,.ref l'],[]⟩) none p) p [(l,ab vs m),(l',ab vs' m')] b t ch gl :=
  br fun s hs A=>by
    have ho:=hs.olds (l,ab vs m) (.head _)
    have ho':=hs.olds (l',ab vs' m') Y1
    refine call_meets F.slot_list_ne (bP ho).typeIs F.entry_list_ne (F.args_list_ne_2 _ _) (SeqAt.list_ne_lengthsAt l l' vs vs' m m' none none #[] #[] h) ⟨ho,ho',?_⟩
    exact ⟨⟨dz fun _=>0,rfl⟩,bV _⟩
theorem fY {Γ:Ctx} {l':Addr} {m':Nat} {v:Bool} {req:List Nat} (h:(!vs.toList.isEmpty)=v) :
    an V (a9 req fun _=>.bool v) (Γ.enter (.call (.builtin "list.__ne__") ⟨[.ref l,.ref l'],[]⟩) none p) p [(l,ab vs m),(l',ab #[] m')] b t ch gl:=by
  subst h
  cases e:vs.toList with
  | nil=>exact dn (Ws:=[]) (by rw [e];exact .nil) .nil
  | cons x r =>
    refine lnet_ok ?_
    have:vs.toList.length=vs.size:=by simp
    rw [e] at this
    simp only [List.length_cons] at this
    simp only [bne_iff_ne,ne_eq]
    show vs.size≠0
    omega
theorem mP {Γ:Ctx} {a:Int} {τ σ:Nat} {req:List Nat} :
    an V (a9 req fun _=>.bool false) (Γ.enter (.call (.builtin "int.__ne__") ⟨[.int a τ,.int a σ],[]⟩) none p) p [] b t ch gl :=
  br (pre:=[]) fun s hs A=>by
    refine call_gives F.slot_int_ne (typeIs_int s a τ) F.entry_int_ne (F.args_int_ne_2 _ _) (gives_int_ne a a τ σ) ?_
    exact ⟨⟨dz fun _=>0,by simp⟩,bV _⟩
end
section
variable {f4 vu DD cw:Value} {P P3 P4:Pos} {b t it l5 mu i σ wl mw e d u r n i0 i1 i2 i3 ku qi:Nat} {κ:Nat→Nat} {ν:Nat→Value} {v:Bool} {cv:Option Value} {U F H:Str} {us ws vs tb:Array Value} {gl:List GenState} {w:World} {req:List Nat} {Ws:List Str}
noncomputable abbrev frL (P:Params) (κ:Nat→Nat) (ν:Nat→Value) (wv ev:Value):List DictEntry:=[aq P "script" (κ 0) (ν 0),aq P "delays" (κ 1) (ν 1),aq P "entries" (κ 2) (ν 2),aq P "place" (κ 3) (ν 3),aq P "cell" (κ 4) (ν 4),aq P "rest" (κ 5) (ν 5),aq P "words" (κ 6) wv,aq P "read" (κ 7) (ν 7),aq P "left" (κ 8) (ν 8),aq P "right" (κ 9) (ν 9),aq P "agents" (κ 10) (ν 10),aq P "there" (κ 11) (ν 11),aq P "entry" (κ 12) ev]
noncomputable abbrev frWd (P:Params) (κ:Nat→Nat) (ν:Nat→Value) (wv ev:Value):Obj:=⟨.type "frame",none,.dict ⟨frL P κ ν wv ev⟩ 13,bp⟩
noncomputable abbrev aU (w:World):=frWd w.params
noncomputable abbrev frUs (P:Params) (κ:Nat→Nat) (ν:Nat→Value) (wv ev:Value) (ku:Nat) (vu:Value):Obj:=⟨.type "frame",none,.dict ⟨frL P κ ν wv ev++[aq P "user" ku vu]⟩ 14,bp⟩
noncomputable abbrev bN (w:World):=frUs w.params
noncomputable def S4L:Stmt:=bt (az aR) 11
noncomputable def S5L:Stmt:=bt (fX S4L) 0
noncomputable def setUser (P:Params) (k:Nat) (v:Value):Obj→Obj
  | ⟨c,dd,.dict es _,sl⟩=>⟨c,dd,.dict ⟨es.toList.take 13++[aq P "user" k v]⟩ 14,sl⟩
  | o=>o
noncomputable abbrev lz (w:World):=setUser w.params
noncomputable abbrev eU (w:World) (req:List Nat):Hk:=dS req (fun _ _=>.ok .next) (fun pre ys=>match pre with
  | [_,l,f,_,a,e,d,u]=>[cc (ys.n 0),l.2,lz w (ys.n 1) (ys.v 0) f.2,aE (some (ys.v 1)),a.2,e.2,d.2,u.2]
  | _=>[]) (fun _ _=>[]) (fun _ _=>True)
theorem eY {f:Str→Bool} {vs:List Value} {Ws:List Str} {v:Bool} (h:StrsAre vs Ws) (hv:Ws.any f=v):(!((#[]:Array Value).toList++(vs.drop 0).filter fun x=>f (strOf x)).isEmpty)=v:=by
  subst hv
  simp only [List.drop_zero,List.nil_append]
  induction h with
  | nil=>rfl
  | @cons y t vs Ws hs ih =>
    cases hf:f y with
    | true=>rw [List.filter_cons_of_pos (by exact hf),List.any_cons,hf];rfl
    | false=>rw [List.filter_cons_of_neg (by show ¬ f y=true;rw [hf];simp),List.any_cons,hf,ih];rfl
noncomputable def usL:List Str:=(List.range 5).map fB
noncomputable abbrev eM (f4:Value) (P3:Pos) (P4:Pos) (it:Nat):Ctx:=⟨aH S5L (rf it) au,none,none,[(aH S4L f4 au,P4),(bW aR au,P3),(aI,p0)],none⟩
noncomputable abbrev Zt0 (b5:Nat):Code :=
  (.compStart gw 0 (rf b5) (rf (b5+1)) (mkC gw (aX "law.<locals>.") none (rf 871) (b5+2) (some 874) [(aX "head",877)]))
noncomputable abbrev Zt1 (H:Str) (b5 mw wl:Nat) (ws:Array Value) (aG:Ys):ax :=
  [(b5+1,ab #[] 0),(b5,ad wl 0),(wl,ab ws mw),(b5+2,ap (.dict #[] 0)),(877,ah (.str H (aG.n 0)))]
noncomputable abbrev Zt2 (it:Nat):Code :=
  (aH (bt (fX (bt (az aR) 11)) 0) (rf it) au)
noncomputable def f5_011:Rs :=
aO (aF [0,2] fun _=>.str U σ) (cB "list_iterator.__next__" [rf it]) [(it,ad l5 i),(l5,ab us mu)] b t tb gl fun b1 t1 ak =>
cW (dE [] F) (eM f4 P3 P4 it) (cB "str.split" [.str U σ,sv "/" (t1+1)]) ⟨873,19,873,34⟩ [] b1 (t1+2) tb gl fun b2 t2 aw =>
aO (a9 [16] fun ys=>.str F (ys.n 0)) (cB "list.__getitem__" [rf (aw.n 0),.int 0 t2]) [(aw.n 0,ab (aw.a 0) (aw.n 1))] b2 (t2+1) tb gl fun b3 t3 aL =>
aO (cm [] H) (cB "str.lower" [.str F (aL.n 0)]) [] b3 t3 tb gl fun b4 t4 aG =>
cW (dY [10,12,14] true) (eM f4 P3 P4 it) (aV 72 [rf e,.str U σ]) ⟨874,15,874,37⟩ [(e,af d),(d,ac w i0 i1 i2 i3 u r DD),(u,ab vs n)] b4 t4 tb gl fun b5 t5 bx =>
cW (eQ w [3,1,8,5,6] H) (eM f4 P3 P4 it) (Zt0 b5) ⟨874,64,874,69⟩ (Zt1 H b5 mw wl ws aG) (b5+3) t5 tb gl fun b6 t6 bo =>
aO (a9 [3,7] fun _=>.bool true) (cB "list.__ne__" [rf (b5+1),rf b6]) [(b5+1,ab (bo.a 0) (bo.n 0)),(b6,ab #[] 0)] (b6+1) t6 tb gl fun b7 t7 e6 =>
bF (Zt2 it) ⟨874,15,874,117⟩ [(it,ad l5 (i+1)),(l5,ab us mu),(874,cn 14 w (pk [(13,t1)] κ) (pk [(6,rf wl),(12,rf e),(13,.str U σ)] ν)),(877,ah (.str H (aG.n 0))),(wl,ab ws mw),(e,af d),(d,ac w i0 i1 i2 i3 u r DD),(u,ab vs n)] b7 t7 tb gl
theorem f5_011':aZ w (eM f4 P3 P4 it) P [(it,ad l5 i),(l5,ab us mu),(874,aU w κ ν (rf wl) (rf e)),(877,aE cv),(wl,ab ws mw),(e,af d),(d,ac w i0 i1 i2 i3 u r DD),(u,ab vs n)] b t tb gl [0,2,4,6,8,10,12,14] 1 [K83,K81,K75,1,K61,K69,K71,1] [4,3,5,3,2,0,2,0] [] [0,0,0,0,0,3,4] (@f5_011 f4 DD P3 P4 b t it l5 mu i σ wl mw e d u r n i0 i1 i2 i3 κ ν U F H us ws vs tb gl w):=by revert w;refine @bs _ ?_ ?_<;>intro w<;>kernel_rfl
theorem f5t_011 (hq:qi < 5) (hx:us[i]?=some (.str (fB qi) σ)) (hlo:∀ W∈Ws,(lowS W).cps.size≤1000) (hwU:aD vs Ws) (hany:Ws.any (bL (lowS (fD qi)))=true) (hw:aD ws Ws) (hn50:Ws.length≤50) (hpos:0 < Ws.length) (IH:∀ P b t ku vu cw,HB w (eU w req) (eM f4 P3 P4 it) P [(it,ad l5 (i+1)),(l5,ab us mu),(874,bN w κ ν (rf wl) (rf e) ku vu),(877,aE (some cw)),(wl,ab ws mw),(e,af d),(d,ac w i0 i1 i2 i3 u r DD),(u,ab vs n)] b t tb gl):HB w (eU w req) (eM f4 P3 P4 it) P [(it,ad l5 i),(l5,ab us mu),(874,aU w κ ν (rf wl) (rf e)),(877,aE cv),(wl,ab ws mw),(e,af d),(d,ac w i0 i1 i2 i3 u r DD),(u,ab vs n)] b t tb gl:=by
  refine qH (f5_011' (σ:=σ) (κ:=κ) (ν:=ν) (U:=fB qi) (F:=fD qi) (H:=lowS (fD qi))) rfl fun s hs Ξ ar=>?_
  refine gF rfl (aA (ai _) ⟨bf [] [] [] [] [],hx⟩) fun b1 t1 ak _ _ _ _=>?_
  refine gH rfl (fd qi hq) fun b2 t2 aw _ _ hk2 _=>?_
  obtain ⟨τs,hsz⟩:=hk2
  refine gF rfl (dH (k:=0) ⟨bf [τs] [] [] [] [],hsz⟩ (Nat.zero_le _)) fun b3 t3 aL _ _ _ _=>?_
  refine gF rfl (bz (ai _) rfl (dw qi hq)) fun b4 t4 aG _ _ _ _=>?_
  refine gH rfl (dp hq hlo hwU hany) fun b5 t5 bx _ _ _ _=>?_
  refine gH rfl (co iw Y1 rfl (iC hlo hw hn50 hpos)) fun b6 t6 bo _ _ hk6 _=>?_
  have hc:(bo.a 0).toList=(#[]:Array Value).toList++(ws.toList.drop 0).filter (fun v=>bL (lowS (fD qi)) (strOf v)):=hk6
  refine gF rfl (fY (by rw [hc];exact eY hw hany)) fun b7 t7 e6 _ _ _ _=>?_
  exact gG rfl ar hs (IH _ _ _ _ _ _) fun ys hk=>hk
noncomputable def f5_010:Rs :=
aO (aF [0,2] fun _=>.str U σ) (cB "list_iterator.__next__" [rf it]) [(it,ad l5 i),(l5,ab us mu)] b t tb gl fun b1 t1 ak =>
cW (dE [] F) (eM f4 P3 P4 it) (cB "str.split" [.str U σ,sv "/" (t1+1)]) ⟨873,19,873,34⟩ [] b1 (t1+2) tb gl fun b2 t2 aw =>
aO (a9 [16] fun ys=>.str F (ys.n 0)) (cB "list.__getitem__" [rf (aw.n 0),.int 0 t2]) [(aw.n 0,ab (aw.a 0) (aw.n 1))] b2 (t2+1) tb gl fun b3 t3 aL =>
aO (cm [] H) (cB "str.lower" [.str F (aL.n 0)]) [] b3 t3 tb gl fun b4 t4 aG =>
cW (dY [10,12,14] false) (eM f4 P3 P4 it) (aV 72 [rf e,.str U σ]) ⟨874,15,874,37⟩ [(e,af d),(d,ac w i0 i1 i2 i3 u r DD),(u,ab vs n)] b4 t4 tb gl fun b5 t5 bx =>
cW (eQ w [3,1,8,5,6] H) (eM f4 P3 P4 it) (Zt0 b5) ⟨874,64,874,69⟩ (Zt1 H b5 mw wl ws aG) (b5+3) t5 tb gl fun b6 t6 bo =>
aO (a9 [3,7] fun _=>.bool false) (cB "list.__ne__" [rf (b5+1),rf b6]) [(b5+1,ab (bo.a 0) (bo.n 0)),(b6,ab #[] 0)] (b6+1) t6 tb gl fun b7 t7 e6 =>
bF (Zt2 it) ⟨874,15,874,117⟩ [(it,ad l5 (i+1)),(l5,ab us mu),(874,cn 14 w (pk [(13,t1)] κ) (pk [(6,rf wl),(12,rf e),(13,.str U σ)] ν)),(877,ah (.str H (aG.n 0))),(wl,ab ws mw),(e,af d),(d,ac w i0 i1 i2 i3 u r DD),(u,ab vs n)] b7 t7 tb gl
theorem f5_010':aZ w (eM f4 P3 P4 it) P [(it,ad l5 i),(l5,ab us mu),(874,aU w κ ν (rf wl) (rf e)),(877,aE cv),(wl,ab ws mw),(e,af d),(d,ac w i0 i1 i2 i3 u r DD),(u,ab vs n)] b t tb gl [0,2,4,6,8,10,12,14] 1 [K83,K81,K75,1,K61,K69,K71,1] [4,3,5,3,2,0,2,0] [] [0,0,0,0,0,3,4] (@f5_010 f4 DD P3 P4 b t it l5 mu i σ wl mw e d u r n i0 i1 i2 i3 κ ν U F H us ws vs tb gl w):=by revert w;refine @bs _ ?_ ?_<;>intro w<;>kernel_rfl
theorem f5t_010 (hq:qi < 5) (hx:us[i]?=some (.str (fB qi) σ)) (hlo:∀ W∈Ws,(lowS W).cps.size≤1000) (hwU:aD vs Ws) (hany:Ws.any (bL (lowS (fD qi)))=false) (hw:aD ws Ws) (hn50:Ws.length≤50) (hpos:0 < Ws.length) (IH:∀ P b t ku vu cw,HB w (eU w req) (eM f4 P3 P4 it) P [(it,ad l5 (i+1)),(l5,ab us mu),(874,bN w κ ν (rf wl) (rf e) ku vu),(877,aE (some cw)),(wl,ab ws mw),(e,af d),(d,ac w i0 i1 i2 i3 u r DD),(u,ab vs n)] b t tb gl):HB w (eU w req) (eM f4 P3 P4 it) P [(it,ad l5 i),(l5,ab us mu),(874,aU w κ ν (rf wl) (rf e)),(877,aE cv),(wl,ab ws mw),(e,af d),(d,ac w i0 i1 i2 i3 u r DD),(u,ab vs n)] b t tb gl:=by
  refine qH (f5_010' (σ:=σ) (κ:=κ) (ν:=ν) (U:=fB qi) (F:=fD qi) (H:=lowS (fD qi))) rfl fun s hs Ξ ar=>?_
  refine gF rfl (aA (ai _) ⟨bf [] [] [] [] [],hx⟩) fun b1 t1 ak _ _ _ _=>?_
  refine gH rfl (fd qi hq) fun b2 t2 aw _ _ hk2 _=>?_
  obtain ⟨τs,hsz⟩:=hk2
  refine gF rfl (dH (k:=0) ⟨bf [τs] [] [] [] [],hsz⟩ (Nat.zero_le _)) fun b3 t3 aL _ _ _ _=>?_
  refine gF rfl (bz (ai _) rfl (dw qi hq)) fun b4 t4 aG _ _ _ _=>?_
  refine gH rfl (dp hq hlo hwU hany) fun b5 t5 bx _ _ _ _=>?_
  refine gH rfl (co iw Y1 rfl (iC hlo hw hn50 hpos)) fun b6 t6 bo _ _ hk6 _=>?_
  have hc:(bo.a 0).toList=(#[]:Array Value).toList++(ws.toList.drop 0).filter (fun v=>bL (lowS (fD qi)) (strOf v)):=hk6
  refine gF rfl (fY (by rw [hc];exact eY hw hany)) fun b7 t7 e6 _ _ _ _=>?_
  exact gG rfl ar hs (IH _ _ _ _ _ _) fun ys hk=>hk
noncomputable def f5_000:Rs :=
aO (aF [0,2] fun _=>.str U σ) (cB "list_iterator.__next__" [rf it]) [(it,ad l5 i),(l5,ab us mu)] b t tb gl fun b1 t1 ak =>
cW (dE [] F) (eM f4 P3 P4 it) (cB "str.split" [.str U σ,sv "/" (t1+1)]) ⟨873,19,873,34⟩ [] b1 (t1+2) tb gl fun b2 t2 aw =>
aO (a9 [16] fun ys=>.str F (ys.n 0)) (cB "list.__getitem__" [rf (aw.n 0),.int 0 t2]) [(aw.n 0,ab (aw.a 0) (aw.n 1))] b2 (t2+1) tb gl fun b3 t3 aL =>
aO (cm [] H) (cB "str.lower" [.str F (aL.n 0)]) [] b3 t3 tb gl fun b4 t4 aG =>
cW (dY [10,12,14] false) (eM f4 P3 P4 it) (aV 72 [rf e,.str U σ]) ⟨874,15,874,37⟩ [(e,af d),(d,ac w i0 i1 i2 i3 u r DD),(u,ab vs n)] b4 t4 tb gl fun b5 t5 bx =>
cW (mT [3,1,8,5,6]) (eM f4 P3 P4 it) (Zt0 b5) ⟨874,64,874,69⟩ (Zt1 H b5 mw wl ws aG) (b5+3) t5 tb gl fun b6 t6 bo =>
aO (a9 [3,7] fun _=>.bool false) (cB "list.__ne__" [rf (b5+1),rf b6]) [(b5+1,ab #[] (bo.n 0)),(b6,ab #[] 0)] (b6+1) t6 tb gl fun b7 t7 e6 =>
bF (Zt2 it) ⟨874,15,874,117⟩ [(it,ad l5 (i+1)),(l5,ab us mu),(874,cn 14 w (pk [(13,t1)] κ) (pk [(6,rf wl),(12,rf e),(13,.str U σ)] ν)),(877,ah (.str H (aG.n 0))),(wl,ab ws mw),(e,af d),(d,ac w i0 i1 i2 i3 u r DD),(u,ab vs n)] b7 t7 tb gl
theorem f5_000':aZ w (eM f4 P3 P4 it) P [(it,ad l5 i),(l5,ab us mu),(874,aU w κ ν (rf wl) (rf e)),(877,aE cv),(wl,ab ws mw),(e,af d),(d,ac w i0 i1 i2 i3 u r DD),(u,ab vs n)] b t tb gl [0,2,4,6,8,10,12,14] 1 [K83,K81,K75,1,K61,K69,0x113070345,1] [4,3,5,3,2,0,2,0] [] [0,0,0,0,0,3,4] (@f5_000 f4 DD P3 P4 b t it l5 mu i σ wl mw e d u r n i0 i1 i2 i3 κ ν U F H us ws vs tb gl w):=by revert w;refine @bs _ ?_ ?_<;>intro w<;>kernel_rfl
theorem f5t_000 (hq:qi < 5) (hx:us[i]?=some (.str (fB qi) σ)) (hlo:∀ W∈Ws,(lowS W).cps.size≤1000) (hwU:aD vs Ws) (hany:Ws.any (bL (lowS (fD qi)))=false) (IH:∀ P b t ku vu cw,HB w (eU w req) (eM f4 P3 P4 it) P [(it,ad l5 (i+1)),(l5,ab us mu),(874,bN w κ ν (rf wl) (rf e) ku vu),(877,aE (some cw)),(wl,ab #[] mw),(e,af d),(d,ac w i0 i1 i2 i3 u r DD),(u,ab vs n)] b t tb gl):HB w (eU w req) (eM f4 P3 P4 it) P [(it,ad l5 i),(l5,ab us mu),(874,aU w κ ν (rf wl) (rf e)),(877,aE cv),(wl,ab #[] mw),(e,af d),(d,ac w i0 i1 i2 i3 u r DD),(u,ab vs n)] b t tb gl:=by
  refine qH (f5_000' (σ:=σ) (κ:=κ) (ν:=ν) (U:=fB qi) (F:=fD qi) (H:=lowS (fD qi))) rfl fun s hs Ξ ar=>?_
  refine gF rfl (aA (ai _) ⟨bf [] [] [] [] [],hx⟩) fun b1 t1 ak _ _ _ _=>?_
  refine gH rfl (fd qi hq) fun b2 t2 aw _ _ hk2 _=>?_
  obtain ⟨τs,hsz⟩:=hk2
  refine gF rfl (dH (k:=0) ⟨bf [τs] [] [] [] [],hsz⟩ (Nat.zero_le _)) fun b3 t3 aL _ _ _ _=>?_
  refine gF rfl (bz (ai _) rfl (dw qi hq)) fun b4 t4 aG _ _ _ _=>?_
  refine gH rfl (dp hq hlo hwU hany) fun b5 t5 bx _ _ _ _=>?_
  refine gH rfl (co iw Y1 rfl (lg (a:=#[]))) fun b6 t6 bo _ _ _ _=>?_
  refine gF rfl (dn (Ws:=[]) .nil .nil) fun b7 t7 e6 _ _ _ _=>?_
  exact gG rfl ar hs (IH _ _ _ _ _ _) fun ys hk=>hk
noncomputable def f5_111:Rs :=
aO (aF [0,2] fun _=>.str U σ) (cB "list_iterator.__next__" [rf it]) [(it,ad l5 i),(l5,ab us mu)] b t tb gl fun b1 t1 ak =>
cW (dE [] F) (eM f4 P3 P4 it) (cB "str.split" [.str U σ,sv "/" (t1+1)]) ⟨873,19,873,34⟩ [] b1 (t1+2) tb gl fun b2 t2 aw =>
aO (a9 [16] fun ys=>.str F (ys.n 0)) (cB "list.__getitem__" [rf (aw.n 0),.int 0 t2]) [(aw.n 0,ab (aw.a 0) (aw.n 1))] b2 (t2+1) tb gl fun b3 t3 aL =>
aO (cm [] H) (cB "str.lower" [.str F (aL.n 0)]) [] b3 t3 tb gl fun b4 t4 aG =>
cW (dY [10,12,14] true) (eM f4 P3 P4 it) (aV 72 [rf e,.str U σ]) ⟨874,15,874,37⟩ [(e,af d),(d,ac w i0 i1 i2 i3 u r DD),(u,ab vs n)] b4 t4 tb gl fun b5 t5 bx =>
cW (eQ w [3,1,8,5,6] H) (eM f4 P3 P4 it) (Zt0 b5) ⟨874,64,874,69⟩ (Zt1 H b5 mw wl ws aG) (b5+3) t5 tb gl fun b6 t6 bo =>
aO (a9 [3,7] fun _=>.bool true) (cB "list.__ne__" [rf (b5+1),rf b6]) [(b5+1,ab (bo.a 0) (bo.n 0)),(b6,ab #[] 0)] (b6+1) t6 tb gl fun b7 t7 e6 =>
bF (Zt2 it) ⟨874,15,874,117⟩ [(it,ad l5 (i+1)),(l5,ab us mu),(874,cn 14 w (pk [(13,ku)] κ) (pk [(6,rf wl),(12,rf e),(13,.str U σ)] ν)),(877,ah (.str H (aG.n 0))),(wl,ab ws mw),(e,af d),(d,ac w i0 i1 i2 i3 u r DD),(u,ab vs n)] b7 t7 tb gl
theorem f5_111':aZ w (eM f4 P3 P4 it) P [(it,ad l5 i),(l5,ab us mu),(874,bN w κ ν (rf wl) (rf e) ku vu),(877,aE cv),(wl,ab ws mw),(e,af d),(d,ac w i0 i1 i2 i3 u r DD),(u,ab vs n)] b t tb gl [0,2,4,6,8,10,12,14] 1 [K83,K81,K75,1,K61,K69,K71,1] [4,3,5,3,2,0,2,0] [] [0,0,0,0,0,3,4] (@f5_111 f4 DD P3 P4 b t it l5 mu i σ wl mw e d u r n i0 i1 i2 i3 ku κ ν U F H us ws vs tb gl w):=by revert w;refine @bs _ ?_ ?_<;>intro w<;>kernel_rfl
theorem f5t_111 (hq:qi < 5) (hx:us[i]?=some (.str (fB qi) σ)) (hlo:∀ W∈Ws,(lowS W).cps.size≤1000) (hwU:aD vs Ws) (hany:Ws.any (bL (lowS (fD qi)))=true) (hw:aD ws Ws) (hn50:Ws.length≤50) (hpos:0 < Ws.length) (IH:∀ P b t ku vu cw,HB w (eU w req) (eM f4 P3 P4 it) P [(it,ad l5 (i+1)),(l5,ab us mu),(874,bN w κ ν (rf wl) (rf e) ku vu),(877,aE (some cw)),(wl,ab ws mw),(e,af d),(d,ac w i0 i1 i2 i3 u r DD),(u,ab vs n)] b t tb gl):HB w (eU w req) (eM f4 P3 P4 it) P [(it,ad l5 i),(l5,ab us mu),(874,bN w κ ν (rf wl) (rf e) ku vu),(877,aE cv),(wl,ab ws mw),(e,af d),(d,ac w i0 i1 i2 i3 u r DD),(u,ab vs n)] b t tb gl:=by
  refine qH (f5_111' (σ:=σ) (κ:=κ) (ν:=ν) (U:=fB qi) (F:=fD qi) (H:=lowS (fD qi))) rfl fun s hs Ξ ar=>?_
  refine gF rfl (aA (ai _) ⟨bf [] [] [] [] [],hx⟩) fun b1 t1 ak _ _ _ _=>?_
  refine gH rfl (fd qi hq) fun b2 t2 aw _ _ hk2 _=>?_
  obtain ⟨τs,hsz⟩:=hk2
  refine gF rfl (dH (k:=0) ⟨bf [τs] [] [] [] [],hsz⟩ (Nat.zero_le _)) fun b3 t3 aL _ _ _ _=>?_
  refine gF rfl (bz (ai _) rfl (dw qi hq)) fun b4 t4 aG _ _ _ _=>?_
  refine gH rfl (dp hq hlo hwU hany) fun b5 t5 bx _ _ _ _=>?_
  refine gH rfl (co iw Y1 rfl (iC hlo hw hn50 hpos)) fun b6 t6 bo _ _ hk6 _=>?_
  have hc:(bo.a 0).toList=(#[]:Array Value).toList++(ws.toList.drop 0).filter (fun v=>bL (lowS (fD qi)) (strOf v)):=hk6
  refine gF rfl (fY (by rw [hc];exact eY hw hany)) fun b7 t7 e6 _ _ _ _=>?_
  exact gG rfl ar hs (IH _ _ _ _ _ _) fun ys hk=>hk
noncomputable def f5_110:Rs :=
aO (aF [0,2] fun _=>.str U σ) (cB "list_iterator.__next__" [rf it]) [(it,ad l5 i),(l5,ab us mu)] b t tb gl fun b1 t1 ak =>
cW (dE [] F) (eM f4 P3 P4 it) (cB "str.split" [.str U σ,sv "/" (t1+1)]) ⟨873,19,873,34⟩ [] b1 (t1+2) tb gl fun b2 t2 aw =>
aO (a9 [16] fun ys=>.str F (ys.n 0)) (cB "list.__getitem__" [rf (aw.n 0),.int 0 t2]) [(aw.n 0,ab (aw.a 0) (aw.n 1))] b2 (t2+1) tb gl fun b3 t3 aL =>
aO (cm [] H) (cB "str.lower" [.str F (aL.n 0)]) [] b3 t3 tb gl fun b4 t4 aG =>
cW (dY [10,12,14] false) (eM f4 P3 P4 it) (aV 72 [rf e,.str U σ]) ⟨874,15,874,37⟩ [(e,af d),(d,ac w i0 i1 i2 i3 u r DD),(u,ab vs n)] b4 t4 tb gl fun b5 t5 bx =>
cW (eQ w [3,1,8,5,6] H) (eM f4 P3 P4 it) (Zt0 b5) ⟨874,64,874,69⟩ (Zt1 H b5 mw wl ws aG) (b5+3) t5 tb gl fun b6 t6 bo =>
aO (a9 [3,7] fun _=>.bool false) (cB "list.__ne__" [rf (b5+1),rf b6]) [(b5+1,ab (bo.a 0) (bo.n 0)),(b6,ab #[] 0)] (b6+1) t6 tb gl fun b7 t7 e6 =>
bF (Zt2 it) ⟨874,15,874,117⟩ [(it,ad l5 (i+1)),(l5,ab us mu),(874,cn 14 w (pk [(13,ku)] κ) (pk [(6,rf wl),(12,rf e),(13,.str U σ)] ν)),(877,ah (.str H (aG.n 0))),(wl,ab ws mw),(e,af d),(d,ac w i0 i1 i2 i3 u r DD),(u,ab vs n)] b7 t7 tb gl
theorem f5_110':aZ w (eM f4 P3 P4 it) P [(it,ad l5 i),(l5,ab us mu),(874,bN w κ ν (rf wl) (rf e) ku vu),(877,aE cv),(wl,ab ws mw),(e,af d),(d,ac w i0 i1 i2 i3 u r DD),(u,ab vs n)] b t tb gl [0,2,4,6,8,10,12,14] 1 [K83,K81,K75,1,K61,K69,K71,1] [4,3,5,3,2,0,2,0] [] [0,0,0,0,0,3,4] (@f5_110 f4 DD P3 P4 b t it l5 mu i σ wl mw e d u r n i0 i1 i2 i3 ku κ ν U F H us ws vs tb gl w):=by revert w;refine @bs _ ?_ ?_<;>intro w<;>kernel_rfl
theorem f5t_110 (hq:qi < 5) (hx:us[i]?=some (.str (fB qi) σ)) (hlo:∀ W∈Ws,(lowS W).cps.size≤1000) (hwU:aD vs Ws) (hany:Ws.any (bL (lowS (fD qi)))=false) (hw:aD ws Ws) (hn50:Ws.length≤50) (hpos:0 < Ws.length) (IH:∀ P b t ku vu cw,HB w (eU w req) (eM f4 P3 P4 it) P [(it,ad l5 (i+1)),(l5,ab us mu),(874,bN w κ ν (rf wl) (rf e) ku vu),(877,aE (some cw)),(wl,ab ws mw),(e,af d),(d,ac w i0 i1 i2 i3 u r DD),(u,ab vs n)] b t tb gl):HB w (eU w req) (eM f4 P3 P4 it) P [(it,ad l5 i),(l5,ab us mu),(874,bN w κ ν (rf wl) (rf e) ku vu),(877,aE cv),(wl,ab ws mw),(e,af d),(d,ac w i0 i1 i2 i3 u r DD),(u,ab vs n)] b t tb gl:=by
  refine qH (f5_110' (σ:=σ) (κ:=κ) (ν:=ν) (U:=fB qi) (F:=fD qi) (H:=lowS (fD qi))) rfl fun s hs Ξ ar=>?_
  refine gF rfl (aA (ai _) ⟨bf [] [] [] [] [],hx⟩) fun b1 t1 ak _ _ _ _=>?_
  refine gH rfl (fd qi hq) fun b2 t2 aw _ _ hk2 _=>?_
  obtain ⟨τs,hsz⟩:=hk2
  refine gF rfl (dH (k:=0) ⟨bf [τs] [] [] [] [],hsz⟩ (Nat.zero_le _)) fun b3 t3 aL _ _ _ _=>?_
  refine gF rfl (bz (ai _) rfl (dw qi hq)) fun b4 t4 aG _ _ _ _=>?_
  refine gH rfl (dp hq hlo hwU hany) fun b5 t5 bx _ _ _ _=>?_
  refine gH rfl (co iw Y1 rfl (iC hlo hw hn50 hpos)) fun b6 t6 bo _ _ hk6 _=>?_
  have hc:(bo.a 0).toList=(#[]:Array Value).toList++(ws.toList.drop 0).filter (fun v=>bL (lowS (fD qi)) (strOf v)):=hk6
  refine gF rfl (fY (by rw [hc];exact eY hw hany)) fun b7 t7 e6 _ _ _ _=>?_
  exact gG rfl ar hs (IH _ _ _ _ _ _) fun ys hk=>hk
noncomputable def f5_100:Rs :=
aO (aF [0,2] fun _=>.str U σ) (cB "list_iterator.__next__" [rf it]) [(it,ad l5 i),(l5,ab us mu)] b t tb gl fun b1 t1 ak =>
cW (dE [] F) (eM f4 P3 P4 it) (cB "str.split" [.str U σ,sv "/" (t1+1)]) ⟨873,19,873,34⟩ [] b1 (t1+2) tb gl fun b2 t2 aw =>
aO (a9 [16] fun ys=>.str F (ys.n 0)) (cB "list.__getitem__" [rf (aw.n 0),.int 0 t2]) [(aw.n 0,ab (aw.a 0) (aw.n 1))] b2 (t2+1) tb gl fun b3 t3 aL =>
aO (cm [] H) (cB "str.lower" [.str F (aL.n 0)]) [] b3 t3 tb gl fun b4 t4 aG =>
cW (dY [10,12,14] false) (eM f4 P3 P4 it) (aV 72 [rf e,.str U σ]) ⟨874,15,874,37⟩ [(e,af d),(d,ac w i0 i1 i2 i3 u r DD),(u,ab vs n)] b4 t4 tb gl fun b5 t5 bx =>
cW (mT [3,1,8,5,6]) (eM f4 P3 P4 it) (Zt0 b5) ⟨874,64,874,69⟩ (Zt1 H b5 mw wl ws aG) (b5+3) t5 tb gl fun b6 t6 bo =>
aO (a9 [3,7] fun _=>.bool false) (cB "list.__ne__" [rf (b5+1),rf b6]) [(b5+1,ab #[] (bo.n 0)),(b6,ab #[] 0)] (b6+1) t6 tb gl fun b7 t7 e6 =>
bF (Zt2 it) ⟨874,15,874,117⟩ [(it,ad l5 (i+1)),(l5,ab us mu),(874,cn 14 w (pk [(13,ku)] κ) (pk [(6,rf wl),(12,rf e),(13,.str U σ)] ν)),(877,ah (.str H (aG.n 0))),(wl,ab ws mw),(e,af d),(d,ac w i0 i1 i2 i3 u r DD),(u,ab vs n)] b7 t7 tb gl
theorem f5_100':aZ w (eM f4 P3 P4 it) P [(it,ad l5 i),(l5,ab us mu),(874,bN w κ ν (rf wl) (rf e) ku vu),(877,aE cv),(wl,ab ws mw),(e,af d),(d,ac w i0 i1 i2 i3 u r DD),(u,ab vs n)] b t tb gl [0,2,4,6,8,10,12,14] 1 [K83,K81,K75,1,K61,K69,0x113070345,1] [4,3,5,3,2,0,2,0] [] [0,0,0,0,0,3,4] (@f5_100 f4 DD P3 P4 b t it l5 mu i σ wl mw e d u r n i0 i1 i2 i3 ku κ ν U F H us ws vs tb gl w):=by revert w;refine @bs _ ?_ ?_<;>intro w<;>kernel_rfl
theorem f5t_100 (hq:qi < 5) (hx:us[i]?=some (.str (fB qi) σ)) (hlo:∀ W∈Ws,(lowS W).cps.size≤1000) (hwU:aD vs Ws) (hany:Ws.any (bL (lowS (fD qi)))=false) (IH:∀ P b t ku vu cw,HB w (eU w req) (eM f4 P3 P4 it) P [(it,ad l5 (i+1)),(l5,ab us mu),(874,bN w κ ν (rf wl) (rf e) ku vu),(877,aE (some cw)),(wl,ab #[] mw),(e,af d),(d,ac w i0 i1 i2 i3 u r DD),(u,ab vs n)] b t tb gl):HB w (eU w req) (eM f4 P3 P4 it) P [(it,ad l5 i),(l5,ab us mu),(874,bN w κ ν (rf wl) (rf e) ku vu),(877,aE cv),(wl,ab #[] mw),(e,af d),(d,ac w i0 i1 i2 i3 u r DD),(u,ab vs n)] b t tb gl:=by
  refine qH (f5_100' (σ:=σ) (κ:=κ) (ν:=ν) (U:=fB qi) (F:=fD qi) (H:=lowS (fD qi))) rfl fun s hs Ξ ar=>?_
  refine gF rfl (aA (ai _) ⟨bf [] [] [] [] [],hx⟩) fun b1 t1 ak _ _ _ _=>?_
  refine gH rfl (fd qi hq) fun b2 t2 aw _ _ hk2 _=>?_
  obtain ⟨τs,hsz⟩:=hk2
  refine gF rfl (dH (k:=0) ⟨bf [τs] [] [] [] [],hsz⟩ (Nat.zero_le _)) fun b3 t3 aL _ _ _ _=>?_
  refine gF rfl (bz (ai _) rfl (dw qi hq)) fun b4 t4 aG _ _ _ _=>?_
  refine gH rfl (dp hq hlo hwU hany) fun b5 t5 bx _ _ _ _=>?_
  refine gH rfl (co iw Y1 rfl (lg (a:=#[]))) fun b6 t6 bo _ _ _ _=>?_
  refine gF rfl (dn (Ws:=[]) .nil .nil) fun b7 t7 e6 _ _ _ _=>?_
  exact gG rfl ar hs (IH _ _ _ _ _ _) fun ys hk=>hk
noncomputable def f5_E:Rs :=
cW (e8 [0,2]) (eM f4 P3 P4 it) (cB "list_iterator.__next__" [rf it]) ⟨872,12,872,16⟩ [(it,ad l5 i),(l5,ab us mu)] b t tb gl fun b1 t1 ak =>
cF (.ok .next) [(it,fO "list_iterator" [.none,nv i 0]),(l5,ab us mu),(874,cn 14 w (pk [(13,ku)] κ) (pk [(6,rf wl),(12,rf e),(13,vu)] ν)),(877,⟨.type "cell",none,.cell cv,#[]⟩),(wl,ab ws mw),(e,af d),(d,ac w i0 i1 i2 i3 u r DD),(u,ab vs n)] b1 t1 tb gl
theorem f5_E':aZ w (eM f4 P3 P4 it) P [(it,ad l5 i),(l5,ab us mu),(874,bN w κ ν (rf wl) (rf e) ku vu),(877,aE cv),(wl,ab ws mw),(e,af d),(d,ac w i0 i1 i2 i3 u r DD),(u,ab vs n)] b t tb gl [0,2,4,6,8,10,12,14] 1 [K83,0x13ec998828] [0] [] [] (@f5_E f4 vu DD P3 P4 b t it l5 mu i wl mw e d u r n i0 i1 i2 i3 ku κ ν cv us ws vs tb gl w):=by kernel_rfl
theorem f5t_E (hx:us[i]?=none):HB w (eU w req) (eM f4 P3 P4 it) P [(it,ad l5 i),(l5,ab us mu),(874,bN w κ ν (rf wl) (rf e) ku vu),(877,aE (some cw)),(wl,ab ws mw),(e,af d),(d,ac w i0 i1 i2 i3 u r DD),(u,ab vs n)] b t tb gl:=by
  refine qH (f5_E' (κ:=κ) (ν:=ν)) rfl fun s hs Ξ ar=>?_
  refine gH rfl (cT (ai _) hx) fun b1 t1 ak _ _ _ _=>?_
  exact gD rfl ar fun s' hA hF=>⟨bf [i,ku] [] [vu,cw] [] [],_,_,trivial,rfl,rfl,hA,hF,fun a h=>h,ag⟩
theorem lh {us:Array Value} (hus:StrsAre us.toList usL) {i:Nat} (hi:i < 5):∃ σ,us[i]?=some (.str (fB i) σ):=by
  obtain ⟨σ,hσ⟩:=StrsAre.get hus i (fB i) (by simp [usL,hi])
  rw [Array.getElem?_toList] at hσ
  exact ⟨σ,hσ⟩
theorem ia (hlo:∀ W∈Ws,(lowS W).cps.size≤1000) (hn50:Ws.length≤50) (hus:aD us usL) (hw:aD ws Ws) (hwU:aD vs Ws):∀ (k:Nat) {P:Pos} {b t i ku:Nat} {vu cw:Value},5 - i=k→HB w (eU w req) (eM f4 P3 P4 it) P [(it,ad l5 i),(l5,ab us mu),(874,bN w κ ν (rf wl) (rf e) ku vu),(877,aE (some cw)),(wl,ab ws mw),(e,af d),(d,ac w i0 i1 i2 i3 u r DD),(u,ab vs n)] b t tb gl:=by
  intro k
  induction k with
  | zero =>
    intro P b t i ku vu cw hk
    have hl:us.toList.length=usL.length:=StrsAre.length hus
    exact f5t_E (Array.getElem?_eq_none (by simp [usL] at hl;omega))
  | succ k ih =>
    intro P b t i ku vu cw hk
    obtain ⟨σ,hσ⟩:=lh hus (i:=i) (by omega)
    rcases Nat.eq_zero_or_pos Ws.length with h0 | hpos
    · have:Ws=[]:=List.eq_nil_of_length_eq_zero h0
      subst this
      have e0:=bH (StrsAre.nil_inv hw)
      subst e0
      exact f5t_100 (qi:=i) (by omega) hσ hlo hwU rfl fun P b t ku vu cw=>ih (by omega)
    · cases hany:Ws.any (bL (lowS (fD i))) with
      | true=>exact f5t_111 (qi:=i) (by omega) hσ hlo hwU hany hw hn50 hpos fun P b t ku vu cw=>ih (by omega)
      | false=>exact f5t_110 (qi:=i) (by omega) hσ hlo hwU hany hw hn50 hpos fun P b t ku vu cw=>ih (by omega)
theorem f5_ok (hlo:∀ W∈Ws,(lowS W).cps.size≤1000) (hn50:Ws.length≤50) (hus:aD us usL) (hw:aD ws Ws) (hwU:aD vs Ws):HB w (eU w req) (eM f4 P3 P4 it) P [(it,ad l5 0),(l5,ab us mu),(874,aU w κ ν (rf wl) (rf e)),(877,aE cv),(wl,ab ws mw),(e,af d),(d,ac w i0 i1 i2 i3 u r DD),(u,ab vs n)] b t tb gl:=by
    obtain ⟨σ,hσ⟩:=lh hus (i:=0) (by omega)
    rcases Nat.eq_zero_or_pos Ws.length with h0 | hpos
    · have:Ws=[]:=List.eq_nil_of_length_eq_zero h0
      subst this
      have e0:=bH (StrsAre.nil_inv hw)
      subst e0
      exact f5t_000 (qi:=0) (by omega) hσ hlo hwU rfl fun P b t ku vu cw=>ia hlo hn50 hus hw hwU 4 rfl
    · cases hany:Ws.any (bL (lowS (fD 0))) with
      | true=>exact f5t_011 (qi:=0) (by omega) hσ hlo hwU hany hw hn50 hpos fun P b t ku vu cw=>ia hlo hn50 hus hw hwU 4 rfl
      | false=>exact f5t_010 (qi:=0) (by omega) hσ hlo hwU hany hw hn50 hpos fun P b t ku vu cw=>ia hlo hn50 hus hw hwU 4 rfl
end
section
variable {P P3 p:Pos} {b t it l2 m2 i al ma e d u r n o i0 i1 i2 i3 x σ eL dL uL rL nL oL iL0 iL1 iL2 iL3 eR dR uR rR nR oR iR0 iR1 iR2 iR3:Nat} {κ:Nat→Nat} {ν:Nat→Value} {wv ev D:Value} {xs as vs tb vsL vsR:Array Value} {gl:List GenState} {w:World} {Γ:Ctx} {x0 x1 x2:Addr×Obj} {B C:ax} {ch:Ch} {req:List Nat} {Ws:List Str}
noncomputable abbrev frN (P:Params) (κ:Nat→Nat) (ν:Nat→Value) (wv:Value):Obj:=⟨.type "frame",none,.dict ⟨(frL P κ ν wv .none).take 12⟩ 12,bp⟩
noncomputable abbrev ge (w:World):=frN w.params
noncomputable def S2L:Stmt:=bt (az aR) 9
noncomputable def setF2 (P:Params) (k:Nat) (v:Value):Obj→Obj
  | ⟨c,dd,.dict es _,sl⟩=>⟨c,dd,.dict ⟨es.toList.take 12++[aq P "entry" k v]⟩ 13,sl⟩
  | o=>o
noncomputable abbrev jy (w:World):=setF2 w.params
noncomputable abbrev eg (w:World) (req:List Nat):Hk:=dS req (fun _ _=>.ok .next) (fun pre ys=>match pre with
  | _ :: l :: f :: r=>cc (ys.n 0) :: l.2 :: jy w (ys.n 1) (ys.v 0) f.2 :: r.map (·.2)
  | _=>[]) (fun _ _=>[]) (fun _ _=>True)
theorem gh {w:World} {req:List Nat} {x0 x1 x2:Addr×Obj} {r:ax} {ys:Ys}:((eg w req).objs (x0 :: x1 :: x2 :: r) ys).length=(x0 :: x1 :: x2 :: r).length:=by
  show (_ :: _ :: _ :: r.map (·.2)).length=_
  simp
theorem nj {w:World} {req:List Nat} {x0 x1 x2:Addr×Obj} {r:ax} {ys:Ys}:List.zipWith (fun (x:Addr×Obj) o=>(x.1,o)) (x0 :: x1 :: x2 :: r) ((eg w req).objs (x0 :: x1 :: x2 :: r) ys)++(eg w req).adds (x0 :: x1 :: x2 :: r) ys=(x0.1,cc (ys.n 0)) :: (x1.1,x1.2) :: (x2.1,jy w (ys.n 1) (ys.v 0) x2.2) :: r:=by
  show (x0.1,cc (ys.n 0)) :: (x1.1,x1.2) :: (x2.1,jy w (ys.n 1) (ys.v 0) x2.2) :: List.zipWith (fun (x:Addr×Obj) o=>(x.1,o)) r (r.map (·.2))++[]=_
  rw [bX,List.append_nil]
theorem f2_perm (q:B.Perm C) (H:an (Vp w) (eg w req) Γ p (x0 :: x1 :: x2 :: C) b t ch gl):an (Vp w) (eg w req) Γ p (x0 :: x1 :: x2 :: B) b t ch gl:=fun s hs=>by
  obtain ⟨ys,b',t',s',hk,hr,hl,ha,hf,hc,hd⟩:=H s (hs.perm (.cons _ (.cons _ (.cons _ q))))
  refine ⟨ys,b',t',s',hk,hr,gh,?_,?_,hc,ag⟩
  · rw [nj] at ha ⊢
    exact ha.perm (.cons _ (.cons _ (.cons _ q.symm)))
  · refine ⟨fun a o h1 h2 h3=>hf.keep a o h1 (fun hm=>h2 ?_) h3,hf.size,hf.toks,hf.os,hf.drawn⟩
    exact ((List.Perm.cons x0 (.cons x1 (.cons x2 q))).map (fun x:Addr×Obj=>x.1)).mem_iff.mpr hm
theorem d9 {Ws:List Str} (h:aJ Ws):∀ W∈Ws,W.cps.size≤100:=fun W hW=>by
  obtain ⟨d,hd,rfl⟩:=h W hW
  exact gX d hd
theorem cE {x y:Str} {vs as:Array Value} {Ws:List Str} {D:Value} (h1:x=iX (vs.toList.map strOf) D) (h2:y=iX (as.toList.map strOf) D) (hw:StrsAre vs.toList Ws) (hwa:StrsAre as.toList Ws):x=y:=by
  rw [h1,h2,StrsAre.strs hw,StrsAre.strs hwa]
noncomputable abbrev f3 (P3:Pos) (it:Nat):Ctx:=⟨aH S2L (rf it) au,none,none,[(bW aR au,P3),(aI,p0)],none⟩
noncomputable def f2_00:Rs :=
aO (aF [0,2] fun _=>.ref e) (cB "list_iterator.__next__" [rf it]) [(it,ad l2 i),(l2,ab xs m2)] b t tb gl fun b1 t1 ak =>
aO (a9 [14,8] fun _=>.bool false) (cB "list.__ne__" [rf u,rf al]) [(u,ab vs n),(al,ab as ma)] b1 (t1+2) tb gl fun b2 t2 aw =>
cW (da [10,12,14,16]) (f3 P3 it) (.call (.type "str") ⟨[rf e],[]⟩) ⟨866,64,866,74⟩ [(e,af d),(d,ac w i0 i1 i2 i3 u r .none),(u,ab vs n),(r,ab #[] o)] b2 (t2+1) tb gl fun b3 t3 aL =>
cW (c9 [8] .none) (f3 P3 it) (aV 867 [rf al,.none]) ⟨866,78,866,101⟩ [(al,ab as ma)] b3 t3 tb gl fun b4 t4 aG =>
aO (a9 [] fun _=>.bool false) (cB "str.__ne__" [.str (aL.s 0) (aL.n 0),.str (aG.s 0) (aG.n 0)]) [] b4 t4 tb gl fun b5 t5 bx =>
bF (aH (bt (az aR) 9) (rf it) au) ⟨866,64,866,101⟩ [(it,ad l2 (i+1)),(l2,ab xs m2),(874,cn 13 w (pk [(12,t1)] κ) (pk [(6,wv),(10,rf al),(12,rf e)] ν)),(876,ah .none),(al,ab as ma),(e,af d),(d,ac w i0 i1 i2 i3 u r .none),(u,ab vs n),(r,ab #[] o)] b5 t5 tb gl
theorem f2_00':aZ w (f3 P3 it) P [(it,ad l2 i),(l2,ab xs m2),(874,ge w κ (pk [(10,rf al)] ν) wv),(876,ah .none),(al,ab as ma),(e,af d),(d,ac w i0 i1 i2 i3 u r .none),(u,ab vs n),(r,ab #[] o)] b t tb gl [0,2,4,6,8,10,12,14,16] 1 [K83,K48,K63,0x12614,1,1] [4,2,4,3,0,0] [] [] (@f2_00 P3 b t it l2 m2 i al ma e d u r n o i0 i1 i2 i3 κ ν wv xs as vs tb gl w):=by revert w;refine @bs _ ?_ ?_<;>intro w<;>kernel_rfl
theorem f2t_00 (E:ax) (hx:xs[i]?=some (rf e)) (hWd:aJ Ws) (hn50:Ws.length≤50) (hw:aD vs Ws) (hwa:aD as Ws) (IH:∀ P b t k0,HB w (eg w req) (f3 P3 it) P ([(it,ad l2 (i+1)),(l2,ab xs m2),(874,aU w (pk [(12,k0)] κ) (pk [(10,rf al)] ν) wv (rf e)),(876,ah .none),(al,ab as ma),(e,af d),(d,ac w i0 i1 i2 i3 u r .none),(u,ab vs n),(r,ab #[] o)]++E) b t tb gl):HB w (eg w req) (f3 P3 it) P ([(it,ad l2 i),(l2,ab xs m2),(874,ge w κ (pk [(10,rf al)] ν) wv),(876,ah .none),(al,ab as ma),(e,af d),(d,ac w i0 i1 i2 i3 u r .none),(u,ab vs n),(r,ab #[] o)]++E) b t tb gl:=by
  have hD:ay .none:=.inl rfl
  refine qX E (f2_00' (κ:=κ) (ν:=ν)) rfl fun s hs Ξ ar=>?_
  refine gF rfl (aA (ai _) ⟨bf [] [] [] [] [],hx⟩) fun b1 t1 ak _ _ _ _=>?_
  refine gF rfl (dn hw hwa) fun b2 t2 aw _ _ _ _=>?_
  refine gH rfl (eb hD hWd hn50 hw) fun b3 t3 aL _ _ hk3 _=>?_
  refine gH rfl (dq hD (d9 hWd) hn50 hwa) fun b4 t4 aG _ _ hk4 _=>?_
  refine gF rfl (ec (cE hk3 hk4 hw hwa)) fun b5 t5 bx _ _ _ _=>?_
  exact gA rfl ar fun s' hA hF=>d8 hs (IH _ _ _ t1) (hs.addE hA hF (fun a h=>.inl h)) hF.appR (by show b≤_;omega) (dg (fun a h=>.inl h)) fun ys hk _=>⟨ys,hk,rfl,gh,rfl,rfl,rfl,fun a h=>h,ag⟩
noncomputable def f2_01:Rs :=
aO (aF [0,2] fun _=>.ref e) (cB "list_iterator.__next__" [rf it]) [(it,ad l2 i),(l2,ab xs m2)] b t tb gl fun b1 t1 ak =>
aO (a9 [14,8] fun _=>.bool false) (cB "list.__ne__" [rf u,rf al]) [(u,ab vs n),(al,ab as ma)] b1 (t1+2) tb gl fun b2 t2 aw =>
aO (a9 [] fun _=>.bool false) (cB "int.__ne__" [nv x σ,nv x σ]) [] b2 (t2+1) tb gl fun b3 t3 aL =>
cW (da [10,12,14,16]) (f3 P3 it) (.call (.type "str") ⟨[rf e],[]⟩) ⟨866,64,866,74⟩ [(e,af d),(d,ac w i0 i1 i2 i3 u r (nv x σ)),(u,ab vs n),(r,ab #[] o)] b3 t3 tb gl fun b4 t4 aG =>
cW (c9 [8] (nv x σ)) (f3 P3 it) (aV 867 [rf al,nv x σ]) ⟨866,78,866,101⟩ [(al,ab as ma)] b4 t4 tb gl fun b5 t5 bx =>
aO (a9 [] fun _=>.bool false) (cB "str.__ne__" [.str (aG.s 0) (aG.n 0),.str (bx.s 0) (bx.n 0)]) [] b5 t5 tb gl fun b6 t6 bo =>
bF (aH (bt (az aR) 9) (rf it) au) ⟨866,64,866,101⟩ [(it,ad l2 (i+1)),(l2,ab xs m2),(874,cn 13 w (pk [(12,t1)] κ) (pk [(6,wv),(10,rf al),(12,rf e)] ν)),(876,ah (nv x σ)),(al,ab as ma),(e,af d),(d,ac w i0 i1 i2 i3 u r (nv x σ)),(u,ab vs n),(r,ab #[] o)] b6 t6 tb gl
theorem f2_01':aZ w (f3 P3 it) P [(it,ad l2 i),(l2,ab xs m2),(874,ge w κ (pk [(10,rf al)] ν) wv),(876,ah (nv x σ)),(al,ab as ma),(e,af d),(d,ac w i0 i1 i2 i3 u r (nv x σ)),(u,ab vs n),(r,ab #[] o)] b t tb gl [0,2,4,6,8,10,12,14,16] 1 [K83,K48,0x12631c11a01a31a41a24,0x114,0x12614,1,1] [4,2,4,4,3,0,0] [] [] (@f2_01 P3 b t it l2 m2 i al ma e d u r n o i0 i1 i2 i3 x σ κ ν wv xs as vs tb gl w):=by revert w;refine @bs _ ?_ ?_<;>intro w<;>kernel_rfl
theorem f2t_01 (E:ax) (hx:xs[i]?=some (rf e)) (hWd:aJ Ws) (hn50:Ws.length≤50) (hw:aD vs Ws) (hwa:aD as Ws) (hx512:∃ y,y < 512∧x=32768+y) (IH:∀ P b t k0,HB w (eg w req) (f3 P3 it) P ([(it,ad l2 (i+1)),(l2,ab xs m2),(874,aU w (pk [(12,k0)] κ) (pk [(10,rf al)] ν) wv (rf e)),(876,ah (nv x σ)),(al,ab as ma),(e,af d),(d,ac w i0 i1 i2 i3 u r (nv x σ)),(u,ab vs n),(r,ab #[] o)]++E) b t tb gl):HB w (eg w req) (f3 P3 it) P ([(it,ad l2 i),(l2,ab xs m2),(874,ge w κ (pk [(10,rf al)] ν) wv),(876,ah (nv x σ)),(al,ab as ma),(e,af d),(d,ac w i0 i1 i2 i3 u r (nv x σ)),(u,ab vs n),(r,ab #[] o)]++E) b t tb gl:=by
  have hD:ay (.int (.ofNat x) σ):=by obtain ⟨y,hy,rfl⟩:=hx512;exact .inr ⟨y,σ,hy,rfl⟩
  refine qX E (f2_01' (κ:=κ) (ν:=ν)) rfl fun s hs Ξ ar=>?_
  refine gF rfl (aA (ai _) ⟨bf [] [] [] [] [],hx⟩) fun b1 t1 ak _ _ _ _=>?_
  refine gF rfl (dn hw hwa) fun b2 t2 aw _ _ _ _=>?_
  refine gF rfl mP fun b3 t3 aL _ _ _ _=>?_
  refine gH rfl (eb hD hWd hn50 hw) fun b4 t4 aG _ _ hk4 _=>?_
  refine gH rfl (dq hD (d9 hWd) hn50 hwa) fun b5 t5 bx _ _ hk5 _=>?_
  refine gF rfl (ec (cE hk4 hk5 hw hwa)) fun b6 t6 bo _ _ _ _=>?_
  exact gA rfl ar fun s' hA hF=>d8 hs (IH _ _ _ t1) (hs.addE hA hF (fun a h=>.inl h)) hF.appR (by show b≤_;omega) (dg (fun a h=>.inl h)) fun ys hk _=>⟨ys,hk,rfl,gh,rfl,rfl,rfl,fun a h=>h,ag⟩
theorem f2T_0 (E:ax) (hD:ay D) (hx:xs[i]?=some (rf e)) (hWd:aJ Ws) (hn50:Ws.length≤50) (hw:aD vs Ws) (hwa:aD as Ws) (IH:∀ P b t k0,HB w (eg w req) (f3 P3 it) P ([(it,ad l2 (i+1)),(l2,ab xs m2),(874,aU w (pk [(12,k0)] κ) (pk [(10,rf al)] ν) wv (rf e)),(876,ah D),(al,ab as ma),(e,af d),(d,ac w i0 i1 i2 i3 u r D),(u,ab vs n),(r,ab #[] o)]++E) b t tb gl):HB w (eg w req) (f3 P3 it) P ([(it,ad l2 i),(l2,ab xs m2),(874,ge w κ (pk [(10,rf al)] ν) wv),(876,ah D),(al,ab as ma),(e,af d),(d,ac w i0 i1 i2 i3 u r D),(u,ab vs n),(r,ab #[] o)]++E) b t tb gl:=by
  rcases hD with rfl | ⟨y,τ,hy,rfl⟩
  · exact f2t_00 E hx hWd hn50 hw hwa IH
  · exact f2t_01 E hx hWd hn50 hw hwa ⟨y,hy,rfl⟩ IH
noncomputable def f2_10:Rs :=
aO (aF [0,2] fun _=>.ref e) (cB "list_iterator.__next__" [rf it]) [(it,ad l2 i),(l2,ab xs m2)] b t tb gl fun b1 t1 ak =>
aO (a9 [14,8] fun _=>.bool false) (cB "list.__ne__" [rf u,rf al]) [(u,ab vs n),(al,ab as ma)] b1 (t1+2) tb gl fun b2 t2 aw =>
cW (da [10,12,14,16]) (f3 P3 it) (.call (.type "str") ⟨[rf e],[]⟩) ⟨866,64,866,74⟩ [(e,af d),(d,ac w i0 i1 i2 i3 u r .none),(u,ab vs n),(r,ab #[] o)] b2 (t2+1) tb gl fun b3 t3 aL =>
cW (c9 [8] .none) (f3 P3 it) (aV 867 [rf al,.none]) ⟨866,78,866,101⟩ [(al,ab as ma)] b3 t3 tb gl fun b4 t4 aG =>
aO (a9 [] fun _=>.bool false) (cB "str.__ne__" [.str (aL.s 0) (aL.n 0),.str (aG.s 0) (aG.n 0)]) [] b4 t4 tb gl fun b5 t5 bx =>
bF (aH (bt (az aR) 9) (rf it) au) ⟨866,64,866,101⟩ [(it,ad l2 (i+1)),(l2,ab xs m2),(874,cn 13 w κ (pk [(6,wv),(10,rf al),(12,rf e)] ν)),(876,ah .none),(al,ab as ma),(e,af d),(d,ac w i0 i1 i2 i3 u r .none),(u,ab vs n),(r,ab #[] o)] b5 t5 tb gl
theorem f2_10':aZ w (f3 P3 it) P [(it,ad l2 i),(l2,ab xs m2),(874,aU w κ (pk [(10,rf al)] ν) wv ev),(876,ah .none),(al,ab as ma),(e,af d),(d,ac w i0 i1 i2 i3 u r .none),(u,ab vs n),(r,ab #[] o)] b t tb gl [0,2,4,6,8,10,12,14,16] 1 [K83,K48,K63,0x12614,1,1] [4,2,4,3,0,0] [] [] (@f2_10 P3 b t it l2 m2 i al ma e d u r n o i0 i1 i2 i3 κ ν wv xs as vs tb gl w):=by revert w;refine @bs _ ?_ ?_<;>intro w<;>kernel_rfl
theorem f2t_10 (E:ax) (hx:xs[i]?=some (rf e)) (hWd:aJ Ws) (hn50:Ws.length≤50) (hw:aD vs Ws) (hwa:aD as Ws) (IH:∀ P b t k0,HB w (eg w req) (f3 P3 it) P ([(it,ad l2 (i+1)),(l2,ab xs m2),(874,aU w (pk [(12,k0)] κ) (pk [(10,rf al)] ν) wv (rf e)),(876,ah .none),(al,ab as ma),(e,af d),(d,ac w i0 i1 i2 i3 u r .none),(u,ab vs n),(r,ab #[] o)]++E) b t tb gl):HB w (eg w req) (f3 P3 it) P ([(it,ad l2 i),(l2,ab xs m2),(874,aU w κ (pk [(10,rf al)] ν) wv ev),(876,ah .none),(al,ab as ma),(e,af d),(d,ac w i0 i1 i2 i3 u r .none),(u,ab vs n),(r,ab #[] o)]++E) b t tb gl:=by
  have hD:ay .none:=.inl rfl
  refine qX E (f2_10' (κ:=κ) (ν:=ν)) rfl fun s hs Ξ ar=>?_
  refine gF rfl (aA (ai _) ⟨bf [] [] [] [] [],hx⟩) fun b1 t1 ak _ _ _ _=>?_
  refine gF rfl (dn hw hwa) fun b2 t2 aw _ _ _ _=>?_
  refine gH rfl (eb hD hWd hn50 hw) fun b3 t3 aL _ _ hk3 _=>?_
  refine gH rfl (dq hD (d9 hWd) hn50 hwa) fun b4 t4 aG _ _ hk4 _=>?_
  refine gF rfl (ec (cE hk3 hk4 hw hwa)) fun b5 t5 bx _ _ _ _=>?_
  exact gA rfl ar fun s' hA hF=>d8 hs (IH _ _ _ (κ 12)) (hs.addE hA hF (fun a h=>.inl h)) hF.appR (by show b≤_;omega) (dg (fun a h=>.inl h)) fun ys hk _=>⟨ys,hk,rfl,gh,rfl,rfl,rfl,fun a h=>h,ag⟩
noncomputable def f2_11:Rs :=
aO (aF [0,2] fun _=>.ref e) (cB "list_iterator.__next__" [rf it]) [(it,ad l2 i),(l2,ab xs m2)] b t tb gl fun b1 t1 ak =>
aO (a9 [14,8] fun _=>.bool false) (cB "list.__ne__" [rf u,rf al]) [(u,ab vs n),(al,ab as ma)] b1 (t1+2) tb gl fun b2 t2 aw =>
aO (a9 [] fun _=>.bool false) (cB "int.__ne__" [nv x σ,nv x σ]) [] b2 (t2+1) tb gl fun b3 t3 aL =>
cW (da [10,12,14,16]) (f3 P3 it) (.call (.type "str") ⟨[rf e],[]⟩) ⟨866,64,866,74⟩ [(e,af d),(d,ac w i0 i1 i2 i3 u r (nv x σ)),(u,ab vs n),(r,ab #[] o)] b3 t3 tb gl fun b4 t4 aG =>
cW (c9 [8] (nv x σ)) (f3 P3 it) (aV 867 [rf al,nv x σ]) ⟨866,78,866,101⟩ [(al,ab as ma)] b4 t4 tb gl fun b5 t5 bx =>
aO (a9 [] fun _=>.bool false) (cB "str.__ne__" [.str (aG.s 0) (aG.n 0),.str (bx.s 0) (bx.n 0)]) [] b5 t5 tb gl fun b6 t6 bo =>
bF (aH (bt (az aR) 9) (rf it) au) ⟨866,64,866,101⟩ [(it,ad l2 (i+1)),(l2,ab xs m2),(874,cn 13 w κ (pk [(6,wv),(10,rf al),(12,rf e)] ν)),(876,ah (nv x σ)),(al,ab as ma),(e,af d),(d,ac w i0 i1 i2 i3 u r (nv x σ)),(u,ab vs n),(r,ab #[] o)] b6 t6 tb gl
theorem f2_11':aZ w (f3 P3 it) P [(it,ad l2 i),(l2,ab xs m2),(874,aU w κ (pk [(10,rf al)] ν) wv ev),(876,ah (nv x σ)),(al,ab as ma),(e,af d),(d,ac w i0 i1 i2 i3 u r (nv x σ)),(u,ab vs n),(r,ab #[] o)] b t tb gl [0,2,4,6,8,10,12,14,16] 1 [K83,K48,0x12631c11a01a31a41a24,0x114,0x12614,1,1] [4,2,4,4,3,0,0] [] [] (@f2_11 P3 b t it l2 m2 i al ma e d u r n o i0 i1 i2 i3 x σ κ ν wv xs as vs tb gl w):=by revert w;refine @bs _ ?_ ?_<;>intro w<;>kernel_rfl
theorem f2t_11 (E:ax) (hx:xs[i]?=some (rf e)) (hWd:aJ Ws) (hn50:Ws.length≤50) (hw:aD vs Ws) (hwa:aD as Ws) (hx512:∃ y,y < 512∧x=32768+y) (IH:∀ P b t k0,HB w (eg w req) (f3 P3 it) P ([(it,ad l2 (i+1)),(l2,ab xs m2),(874,aU w (pk [(12,k0)] κ) (pk [(10,rf al)] ν) wv (rf e)),(876,ah (nv x σ)),(al,ab as ma),(e,af d),(d,ac w i0 i1 i2 i3 u r (nv x σ)),(u,ab vs n),(r,ab #[] o)]++E) b t tb gl):HB w (eg w req) (f3 P3 it) P ([(it,ad l2 i),(l2,ab xs m2),(874,aU w κ (pk [(10,rf al)] ν) wv ev),(876,ah (nv x σ)),(al,ab as ma),(e,af d),(d,ac w i0 i1 i2 i3 u r (nv x σ)),(u,ab vs n),(r,ab #[] o)]++E) b t tb gl:=by
  have hD:ay (.int (.ofNat x) σ):=by obtain ⟨y,hy,rfl⟩:=hx512;exact .inr ⟨y,σ,hy,rfl⟩
  refine qX E (f2_11' (κ:=κ) (ν:=ν)) rfl fun s hs Ξ ar=>?_
  refine gF rfl (aA (ai _) ⟨bf [] [] [] [] [],hx⟩) fun b1 t1 ak _ _ _ _=>?_
  refine gF rfl (dn hw hwa) fun b2 t2 aw _ _ _ _=>?_
  refine gF rfl mP fun b3 t3 aL _ _ _ _=>?_
  refine gH rfl (eb hD hWd hn50 hw) fun b4 t4 aG _ _ hk4 _=>?_
  refine gH rfl (dq hD (d9 hWd) hn50 hwa) fun b5 t5 bx _ _ hk5 _=>?_
  refine gF rfl (ec (cE hk4 hk5 hw hwa)) fun b6 t6 bo _ _ _ _=>?_
  exact gA rfl ar fun s' hA hF=>d8 hs (IH _ _ _ (κ 12)) (hs.addE hA hF (fun a h=>.inl h)) hF.appR (by show b≤_;omega) (dg (fun a h=>.inl h)) fun ys hk _=>⟨ys,hk,rfl,gh,rfl,rfl,rfl,fun a h=>h,ag⟩
theorem f2T_1 (E:ax) (hD:ay D) (hx:xs[i]?=some (rf e)) (hWd:aJ Ws) (hn50:Ws.length≤50) (hw:aD vs Ws) (hwa:aD as Ws) (IH:∀ P b t k0,HB w (eg w req) (f3 P3 it) P ([(it,ad l2 (i+1)),(l2,ab xs m2),(874,aU w (pk [(12,k0)] κ) (pk [(10,rf al)] ν) wv (rf e)),(876,ah D),(al,ab as ma),(e,af d),(d,ac w i0 i1 i2 i3 u r D),(u,ab vs n),(r,ab #[] o)]++E) b t tb gl):HB w (eg w req) (f3 P3 it) P ([(it,ad l2 i),(l2,ab xs m2),(874,aU w κ (pk [(10,rf al)] ν) wv ev),(876,ah D),(al,ab as ma),(e,af d),(d,ac w i0 i1 i2 i3 u r D),(u,ab vs n),(r,ab #[] o)]++E) b t tb gl:=by
  rcases hD with rfl | ⟨y,τ,hy,rfl⟩
  · exact f2t_10 E hx hWd hn50 hw hwa IH
  · exact f2t_11 E hx hWd hn50 hw hwa ⟨y,hy,rfl⟩ IH
noncomputable def f2_E:Rs :=
cW (e8 [0,2]) (f3 P3 it) (cB "list_iterator.__next__" [rf it]) ⟨865,8,865,13⟩ [(it,ad l2 i),(l2,ab xs m2)] b t tb gl fun b1 t1 ak =>
cF (.ok .next) [(it,fO "list_iterator" [.none,nv i 0]),(l2,ab xs m2),(874,cn 13 w κ (pk [(6,wv),(10,rf al),(12,ev)] ν))] b1 t1 tb gl
theorem f2_E':aZ w (f3 P3 it) P [(it,ad l2 i),(l2,ab xs m2),(874,aU w κ (pk [(10,rf al)] ν) wv ev)] b t tb gl [0,2,4] 1 [K83,0x13ec99886] [0] [] [] (@f2_E P3 b t it l2 m2 i al κ ν wv ev xs tb gl w):=by kernel_rfl
theorem f2t_E (E:ax) (hx:xs[i]?=none):HB w (eg w req) (f3 P3 it) P ([(it,ad l2 i),(l2,ab xs m2),(874,aU w κ (pk [(10,rf al)] ν) wv ev)]++E) b t tb gl:=by
  refine qX E (f2_E' (κ:=κ) (ν:=ν)) rfl fun s hs Ξ ar=>?_
  refine gH rfl (cT (ai _) hx) fun b1 t1 ak _ _ _ _=>?_
  exact gD rfl ar fun s' hA hF=>⟨(bf [i,κ 12] [] [ev] [] []),_,_,trivial,rfl,gh,At.eqX (nj (w:=w) (req:=req) (ys:=(bf [i,κ 12] [] [ev] [] [])) (x0:=(it,ad l2 i)) (x1:=(l2,ab xs m2)) (x2:=(874,aU w κ (pk [(10,.ref al)] ν) wv ev)) (r:=E)).symm (hs.addE hA hF (fun a h=>.inl h)),hF.appR,fun a h=>h,ag⟩
theorem f2_L1 (hD:ay D) (hWd:aJ Ws) (hn50:Ws.length≤50) (hwL:aD vsL Ws) (hwR:aD vsR Ws) (hwa:aD as Ws):HB w (eg w req) (f3 P3 it) P ([(it,ad l2 1),(l2,ab #[rf eL,rf eR] m2),(874,aU w κ (pk [(10,rf al)] ν) wv (rf eL))]++([(876,ah D),(al,ab as ma)]++([(eR,af dR),(dR,ac w iR0 iR1 iR2 iR3 uR rR D),(uR,ab vsR nR),(rR,ab #[] oR)]++[(eL,af dL),(dL,ac w iL0 iL1 iL2 iL3 uL rL D),(uL,ab vsL nL),(rL,ab #[] oL)]))) b t tb gl :=
  f2T_1 [(eL,af dL),(dL,ac w iL0 iL1 iL2 iL3 uL rL D),(uL,ab vsL nL),(rL,ab #[] oL)] hD rfl hWd hn50 hwR hwa fun P b t k0=>f2t_E _ rfl
theorem f2_ok (hD:ay D) (hWd:aJ Ws) (hn50:Ws.length≤50) (hwL:aD vsL Ws) (hwR:aD vsR Ws) (hwa:aD as Ws):HB w (eg w req) (f3 P3 it) P ([(it,ad l2 0),(l2,ab #[rf eL,rf eR] m2),(874,ge w κ (pk [(10,rf al)] ν) wv)]++([(876,ah D),(al,ab as ma)]++([(eL,af dL),(dL,ac w iL0 iL1 iL2 iL3 uL rL D),(uL,ab vsL nL),(rL,ab #[] oL)]++[(eR,af dR),(dR,ac w iR0 iR1 iR2 iR3 uR rR D),(uR,ab vsR nR),(rR,ab #[] oR)]))) b t tb gl :=
  f2T_0 [(eR,af dR),(dR,ac w iR0 iR1 iR2 iR3 uR rR D),(uR,ab vsR nR),(rR,ab #[] oR)] hD rfl hWd hn50 hwL hwa fun P b t k0=>f2_perm ((List.Perm.refl [(876,ah D),(al,ab as ma)]).append (List.perm_append_comm (l₁:=[(eL,af dL),(dL,ac w iL0 iL1 iL2 iL3 uL rL D),(uL,ab vsL nL),(rL,ab #[] oL)]) (l₂:=[(eR,af dR),(dR,ac w iR0 iR1 iR2 iR3 uR rR D),(uR,ab vsR nR),(rR,ab #[] oR)]))) (f2_L1 hD hWd hn50 hwL hwR hwa)
end
section
variable {P P3 p:Pos} {b t it l4 m4 i tt wl mw e d u r n i0 i1 i2 i3 ku t0 w0 e0 d0 u0 r0 m0 n0 i00 i01 i02 i03 t1 w1 e1 d1 u1 r1 m1 n1 i10 i11 i12 i13 t2 w2 e2 d2 u2 r2 m2 n2 i20 i21 i22 i23:Nat} {κ:Nat→Nat} {ν:Nat→Value} {wv ev vu DD cw D0 D1 D2:Value} {cv:Option Value} {xs ws vs tb ws0 vs0 ws1 vs1 ws2 vs2:Array Value} {gl:List GenState} {w:World} {req:List Nat} {Ws Ws0 Ws1 Ws2:List Str} {Γ:Ctx} {x0 x1 x2 x3:Addr×Obj} {B C:ax} {ch:Ch}
noncomputable abbrev cK (a b:Addr):Obj:=⟨.type "tuple",none,.seq #[.ref a,.ref b] 0,#[]⟩
noncomputable def setF4 (P:Params) (k:Nat) (wv ev v:Value):Obj→Obj
  | ⟨c,dd,.dict es _,sl⟩=>⟨c,dd,.dict ⟨mF (mF (es.toList.take 13) 6 wv) 12 ev++[aq P "user" k v]⟩ 14,sl⟩
  | o=>o
noncomputable abbrev jx (w:World):=setF4 w.params
noncomputable abbrev eV (w:World) (req:List Nat):Hk:=dS req (fun _ _=>.ok .next) (fun pre ys=>match pre with
  | _ :: l :: f :: _ :: r=>cc (ys.n 0) :: l.2 :: jx w (ys.n 1) (ys.v 0) (ys.v 1) (ys.v 2) f.2 :: aE (some (ys.v 3)) :: r.map (·.2)
  | _=>[]) (fun _ _=>[]) (fun _ _=>True)
theorem gg {w:World} {req:List Nat} {x0 x1 x2 x3:Addr×Obj} {r:ax} {ys:Ys}:((eV w req).objs (x0 :: x1 :: x2 :: x3 :: r) ys).length=(x0 :: x1 :: x2 :: x3 :: r).length:=by
  show (_ :: _ :: _ :: _ :: r.map (·.2)).length=_
  simp
theorem p2 (A B C:ax):(A++(B++C)).Perm (B++(A++C)):=by
  rw [← List.append_assoc,← List.append_assoc];exact List.perm_append_comm.append_right C
theorem p3 (A B C:ax):(B++(A++C)).Perm (C++(A++B)):=by
  have h1:(B++(A++C)).Perm ((A++C)++B):=List.perm_append_comm
  refine h1.trans ?_
  rw [← List.append_assoc]
  exact (List.perm_append_comm (l₁:=A) (l₂:=C)).append_right B
theorem ng {w:World} {req:List Nat} {x0 x1 x2 x3:Addr×Obj} {r:ax} {ys:Ys}:List.zipWith (fun (x:Addr×Obj) o=>(x.1,o)) (x0 :: x1 :: x2 :: x3 :: r) ((eV w req).objs (x0 :: x1 :: x2 :: x3 :: r) ys)++(eV w req).adds (x0 :: x1 :: x2 :: x3 :: r) ys=(x0.1,cc (ys.n 0)) :: (x1.1,x1.2) :: (x2.1,jx w (ys.n 1) (ys.v 0) (ys.v 1) (ys.v 2) x2.2) :: (x3.1,aE (some (ys.v 3))) :: r:=by
  show (x0.1,cc (ys.n 0)) :: (x1.1,x1.2) :: (x2.1,jx w (ys.n 1) (ys.v 0) (ys.v 1) (ys.v 2) x2.2) :: (x3.1,aE (some (ys.v 3))) :: List.zipWith (fun (x:Addr×Obj) o=>(x.1,o)) r (r.map (·.2))++[]=_
  rw [bX,List.append_nil]
theorem iD {a b c d e:Nat}:StrsAre (⟨[.str (aX "A") a,.str (aX "xa b/1") b,.str (aX "B'/a") c,.str (aX "Q/a") d,.str (aX "") e]⟩:Array Value).toList usL:=by
  show StrsAre _ [fB 0,fB 1,fB 2,fB 3,fB 4]
  exact .cons _ _ (.cons _ _ (.cons _ _ (.cons _ _ (.cons _ _ .nil))))
noncomputable abbrev gr (P3:Pos) (it:Nat):Ctx:=⟨aH S4L (rf it) au,none,none,[(bW aR au,P3),(aI,p0)],none⟩
noncomputable abbrev Zu0 (b1:Nat):Code :=
  (aH (bt (fX (bt (az aR) 11)) 0) (rf (b1+4)) au)
noncomputable def f4_00:Rs :=
aO (aF [0,2] fun _=>.ref tt) (cB "list_iterator.__next__" [rf it]) [(it,ad l4 i),(l4,ab xs m4)] b t tb gl fun b1 t1 ak =>
cW (eU w [9,7,4,6,10,12,14,16]) (gr P3 it) (Zu0 b1) ⟨872,20,872,54⟩ [(b1+4,ad (b1+3) 0),(b1+3,ab #[sv "A" (t1+2),sv "xa b/1" (t1+3),sv "B'/a" (t1+4),sv "Q/a" (t1+5),sv "" (t1+6)] 0),(874,cn 13 w κ (pk [(6,rf wl),(12,rf e)] ν)),(877,⟨.type "cell",none,.cell cv,#[]⟩),(wl,ab ws mw),(e,af d),(d,ac w i0 i1 i2 i3 u r DD),(u,ab vs n)] (b1+5) (t1+7) tb gl fun b2 t2 aw =>
cW (dY [12,14,16] false) (gr P3 it) (aV 72 [rf e,.none]) ⟨876,11,876,33⟩ [(e,af d),(d,ac w i0 i1 i2 i3 u r DD),(u,ab vs n)] b2 t2 tb gl fun b3 t3 aL =>
aO (a9 [10] fun _=>.bool false) (cB "list.__contains__" [rf wl,sv "*" t3]) [(wl,ab ws mw)] b3 (t3+1) tb gl fun b4 t4 aG =>
bF (aH (bt (az aR) 11) (rf it) au) ⟨876,11,876,55⟩ [(it,ad l4 (i+1)),(l4,ab xs m4),(874,cn 14 w (pk [(13,aw.n 1)] κ) (pk [(6,rf wl),(12,rf e),(13,aw.v 0)] ν)),(877,ah (aw.v 1)),(tt,sO "tuple" [rf wl,rf e] 0),(wl,ab ws mw),(e,af d),(d,ac w i0 i1 i2 i3 u r DD),(u,ab vs n)] b4 t4 tb gl
theorem f4_00':aZ w (gr P3 it) P [(it,ad l4 i),(l4,ab xs m4),(874,aU w κ ν wv ev),(877,aE cv),(tt,cK wl e),(wl,ab ws mw),(e,af d),(d,ac w i0 i1 i2 i3 u r DD),(u,ab vs n)] b t tb gl [0,2,4,6,8,10,12,14,16] 1 [K83,K31,K65,K78,1] [0,2,3,1,0] [] [0,5,5,5] (@f4_00 P3 b t it l4 m4 i tt wl mw e d u r n i0 i1 i2 i3 κ ν DD cv xs ws vs tb gl w):=by revert w;refine @bs _ ?_ ?_<;>intro w<;>kernel_rfl
theorem f4t_00 (E:ax) (hx:xs[i]?=some (rf tt)) (hlo:∀ W∈Ws,(lowS W).cps.size≤1000) (hn50:Ws.length≤50) (hw:aD ws Ws) (hwU:aD vs Ws) (hstar:(vs.toList.map strOf).any (· == bD)=false) (hstar2:(ws.toList.map strOf).any (· == bD)=false) (IH:∀ P b t ku vu cw,HB w (eV w req) (gr P3 it) P ([(it,ad l4 (i+1)),(l4,ab xs m4),(874,bN w κ ν (rf wl) (rf e) ku vu),(877,aE (some cw)),(tt,cK wl e),(wl,ab ws mw),(e,af d),(d,ac w i0 i1 i2 i3 u r DD),(u,ab vs n)]++E) b t tb gl):HB w (eV w req) (gr P3 it) P ([(it,ad l4 i),(l4,ab xs m4),(874,aU w κ ν wv ev),(877,aE cv),(tt,cK wl e),(wl,ab ws mw),(e,af d),(d,ac w i0 i1 i2 i3 u r DD),(u,ab vs n)]++E) b t tb gl:=by
  refine qX E (f4_00' (κ:=κ) (ν:=ν)) rfl fun s hs Ξ ar=>?_
  refine gF rfl (aA (ai _) ⟨bf [] [] [] [] [],hx⟩) fun b1 t1 ak _ _ _ _=>?_
  refine gH rfl (f5_ok hlo hn50 iD hw hwU) fun b2 t2 aw _ _ _ _=>?_
  refine gH rfl (gN hwU hstar) fun b3 t3 aL _ _ _ _=>?_
  refine gF rfl (dP hw hstar2) fun b4 t4 aG _ _ _ _=>?_
  exact gA rfl ar fun s' hA hF=>d8 hs (IH _ _ _ _ _ _) (hs.addE hA hF (fun a h=>.inl h)) hF.appR (by show b≤_;omega) (dg (fun a h=>.inl h)) fun ys hk _=>⟨ys,hk,rfl,gg,rfl,rfl,rfl,fun a h=>h,ag⟩
noncomputable def f4_01:Rs :=
aO (aF [0,2] fun _=>.ref tt) (cB "list_iterator.__next__" [rf it]) [(it,ad l4 i),(l4,ab xs m4)] b t tb gl fun b1 t1 ak =>
cW (eU w [9,7,4,6,10,12,14,16]) (gr P3 it) (Zu0 b1) ⟨872,20,872,54⟩ [(b1+4,ad (b1+3) 0),(b1+3,ab #[sv "A" (t1+2),sv "xa b/1" (t1+3),sv "B'/a" (t1+4),sv "Q/a" (t1+5),sv "" (t1+6)] 0),(874,cn 13 w κ (pk [(6,rf wl),(12,rf e)] ν)),(877,⟨.type "cell",none,.cell cv,#[]⟩),(wl,ab ws mw),(e,af d),(d,ac w i0 i1 i2 i3 u r DD),(u,ab vs n)] (b1+5) (t1+7) tb gl fun b2 t2 aw =>
cW (dY [12,14,16] true) (gr P3 it) (aV 72 [rf e,.none]) ⟨876,11,876,33⟩ [(e,af d),(d,ac w i0 i1 i2 i3 u r DD),(u,ab vs n)] b2 t2 tb gl fun b3 t3 aL =>
aO (a9 [10] fun _=>.bool true) (cB "list.__contains__" [rf wl,sv "*" t3]) [(wl,ab ws mw)] b3 (t3+1) tb gl fun b4 t4 aG =>
bF (aH (bt (az aR) 11) (rf it) au) ⟨876,11,876,55⟩ [(it,ad l4 (i+1)),(l4,ab xs m4),(874,cn 14 w (pk [(13,aw.n 1)] κ) (pk [(6,rf wl),(12,rf e),(13,aw.v 0)] ν)),(877,ah (aw.v 1)),(tt,sO "tuple" [rf wl,rf e] 0),(wl,ab ws mw),(e,af d),(d,ac w i0 i1 i2 i3 u r DD),(u,ab vs n)] b4 t4 tb gl
theorem f4_01':aZ w (gr P3 it) P [(it,ad l4 i),(l4,ab xs m4),(874,aU w κ ν wv ev),(877,aE cv),(tt,cK wl e),(wl,ab ws mw),(e,af d),(d,ac w i0 i1 i2 i3 u r DD),(u,ab vs n)] b t tb gl [0,2,4,6,8,10,12,14,16] 1 [K83,K31,K65,K78,1] [0,2,3,1,0] [] [0,5,5,5] (@f4_01 P3 b t it l4 m4 i tt wl mw e d u r n i0 i1 i2 i3 κ ν DD cv xs ws vs tb gl w):=by revert w;refine @bs _ ?_ ?_<;>intro w<;>kernel_rfl
theorem f4t_01 (E:ax) (hx:xs[i]?=some (rf tt)) (hlo:∀ W∈Ws,(lowS W).cps.size≤1000) (hn50:Ws.length≤50) (hw:aD ws Ws) (hwU:aD vs Ws) (hstar:(vs.toList.map strOf).any (· == bD)=true) (hstar2:(ws.toList.map strOf).any (· == bD)=true) (IH:∀ P b t ku vu cw,HB w (eV w req) (gr P3 it) P ([(it,ad l4 (i+1)),(l4,ab xs m4),(874,bN w κ ν (rf wl) (rf e) ku vu),(877,aE (some cw)),(tt,cK wl e),(wl,ab ws mw),(e,af d),(d,ac w i0 i1 i2 i3 u r DD),(u,ab vs n)]++E) b t tb gl):HB w (eV w req) (gr P3 it) P ([(it,ad l4 i),(l4,ab xs m4),(874,aU w κ ν wv ev),(877,aE cv),(tt,cK wl e),(wl,ab ws mw),(e,af d),(d,ac w i0 i1 i2 i3 u r DD),(u,ab vs n)]++E) b t tb gl:=by
  refine qX E (f4_01' (κ:=κ) (ν:=ν)) rfl fun s hs Ξ ar=>?_
  refine gF rfl (aA (ai _) ⟨bf [] [] [] [] [],hx⟩) fun b1 t1 ak _ _ _ _=>?_
  refine gH rfl (f5_ok hlo hn50 iD hw hwU) fun b2 t2 aw _ _ _ _=>?_
  refine gH rfl (gN hwU hstar) fun b3 t3 aL _ _ _ _=>?_
  refine gF rfl (dP hw hstar2) fun b4 t4 aG _ _ _ _=>?_
  exact gA rfl ar fun s' hA hF=>d8 hs (IH _ _ _ _ _ _) (hs.addE hA hF (fun a h=>.inl h)) hF.appR (by show b≤_;omega) (dg (fun a h=>.inl h)) fun ys hk _=>⟨ys,hk,rfl,gg,rfl,rfl,rfl,fun a h=>h,ag⟩
noncomputable def f4_10:Rs :=
aO (aF [0,2] fun _=>.ref tt) (cB "list_iterator.__next__" [rf it]) [(it,ad l4 i),(l4,ab xs m4)] b t tb gl fun b1 t1 ak =>
cW (eU w [9,7,4,6,10,12,14,16]) (gr P3 it) (Zu0 b1) ⟨872,20,872,54⟩ [(b1+4,ad (b1+3) 0),(b1+3,ab #[sv "A" (t1+2),sv "xa b/1" (t1+3),sv "B'/a" (t1+4),sv "Q/a" (t1+5),sv "" (t1+6)] 0),(874,cn 14 w (pk [(13,ku)] κ) (pk [(6,rf wl),(12,rf e),(13,vu)] ν)),(877,⟨.type "cell",none,.cell cv,#[]⟩),(wl,ab ws mw),(e,af d),(d,ac w i0 i1 i2 i3 u r DD),(u,ab vs n)] (b1+5) (t1+7) tb gl fun b2 t2 aw =>
cW (dY [12,14,16] false) (gr P3 it) (aV 72 [rf e,.none]) ⟨876,11,876,33⟩ [(e,af d),(d,ac w i0 i1 i2 i3 u r DD),(u,ab vs n)] b2 t2 tb gl fun b3 t3 aL =>
aO (a9 [10] fun _=>.bool false) (cB "list.__contains__" [rf wl,sv "*" t3]) [(wl,ab ws mw)] b3 (t3+1) tb gl fun b4 t4 aG =>
bF (aH (bt (az aR) 11) (rf it) au) ⟨876,11,876,55⟩ [(it,ad l4 (i+1)),(l4,ab xs m4),(874,cn 14 w (pk [(13,aw.n 1)] κ) (pk [(6,rf wl),(12,rf e),(13,aw.v 0)] ν)),(877,ah (aw.v 1)),(tt,sO "tuple" [rf wl,rf e] 0),(wl,ab ws mw),(e,af d),(d,ac w i0 i1 i2 i3 u r DD),(u,ab vs n)] b4 t4 tb gl
theorem f4_10':aZ w (gr P3 it) P [(it,ad l4 i),(l4,ab xs m4),(874,bN w κ ν wv ev ku vu),(877,aE cv),(tt,cK wl e),(wl,ab ws mw),(e,af d),(d,ac w i0 i1 i2 i3 u r DD),(u,ab vs n)] b t tb gl [0,2,4,6,8,10,12,14,16] 1 [K83,K31,K65,K78,1] [0,2,3,1,0] [] [0,5,5,5] (@f4_10 P3 b t it l4 m4 i tt wl mw e d u r n i0 i1 i2 i3 ku κ ν vu DD cv xs ws vs tb gl w):=by revert w;refine @bs _ ?_ ?_<;>intro w<;>kernel_rfl
theorem nf (E:ax) (hx:xs[i]?=some (rf tt)) (hlo:∀ W∈Ws,(lowS W).cps.size≤1000) (hn50:Ws.length≤50) (hw:aD ws Ws) (hwU:aD vs Ws) (hstar:(vs.toList.map strOf).any (· == bD)=false) (hstar2:(ws.toList.map strOf).any (· == bD)=false) (IH:∀ P b t ku vu cw,HB w (eV w req) (gr P3 it) P ([(it,ad l4 (i+1)),(l4,ab xs m4),(874,bN w κ ν (rf wl) (rf e) ku vu),(877,aE (some cw)),(tt,cK wl e),(wl,ab ws mw),(e,af d),(d,ac w i0 i1 i2 i3 u r DD),(u,ab vs n)]++E) b t tb gl):HB w (eV w req) (gr P3 it) P ([(it,ad l4 i),(l4,ab xs m4),(874,bN w κ ν wv ev ku vu),(877,aE (some cw)),(tt,cK wl e),(wl,ab ws mw),(e,af d),(d,ac w i0 i1 i2 i3 u r DD),(u,ab vs n)]++E) b t tb gl:=by
  refine qX E (f4_10' (κ:=κ) (ν:=ν)) rfl fun s hs Ξ ar=>?_
  refine gF rfl (aA (ai _) ⟨bf [] [] [] [] [],hx⟩) fun b1 t1 ak _ _ _ _=>?_
  refine gH rfl (ia hlo hn50 iD hw hwU 5 rfl) fun b2 t2 aw _ _ _ _=>?_
  refine gH rfl (gN hwU hstar) fun b3 t3 aL _ _ _ _=>?_
  refine gF rfl (dP hw hstar2) fun b4 t4 aG _ _ _ _=>?_
  exact gA rfl ar fun s' hA hF=>d8 hs (IH _ _ _ _ _ _) (hs.addE hA hF (fun a h=>.inl h)) hF.appR (by show b≤_;omega) (dg (fun a h=>.inl h)) fun ys hk _=>⟨ys,hk,rfl,gg,rfl,rfl,rfl,fun a h=>h,ag⟩
noncomputable def f4_11:Rs :=
aO (aF [0,2] fun _=>.ref tt) (cB "list_iterator.__next__" [rf it]) [(it,ad l4 i),(l4,ab xs m4)] b t tb gl fun b1 t1 ak =>
cW (eU w [9,7,4,6,10,12,14,16]) (gr P3 it) (Zu0 b1) ⟨872,20,872,54⟩ [(b1+4,ad (b1+3) 0),(b1+3,ab #[sv "A" (t1+2),sv "xa b/1" (t1+3),sv "B'/a" (t1+4),sv "Q/a" (t1+5),sv "" (t1+6)] 0),(874,cn 14 w (pk [(13,ku)] κ) (pk [(6,rf wl),(12,rf e),(13,vu)] ν)),(877,⟨.type "cell",none,.cell cv,#[]⟩),(wl,ab ws mw),(e,af d),(d,ac w i0 i1 i2 i3 u r DD),(u,ab vs n)] (b1+5) (t1+7) tb gl fun b2 t2 aw =>
cW (dY [12,14,16] true) (gr P3 it) (aV 72 [rf e,.none]) ⟨876,11,876,33⟩ [(e,af d),(d,ac w i0 i1 i2 i3 u r DD),(u,ab vs n)] b2 t2 tb gl fun b3 t3 aL =>
aO (a9 [10] fun _=>.bool true) (cB "list.__contains__" [rf wl,sv "*" t3]) [(wl,ab ws mw)] b3 (t3+1) tb gl fun b4 t4 aG =>
bF (aH (bt (az aR) 11) (rf it) au) ⟨876,11,876,55⟩ [(it,ad l4 (i+1)),(l4,ab xs m4),(874,cn 14 w (pk [(13,aw.n 1)] κ) (pk [(6,rf wl),(12,rf e),(13,aw.v 0)] ν)),(877,ah (aw.v 1)),(tt,sO "tuple" [rf wl,rf e] 0),(wl,ab ws mw),(e,af d),(d,ac w i0 i1 i2 i3 u r DD),(u,ab vs n)] b4 t4 tb gl
theorem f4_11':aZ w (gr P3 it) P [(it,ad l4 i),(l4,ab xs m4),(874,bN w κ ν wv ev ku vu),(877,aE cv),(tt,cK wl e),(wl,ab ws mw),(e,af d),(d,ac w i0 i1 i2 i3 u r DD),(u,ab vs n)] b t tb gl [0,2,4,6,8,10,12,14,16] 1 [K83,K31,K65,K78,1] [0,2,3,1,0] [] [0,5,5,5] (@f4_11 P3 b t it l4 m4 i tt wl mw e d u r n i0 i1 i2 i3 ku κ ν vu DD cv xs ws vs tb gl w):=by revert w;refine @bs _ ?_ ?_<;>intro w<;>kernel_rfl
theorem nc (E:ax) (hx:xs[i]?=some (rf tt)) (hlo:∀ W∈Ws,(lowS W).cps.size≤1000) (hn50:Ws.length≤50) (hw:aD ws Ws) (hwU:aD vs Ws) (hstar:(vs.toList.map strOf).any (· == bD)=true) (hstar2:(ws.toList.map strOf).any (· == bD)=true) (IH:∀ P b t ku vu cw,HB w (eV w req) (gr P3 it) P ([(it,ad l4 (i+1)),(l4,ab xs m4),(874,bN w κ ν (rf wl) (rf e) ku vu),(877,aE (some cw)),(tt,cK wl e),(wl,ab ws mw),(e,af d),(d,ac w i0 i1 i2 i3 u r DD),(u,ab vs n)]++E) b t tb gl):HB w (eV w req) (gr P3 it) P ([(it,ad l4 i),(l4,ab xs m4),(874,bN w κ ν wv ev ku vu),(877,aE (some cw)),(tt,cK wl e),(wl,ab ws mw),(e,af d),(d,ac w i0 i1 i2 i3 u r DD),(u,ab vs n)]++E) b t tb gl:=by
  refine qX E (f4_11' (κ:=κ) (ν:=ν)) rfl fun s hs Ξ ar=>?_
  refine gF rfl (aA (ai _) ⟨bf [] [] [] [] [],hx⟩) fun b1 t1 ak _ _ _ _=>?_
  refine gH rfl (ia hlo hn50 iD hw hwU 5 rfl) fun b2 t2 aw _ _ _ _=>?_
  refine gH rfl (gN hwU hstar) fun b3 t3 aL _ _ _ _=>?_
  refine gF rfl (dP hw hstar2) fun b4 t4 aG _ _ _ _=>?_
  exact gA rfl ar fun s' hA hF=>d8 hs (IH _ _ _ _ _ _) (hs.addE hA hF (fun a h=>.inl h)) hF.appR (by show b≤_;omega) (dg (fun a h=>.inl h)) fun ys hk _=>⟨ys,hk,rfl,gg,rfl,rfl,rfl,fun a h=>h,ag⟩
noncomputable def f4_E:Rs :=
cW (e8 [0,2]) (gr P3 it) (cB "list_iterator.__next__" [rf it]) ⟨871,8,871,20⟩ [(it,ad l4 i),(l4,ab xs m4)] b t tb gl fun b1 t1 ak =>
cF (.ok .next) [(it,fO "list_iterator" [.none,nv i 0]),(l4,ab xs m4),(874,cn 14 w (pk [(13,ku)] κ) (pk [(6,wv),(12,ev),(13,vu)] ν)),(877,ah cw)] b1 t1 tb gl
theorem f4_E':aZ w (gr P3 it) P [(it,ad l4 i),(l4,ab xs m4),(874,bN w κ ν wv ev ku vu),(877,aE (some cw))] b t tb gl [0,2,4,6] 1 [K83,K74] [0] [] [] (@f4_E P3 b t it l4 m4 i ku κ ν wv ev vu cw xs tb gl w):=by kernel_rfl
theorem f4t_E (E:ax) (hx:xs[i]?=none):HB w (eV w req) (gr P3 it) P ([(it,ad l4 i),(l4,ab xs m4),(874,bN w κ ν wv ev ku vu),(877,aE (some cw))]++E) b t tb gl:=by
  refine qX E (f4_E' (κ:=κ) (ν:=ν)) rfl fun s hs Ξ ar=>?_
  refine gH rfl (cT (ai _) hx) fun b1 t1 ak _ _ _ _=>?_
  exact gD rfl ar fun s' hA hF=>⟨bf [i,ku] [] [wv,ev,vu,cw] [] [],_,_,trivial,rfl,gg,At.eqX (ng (w:=w) (req:=req) (ys:=bf [i,ku] [] [wv,ev,vu,cw] [] []) (x0:=(it,ad l4 i)) (x1:=(l4,ab xs m4)) (x2:=(874,bN w κ ν wv ev ku vu)) (x3:=(877,aE (some cw))) (r:=E)).symm (hs.addE hA hF (fun a h=>.inl h)),hF.appR,fun a h=>h,ag⟩
theorem gQ (q:B.Perm C) (H:an (Vp w) (eV w req) Γ p (x0 :: x1 :: x2 :: x3 :: C) b t ch gl):an (Vp w) (eV w req) Γ p (x0 :: x1 :: x2 :: x3 :: B) b t ch gl:=fun s hs=>by
  obtain ⟨ys,b',t',s',hk,hr,hl,ha,hf,hc,hd⟩:=H s (hs.perm (.cons _ (.cons _ (.cons _ (.cons _ q)))))
  refine ⟨ys,b',t',s',hk,hr,gg,?_,?_,hc,ag⟩
  · rw [ng] at ha ⊢
    exact ha.perm (.cons _ (.cons _ (.cons _ (.cons _ q.symm))))
  · refine ⟨fun a o h1 h2 h3=>hf.keep a o h1 (fun hm=>h2 ?_) h3,hf.size,hf.toks,hf.os,hf.drawn⟩
    exact ((List.Perm.cons x0 (.cons x1 (.cons x2 (.cons x3 q)))).map (fun x:Addr×Obj=>x.1)).mem_iff.mpr hm
theorem nh (hlo0:∀ W∈Ws0,(lowS W).cps.size≤1000) (hn0:Ws0.length≤50) (hw0:aD ws0 Ws0) (hu0:aD vs0 Ws0) (hlo1:∀ W∈Ws1,(lowS W).cps.size≤1000) (hn1:Ws1.length≤50) (hw1:aD ws1 Ws1) (hu1:aD vs1 Ws1) (hlo2:∀ W∈Ws2,(lowS W).cps.size≤1000) (hn2:Ws2.length≤50) (hw2:aD ws2 Ws2) (hu2:aD vs2 Ws2):HB w (eV w req) (gr P3 it) P ([(it,ad l4 3),(l4,ab #[rf t0,rf t1,rf t2] m4),(874,bN w κ ν (rf w2) (rf e2) ku vu),(877,aE (some cw))]++([(t2,cK w2 e2),(w2,ab ws2 m2),(e2,af d2),(d2,ac w i20 i21 i22 i23 u2 r2 D2),(u2,ab vs2 n2)]++([(t0,cK w0 e0),(w0,ab ws0 m0),(e0,af d0),(d0,ac w i00 i01 i02 i03 u0 r0 D0),(u0,ab vs0 n0)]++[(t1,cK w1 e1),(w1,ab ws1 m1),(e1,af d1),(d1,ac w i10 i11 i12 i13 u1 r1 D1),(u1,ab vs1 n1)]))) b t tb gl:=f4t_E _ rfl
theorem f4_2 (hlo0:∀ W∈Ws0,(lowS W).cps.size≤1000) (hn0:Ws0.length≤50) (hw0:aD ws0 Ws0) (hu0:aD vs0 Ws0) (hlo1:∀ W∈Ws1,(lowS W).cps.size≤1000) (hn1:Ws1.length≤50) (hw1:aD ws1 Ws1) (hu1:aD vs1 Ws1) (hlo2:∀ W∈Ws2,(lowS W).cps.size≤1000) (hn2:Ws2.length≤50) (hw2:aD ws2 Ws2) (hu2:aD vs2 Ws2):HB w (eV w req) (gr P3 it) P ([(it,ad l4 2),(l4,ab #[rf t0,rf t1,rf t2] m4),(874,bN w κ ν (rf w1) (rf e1) ku vu),(877,aE (some cw))]++([(t2,cK w2 e2),(w2,ab ws2 m2),(e2,af d2),(d2,ac w i20 i21 i22 i23 u2 r2 D2),(u2,ab vs2 n2)]++([(t0,cK w0 e0),(w0,ab ws0 m0),(e0,af d0),(d0,ac w i00 i01 i02 i03 u0 r0 D0),(u0,ab vs0 n0)]++[(t1,cK w1 e1),(w1,ab ws1 m1),(e1,af d1),(d1,ac w i10 i11 i12 i13 u1 r1 D1),(u1,ab vs1 n1)]))) b t tb gl:=by
  cases hs2:Ws2.any (· == bD) with
  | true=>exact nc ([(t0,cK w0 e0),(w0,ab ws0 m0),(e0,af d0),(d0,ac w i00 i01 i02 i03 u0 r0 D0),(u0,ab vs0 n0)]++[(t1,cK w1 e1),(w1,ab ws1 m1),(e1,af d1),(d1,ac w i10 i11 i12 i13 u1 r1 D1),(u1,ab vs1 n1)]) rfl hlo2 hn2 hw2 hu2 (by rw [StrsAre.strs hu2];exact hs2) (by rw [StrsAre.strs hw2];exact hs2) fun P b t ku vu cw=>nh hlo0 hn0 hw0 hu0 hlo1 hn1 hw1 hu1 hlo2 hn2 hw2 hu2
  | false=>exact nf ([(t0,cK w0 e0),(w0,ab ws0 m0),(e0,af d0),(d0,ac w i00 i01 i02 i03 u0 r0 D0),(u0,ab vs0 n0)]++[(t1,cK w1 e1),(w1,ab ws1 m1),(e1,af d1),(d1,ac w i10 i11 i12 i13 u1 r1 D1),(u1,ab vs1 n1)]) rfl hlo2 hn2 hw2 hu2 (by rw [StrsAre.strs hu2];exact hs2) (by rw [StrsAre.strs hw2];exact hs2) fun P b t ku vu cw=>nh hlo0 hn0 hw0 hu0 hlo1 hn1 hw1 hu1 hlo2 hn2 hw2 hu2
theorem f4_1 (hlo0:∀ W∈Ws0,(lowS W).cps.size≤1000) (hn0:Ws0.length≤50) (hw0:aD ws0 Ws0) (hu0:aD vs0 Ws0) (hlo1:∀ W∈Ws1,(lowS W).cps.size≤1000) (hn1:Ws1.length≤50) (hw1:aD ws1 Ws1) (hu1:aD vs1 Ws1) (hlo2:∀ W∈Ws2,(lowS W).cps.size≤1000) (hn2:Ws2.length≤50) (hw2:aD ws2 Ws2) (hu2:aD vs2 Ws2):HB w (eV w req) (gr P3 it) P ([(it,ad l4 1),(l4,ab #[rf t0,rf t1,rf t2] m4),(874,bN w κ ν (rf w0) (rf e0) ku vu),(877,aE (some cw))]++([(t1,cK w1 e1),(w1,ab ws1 m1),(e1,af d1),(d1,ac w i10 i11 i12 i13 u1 r1 D1),(u1,ab vs1 n1)]++([(t0,cK w0 e0),(w0,ab ws0 m0),(e0,af d0),(d0,ac w i00 i01 i02 i03 u0 r0 D0),(u0,ab vs0 n0)]++[(t2,cK w2 e2),(w2,ab ws2 m2),(e2,af d2),(d2,ac w i20 i21 i22 i23 u2 r2 D2),(u2,ab vs2 n2)]))) b t tb gl:=by
  cases hs1:Ws1.any (· == bD) with
  | true=>exact nc ([(t0,cK w0 e0),(w0,ab ws0 m0),(e0,af d0),(d0,ac w i00 i01 i02 i03 u0 r0 D0),(u0,ab vs0 n0)]++[(t2,cK w2 e2),(w2,ab ws2 m2),(e2,af d2),(d2,ac w i20 i21 i22 i23 u2 r2 D2),(u2,ab vs2 n2)]) rfl hlo1 hn1 hw1 hu1 (by rw [StrsAre.strs hu1];exact hs1) (by rw [StrsAre.strs hw1];exact hs1) fun P b t ku vu cw=>gQ (p3 _ _ _) (f4_2 hlo0 hn0 hw0 hu0 hlo1 hn1 hw1 hu1 hlo2 hn2 hw2 hu2)
  | false=>exact nf ([(t0,cK w0 e0),(w0,ab ws0 m0),(e0,af d0),(d0,ac w i00 i01 i02 i03 u0 r0 D0),(u0,ab vs0 n0)]++[(t2,cK w2 e2),(w2,ab ws2 m2),(e2,af d2),(d2,ac w i20 i21 i22 i23 u2 r2 D2),(u2,ab vs2 n2)]) rfl hlo1 hn1 hw1 hu1 (by rw [StrsAre.strs hu1];exact hs1) (by rw [StrsAre.strs hw1];exact hs1) fun P b t ku vu cw=>gQ (p3 _ _ _) (f4_2 hlo0 hn0 hw0 hu0 hlo1 hn1 hw1 hu1 hlo2 hn2 hw2 hu2)
theorem f4_ok (hlo0:∀ W∈Ws0,(lowS W).cps.size≤1000) (hn0:Ws0.length≤50) (hw0:aD ws0 Ws0) (hu0:aD vs0 Ws0) (hlo1:∀ W∈Ws1,(lowS W).cps.size≤1000) (hn1:Ws1.length≤50) (hw1:aD ws1 Ws1) (hu1:aD vs1 Ws1) (hlo2:∀ W∈Ws2,(lowS W).cps.size≤1000) (hn2:Ws2.length≤50) (hw2:aD ws2 Ws2) (hu2:aD vs2 Ws2):HB w (eV w req) (gr P3 it) P ([(it,ad l4 0),(l4,ab #[rf t0,rf t1,rf t2] m4),(874,aU w κ ν wv ev),(877,aE cv)]++([(t0,cK w0 e0),(w0,ab ws0 m0),(e0,af d0),(d0,ac w i00 i01 i02 i03 u0 r0 D0),(u0,ab vs0 n0)]++([(t1,cK w1 e1),(w1,ab ws1 m1),(e1,af d1),(d1,ac w i10 i11 i12 i13 u1 r1 D1),(u1,ab vs1 n1)]++[(t2,cK w2 e2),(w2,ab ws2 m2),(e2,af d2),(d2,ac w i20 i21 i22 i23 u2 r2 D2),(u2,ab vs2 n2)]))) b t tb gl:=by
  cases hs0:Ws0.any (· == bD) with
  | true=>exact f4t_01 ([(t1,cK w1 e1),(w1,ab ws1 m1),(e1,af d1),(d1,ac w i10 i11 i12 i13 u1 r1 D1),(u1,ab vs1 n1)]++[(t2,cK w2 e2),(w2,ab ws2 m2),(e2,af d2),(d2,ac w i20 i21 i22 i23 u2 r2 D2),(u2,ab vs2 n2)]) rfl hlo0 hn0 hw0 hu0 (by rw [StrsAre.strs hu0];exact hs0) (by rw [StrsAre.strs hw0];exact hs0) fun P b t ku vu cw=>gQ (p2 _ _ _) (f4_1 hlo0 hn0 hw0 hu0 hlo1 hn1 hw1 hu1 hlo2 hn2 hw2 hu2)
  | false=>exact f4t_00 ([(t1,cK w1 e1),(w1,ab ws1 m1),(e1,af d1),(d1,ac w i10 i11 i12 i13 u1 r1 D1),(u1,ab vs1 n1)]++[(t2,cK w2 e2),(w2,ab ws2 m2),(e2,af d2),(d2,ac w i20 i21 i22 i23 u2 r2 D2),(u2,ab vs2 n2)]) rfl hlo0 hn0 hw0 hu0 (by rw [StrsAre.strs hu0];exact hs0) (by rw [StrsAre.strs hw0];exact hs0) fun P b t ku vu cw=>gQ (p2 _ _ _) (f4_1 hlo0 hn0 hw0 hu0 hlo1 hn1 hw1 hu1 hlo2 hn2 hw2 hu2)
end
section
variable {P P3 p:Pos} {b t it mr md me w0 e0 d0 u0 r0 m0 n0 o0 i00 i01 i02 i03 w1 e1 d1 u1 r1 m1 n1 o1 i10 i11 i12 i13 w2 e2 d2 u2 r2 m2 n2 o2 i20 i21 i22 i23 x σ:Nat} {κ:Nat→Nat} {ν:Nat→Value} {wv ev pv D0 D1 D2:Value} {ws0 ws1 ws2 vs0 vs1 vs2 tb:Array Value} {gl:List GenState} {w:World} {Γ:Ctx} {x0 x1:Addr×Obj} {B C:ax} {ch:Ch} {req:List Nat} {Ws0 Ws1 Ws2:List Str}
noncomputable def S3L:Stmt:=bt (az aR) 10
noncomputable def lB (v:Value):Obj→Obj
  | ⟨c,dd,.dict es n,sl⟩=>⟨c,dd,.dict ⟨mF es.toList 3 v⟩ n,sl⟩
  | o=>o
noncomputable abbrev di (req:List Nat):Hk:=dS req (fun _ _=>.ok .next) (fun pre ys=>match pre with
  | _ :: f :: r=>av 3 0 :: lB (ys.v 0) f.2 :: r.map (·.2)
  | _=>[]) (fun _ _=>[]) (fun _ _=>True)
theorem fh {req:List Nat} {x0 x1:Addr×Obj} {r:ax} {ys:Ys}:((di req).objs (x0 :: x1 :: r) ys).length=(x0 :: x1 :: r).length:=by
  show (_ :: _ :: r.map (·.2)).length=_
  simp
theorem ni {req:List Nat} {x0 x1:Addr×Obj} {r:ax} {ys:Ys}:List.zipWith (fun (x:Addr×Obj) o=>(x.1,o)) (x0 :: x1 :: r) ((di req).objs (x0 :: x1 :: r) ys)++(di req).adds (x0 :: x1 :: r) ys=(x0.1,av 3 0) :: (x1.1,lB (ys.v 0) x1.2) :: r:=by
  show (x0.1,av 3 0) :: (x1.1,lB (ys.v 0) x1.2) :: List.zipWith (fun (x:Addr×Obj) o=>(x.1,o)) r (r.map (·.2))++[]=_
  rw [bX,List.append_nil]
theorem ks (q:B.Perm C) (H:an (Vp w) (di req) Γ p (x0 :: x1 :: C) b t ch gl):an (Vp w) (di req) Γ p (x0 :: x1 :: B) b t ch gl:=fun s hs=>by
  obtain ⟨ys,b',t',s',hk,hr,hl,ha,hf,hc,hd⟩:=H s (hs.perm (.cons _ (.cons _ q)))
  refine ⟨ys,b',t',s',hk,hr,fh,?_,?_,hc,ag⟩
  · rw [ni] at ha ⊢
    exact ha.perm (.cons _ (.cons _ q.symm))
  · refine ⟨fun a o h1 h2 h3=>hf.keep a o h1 (fun hm=>h2 ?_) h3,hf.size,hf.toks,hf.os,hf.drawn⟩
    exact ((List.Perm.cons x0 (.cons x1 q)).map (fun x:Addr×Obj=>x.1)).mem_iff.mpr hm
theorem p3a (C A B E:ax):(C++(A++(B++E))).Perm (C++(B++(A++E))):=(List.Perm.refl C).append (p2 A B E)
theorem p3b (C A B E:ax):(C++(B++(A++E))).Perm (C++(E++(A++B))):=(List.Perm.refl C).append (p3 A B E)
noncomputable abbrev eK (P3:Pos) (it:Nat):Ctx:=⟨aH S3L (rf it) au,none,none,[(bW aR au,P3),(aI,p0)],none⟩
noncomputable def f3_E:Rs :=
cF (.ok .next) [(it,av 3 0),(874,cn 13 w κ (pk [(1,rf 879),(2,rf 880),(3,pv),(6,wv),(12,ev)] ν))] (b+2) t tb gl
theorem f3_E':aZ w (eK P3 it) P [(it,av 3 0),(874,aU w κ (pk [(1,rf 879),(2,rf 880),(3,pv)] ν) wv ev)] b t tb gl [0,2] 1 [0x13ec998835000001010] [] [] [] (@f3_E b t it κ ν wv ev pv tb gl w):=by kernel_rfl
theorem f3t_E (E:ax):HB w (di req) (eK P3 it) P ([(it,av 3 0),(874,aU w κ (pk [(1,rf 879),(2,rf 880),(3,pv)] ν) wv ev)]++E) b t tb gl:=by
  refine qX E (f3_E' (κ:=κ) (ν:=ν)) rfl fun s hs Ξ ar=>?_
  exact gD rfl ar fun s' hA hF=>⟨(bf [] [] [pv] [] []),_,_,trivial,rfl,fh,At.eqX (ni (req:=req) (ys:=(bf [] [] [pv] [] [])) (x0:=(it,av 3 0)) (x1:=(874,aU w κ (pk [(1,.ref 879),(2,.ref 880),(3,pv)] ν) wv ev)) (r:=E)).symm (hs.addE hA hF (fun a h=>.inl h)),hF.appR,fun a h=>h,ag⟩
noncomputable abbrev Zw0 (ak aw:Ys):Code :=
  (cB "str.__ne__" [.str (ak.s 0) (ak.n 0),.str (aw.s 0) (aw.n 0)])
noncomputable def f3_00:Rs :=
cW (da [14,16,18,20]) (eK P3 it) (.call (.type "str") ⟨[rf e0],[]⟩) ⟨869,11,869,30⟩ [(e0,af d0),(d0,ac w i00 i01 i02 i03 u0 r0 .none),(u0,ab vs0 n0),(r0,ab #[] o0)] b (t+2) tb gl fun b1 t1 ak =>
cW (c9 [12] .none) (eK P3 it) (aV 867 [rf w0,.none]) ⟨869,34,869,71⟩ [(w0,ab ws0 m0)] b1 t1 tb gl fun b2 t2 aw =>
aO (a9 [] fun _=>.bool false) (Zw0 ak aw) [] b2 t2 tb gl fun b3 t3 aL =>
bF (aH (bt (az aR) 10) (rf it) au) ⟨869,11,869,71⟩ [(it,av 1 2),(874,cn 13 w κ (pk [(1,rf 879),(2,rf 880),(3,.int 0 t),(6,wv),(12,ev)] ν)),(875,ah (rf 878)),(878,ab #[rf w0,rf w1,rf w2] mr),(879,ab #[.none,D1,D2] md),(880,ab #[rf e0,rf e1,rf e2] me),(w0,ab ws0 m0),(e0,af d0),(d0,ac w i00 i01 i02 i03 u0 r0 .none),(u0,ab vs0 n0),(r0,ab #[] o0)] b3 t3 tb gl
theorem f3_00':aZ w (eK P3 it) P [(it,av 0 3),(874,aU w κ (pk [(1,rf 879),(2,rf 880),(3,pv)] ν) wv ev),(875,ah (rf 878)),(878,ab #[rf w0,rf w1,rf w2] mr),(879,ab #[.none,D1,D2] md),(880,ab #[rf e0,rf e1,rf e2] me),(w0,ab ws0 m0),(e0,af d0),(d0,ac w i00 i01 i02 i03 u0 r0 .none),(u0,ab vs0 n0),(r0,ab #[] o0)] b t tb gl [0,2,4,6,8,10,12,14,16,18,20] 1 [K41,K47,1,1] [4,3,0,0] [] [] (@f3_00 P3 b t it mr md me w0 e0 d0 u0 r0 m0 n0 o0 i00 i01 i02 i03 w1 e1 w2 e2 κ ν wv ev D1 D2 ws0 vs0 tb gl w):=by revert w;refine @bs _ ?_ ?_<;>intro w<;>kernel_rfl
theorem f3t_00 (E:ax) (hW0:aJ Ws0) (hn0:Ws0.length≤50) (hw0:aD ws0 Ws0) (hu0:aD vs0 Ws0) (IH:∀ P b t pv,HB w (di req) (eK P3 it) P ([(it,av 1 2),(874,aU w κ (pk [(1,rf 879),(2,rf 880),(3,pv)] ν) wv ev),(875,ah (rf 878)),(878,ab #[rf w0,rf w1,rf w2] mr),(879,ab #[.none,D1,D2] md),(880,ab #[rf e0,rf e1,rf e2] me),(w0,ab ws0 m0),(e0,af d0),(d0,ac w i00 i01 i02 i03 u0 r0 .none),(u0,ab vs0 n0),(r0,ab #[] o0)]++E) b t tb gl):HB w (di req) (eK P3 it) P ([(it,av 0 3),(874,aU w κ (pk [(1,rf 879),(2,rf 880),(3,pv)] ν) wv ev),(875,ah (rf 878)),(878,ab #[rf w0,rf w1,rf w2] mr),(879,ab #[.none,D1,D2] md),(880,ab #[rf e0,rf e1,rf e2] me),(w0,ab ws0 m0),(e0,af d0),(d0,ac w i00 i01 i02 i03 u0 r0 .none),(u0,ab vs0 n0),(r0,ab #[] o0)]++E) b t tb gl:=by
  have hD:ay .none:=.inl rfl
  refine qX E (f3_00' (κ:=κ) (ν:=ν)) rfl fun s hs Ξ ar=>?_
  refine gH rfl (eb hD hW0 hn0 hu0) fun b1 t1 ak _ _ hk1 _=>?_
  refine gH rfl (dq hD (d9 hW0) hn0 hw0) fun b2 t2 aw _ _ hk2 _=>?_
  refine gF rfl (ec (cE hk1 hk2 hu0 hw0)) fun b3 t3 aL _ _ _ _=>?_
  exact gA rfl ar fun s' hA hF=>d8 hs (IH _ _ _ _) (hs.addE hA hF (fun a h=>.inl h)) hF.appR (by show b≤_;omega) (dg (fun a h=>.inl h)) fun ys hk _=>⟨ys,hk,rfl,fh,rfl,rfl,rfl,fun a h=>h,ag⟩
noncomputable def f3_01:Rs :=
cW (da [14,16,18,20]) (eK P3 it) (.call (.type "str") ⟨[rf e0],[]⟩) ⟨869,11,869,30⟩ [(e0,af d0),(d0,ac w i00 i01 i02 i03 u0 r0 (nv x σ)),(u0,ab vs0 n0),(r0,ab #[] o0)] b (t+2) tb gl fun b1 t1 ak =>
cW (c9 [12] (nv x σ)) (eK P3 it) (aV 867 [rf w0,nv x σ]) ⟨869,34,869,71⟩ [(w0,ab ws0 m0)] b1 t1 tb gl fun b2 t2 aw =>
aO (a9 [] fun _=>.bool false) (Zw0 ak aw) [] b2 t2 tb gl fun b3 t3 aL =>
bF (aH (bt (az aR) 10) (rf it) au) ⟨869,11,869,71⟩ [(it,av 1 2),(874,cn 13 w κ (pk [(1,rf 879),(2,rf 880),(3,.int 0 t),(6,wv),(12,ev)] ν)),(875,ah (rf 878)),(878,ab #[rf w0,rf w1,rf w2] mr),(879,ab #[nv x σ,D1,D2] md),(880,ab #[rf e0,rf e1,rf e2] me),(w0,ab ws0 m0),(e0,af d0),(d0,ac w i00 i01 i02 i03 u0 r0 (nv x σ)),(u0,ab vs0 n0),(r0,ab #[] o0)] b3 t3 tb gl
theorem f3_01':aZ w (eK P3 it) P [(it,av 0 3),(874,aU w κ (pk [(1,rf 879),(2,rf 880),(3,pv)] ν) wv ev),(875,ah (rf 878)),(878,ab #[rf w0,rf w1,rf w2] mr),(879,ab #[nv x σ,D1,D2] md),(880,ab #[rf e0,rf e1,rf e2] me),(w0,ab ws0 m0),(e0,af d0),(d0,ac w i00 i01 i02 i03 u0 r0 (nv x σ)),(u0,ab vs0 n0),(r0,ab #[] o0)] b t tb gl [0,2,4,6,8,10,12,14,16,18,20] 1 [K41,K47,1,1] [4,3,0,0] [] [] (@f3_01 P3 b t it mr md me w0 e0 d0 u0 r0 m0 n0 o0 i00 i01 i02 i03 w1 e1 w2 e2 x σ κ ν wv ev D1 D2 ws0 vs0 tb gl w):=by revert w;refine @bs _ ?_ ?_<;>intro w<;>kernel_rfl
theorem f3t_01 (E:ax) (hW0:aJ Ws0) (hn0:Ws0.length≤50) (hw0:aD ws0 Ws0) (hu0:aD vs0 Ws0) (hx:∃ y,y < 512∧x=32768+y) (IH:∀ P b t pv,HB w (di req) (eK P3 it) P ([(it,av 1 2),(874,aU w κ (pk [(1,rf 879),(2,rf 880),(3,pv)] ν) wv ev),(875,ah (rf 878)),(878,ab #[rf w0,rf w1,rf w2] mr),(879,ab #[nv x σ,D1,D2] md),(880,ab #[rf e0,rf e1,rf e2] me),(w0,ab ws0 m0),(e0,af d0),(d0,ac w i00 i01 i02 i03 u0 r0 (nv x σ)),(u0,ab vs0 n0),(r0,ab #[] o0)]++E) b t tb gl):HB w (di req) (eK P3 it) P ([(it,av 0 3),(874,aU w κ (pk [(1,rf 879),(2,rf 880),(3,pv)] ν) wv ev),(875,ah (rf 878)),(878,ab #[rf w0,rf w1,rf w2] mr),(879,ab #[nv x σ,D1,D2] md),(880,ab #[rf e0,rf e1,rf e2] me),(w0,ab ws0 m0),(e0,af d0),(d0,ac w i00 i01 i02 i03 u0 r0 (nv x σ)),(u0,ab vs0 n0),(r0,ab #[] o0)]++E) b t tb gl:=by
  have hD:ay (.int (.ofNat x) σ):=by obtain ⟨y,hy,rfl⟩:=hx;exact .inr ⟨y,σ,hy,rfl⟩
  refine qX E (f3_01' (κ:=κ) (ν:=ν)) rfl fun s hs Ξ ar=>?_
  refine gH rfl (eb hD hW0 hn0 hu0) fun b1 t1 ak _ _ hk1 _=>?_
  refine gH rfl (dq hD (d9 hW0) hn0 hw0) fun b2 t2 aw _ _ hk2 _=>?_
  refine gF rfl (ec (cE hk1 hk2 hu0 hw0)) fun b3 t3 aL _ _ _ _=>?_
  exact gA rfl ar fun s' hA hF=>d8 hs (IH _ _ _ _) (hs.addE hA hF (fun a h=>.inl h)) hF.appR (by show b≤_;omega) (dg (fun a h=>.inl h)) fun ys hk _=>⟨ys,hk,rfl,fh,rfl,rfl,rfl,fun a h=>h,ag⟩
theorem f3T_0 (E:ax) (hD0:ay D0) (hW0:aJ Ws0) (hn0:Ws0.length≤50) (hw0:aD ws0 Ws0) (hu0:aD vs0 Ws0) (IH:∀ P b t pv,HB w (di req) (eK P3 it) P ([(it,av 1 2),(874,aU w κ (pk [(1,rf 879),(2,rf 880),(3,pv)] ν) wv ev),(875,ah (rf 878)),(878,ab #[rf w0,rf w1,rf w2] mr),(879,ab #[D0,D1,D2] md),(880,ab #[rf e0,rf e1,rf e2] me),(w0,ab ws0 m0),(e0,af d0),(d0,ac w i00 i01 i02 i03 u0 r0 D0),(u0,ab vs0 n0),(r0,ab #[] o0)]++E) b t tb gl):HB w (di req) (eK P3 it) P ([(it,av 0 3),(874,aU w κ (pk [(1,rf 879),(2,rf 880),(3,pv)] ν) wv ev),(875,ah (rf 878)),(878,ab #[rf w0,rf w1,rf w2] mr),(879,ab #[D0,D1,D2] md),(880,ab #[rf e0,rf e1,rf e2] me),(w0,ab ws0 m0),(e0,af d0),(d0,ac w i00 i01 i02 i03 u0 r0 D0),(u0,ab vs0 n0),(r0,ab #[] o0)]++E) b t tb gl:=by
  rcases hD0 with rfl | ⟨y,τ,hy,rfl⟩
  · exact f3t_00 E hW0 hn0 hw0 hu0 IH
  · exact f3t_01 E hW0 hn0 hw0 hu0 ⟨y,hy,rfl⟩ IH
noncomputable def f3_10:Rs :=
cW (da [14,16,18,20]) (eK P3 it) (.call (.type "str") ⟨[rf e1],[]⟩) ⟨869,11,869,30⟩ [(e1,af d1),(d1,ac w i10 i11 i12 i13 u1 r1 .none),(u1,ab vs1 n1),(r1,ab #[] o1)] b (t+2) tb gl fun b1 t1 ak =>
cW (c9 [12] .none) (eK P3 it) (aV 867 [rf w1,.none]) ⟨869,34,869,71⟩ [(w1,ab ws1 m1)] b1 t1 tb gl fun b2 t2 aw =>
aO (a9 [] fun _=>.bool false) (Zw0 ak aw) [] b2 t2 tb gl fun b3 t3 aL =>
bF (aH (bt (az aR) 10) (rf it) au) ⟨869,11,869,71⟩ [(it,av 2 1),(874,cn 13 w κ (pk [(1,rf 879),(2,rf 880),(3,.int 1 t),(6,wv),(12,ev)] ν)),(875,ah (rf 878)),(878,ab #[rf w0,rf w1,rf w2] mr),(879,ab #[D0,.none,D2] md),(880,ab #[rf e0,rf e1,rf e2] me),(w1,ab ws1 m1),(e1,af d1),(d1,ac w i10 i11 i12 i13 u1 r1 .none),(u1,ab vs1 n1),(r1,ab #[] o1)] b3 t3 tb gl
theorem f3_10':aZ w (eK P3 it) P [(it,av 1 2),(874,aU w κ (pk [(1,rf 879),(2,rf 880),(3,pv)] ν) wv ev),(875,ah (rf 878)),(878,ab #[rf w0,rf w1,rf w2] mr),(879,ab #[D0,.none,D2] md),(880,ab #[rf e0,rf e1,rf e2] me),(w1,ab ws1 m1),(e1,af d1),(d1,ac w i10 i11 i12 i13 u1 r1 .none),(u1,ab vs1 n1),(r1,ab #[] o1)] b t tb gl [0,2,4,6,8,10,12,14,16,18,20] 1 [K41,K47,1,1] [4,3,0,0] [] [] (@f3_10 P3 b t it mr md me w0 e0 w1 e1 d1 u1 r1 m1 n1 o1 i10 i11 i12 i13 w2 e2 κ ν wv ev D0 D2 ws1 vs1 tb gl w):=by revert w;refine @bs _ ?_ ?_<;>intro w<;>kernel_rfl
theorem f3t_10 (E:ax) (hW1:aJ Ws1) (hn1:Ws1.length≤50) (hw1:aD ws1 Ws1) (hu1:aD vs1 Ws1) (IH:∀ P b t pv,HB w (di req) (eK P3 it) P ([(it,av 2 1),(874,aU w κ (pk [(1,rf 879),(2,rf 880),(3,pv)] ν) wv ev),(875,ah (rf 878)),(878,ab #[rf w0,rf w1,rf w2] mr),(879,ab #[D0,.none,D2] md),(880,ab #[rf e0,rf e1,rf e2] me),(w1,ab ws1 m1),(e1,af d1),(d1,ac w i10 i11 i12 i13 u1 r1 .none),(u1,ab vs1 n1),(r1,ab #[] o1)]++E) b t tb gl):HB w (di req) (eK P3 it) P ([(it,av 1 2),(874,aU w κ (pk [(1,rf 879),(2,rf 880),(3,pv)] ν) wv ev),(875,ah (rf 878)),(878,ab #[rf w0,rf w1,rf w2] mr),(879,ab #[D0,.none,D2] md),(880,ab #[rf e0,rf e1,rf e2] me),(w1,ab ws1 m1),(e1,af d1),(d1,ac w i10 i11 i12 i13 u1 r1 .none),(u1,ab vs1 n1),(r1,ab #[] o1)]++E) b t tb gl:=by
  have hD:ay .none:=.inl rfl
  refine qX E (f3_10' (κ:=κ) (ν:=ν)) rfl fun s hs Ξ ar=>?_
  refine gH rfl (eb hD hW1 hn1 hu1) fun b1 t1 ak _ _ hk1 _=>?_
  refine gH rfl (dq hD (d9 hW1) hn1 hw1) fun b2 t2 aw _ _ hk2 _=>?_
  refine gF rfl (ec (cE hk1 hk2 hu1 hw1)) fun b3 t3 aL _ _ _ _=>?_
  exact gA rfl ar fun s' hA hF=>d8 hs (IH _ _ _ _) (hs.addE hA hF (fun a h=>.inl h)) hF.appR (by show b≤_;omega) (dg (fun a h=>.inl h)) fun ys hk _=>⟨ys,hk,rfl,fh,rfl,rfl,rfl,fun a h=>h,ag⟩
noncomputable def f3_11:Rs :=
cW (da [14,16,18,20]) (eK P3 it) (.call (.type "str") ⟨[rf e1],[]⟩) ⟨869,11,869,30⟩ [(e1,af d1),(d1,ac w i10 i11 i12 i13 u1 r1 (nv x σ)),(u1,ab vs1 n1),(r1,ab #[] o1)] b (t+2) tb gl fun b1 t1 ak =>
cW (c9 [12] (nv x σ)) (eK P3 it) (aV 867 [rf w1,nv x σ]) ⟨869,34,869,71⟩ [(w1,ab ws1 m1)] b1 t1 tb gl fun b2 t2 aw =>
aO (a9 [] fun _=>.bool false) (Zw0 ak aw) [] b2 t2 tb gl fun b3 t3 aL =>
bF (aH (bt (az aR) 10) (rf it) au) ⟨869,11,869,71⟩ [(it,av 2 1),(874,cn 13 w κ (pk [(1,rf 879),(2,rf 880),(3,.int 1 t),(6,wv),(12,ev)] ν)),(875,ah (rf 878)),(878,ab #[rf w0,rf w1,rf w2] mr),(879,ab #[D0,nv x σ,D2] md),(880,ab #[rf e0,rf e1,rf e2] me),(w1,ab ws1 m1),(e1,af d1),(d1,ac w i10 i11 i12 i13 u1 r1 (nv x σ)),(u1,ab vs1 n1),(r1,ab #[] o1)] b3 t3 tb gl
theorem f3_11':aZ w (eK P3 it) P [(it,av 1 2),(874,aU w κ (pk [(1,rf 879),(2,rf 880),(3,pv)] ν) wv ev),(875,ah (rf 878)),(878,ab #[rf w0,rf w1,rf w2] mr),(879,ab #[D0,nv x σ,D2] md),(880,ab #[rf e0,rf e1,rf e2] me),(w1,ab ws1 m1),(e1,af d1),(d1,ac w i10 i11 i12 i13 u1 r1 (nv x σ)),(u1,ab vs1 n1),(r1,ab #[] o1)] b t tb gl [0,2,4,6,8,10,12,14,16,18,20] 1 [K41,K47,1,1] [4,3,0,0] [] [] (@f3_11 P3 b t it mr md me w0 e0 w1 e1 d1 u1 r1 m1 n1 o1 i10 i11 i12 i13 w2 e2 x σ κ ν wv ev D0 D2 ws1 vs1 tb gl w):=by revert w;refine @bs _ ?_ ?_<;>intro w<;>kernel_rfl
theorem f3t_11 (E:ax) (hW1:aJ Ws1) (hn1:Ws1.length≤50) (hw1:aD ws1 Ws1) (hu1:aD vs1 Ws1) (hx:∃ y,y < 512∧x=32768+y) (IH:∀ P b t pv,HB w (di req) (eK P3 it) P ([(it,av 2 1),(874,aU w κ (pk [(1,rf 879),(2,rf 880),(3,pv)] ν) wv ev),(875,ah (rf 878)),(878,ab #[rf w0,rf w1,rf w2] mr),(879,ab #[D0,nv x σ,D2] md),(880,ab #[rf e0,rf e1,rf e2] me),(w1,ab ws1 m1),(e1,af d1),(d1,ac w i10 i11 i12 i13 u1 r1 (nv x σ)),(u1,ab vs1 n1),(r1,ab #[] o1)]++E) b t tb gl):HB w (di req) (eK P3 it) P ([(it,av 1 2),(874,aU w κ (pk [(1,rf 879),(2,rf 880),(3,pv)] ν) wv ev),(875,ah (rf 878)),(878,ab #[rf w0,rf w1,rf w2] mr),(879,ab #[D0,nv x σ,D2] md),(880,ab #[rf e0,rf e1,rf e2] me),(w1,ab ws1 m1),(e1,af d1),(d1,ac w i10 i11 i12 i13 u1 r1 (nv x σ)),(u1,ab vs1 n1),(r1,ab #[] o1)]++E) b t tb gl:=by
  have hD:ay (.int (.ofNat x) σ):=by obtain ⟨y,hy,rfl⟩:=hx;exact .inr ⟨y,σ,hy,rfl⟩
  refine qX E (f3_11' (κ:=κ) (ν:=ν)) rfl fun s hs Ξ ar=>?_
  refine gH rfl (eb hD hW1 hn1 hu1) fun b1 t1 ak _ _ hk1 _=>?_
  refine gH rfl (dq hD (d9 hW1) hn1 hw1) fun b2 t2 aw _ _ hk2 _=>?_
  refine gF rfl (ec (cE hk1 hk2 hu1 hw1)) fun b3 t3 aL _ _ _ _=>?_
  exact gA rfl ar fun s' hA hF=>d8 hs (IH _ _ _ _) (hs.addE hA hF (fun a h=>.inl h)) hF.appR (by show b≤_;omega) (dg (fun a h=>.inl h)) fun ys hk _=>⟨ys,hk,rfl,fh,rfl,rfl,rfl,fun a h=>h,ag⟩
theorem f3T_1 (E:ax) (hD1:ay D1) (hW1:aJ Ws1) (hn1:Ws1.length≤50) (hw1:aD ws1 Ws1) (hu1:aD vs1 Ws1) (IH:∀ P b t pv,HB w (di req) (eK P3 it) P ([(it,av 2 1),(874,aU w κ (pk [(1,rf 879),(2,rf 880),(3,pv)] ν) wv ev),(875,ah (rf 878)),(878,ab #[rf w0,rf w1,rf w2] mr),(879,ab #[D0,D1,D2] md),(880,ab #[rf e0,rf e1,rf e2] me),(w1,ab ws1 m1),(e1,af d1),(d1,ac w i10 i11 i12 i13 u1 r1 D1),(u1,ab vs1 n1),(r1,ab #[] o1)]++E) b t tb gl):HB w (di req) (eK P3 it) P ([(it,av 1 2),(874,aU w κ (pk [(1,rf 879),(2,rf 880),(3,pv)] ν) wv ev),(875,ah (rf 878)),(878,ab #[rf w0,rf w1,rf w2] mr),(879,ab #[D0,D1,D2] md),(880,ab #[rf e0,rf e1,rf e2] me),(w1,ab ws1 m1),(e1,af d1),(d1,ac w i10 i11 i12 i13 u1 r1 D1),(u1,ab vs1 n1),(r1,ab #[] o1)]++E) b t tb gl:=by
  rcases hD1 with rfl | ⟨y,τ,hy,rfl⟩
  · exact f3t_10 E hW1 hn1 hw1 hu1 IH
  · exact f3t_11 E hW1 hn1 hw1 hu1 ⟨y,hy,rfl⟩ IH
noncomputable def f3_20:Rs :=
cW (da [14,16,18,20]) (eK P3 it) (.call (.type "str") ⟨[rf e2],[]⟩) ⟨869,11,869,30⟩ [(e2,af d2),(d2,ac w i20 i21 i22 i23 u2 r2 .none),(u2,ab vs2 n2),(r2,ab #[] o2)] b (t+2) tb gl fun b1 t1 ak =>
cW (c9 [12] .none) (eK P3 it) (aV 867 [rf w2,.none]) ⟨869,34,869,71⟩ [(w2,ab ws2 m2)] b1 t1 tb gl fun b2 t2 aw =>
aO (a9 [] fun _=>.bool false) (Zw0 ak aw) [] b2 t2 tb gl fun b3 t3 aL =>
bF (aH (bt (az aR) 10) (rf it) au) ⟨869,11,869,71⟩ [(it,av 3 0),(874,cn 13 w κ (pk [(1,rf 879),(2,rf 880),(3,.int 2 t),(6,wv),(12,ev)] ν)),(875,ah (rf 878)),(878,ab #[rf w0,rf w1,rf w2] mr),(879,ab #[D0,D1,.none] md),(880,ab #[rf e0,rf e1,rf e2] me),(w2,ab ws2 m2),(e2,af d2),(d2,ac w i20 i21 i22 i23 u2 r2 .none),(u2,ab vs2 n2),(r2,ab #[] o2)] b3 t3 tb gl
theorem f3_20':aZ w (eK P3 it) P [(it,av 2 1),(874,aU w κ (pk [(1,rf 879),(2,rf 880),(3,pv)] ν) wv ev),(875,ah (rf 878)),(878,ab #[rf w0,rf w1,rf w2] mr),(879,ab #[D0,D1,.none] md),(880,ab #[rf e0,rf e1,rf e2] me),(w2,ab ws2 m2),(e2,af d2),(d2,ac w i20 i21 i22 i23 u2 r2 .none),(u2,ab vs2 n2),(r2,ab #[] o2)] b t tb gl [0,2,4,6,8,10,12,14,16,18,20] 1 [K41,K47,1,1] [4,3,0,0] [] [] (@f3_20 P3 b t it mr md me w0 e0 w1 e1 w2 e2 d2 u2 r2 m2 n2 o2 i20 i21 i22 i23 κ ν wv ev D0 D1 ws2 vs2 tb gl w):=by revert w;refine @bs _ ?_ ?_<;>intro w<;>kernel_rfl
theorem f3t_20 (E:ax) (hW2:aJ Ws2) (hn2:Ws2.length≤50) (hw2:aD ws2 Ws2) (hu2:aD vs2 Ws2) (IH:∀ P b t pv,HB w (di req) (eK P3 it) P ([(it,av 3 0),(874,aU w κ (pk [(1,rf 879),(2,rf 880),(3,pv)] ν) wv ev),(875,ah (rf 878)),(878,ab #[rf w0,rf w1,rf w2] mr),(879,ab #[D0,D1,.none] md),(880,ab #[rf e0,rf e1,rf e2] me),(w2,ab ws2 m2),(e2,af d2),(d2,ac w i20 i21 i22 i23 u2 r2 .none),(u2,ab vs2 n2),(r2,ab #[] o2)]++E) b t tb gl):HB w (di req) (eK P3 it) P ([(it,av 2 1),(874,aU w κ (pk [(1,rf 879),(2,rf 880),(3,pv)] ν) wv ev),(875,ah (rf 878)),(878,ab #[rf w0,rf w1,rf w2] mr),(879,ab #[D0,D1,.none] md),(880,ab #[rf e0,rf e1,rf e2] me),(w2,ab ws2 m2),(e2,af d2),(d2,ac w i20 i21 i22 i23 u2 r2 .none),(u2,ab vs2 n2),(r2,ab #[] o2)]++E) b t tb gl:=by
  have hD:ay .none:=.inl rfl
  refine qX E (f3_20' (κ:=κ) (ν:=ν)) rfl fun s hs Ξ ar=>?_
  refine gH rfl (eb hD hW2 hn2 hu2) fun b1 t1 ak _ _ hk1 _=>?_
  refine gH rfl (dq hD (d9 hW2) hn2 hw2) fun b2 t2 aw _ _ hk2 _=>?_
  refine gF rfl (ec (cE hk1 hk2 hu2 hw2)) fun b3 t3 aL _ _ _ _=>?_
  exact gA rfl ar fun s' hA hF=>d8 hs (IH _ _ _ _) (hs.addE hA hF (fun a h=>.inl h)) hF.appR (by show b≤_;omega) (dg (fun a h=>.inl h)) fun ys hk _=>⟨ys,hk,rfl,fh,rfl,rfl,rfl,fun a h=>h,ag⟩
noncomputable def f3_21:Rs :=
cW (da [14,16,18,20]) (eK P3 it) (.call (.type "str") ⟨[rf e2],[]⟩) ⟨869,11,869,30⟩ [(e2,af d2),(d2,ac w i20 i21 i22 i23 u2 r2 (nv x σ)),(u2,ab vs2 n2),(r2,ab #[] o2)] b (t+2) tb gl fun b1 t1 ak =>
cW (c9 [12] (nv x σ)) (eK P3 it) (aV 867 [rf w2,nv x σ]) ⟨869,34,869,71⟩ [(w2,ab ws2 m2)] b1 t1 tb gl fun b2 t2 aw =>
aO (a9 [] fun _=>.bool false) (Zw0 ak aw) [] b2 t2 tb gl fun b3 t3 aL =>
bF (aH (bt (az aR) 10) (rf it) au) ⟨869,11,869,71⟩ [(it,av 3 0),(874,cn 13 w κ (pk [(1,rf 879),(2,rf 880),(3,.int 2 t),(6,wv),(12,ev)] ν)),(875,ah (rf 878)),(878,ab #[rf w0,rf w1,rf w2] mr),(879,ab #[D0,D1,nv x σ] md),(880,ab #[rf e0,rf e1,rf e2] me),(w2,ab ws2 m2),(e2,af d2),(d2,ac w i20 i21 i22 i23 u2 r2 (nv x σ)),(u2,ab vs2 n2),(r2,ab #[] o2)] b3 t3 tb gl
theorem f3_21':aZ w (eK P3 it) P [(it,av 2 1),(874,aU w κ (pk [(1,rf 879),(2,rf 880),(3,pv)] ν) wv ev),(875,ah (rf 878)),(878,ab #[rf w0,rf w1,rf w2] mr),(879,ab #[D0,D1,nv x σ] md),(880,ab #[rf e0,rf e1,rf e2] me),(w2,ab ws2 m2),(e2,af d2),(d2,ac w i20 i21 i22 i23 u2 r2 (nv x σ)),(u2,ab vs2 n2),(r2,ab #[] o2)] b t tb gl [0,2,4,6,8,10,12,14,16,18,20] 1 [K41,K47,1,1] [4,3,0,0] [] [] (@f3_21 P3 b t it mr md me w0 e0 w1 e1 w2 e2 d2 u2 r2 m2 n2 o2 i20 i21 i22 i23 x σ κ ν wv ev D0 D1 ws2 vs2 tb gl w):=by revert w;refine @bs _ ?_ ?_<;>intro w<;>kernel_rfl
theorem f3t_21 (E:ax) (hW2:aJ Ws2) (hn2:Ws2.length≤50) (hw2:aD ws2 Ws2) (hu2:aD vs2 Ws2) (hx:∃ y,y < 512∧x=32768+y) (IH:∀ P b t pv,HB w (di req) (eK P3 it) P ([(it,av 3 0),(874,aU w κ (pk [(1,rf 879),(2,rf 880),(3,pv)] ν) wv ev),(875,ah (rf 878)),(878,ab #[rf w0,rf w1,rf w2] mr),(879,ab #[D0,D1,nv x σ] md),(880,ab #[rf e0,rf e1,rf e2] me),(w2,ab ws2 m2),(e2,af d2),(d2,ac w i20 i21 i22 i23 u2 r2 (nv x σ)),(u2,ab vs2 n2),(r2,ab #[] o2)]++E) b t tb gl):HB w (di req) (eK P3 it) P ([(it,av 2 1),(874,aU w κ (pk [(1,rf 879),(2,rf 880),(3,pv)] ν) wv ev),(875,ah (rf 878)),(878,ab #[rf w0,rf w1,rf w2] mr),(879,ab #[D0,D1,nv x σ] md),(880,ab #[rf e0,rf e1,rf e2] me),(w2,ab ws2 m2),(e2,af d2),(d2,ac w i20 i21 i22 i23 u2 r2 (nv x σ)),(u2,ab vs2 n2),(r2,ab #[] o2)]++E) b t tb gl:=by
  have hD:ay (.int (.ofNat x) σ):=by obtain ⟨y,hy,rfl⟩:=hx;exact .inr ⟨y,σ,hy,rfl⟩
  refine qX E (f3_21' (κ:=κ) (ν:=ν)) rfl fun s hs Ξ ar=>?_
  refine gH rfl (eb hD hW2 hn2 hu2) fun b1 t1 ak _ _ hk1 _=>?_
  refine gH rfl (dq hD (d9 hW2) hn2 hw2) fun b2 t2 aw _ _ hk2 _=>?_
  refine gF rfl (ec (cE hk1 hk2 hu2 hw2)) fun b3 t3 aL _ _ _ _=>?_
  exact gA rfl ar fun s' hA hF=>d8 hs (IH _ _ _ _) (hs.addE hA hF (fun a h=>.inl h)) hF.appR (by show b≤_;omega) (dg (fun a h=>.inl h)) fun ys hk _=>⟨ys,hk,rfl,fh,rfl,rfl,rfl,fun a h=>h,ag⟩
theorem f3T_2 (E:ax) (hD2:ay D2) (hW2:aJ Ws2) (hn2:Ws2.length≤50) (hw2:aD ws2 Ws2) (hu2:aD vs2 Ws2) (IH:∀ P b t pv,HB w (di req) (eK P3 it) P ([(it,av 3 0),(874,aU w κ (pk [(1,rf 879),(2,rf 880),(3,pv)] ν) wv ev),(875,ah (rf 878)),(878,ab #[rf w0,rf w1,rf w2] mr),(879,ab #[D0,D1,D2] md),(880,ab #[rf e0,rf e1,rf e2] me),(w2,ab ws2 m2),(e2,af d2),(d2,ac w i20 i21 i22 i23 u2 r2 D2),(u2,ab vs2 n2),(r2,ab #[] o2)]++E) b t tb gl):HB w (di req) (eK P3 it) P ([(it,av 2 1),(874,aU w κ (pk [(1,rf 879),(2,rf 880),(3,pv)] ν) wv ev),(875,ah (rf 878)),(878,ab #[rf w0,rf w1,rf w2] mr),(879,ab #[D0,D1,D2] md),(880,ab #[rf e0,rf e1,rf e2] me),(w2,ab ws2 m2),(e2,af d2),(d2,ac w i20 i21 i22 i23 u2 r2 D2),(u2,ab vs2 n2),(r2,ab #[] o2)]++E) b t tb gl:=by
  rcases hD2 with rfl | ⟨y,τ,hy,rfl⟩
  · exact f3t_20 E hW2 hn2 hw2 hu2 IH
  · exact f3t_21 E hW2 hn2 hw2 hu2 ⟨y,hy,rfl⟩ IH
theorem f3_r2 (hD0:ay D0) (hW0:aJ Ws0) (hn0:Ws0.length≤50) (hw0:aD ws0 Ws0) (hu0:aD vs0 Ws0) (hD1:ay D1) (hW1:aJ Ws1) (hn1:Ws1.length≤50) (hw1:aD ws1 Ws1) (hu1:aD vs1 Ws1) (hD2:ay D2) (hW2:aJ Ws2) (hn2:Ws2.length≤50) (hw2:aD ws2 Ws2) (hu2:aD vs2 Ws2):HB w (di req) (eK P3 it) P ([(it,av 2 1),(874,aU w κ (pk [(1,rf 879),(2,rf 880),(3,pv)] ν) wv ev)]++([(875,ah (rf 878)),(878,ab #[rf w0,rf w1,rf w2] mr),(879,ab #[D0,D1,D2] md),(880,ab #[rf e0,rf e1,rf e2] me)]++([(w2,ab ws2 m2),(e2,af d2),(d2,ac w i20 i21 i22 i23 u2 r2 D2),(u2,ab vs2 n2),(r2,ab #[] o2)]++([(w0,ab ws0 m0),(e0,af d0),(d0,ac w i00 i01 i02 i03 u0 r0 D0),(u0,ab vs0 n0),(r0,ab #[] o0)]++[(w1,ab ws1 m1),(e1,af d1),(d1,ac w i10 i11 i12 i13 u1 r1 D1),(u1,ab vs1 n1),(r1,ab #[] o1)])))) b t tb gl:=f3T_2 ([(w0,ab ws0 m0),(e0,af d0),(d0,ac w i00 i01 i02 i03 u0 r0 D0),(u0,ab vs0 n0),(r0,ab #[] o0)]++[(w1,ab ws1 m1),(e1,af d1),(d1,ac w i10 i11 i12 i13 u1 r1 D1),(u1,ab vs1 n1),(r1,ab #[] o1)]) hD2 hW2 hn2 hw2 hu2 fun P b t pv=>f3t_E _
theorem f3_r1 (hD0:ay D0) (hW0:aJ Ws0) (hn0:Ws0.length≤50) (hw0:aD ws0 Ws0) (hu0:aD vs0 Ws0) (hD1:ay D1) (hW1:aJ Ws1) (hn1:Ws1.length≤50) (hw1:aD ws1 Ws1) (hu1:aD vs1 Ws1) (hD2:ay D2) (hW2:aJ Ws2) (hn2:Ws2.length≤50) (hw2:aD ws2 Ws2) (hu2:aD vs2 Ws2):HB w (di req) (eK P3 it) P ([(it,av 1 2),(874,aU w κ (pk [(1,rf 879),(2,rf 880),(3,pv)] ν) wv ev)]++([(875,ah (rf 878)),(878,ab #[rf w0,rf w1,rf w2] mr),(879,ab #[D0,D1,D2] md),(880,ab #[rf e0,rf e1,rf e2] me)]++([(w1,ab ws1 m1),(e1,af d1),(d1,ac w i10 i11 i12 i13 u1 r1 D1),(u1,ab vs1 n1),(r1,ab #[] o1)]++([(w0,ab ws0 m0),(e0,af d0),(d0,ac w i00 i01 i02 i03 u0 r0 D0),(u0,ab vs0 n0),(r0,ab #[] o0)]++[(w2,ab ws2 m2),(e2,af d2),(d2,ac w i20 i21 i22 i23 u2 r2 D2),(u2,ab vs2 n2),(r2,ab #[] o2)])))) b t tb gl:=f3T_1 ([(w0,ab ws0 m0),(e0,af d0),(d0,ac w i00 i01 i02 i03 u0 r0 D0),(u0,ab vs0 n0),(r0,ab #[] o0)]++[(w2,ab ws2 m2),(e2,af d2),(d2,ac w i20 i21 i22 i23 u2 r2 D2),(u2,ab vs2 n2),(r2,ab #[] o2)]) hD1 hW1 hn1 hw1 hu1 fun P b t pv=>ks (p3b [(875,ah (.ref 878)),(878,ab #[.ref w0,.ref w1,.ref w2] mr),(879,ab #[D0,D1,D2] md),(880,ab #[.ref e0,.ref e1,.ref e2] me)] [(w0,ab ws0 m0),(e0,af d0),(d0,ac w i00 i01 i02 i03 u0 r0 D0),(u0,ab vs0 n0),(r0,ab #[] o0)] [(w1,ab ws1 m1),(e1,af d1),(d1,ac w i10 i11 i12 i13 u1 r1 D1),(u1,ab vs1 n1),(r1,ab #[] o1)] [(w2,ab ws2 m2),(e2,af d2),(d2,ac w i20 i21 i22 i23 u2 r2 D2),(u2,ab vs2 n2),(r2,ab #[] o2)]) (f3_r2 hD0 hW0 hn0 hw0 hu0 hD1 hW1 hn1 hw1 hu1 hD2 hW2 hn2 hw2 hu2)
theorem f3_ok (hD0:ay D0) (hW0:aJ Ws0) (hn0:Ws0.length≤50) (hw0:aD ws0 Ws0) (hu0:aD vs0 Ws0) (hD1:ay D1) (hW1:aJ Ws1) (hn1:Ws1.length≤50) (hw1:aD ws1 Ws1) (hu1:aD vs1 Ws1) (hD2:ay D2) (hW2:aJ Ws2) (hn2:Ws2.length≤50) (hw2:aD ws2 Ws2) (hu2:aD vs2 Ws2):HB w (di req) (eK P3 it) P ([(it,av 0 3),(874,aU w κ (pk [(1,rf 879),(2,rf 880),(3,pv)] ν) wv ev)]++([(875,ah (rf 878)),(878,ab #[rf w0,rf w1,rf w2] mr),(879,ab #[D0,D1,D2] md),(880,ab #[rf e0,rf e1,rf e2] me)]++([(w0,ab ws0 m0),(e0,af d0),(d0,ac w i00 i01 i02 i03 u0 r0 D0),(u0,ab vs0 n0),(r0,ab #[] o0)]++([(w1,ab ws1 m1),(e1,af d1),(d1,ac w i10 i11 i12 i13 u1 r1 D1),(u1,ab vs1 n1),(r1,ab #[] o1)]++[(w2,ab ws2 m2),(e2,af d2),(d2,ac w i20 i21 i22 i23 u2 r2 D2),(u2,ab vs2 n2),(r2,ab #[] o2)])))) b t tb gl:=f3T_0 ([(w1,ab ws1 m1),(e1,af d1),(d1,ac w i10 i11 i12 i13 u1 r1 D1),(u1,ab vs1 n1),(r1,ab #[] o1)]++[(w2,ab ws2 m2),(e2,af d2),(d2,ac w i20 i21 i22 i23 u2 r2 D2),(u2,ab vs2 n2),(r2,ab #[] o2)]) hD0 hW0 hn0 hw0 hu0 fun P b t pv=>ks (p3a [(875,ah (.ref 878)),(878,ab #[.ref w0,.ref w1,.ref w2] mr),(879,ab #[D0,D1,D2] md),(880,ab #[.ref e0,.ref e1,.ref e2] me)] [(w0,ab ws0 m0),(e0,af d0),(d0,ac w i00 i01 i02 i03 u0 r0 D0),(u0,ab vs0 n0),(r0,ab #[] o0)] [(w1,ab ws1 m1),(e1,af d1),(d1,ac w i10 i11 i12 i13 u1 r1 D1),(u1,ab vs1 n1),(r1,ab #[] o1)] [(w2,ab ws2 m2),(e2,af d2),(d2,ac w i20 i21 i22 i23 u2 r2 D2),(u2,ab vs2 n2),(r2,ab #[] o2)]) (f3_r1 hD0 hW0 hn0 hw0 hu0 hD1 hW1 hn1 hw1 hu1 hD2 hW2 hn2 hw2 hu2)
end
section
variable {P PS:Pos} {b t aj it am m k0 x σ:Nat} {v0:Value} {a tb:Array Value} {gl:List GenState} {w:World} {req:List Nat}
noncomputable def ef:Nat→Bool→Str
  | _,false=>Str.mk #[45]
  | 0,true=>Str.mk #[114]
  | 1,true=>Str.mk #[119]
  | 2,true=>Str.mk #[120]
  | 3,true=>Str.mk #[114]
  | 4,true=>Str.mk #[119]
  | 5,true=>Str.mk #[120]
  | 6,true=>Str.mk #[114]
  | 7,true=>Str.mk #[119]
  | _,true=>Str.mk #[120]
theorem cl_sh:Cl fe:=by unfold fe;exact .list _ _ _ _ _ rfl
noncomputable def fG (x i:Nat):Bool:=decide (Int.fmod (Int.fdiv (.ofNat x) (Int.ofNat (2 ^ (8 - i)))) 2=1)
noncomputable def shL (x i:Nat):Str:=ef i (fG x i)
noncomputable def rngAt (pre:ax) (j:Nat):Nat:=match gm pre j with
  | .fields vs=>match vs.getD 0 .none with
    | .int (.ofNat i) _=>i
    | _=>0
  | _=>0
noncomputable abbrev bQ (w:World) (req:List Nat) (x:Nat):Hk:=dS req (fun _ _=>.ok .next) (fun pre ys=>match pre with
  | [_,_,_,c]=>[ab (ys.a 0) (ys.n 0),av 9 0,ap (.dict #[aq w.params "place" (ys.n 1) (ys.v 0)] 1),c.2]
  | _=>[]) (fun _ _=>[]) (fun pre ys=>∃ Bs,StrsAre Bs (((List.range 9).drop (rngAt pre 1)).map (shL x))∧(ys.a 0).toList=(bn pre 0).toList++Bs)
theorem bS {x i τ:Nat} {b:Bool} {a a1 r:Array Value} (hi:i < 9) (hb:fG x i=b) (e:a1=a.push (.str (ef i b) τ)) (h:∃ Bs,StrsAre Bs (((List.range 9).drop (i+1)).map (shL x))∧r.toList=a1.toList++Bs):∃ Bs,StrsAre Bs (((List.range 9).drop i).map (shL x))∧r.toList=a.toList++Bs:=by
  obtain ⟨Bs,h1,h2⟩:=h
  refine ⟨.str (ef i b) τ :: Bs,?_,by rw [h2,e];simp⟩
  rw [List.drop_eq_getElem_cons (by simpa using hi),List.map_cons,List.getElem_range]
  show StrsAre _ (ef i (fG x i) :: _)
  rw [hb]
  exact .cons _ _ h1
noncomputable abbrev cV (PS:Pos) (aj:Nat) (it:Nat) (am:Nat):Ctx:=⟨.compLoop fe 0 (rf it) (rf aj) (mkC fe (aX "law.<locals>.") none (rf 871) am (some 874) [(aX "last",876)]),none,none,[(bW aR au,PS),(aI,p0)],none⟩
noncomputable def sh_9:Rs :=
cF (.ok .next) [(aj,ab a m),(it,av 9 0),(am,ap (.dict #[aq w.params "place" k0 v0] 1)),(876,ah (nv x σ))] (b+2) t tb gl
theorem sh_9':aZ w (cV PS aj it am) P [(aj,ab a m),(it,av 9 0),(am,ap (.dict #[aq w.params "place" k0 v0] 1)),(876,ah (nv x σ))] b t tb gl [0,2,4,6] 1 [0x13ec998835202021212] [] [] [] (@sh_9 b t aj it am m k0 x σ v0 a tb gl w):=by kernel_rfl
theorem sht_9:HB w (bQ w req x) (cV PS aj it am) P [(aj,ab a m),(it,av 9 0),(am,ap (.dict #[aq w.params "place" k0 v0] 1)),(876,ah (nv x σ))] b t tb gl:=by
  refine qH sh_9' rfl fun s hs Ξ ar=>?_
  exact gD rfl ar fun s' hA hF=>⟨bf [m,k0] [a] [v0] [] [],_,_,⟨[],.nil,by show a.toList=_++[];rw [List.append_nil];rfl⟩,rfl,rfl,hA,hF,fun a h=>h,ag⟩
noncomputable abbrev iS (aj it am:Nat):Code :=
  (.compLoop fe 0 (rf it) (rf aj) (mkC fe (aX "law.<locals>.") none (rf 871) am (some 874) [(aX "last",876)]))
noncomputable def sh_80:Rs :=
.nF (aN [0] fun v=>∃ τ,v = .str (ef 8 false) τ) (cB "list.append" [rf aj,sv "-" (t+10)]) [(aj,ab a m)] b (t+11) (cb tb) gl [(.bool (decide (Int.fmod (Int.fdiv (.ofNat x) 1) 2=1)),.bool false)] [] fun b1 t1 ak =>
bF (iS aj it am) ⟨880,43,880,76⟩ [(aj,ab (ak.a 0) (ak.n 0)),(it,av 9 0),(am,ap (.dict #[aq w.params "place" k0 (.int 8 t)] 1)),(876,ah (nv x σ))] b1 t1 tb gl
noncomputable abbrev Zx1 (a:Array Value) (aj it k0 am m x σ:Nat) (v0:Value) (w:World):ax :=
  [(aj,ab a m),(it,av 8 1),(am,ap (.dict #[aq w.params "place" k0 v0] 1)),(876,ah (nv x σ))]
theorem sh_80':aZ w (cV PS aj it am) P (Zx1 a aj it k0 am m x σ v0 w) b t tb gl [0,2,4,6] 1 [K55,1,1] [3,0,0] [(0,.rw (cS (.bool false)))] [] (@sh_80 b t aj it am m k0 x σ a tb gl w):=by revert w;refine @bs _ ?_ ?_<;>intro w<;>kernel_rfl
theorem sht_80 (hA:a.size≤100) (hb:fG x 8=false) (IH:∀ P b t mq k0 v0 (a1:Array Value),a1.size=a.size+1→HB w (bQ w req x) (cV PS aj it am) P [(aj,ab a1 mq),(it,av 9 0),(am,ap (.dict #[aq w.params "place" k0 v0] 1)),(876,ah (nv x σ))] b t tb gl):HB w (bQ w req x) (cV PS aj it am) P (Zx1 a aj it k0 am m x σ v0 w) b t tb gl:=by
  have hbit:Value.bool (decide (Int.fmod (Int.fdiv (.ofNat x) 1) 2=1)) = .bool false:=congrArg Value.bool hb
  refine qH sh_80' rfl fun s hs Ξ ar=>?_
  refine dJ rfl (ao (hbit)) ag (aC (ai _) (by omega) ⟨_,rfl⟩) fun b1 t1 ak _ _ hk1 _=>?_
  obtain ⟨_,⟨τq,rfl⟩,hap0⟩:=hk1;have hap:ak.a 0=a.push (.str (ef 8 false) τq):=hap0
  exact gG rfl ar hs (IH _ _ _ _ _ _ _ (by rw [hap,Array.size_push])) fun ys hk=>bS (i:=8) (by omega) hb hap hk
noncomputable def sh_81:Rs :=
.nF (aN [0] fun v=>∃ τ,v = .str (ef 8 true) τ) (cB "list.append" [rf aj,sv "x" (t+11)]) [(aj,ab a m)] b (t+12) (cb tb) gl [(.bool (decide (Int.fmod (Int.fdiv (.ofNat x) 1) 2=1)),.bool true)] [] fun b1 t1 ak =>
bF (iS aj it am) ⟨880,21,880,39⟩ [(aj,ab (ak.a 0) (ak.n 0)),(it,av 9 0),(am,ap (.dict #[aq w.params "place" k0 (.int 8 t)] 1)),(876,ah (nv x σ))] b1 t1 tb gl
theorem sh_81':aZ w (cV PS aj it am) P (Zx1 a aj it k0 am m x σ v0 w) b t tb gl [0,2,4,6] 1 [K55,0x154,1] [4,0,0] [(0,.rw (cS (.bool true)))] [] (@sh_81 b t aj it am m k0 x σ a tb gl w):=by revert w;refine @bs _ ?_ ?_<;>intro w<;>kernel_rfl
theorem sht_81 (hA:a.size≤100) (hb:fG x 8=true) (IH:∀ P b t mq k0 v0 (a1:Array Value),a1.size=a.size+1→HB w (bQ w req x) (cV PS aj it am) P [(aj,ab a1 mq),(it,av 9 0),(am,ap (.dict #[aq w.params "place" k0 v0] 1)),(876,ah (nv x σ))] b t tb gl):HB w (bQ w req x) (cV PS aj it am) P (Zx1 a aj it k0 am m x σ v0 w) b t tb gl:=by
  have hbit:Value.bool (decide (Int.fmod (Int.fdiv (.ofNat x) 1) 2=1)) = .bool true:=congrArg Value.bool hb
  refine qH sh_81' rfl fun s hs Ξ ar=>?_
  refine dJ rfl (ao (hbit)) ag (aC (ai _) (by omega) ⟨_,rfl⟩) fun b1 t1 ak _ _ hk1 _=>?_
  obtain ⟨_,⟨τq,rfl⟩,hap0⟩:=hk1;have hap:ak.a 0=a.push (.str (ef 8 true) τq):=hap0
  exact gG rfl ar hs (IH _ _ _ _ _ _ _ (by rw [hap,Array.size_push])) fun ys hk=>bS (i:=8) (by omega) hb hap hk
theorem sho_8 (hA:a.size≤8):HB w (bQ w req x) (cV PS aj it am) P (Zx1 a aj it k0 am m x σ v0 w) b t tb gl:=by
  cases hb:fG x 8 with
  | true=>exact sht_81 (by omega) hb fun P b t mq k0 v0 a1 h=>sht_9
  | false=>exact sht_80 (by omega) hb fun P b t mq k0 v0 a1 h=>sht_9
noncomputable def sh_70:Rs :=
.nF (aN [0] fun v=>∃ τ,v = .str (ef 7 false) τ) (cB "list.append" [rf aj,sv "-" (t+10)]) [(aj,ab a m)] b (t+11) (cb tb) gl [(.bool (decide (Int.fmod (Int.fdiv (.ofNat x) 2) 2=1)),.bool false)] [] fun b1 t1 ak =>
bF (iS aj it am) ⟨880,43,880,76⟩ [(aj,ab (ak.a 0) (ak.n 0)),(it,av 8 1),(am,ap (.dict #[aq w.params "place" k0 (.int 7 t)] 1)),(876,ah (nv x σ))] b1 t1 tb gl
noncomputable abbrev Zx2 (a:Array Value) (aj it k0 am m x σ:Nat) (v0:Value) (w:World):ax :=
  [(aj,ab a m),(it,av 7 2),(am,ap (.dict #[aq w.params "place" k0 v0] 1)),(876,ah (nv x σ))]
theorem sh_70':aZ w (cV PS aj it am) P (Zx2 a aj it k0 am m x σ v0 w) b t tb gl [0,2,4,6] 1 [K55,1,1] [3,0,0] [(0,.rw (cS (.bool false)))] [] (@sh_70 b t aj it am m k0 x σ a tb gl w):=by revert w;refine @bs _ ?_ ?_<;>intro w<;>kernel_rfl
theorem sht_70 (hA:a.size≤100) (hb:fG x 7=false) (IH:∀ P b t mq k0 v0 (a1:Array Value),a1.size=a.size+1→HB w (bQ w req x) (cV PS aj it am) P [(aj,ab a1 mq),(it,av 8 1),(am,ap (.dict #[aq w.params "place" k0 v0] 1)),(876,ah (nv x σ))] b t tb gl):HB w (bQ w req x) (cV PS aj it am) P (Zx2 a aj it k0 am m x σ v0 w) b t tb gl:=by
  have hbit:Value.bool (decide (Int.fmod (Int.fdiv (.ofNat x) 2) 2=1)) = .bool false:=congrArg Value.bool hb
  refine qH sh_70' rfl fun s hs Ξ ar=>?_
  refine dJ rfl (ao (hbit)) ag (aC (ai _) (by omega) ⟨_,rfl⟩) fun b1 t1 ak _ _ hk1 _=>?_
  obtain ⟨_,⟨τq,rfl⟩,hap0⟩:=hk1;have hap:ak.a 0=a.push (.str (ef 7 false) τq):=hap0
  exact gG rfl ar hs (IH _ _ _ _ _ _ _ (by rw [hap,Array.size_push])) fun ys hk=>bS (i:=7) (by omega) hb hap hk
noncomputable def sh_71:Rs :=
.nF (aN [0] fun v=>∃ τ,v = .str (ef 7 true) τ) (cB "list.append" [rf aj,sv "w" (t+11)]) [(aj,ab a m)] b (t+12) (cb tb) gl [(.bool (decide (Int.fmod (Int.fdiv (.ofNat x) 2) 2=1)),.bool true)] [] fun b1 t1 ak =>
bF (iS aj it am) ⟨880,21,880,39⟩ [(aj,ab (ak.a 0) (ak.n 0)),(it,av 8 1),(am,ap (.dict #[aq w.params "place" k0 (.int 7 t)] 1)),(876,ah (nv x σ))] b1 t1 tb gl
theorem sh_71':aZ w (cV PS aj it am) P (Zx2 a aj it k0 am m x σ v0 w) b t tb gl [0,2,4,6] 1 [K55,0x154,1] [4,0,0] [(0,.rw (cS (.bool true)))] [] (@sh_71 b t aj it am m k0 x σ a tb gl w):=by revert w;refine @bs _ ?_ ?_<;>intro w<;>kernel_rfl
theorem sht_71 (hA:a.size≤100) (hb:fG x 7=true) (IH:∀ P b t mq k0 v0 (a1:Array Value),a1.size=a.size+1→HB w (bQ w req x) (cV PS aj it am) P [(aj,ab a1 mq),(it,av 8 1),(am,ap (.dict #[aq w.params "place" k0 v0] 1)),(876,ah (nv x σ))] b t tb gl):HB w (bQ w req x) (cV PS aj it am) P (Zx2 a aj it k0 am m x σ v0 w) b t tb gl:=by
  have hbit:Value.bool (decide (Int.fmod (Int.fdiv (.ofNat x) 2) 2=1)) = .bool true:=congrArg Value.bool hb
  refine qH sh_71' rfl fun s hs Ξ ar=>?_
  refine dJ rfl (ao (hbit)) ag (aC (ai _) (by omega) ⟨_,rfl⟩) fun b1 t1 ak _ _ hk1 _=>?_
  obtain ⟨_,⟨τq,rfl⟩,hap0⟩:=hk1;have hap:ak.a 0=a.push (.str (ef 7 true) τq):=hap0
  exact gG rfl ar hs (IH _ _ _ _ _ _ _ (by rw [hap,Array.size_push])) fun ys hk=>bS (i:=7) (by omega) hb hap hk
theorem sho_7 (hA:a.size≤7):HB w (bQ w req x) (cV PS aj it am) P (Zx2 a aj it k0 am m x σ v0 w) b t tb gl:=by
  cases hb:fG x 7 with
  | true=>exact sht_71 (by omega) hb fun P b t mq k0 v0 a1 h=>sho_8 (by omega)
  | false=>exact sht_70 (by omega) hb fun P b t mq k0 v0 a1 h=>sho_8 (by omega)
noncomputable def sh_60:Rs :=
.nF (aN [0] fun v=>∃ τ,v = .str (ef 6 false) τ) (cB "list.append" [rf aj,sv "-" (t+10)]) [(aj,ab a m)] b (t+11) (cb tb) gl [(.bool (decide (Int.fmod (Int.fdiv (.ofNat x) 4) 2=1)),.bool false)] [] fun b1 t1 ak =>
bF (iS aj it am) ⟨880,43,880,76⟩ [(aj,ab (ak.a 0) (ak.n 0)),(it,av 7 2),(am,ap (.dict #[aq w.params "place" k0 (.int 6 t)] 1)),(876,ah (nv x σ))] b1 t1 tb gl
noncomputable abbrev Zx3 (a:Array Value) (aj it k0 am m x σ:Nat) (v0:Value) (w:World):ax :=
  [(aj,ab a m),(it,av 6 3),(am,ap (.dict #[aq w.params "place" k0 v0] 1)),(876,ah (nv x σ))]
theorem sh_60':aZ w (cV PS aj it am) P (Zx3 a aj it k0 am m x σ v0 w) b t tb gl [0,2,4,6] 1 [K55,1,1] [3,0,0] [(0,.rw (cS (.bool false)))] [] (@sh_60 b t aj it am m k0 x σ a tb gl w):=by revert w;refine @bs _ ?_ ?_<;>intro w<;>kernel_rfl
theorem sht_60 (hA:a.size≤100) (hb:fG x 6=false) (IH:∀ P b t mq k0 v0 (a1:Array Value),a1.size=a.size+1→HB w (bQ w req x) (cV PS aj it am) P [(aj,ab a1 mq),(it,av 7 2),(am,ap (.dict #[aq w.params "place" k0 v0] 1)),(876,ah (nv x σ))] b t tb gl):HB w (bQ w req x) (cV PS aj it am) P (Zx3 a aj it k0 am m x σ v0 w) b t tb gl:=by
  have hbit:Value.bool (decide (Int.fmod (Int.fdiv (.ofNat x) 4) 2=1)) = .bool false:=congrArg Value.bool hb
  refine qH sh_60' rfl fun s hs Ξ ar=>?_
  refine dJ rfl (ao (hbit)) ag (aC (ai _) (by omega) ⟨_,rfl⟩) fun b1 t1 ak _ _ hk1 _=>?_
  obtain ⟨_,⟨τq,rfl⟩,hap0⟩:=hk1;have hap:ak.a 0=a.push (.str (ef 6 false) τq):=hap0
  exact gG rfl ar hs (IH _ _ _ _ _ _ _ (by rw [hap,Array.size_push])) fun ys hk=>bS (i:=6) (by omega) hb hap hk
noncomputable def sh_61:Rs :=
.nF (aN [0] fun v=>∃ τ,v = .str (ef 6 true) τ) (cB "list.append" [rf aj,sv "r" (t+11)]) [(aj,ab a m)] b (t+12) (cb tb) gl [(.bool (decide (Int.fmod (Int.fdiv (.ofNat x) 4) 2=1)),.bool true)] [] fun b1 t1 ak =>
bF (iS aj it am) ⟨880,21,880,39⟩ [(aj,ab (ak.a 0) (ak.n 0)),(it,av 7 2),(am,ap (.dict #[aq w.params "place" k0 (.int 6 t)] 1)),(876,ah (nv x σ))] b1 t1 tb gl
theorem sh_61':aZ w (cV PS aj it am) P (Zx3 a aj it k0 am m x σ v0 w) b t tb gl [0,2,4,6] 1 [K55,0x154,1] [4,0,0] [(0,.rw (cS (.bool true)))] [] (@sh_61 b t aj it am m k0 x σ a tb gl w):=by revert w;refine @bs _ ?_ ?_<;>intro w<;>kernel_rfl
theorem sht_61 (hA:a.size≤100) (hb:fG x 6=true) (IH:∀ P b t mq k0 v0 (a1:Array Value),a1.size=a.size+1→HB w (bQ w req x) (cV PS aj it am) P [(aj,ab a1 mq),(it,av 7 2),(am,ap (.dict #[aq w.params "place" k0 v0] 1)),(876,ah (nv x σ))] b t tb gl):HB w (bQ w req x) (cV PS aj it am) P (Zx3 a aj it k0 am m x σ v0 w) b t tb gl:=by
  have hbit:Value.bool (decide (Int.fmod (Int.fdiv (.ofNat x) 4) 2=1)) = .bool true:=congrArg Value.bool hb
  refine qH sh_61' rfl fun s hs Ξ ar=>?_
  refine dJ rfl (ao (hbit)) ag (aC (ai _) (by omega) ⟨_,rfl⟩) fun b1 t1 ak _ _ hk1 _=>?_
  obtain ⟨_,⟨τq,rfl⟩,hap0⟩:=hk1;have hap:ak.a 0=a.push (.str (ef 6 true) τq):=hap0
  exact gG rfl ar hs (IH _ _ _ _ _ _ _ (by rw [hap,Array.size_push])) fun ys hk=>bS (i:=6) (by omega) hb hap hk
theorem sho_6 (hA:a.size≤6):HB w (bQ w req x) (cV PS aj it am) P (Zx3 a aj it k0 am m x σ v0 w) b t tb gl:=by
  cases hb:fG x 6 with
  | true=>exact sht_61 (by omega) hb fun P b t mq k0 v0 a1 h=>sho_7 (by omega)
  | false=>exact sht_60 (by omega) hb fun P b t mq k0 v0 a1 h=>sho_7 (by omega)
noncomputable def sh_50:Rs :=
.nF (aN [0] fun v=>∃ τ,v = .str (ef 5 false) τ) (cB "list.append" [rf aj,sv "-" (t+10)]) [(aj,ab a m)] b (t+11) (cb tb) gl [(.bool (decide (Int.fmod (Int.fdiv (.ofNat x) 8) 2=1)),.bool false)] [] fun b1 t1 ak =>
bF (iS aj it am) ⟨880,43,880,76⟩ [(aj,ab (ak.a 0) (ak.n 0)),(it,av 6 3),(am,ap (.dict #[aq w.params "place" k0 (.int 5 t)] 1)),(876,ah (nv x σ))] b1 t1 tb gl
noncomputable abbrev Zx4 (a:Array Value) (aj it k0 am m x σ:Nat) (v0:Value) (w:World):ax :=
  [(aj,ab a m),(it,av 5 4),(am,ap (.dict #[aq w.params "place" k0 v0] 1)),(876,ah (nv x σ))]
theorem sh_50':aZ w (cV PS aj it am) P (Zx4 a aj it k0 am m x σ v0 w) b t tb gl [0,2,4,6] 1 [K55,1,1] [3,0,0] [(0,.rw (cS (.bool false)))] [] (@sh_50 b t aj it am m k0 x σ a tb gl w):=by revert w;refine @bs _ ?_ ?_<;>intro w<;>kernel_rfl
theorem sht_50 (hA:a.size≤100) (hb:fG x 5=false) (IH:∀ P b t mq k0 v0 (a1:Array Value),a1.size=a.size+1→HB w (bQ w req x) (cV PS aj it am) P [(aj,ab a1 mq),(it,av 6 3),(am,ap (.dict #[aq w.params "place" k0 v0] 1)),(876,ah (nv x σ))] b t tb gl):HB w (bQ w req x) (cV PS aj it am) P (Zx4 a aj it k0 am m x σ v0 w) b t tb gl:=by
  have hbit:Value.bool (decide (Int.fmod (Int.fdiv (.ofNat x) 8) 2=1)) = .bool false:=congrArg Value.bool hb
  refine qH sh_50' rfl fun s hs Ξ ar=>?_
  refine dJ rfl (ao (hbit)) ag (aC (ai _) (by omega) ⟨_,rfl⟩) fun b1 t1 ak _ _ hk1 _=>?_
  obtain ⟨_,⟨τq,rfl⟩,hap0⟩:=hk1;have hap:ak.a 0=a.push (.str (ef 5 false) τq):=hap0
  exact gG rfl ar hs (IH _ _ _ _ _ _ _ (by rw [hap,Array.size_push])) fun ys hk=>bS (i:=5) (by omega) hb hap hk
noncomputable def sh_51:Rs :=
.nF (aN [0] fun v=>∃ τ,v = .str (ef 5 true) τ) (cB "list.append" [rf aj,sv "x" (t+11)]) [(aj,ab a m)] b (t+12) (cb tb) gl [(.bool (decide (Int.fmod (Int.fdiv (.ofNat x) 8) 2=1)),.bool true)] [] fun b1 t1 ak =>
bF (iS aj it am) ⟨880,21,880,39⟩ [(aj,ab (ak.a 0) (ak.n 0)),(it,av 6 3),(am,ap (.dict #[aq w.params "place" k0 (.int 5 t)] 1)),(876,ah (nv x σ))] b1 t1 tb gl
theorem sh_51':aZ w (cV PS aj it am) P (Zx4 a aj it k0 am m x σ v0 w) b t tb gl [0,2,4,6] 1 [K55,0x154,1] [4,0,0] [(0,.rw (cS (.bool true)))] [] (@sh_51 b t aj it am m k0 x σ a tb gl w):=by revert w;refine @bs _ ?_ ?_<;>intro w<;>kernel_rfl
theorem sht_51 (hA:a.size≤100) (hb:fG x 5=true) (IH:∀ P b t mq k0 v0 (a1:Array Value),a1.size=a.size+1→HB w (bQ w req x) (cV PS aj it am) P [(aj,ab a1 mq),(it,av 6 3),(am,ap (.dict #[aq w.params "place" k0 v0] 1)),(876,ah (nv x σ))] b t tb gl):HB w (bQ w req x) (cV PS aj it am) P (Zx4 a aj it k0 am m x σ v0 w) b t tb gl:=by
  have hbit:Value.bool (decide (Int.fmod (Int.fdiv (.ofNat x) 8) 2=1)) = .bool true:=congrArg Value.bool hb
  refine qH sh_51' rfl fun s hs Ξ ar=>?_
  refine dJ rfl (ao (hbit)) ag (aC (ai _) (by omega) ⟨_,rfl⟩) fun b1 t1 ak _ _ hk1 _=>?_
  obtain ⟨_,⟨τq,rfl⟩,hap0⟩:=hk1;have hap:ak.a 0=a.push (.str (ef 5 true) τq):=hap0
  exact gG rfl ar hs (IH _ _ _ _ _ _ _ (by rw [hap,Array.size_push])) fun ys hk=>bS (i:=5) (by omega) hb hap hk
theorem sho_5 (hA:a.size≤5):HB w (bQ w req x) (cV PS aj it am) P (Zx4 a aj it k0 am m x σ v0 w) b t tb gl:=by
  cases hb:fG x 5 with
  | true=>exact sht_51 (by omega) hb fun P b t mq k0 v0 a1 h=>sho_6 (by omega)
  | false=>exact sht_50 (by omega) hb fun P b t mq k0 v0 a1 h=>sho_6 (by omega)
noncomputable def sh_40:Rs :=
.nF (aN [0] fun v=>∃ τ,v = .str (ef 4 false) τ) (cB "list.append" [rf aj,sv "-" (t+10)]) [(aj,ab a m)] b (t+11) (cb tb) gl [(.bool (decide (Int.fmod (Int.fdiv (.ofNat x) 16) 2=1)),.bool false)] [] fun b1 t1 ak =>
bF (iS aj it am) ⟨880,43,880,76⟩ [(aj,ab (ak.a 0) (ak.n 0)),(it,av 5 4),(am,ap (.dict #[aq w.params "place" k0 (.int 4 t)] 1)),(876,ah (nv x σ))] b1 t1 tb gl
noncomputable abbrev Zx5 (a:Array Value) (aj it k0 am m x σ:Nat) (v0:Value) (w:World):ax :=
  [(aj,ab a m),(it,av 4 5),(am,ap (.dict #[aq w.params "place" k0 v0] 1)),(876,ah (nv x σ))]
theorem sh_40':aZ w (cV PS aj it am) P (Zx5 a aj it k0 am m x σ v0 w) b t tb gl [0,2,4,6] 1 [K55,1,1] [3,0,0] [(0,.rw (cS (.bool false)))] [] (@sh_40 b t aj it am m k0 x σ a tb gl w):=by revert w;refine @bs _ ?_ ?_<;>intro w<;>kernel_rfl
theorem sht_40 (hA:a.size≤100) (hb:fG x 4=false) (IH:∀ P b t mq k0 v0 (a1:Array Value),a1.size=a.size+1→HB w (bQ w req x) (cV PS aj it am) P [(aj,ab a1 mq),(it,av 5 4),(am,ap (.dict #[aq w.params "place" k0 v0] 1)),(876,ah (nv x σ))] b t tb gl):HB w (bQ w req x) (cV PS aj it am) P (Zx5 a aj it k0 am m x σ v0 w) b t tb gl:=by
  have hbit:Value.bool (decide (Int.fmod (Int.fdiv (.ofNat x) 16) 2=1)) = .bool false:=congrArg Value.bool hb
  refine qH sh_40' rfl fun s hs Ξ ar=>?_
  refine dJ rfl (ao (hbit)) ag (aC (ai _) (by omega) ⟨_,rfl⟩) fun b1 t1 ak _ _ hk1 _=>?_
  obtain ⟨_,⟨τq,rfl⟩,hap0⟩:=hk1;have hap:ak.a 0=a.push (.str (ef 4 false) τq):=hap0
  exact gG rfl ar hs (IH _ _ _ _ _ _ _ (by rw [hap,Array.size_push])) fun ys hk=>bS (i:=4) (by omega) hb hap hk
noncomputable def sh_41:Rs :=
.nF (aN [0] fun v=>∃ τ,v = .str (ef 4 true) τ) (cB "list.append" [rf aj,sv "w" (t+11)]) [(aj,ab a m)] b (t+12) (cb tb) gl [(.bool (decide (Int.fmod (Int.fdiv (.ofNat x) 16) 2=1)),.bool true)] [] fun b1 t1 ak =>
bF (iS aj it am) ⟨880,21,880,39⟩ [(aj,ab (ak.a 0) (ak.n 0)),(it,av 5 4),(am,ap (.dict #[aq w.params "place" k0 (.int 4 t)] 1)),(876,ah (nv x σ))] b1 t1 tb gl
theorem sh_41':aZ w (cV PS aj it am) P (Zx5 a aj it k0 am m x σ v0 w) b t tb gl [0,2,4,6] 1 [K55,0x154,1] [4,0,0] [(0,.rw (cS (.bool true)))] [] (@sh_41 b t aj it am m k0 x σ a tb gl w):=by revert w;refine @bs _ ?_ ?_<;>intro w<;>kernel_rfl
theorem sht_41 (hA:a.size≤100) (hb:fG x 4=true) (IH:∀ P b t mq k0 v0 (a1:Array Value),a1.size=a.size+1→HB w (bQ w req x) (cV PS aj it am) P [(aj,ab a1 mq),(it,av 5 4),(am,ap (.dict #[aq w.params "place" k0 v0] 1)),(876,ah (nv x σ))] b t tb gl):HB w (bQ w req x) (cV PS aj it am) P (Zx5 a aj it k0 am m x σ v0 w) b t tb gl:=by
  have hbit:Value.bool (decide (Int.fmod (Int.fdiv (.ofNat x) 16) 2=1)) = .bool true:=congrArg Value.bool hb
  refine qH sh_41' rfl fun s hs Ξ ar=>?_
  refine dJ rfl (ao (hbit)) ag (aC (ai _) (by omega) ⟨_,rfl⟩) fun b1 t1 ak _ _ hk1 _=>?_
  obtain ⟨_,⟨τq,rfl⟩,hap0⟩:=hk1;have hap:ak.a 0=a.push (.str (ef 4 true) τq):=hap0
  exact gG rfl ar hs (IH _ _ _ _ _ _ _ (by rw [hap,Array.size_push])) fun ys hk=>bS (i:=4) (by omega) hb hap hk
theorem sho_4 (hA:a.size≤4):HB w (bQ w req x) (cV PS aj it am) P (Zx5 a aj it k0 am m x σ v0 w) b t tb gl:=by
  cases hb:fG x 4 with
  | true=>exact sht_41 (by omega) hb fun P b t mq k0 v0 a1 h=>sho_5 (by omega)
  | false=>exact sht_40 (by omega) hb fun P b t mq k0 v0 a1 h=>sho_5 (by omega)
noncomputable def sh_30:Rs :=
.nF (aN [0] fun v=>∃ τ,v = .str (ef 3 false) τ) (cB "list.append" [rf aj,sv "-" (t+10)]) [(aj,ab a m)] b (t+11) (cb tb) gl [(.bool (decide (Int.fmod (Int.fdiv (.ofNat x) 32) 2=1)),.bool false)] [] fun b1 t1 ak =>
bF (iS aj it am) ⟨880,43,880,76⟩ [(aj,ab (ak.a 0) (ak.n 0)),(it,av 4 5),(am,ap (.dict #[aq w.params "place" k0 (.int 3 t)] 1)),(876,ah (nv x σ))] b1 t1 tb gl
noncomputable abbrev Zx6 (a:Array Value) (aj it k0 am m x σ:Nat) (v0:Value) (w:World):ax :=
  [(aj,ab a m),(it,av 3 6),(am,ap (.dict #[aq w.params "place" k0 v0] 1)),(876,ah (nv x σ))]
theorem sh_30':aZ w (cV PS aj it am) P (Zx6 a aj it k0 am m x σ v0 w) b t tb gl [0,2,4,6] 1 [K55,1,1] [3,0,0] [(0,.rw (cS (.bool false)))] [] (@sh_30 b t aj it am m k0 x σ a tb gl w):=by revert w;refine @bs _ ?_ ?_<;>intro w<;>kernel_rfl
theorem sht_30 (hA:a.size≤100) (hb:fG x 3=false) (IH:∀ P b t mq k0 v0 (a1:Array Value),a1.size=a.size+1→HB w (bQ w req x) (cV PS aj it am) P [(aj,ab a1 mq),(it,av 4 5),(am,ap (.dict #[aq w.params "place" k0 v0] 1)),(876,ah (nv x σ))] b t tb gl):HB w (bQ w req x) (cV PS aj it am) P (Zx6 a aj it k0 am m x σ v0 w) b t tb gl:=by
  have hbit:Value.bool (decide (Int.fmod (Int.fdiv (.ofNat x) 32) 2=1)) = .bool false:=congrArg Value.bool hb
  refine qH sh_30' rfl fun s hs Ξ ar=>?_
  refine dJ rfl (ao (hbit)) ag (aC (ai _) (by omega) ⟨_,rfl⟩) fun b1 t1 ak _ _ hk1 _=>?_
  obtain ⟨_,⟨τq,rfl⟩,hap0⟩:=hk1;have hap:ak.a 0=a.push (.str (ef 3 false) τq):=hap0
  exact gG rfl ar hs (IH _ _ _ _ _ _ _ (by rw [hap,Array.size_push])) fun ys hk=>bS (i:=3) (by omega) hb hap hk
noncomputable def sh_31:Rs :=
.nF (aN [0] fun v=>∃ τ,v = .str (ef 3 true) τ) (cB "list.append" [rf aj,sv "r" (t+11)]) [(aj,ab a m)] b (t+12) (cb tb) gl [(.bool (decide (Int.fmod (Int.fdiv (.ofNat x) 32) 2=1)),.bool true)] [] fun b1 t1 ak =>
bF (iS aj it am) ⟨880,21,880,39⟩ [(aj,ab (ak.a 0) (ak.n 0)),(it,av 4 5),(am,ap (.dict #[aq w.params "place" k0 (.int 3 t)] 1)),(876,ah (nv x σ))] b1 t1 tb gl
theorem sh_31':aZ w (cV PS aj it am) P (Zx6 a aj it k0 am m x σ v0 w) b t tb gl [0,2,4,6] 1 [K55,0x154,1] [4,0,0] [(0,.rw (cS (.bool true)))] [] (@sh_31 b t aj it am m k0 x σ a tb gl w):=by revert w;refine @bs _ ?_ ?_<;>intro w<;>kernel_rfl
theorem sht_31 (hA:a.size≤100) (hb:fG x 3=true) (IH:∀ P b t mq k0 v0 (a1:Array Value),a1.size=a.size+1→HB w (bQ w req x) (cV PS aj it am) P [(aj,ab a1 mq),(it,av 4 5),(am,ap (.dict #[aq w.params "place" k0 v0] 1)),(876,ah (nv x σ))] b t tb gl):HB w (bQ w req x) (cV PS aj it am) P (Zx6 a aj it k0 am m x σ v0 w) b t tb gl:=by
  have hbit:Value.bool (decide (Int.fmod (Int.fdiv (.ofNat x) 32) 2=1)) = .bool true:=congrArg Value.bool hb
  refine qH sh_31' rfl fun s hs Ξ ar=>?_
  refine dJ rfl (ao (hbit)) ag (aC (ai _) (by omega) ⟨_,rfl⟩) fun b1 t1 ak _ _ hk1 _=>?_
  obtain ⟨_,⟨τq,rfl⟩,hap0⟩:=hk1;have hap:ak.a 0=a.push (.str (ef 3 true) τq):=hap0
  exact gG rfl ar hs (IH _ _ _ _ _ _ _ (by rw [hap,Array.size_push])) fun ys hk=>bS (i:=3) (by omega) hb hap hk
theorem sho_3 (hA:a.size≤3):HB w (bQ w req x) (cV PS aj it am) P (Zx6 a aj it k0 am m x σ v0 w) b t tb gl:=by
  cases hb:fG x 3 with
  | true=>exact sht_31 (by omega) hb fun P b t mq k0 v0 a1 h=>sho_4 (by omega)
  | false=>exact sht_30 (by omega) hb fun P b t mq k0 v0 a1 h=>sho_4 (by omega)
noncomputable def sh_20:Rs :=
.nF (aN [0] fun v=>∃ τ,v = .str (ef 2 false) τ) (cB "list.append" [rf aj,sv "-" (t+10)]) [(aj,ab a m)] b (t+11) (cb tb) gl [(.bool (decide (Int.fmod (Int.fdiv (.ofNat x) 64) 2=1)),.bool false)] [] fun b1 t1 ak =>
bF (iS aj it am) ⟨880,43,880,76⟩ [(aj,ab (ak.a 0) (ak.n 0)),(it,av 3 6),(am,ap (.dict #[aq w.params "place" k0 (.int 2 t)] 1)),(876,ah (nv x σ))] b1 t1 tb gl
noncomputable abbrev Zx7 (a:Array Value) (aj it k0 am m x σ:Nat) (v0:Value) (w:World):ax :=
  [(aj,ab a m),(it,av 2 7),(am,ap (.dict #[aq w.params "place" k0 v0] 1)),(876,ah (nv x σ))]
theorem sh_20':aZ w (cV PS aj it am) P (Zx7 a aj it k0 am m x σ v0 w) b t tb gl [0,2,4,6] 1 [K55,1,1] [3,0,0] [(0,.rw (cS (.bool false)))] [] (@sh_20 b t aj it am m k0 x σ a tb gl w):=by revert w;refine @bs _ ?_ ?_<;>intro w<;>kernel_rfl
theorem sht_20 (hA:a.size≤100) (hb:fG x 2=false) (IH:∀ P b t mq k0 v0 (a1:Array Value),a1.size=a.size+1→HB w (bQ w req x) (cV PS aj it am) P [(aj,ab a1 mq),(it,av 3 6),(am,ap (.dict #[aq w.params "place" k0 v0] 1)),(876,ah (nv x σ))] b t tb gl):HB w (bQ w req x) (cV PS aj it am) P (Zx7 a aj it k0 am m x σ v0 w) b t tb gl:=by
  have hbit:Value.bool (decide (Int.fmod (Int.fdiv (.ofNat x) 64) 2=1)) = .bool false:=congrArg Value.bool hb
  refine qH sh_20' rfl fun s hs Ξ ar=>?_
  refine dJ rfl (ao (hbit)) ag (aC (ai _) (by omega) ⟨_,rfl⟩) fun b1 t1 ak _ _ hk1 _=>?_
  obtain ⟨_,⟨τq,rfl⟩,hap0⟩:=hk1;have hap:ak.a 0=a.push (.str (ef 2 false) τq):=hap0
  exact gG rfl ar hs (IH _ _ _ _ _ _ _ (by rw [hap,Array.size_push])) fun ys hk=>bS (i:=2) (by omega) hb hap hk
noncomputable def sh_21:Rs :=
.nF (aN [0] fun v=>∃ τ,v = .str (ef 2 true) τ) (cB "list.append" [rf aj,sv "x" (t+11)]) [(aj,ab a m)] b (t+12) (cb tb) gl [(.bool (decide (Int.fmod (Int.fdiv (.ofNat x) 64) 2=1)),.bool true)] [] fun b1 t1 ak =>
bF (iS aj it am) ⟨880,21,880,39⟩ [(aj,ab (ak.a 0) (ak.n 0)),(it,av 3 6),(am,ap (.dict #[aq w.params "place" k0 (.int 2 t)] 1)),(876,ah (nv x σ))] b1 t1 tb gl
theorem sh_21':aZ w (cV PS aj it am) P (Zx7 a aj it k0 am m x σ v0 w) b t tb gl [0,2,4,6] 1 [K55,0x154,1] [4,0,0] [(0,.rw (cS (.bool true)))] [] (@sh_21 b t aj it am m k0 x σ a tb gl w):=by revert w;refine @bs _ ?_ ?_<;>intro w<;>kernel_rfl
theorem sht_21 (hA:a.size≤100) (hb:fG x 2=true) (IH:∀ P b t mq k0 v0 (a1:Array Value),a1.size=a.size+1→HB w (bQ w req x) (cV PS aj it am) P [(aj,ab a1 mq),(it,av 3 6),(am,ap (.dict #[aq w.params "place" k0 v0] 1)),(876,ah (nv x σ))] b t tb gl):HB w (bQ w req x) (cV PS aj it am) P (Zx7 a aj it k0 am m x σ v0 w) b t tb gl:=by
  have hbit:Value.bool (decide (Int.fmod (Int.fdiv (.ofNat x) 64) 2=1)) = .bool true:=congrArg Value.bool hb
  refine qH sh_21' rfl fun s hs Ξ ar=>?_
  refine dJ rfl (ao (hbit)) ag (aC (ai _) (by omega) ⟨_,rfl⟩) fun b1 t1 ak _ _ hk1 _=>?_
  obtain ⟨_,⟨τq,rfl⟩,hap0⟩:=hk1;have hap:ak.a 0=a.push (.str (ef 2 true) τq):=hap0
  exact gG rfl ar hs (IH _ _ _ _ _ _ _ (by rw [hap,Array.size_push])) fun ys hk=>bS (i:=2) (by omega) hb hap hk
theorem sho_2 (hA:a.size≤2):HB w (bQ w req x) (cV PS aj it am) P (Zx7 a aj it k0 am m x σ v0 w) b t tb gl:=by
  cases hb:fG x 2 with
  | true=>exact sht_21 (by omega) hb fun P b t mq k0 v0 a1 h=>sho_3 (by omega)
  | false=>exact sht_20 (by omega) hb fun P b t mq k0 v0 a1 h=>sho_3 (by omega)
noncomputable def sh_10:Rs :=
.nF (aN [0] fun v=>∃ τ,v = .str (ef 1 false) τ) (cB "list.append" [rf aj,sv "-" (t+10)]) [(aj,ab a m)] b (t+11) (cb tb) gl [(.bool (decide (Int.fmod (Int.fdiv (.ofNat x) 128) 2=1)),.bool false)] [] fun b1 t1 ak =>
bF (iS aj it am) ⟨880,43,880,76⟩ [(aj,ab (ak.a 0) (ak.n 0)),(it,av 2 7),(am,ap (.dict #[aq w.params "place" k0 (.int 1 t)] 1)),(876,ah (nv x σ))] b1 t1 tb gl
noncomputable abbrev Zx8 (a:Array Value) (aj it k0 am m x σ:Nat) (v0:Value) (w:World):ax :=
  [(aj,ab a m),(it,av 1 8),(am,ap (.dict #[aq w.params "place" k0 v0] 1)),(876,ah (nv x σ))]
theorem sh_10':aZ w (cV PS aj it am) P (Zx8 a aj it k0 am m x σ v0 w) b t tb gl [0,2,4,6] 1 [K55,1,1] [3,0,0] [(0,.rw (cS (.bool false)))] [] (@sh_10 b t aj it am m k0 x σ a tb gl w):=by revert w;refine @bs _ ?_ ?_<;>intro w<;>kernel_rfl
theorem sht_10 (hA:a.size≤100) (hb:fG x 1=false) (IH:∀ P b t mq k0 v0 (a1:Array Value),a1.size=a.size+1→HB w (bQ w req x) (cV PS aj it am) P [(aj,ab a1 mq),(it,av 2 7),(am,ap (.dict #[aq w.params "place" k0 v0] 1)),(876,ah (nv x σ))] b t tb gl):HB w (bQ w req x) (cV PS aj it am) P (Zx8 a aj it k0 am m x σ v0 w) b t tb gl:=by
  have hbit:Value.bool (decide (Int.fmod (Int.fdiv (.ofNat x) 128) 2=1)) = .bool false:=congrArg Value.bool hb
  refine qH sh_10' rfl fun s hs Ξ ar=>?_
  refine dJ rfl (ao (hbit)) ag (aC (ai _) (by omega) ⟨_,rfl⟩) fun b1 t1 ak _ _ hk1 _=>?_
  obtain ⟨_,⟨τq,rfl⟩,hap0⟩:=hk1;have hap:ak.a 0=a.push (.str (ef 1 false) τq):=hap0
  exact gG rfl ar hs (IH _ _ _ _ _ _ _ (by rw [hap,Array.size_push])) fun ys hk=>bS (i:=1) (by omega) hb hap hk
noncomputable def sh_11:Rs :=
.nF (aN [0] fun v=>∃ τ,v = .str (ef 1 true) τ) (cB "list.append" [rf aj,sv "w" (t+11)]) [(aj,ab a m)] b (t+12) (cb tb) gl [(.bool (decide (Int.fmod (Int.fdiv (.ofNat x) 128) 2=1)),.bool true)] [] fun b1 t1 ak =>
bF (iS aj it am) ⟨880,21,880,39⟩ [(aj,ab (ak.a 0) (ak.n 0)),(it,av 2 7),(am,ap (.dict #[aq w.params "place" k0 (.int 1 t)] 1)),(876,ah (nv x σ))] b1 t1 tb gl
theorem sh_11':aZ w (cV PS aj it am) P (Zx8 a aj it k0 am m x σ v0 w) b t tb gl [0,2,4,6] 1 [K55,0x154,1] [4,0,0] [(0,.rw (cS (.bool true)))] [] (@sh_11 b t aj it am m k0 x σ a tb gl w):=by revert w;refine @bs _ ?_ ?_<;>intro w<;>kernel_rfl
theorem sht_11 (hA:a.size≤100) (hb:fG x 1=true) (IH:∀ P b t mq k0 v0 (a1:Array Value),a1.size=a.size+1→HB w (bQ w req x) (cV PS aj it am) P [(aj,ab a1 mq),(it,av 2 7),(am,ap (.dict #[aq w.params "place" k0 v0] 1)),(876,ah (nv x σ))] b t tb gl):HB w (bQ w req x) (cV PS aj it am) P (Zx8 a aj it k0 am m x σ v0 w) b t tb gl:=by
  have hbit:Value.bool (decide (Int.fmod (Int.fdiv (.ofNat x) 128) 2=1)) = .bool true:=congrArg Value.bool hb
  refine qH sh_11' rfl fun s hs Ξ ar=>?_
  refine dJ rfl (ao (hbit)) ag (aC (ai _) (by omega) ⟨_,rfl⟩) fun b1 t1 ak _ _ hk1 _=>?_
  obtain ⟨_,⟨τq,rfl⟩,hap0⟩:=hk1;have hap:ak.a 0=a.push (.str (ef 1 true) τq):=hap0
  exact gG rfl ar hs (IH _ _ _ _ _ _ _ (by rw [hap,Array.size_push])) fun ys hk=>bS (i:=1) (by omega) hb hap hk
theorem sho_1 (hA:a.size≤1):HB w (bQ w req x) (cV PS aj it am) P (Zx8 a aj it k0 am m x σ v0 w) b t tb gl:=by
  cases hb:fG x 1 with
  | true=>exact sht_11 (by omega) hb fun P b t mq k0 v0 a1 h=>sho_2 (by omega)
  | false=>exact sht_10 (by omega) hb fun P b t mq k0 v0 a1 h=>sho_2 (by omega)
noncomputable def sh_00:Rs :=
.nF (aN [0] fun v=>∃ τ,v = .str (ef 0 false) τ) (cB "list.append" [rf aj,sv "-" (t+10)]) [(aj,ab a m)] b (t+11) (cb tb) gl [(.bool (decide (Int.fmod (Int.fdiv (.ofNat x) 256) 2=1)),.bool false)] [] fun b1 t1 ak =>
bF (iS aj it am) ⟨880,43,880,76⟩ [(aj,ab (ak.a 0) (ak.n 0)),(it,av 1 8),(am,ap (.dict #[aq w.params "place" (t+1) (.int 0 t)] 1)),(876,ah (nv x σ))] b1 t1 tb gl
noncomputable abbrev Zx9 (a:Array Value) (aj it am m x σ:Nat):ax :=
  [(aj,ab a m),(it,av 0 9),(am,ap (.dict #[] 0)),(876,ah (nv x σ))]
theorem sh_00':aZ w (cV PS aj it am) P (Zx9 a aj it am m x σ) b t tb gl [0,2,4,6] 1 [K55,1,1] [3,0,0] [(0,.rw (cS (.bool false)))] [] (@sh_00 b t aj it am m x σ a tb gl w):=by revert w;refine @bs _ ?_ ?_<;>intro w<;>kernel_rfl
theorem sht_00 (hA:a.size≤100) (hb:fG x 0=false) (IH:∀ P b t mq k0 v0 (a1:Array Value),a1.size=a.size+1→HB w (bQ w req x) (cV PS aj it am) P [(aj,ab a1 mq),(it,av 1 8),(am,ap (.dict #[aq w.params "place" k0 v0] 1)),(876,ah (nv x σ))] b t tb gl):HB w (bQ w req x) (cV PS aj it am) P (Zx9 a aj it am m x σ) b t tb gl:=by
  have hbit:Value.bool (decide (Int.fmod (Int.fdiv (.ofNat x) 256) 2=1)) = .bool false:=congrArg Value.bool hb
  refine qH sh_00' rfl fun s hs Ξ ar=>?_
  refine dJ rfl (ao (hbit)) ag (aC (ai _) (by omega) ⟨_,rfl⟩) fun b1 t1 ak _ _ hk1 _=>?_
  obtain ⟨_,⟨τq,rfl⟩,hap0⟩:=hk1;have hap:ak.a 0=a.push (.str (ef 0 false) τq):=hap0
  exact gG rfl ar hs (IH _ _ _ _ _ _ _ (by rw [hap,Array.size_push])) fun ys hk=>bS (i:=0) (by omega) hb hap hk
noncomputable def sh_01:Rs :=
.nF (aN [0] fun v=>∃ τ,v = .str (ef 0 true) τ) (cB "list.append" [rf aj,sv "r" (t+11)]) [(aj,ab a m)] b (t+12) (cb tb) gl [(.bool (decide (Int.fmod (Int.fdiv (.ofNat x) 256) 2=1)),.bool true)] [] fun b1 t1 ak =>
bF (iS aj it am) ⟨880,21,880,39⟩ [(aj,ab (ak.a 0) (ak.n 0)),(it,av 1 8),(am,ap (.dict #[aq w.params "place" (t+1) (.int 0 t)] 1)),(876,ah (nv x σ))] b1 t1 tb gl
theorem sh_01':aZ w (cV PS aj it am) P (Zx9 a aj it am m x σ) b t tb gl [0,2,4,6] 1 [K55,0x154,1] [4,0,0] [(0,.rw (cS (.bool true)))] [] (@sh_01 b t aj it am m x σ a tb gl w):=by revert w;refine @bs _ ?_ ?_<;>intro w<;>kernel_rfl
theorem sht_01 (hA:a.size≤100) (hb:fG x 0=true) (IH:∀ P b t mq k0 v0 (a1:Array Value),a1.size=a.size+1→HB w (bQ w req x) (cV PS aj it am) P [(aj,ab a1 mq),(it,av 1 8),(am,ap (.dict #[aq w.params "place" k0 v0] 1)),(876,ah (nv x σ))] b t tb gl):HB w (bQ w req x) (cV PS aj it am) P (Zx9 a aj it am m x σ) b t tb gl:=by
  have hbit:Value.bool (decide (Int.fmod (Int.fdiv (.ofNat x) 256) 2=1)) = .bool true:=congrArg Value.bool hb
  refine qH sh_01' rfl fun s hs Ξ ar=>?_
  refine dJ rfl (ao (hbit)) ag (aC (ai _) (by omega) ⟨_,rfl⟩) fun b1 t1 ak _ _ hk1 _=>?_
  obtain ⟨_,⟨τq,rfl⟩,hap0⟩:=hk1;have hap:ak.a 0=a.push (.str (ef 0 true) τq):=hap0
  exact gG rfl ar hs (IH _ _ _ _ _ _ _ (by rw [hap,Array.size_push])) fun ys hk=>bS (i:=0) (by omega) hb hap hk
theorem sho_0 (hA:a.size≤0):HB w (bQ w req x) (cV PS aj it am) P (Zx9 a aj it am m x σ) b t tb gl:=by
  cases hb:fG x 0 with
  | true=>exact sht_01 (by omega) hb fun P b t mq k0 v0 a1 h=>sho_1 (by omega)
  | false=>exact sht_00 (by omega) hb fun P b t mq k0 v0 a1 h=>sho_1 (by omega)
end
section
variable {P PL:Pos} {b t en ti f l m x σ q0 q1 q2 q3 q4 q5 η tt y:Nat} {v0 v1 v2 v3:Value} {a tb:Array Value} {gl:List GenState} {w:World} {req:List Nat}
noncomputable def cz:Stmt:=cY top 53
noncomputable def bE (f:Addr):Env:=e7 cz "filemode.<locals>." 855 854 f []
noncomputable def S1M:Stmt:=bt (az cz) 1
noncomputable def modeK (it v:Value) (env:Env):Unit→Sem Fin:=fun _=>R.bindR (PySem.W.Fast.tw17772580674575903948 (fT S1M) env v) fun _=>R.bindR (PySem.W.Fast.tw12563942051412417395 (fX S1M) env) fun r=>match r with
  | Flow.next=>PySem.W.Fast.tw12377390311714414960 (aH S1M it env)
  | Flow.cont=>PySem.W.Fast.tw12377390311714414960 (aH S1M it env)
  | Flow.brk=>Sem.pure (Fin.done Flow.next)
  | Flow.ret v=>Sem.pure (Fin.done (Flow.ret v))
noncomputable def modeH (env:Env):Value→Sem Unit:=fun x=>R.bindR (PySem.W.Fast.tw17872113653443481271 x env) fun _=>PySem.W.Fast.tw1623429502029203251 x
noncomputable def bq (it v:Value) (env:Env):Sem Fin:=R.onRaiseR (R.bindR (PySem.W.Fast.tw1578499551869305889 (fT S1M) it v) (modeK it v env)) (modeH env)
noncomputable def cs (it v:Value) (env:Env):Sem Fin:=R.onRaiseR (modeK it v env ()) (modeH env)
noncomputable def Γmd (PL:Pos) (x σ:Nat):Ctx:=dy.enter (aV 855 [.int (.ofNat x) σ]) none PL
noncomputable def dT:Nat→Bool→Str
  | 0,_=>aX "-"
  | _,false=>aX "-"
  | 1,true=>aX "r"
  | 2,true=>aX "w"
  | 3,true=>aX "x"
  | 4,true=>aX "r"
  | 5,true=>aX "w"
  | 6,true=>aX "x"
  | 7,true=>aX "r"
  | 8,true=>aX "w"
  | _,true=>aX "x"
noncomputable def tupE:Expr→List Expr
  | .Tuple es _ _=>es
  | _=>[]
theorem cx:fT S1M = .Tuple (tupE (fT S1M)) 0 ⟨814,8,814,20⟩:=by kernel_rfl
noncomputable def fE (x i:Nat):Bool:=decide (Int.ofNat (Nat.land x (2 ^ (9 - i)))=Int.ofNat (2 ^ (9 - i)))
noncomputable def fmL (x i:Nat):Str:=dT i (fE x i)
noncomputable def enAt (pre:ax):Nat:=match gm pre 0 with
  | .fields vs=>match vs.getD 3 .none with
    | .int (.ofNat i) _=>i
    | _=>0
  | _=>0
noncomputable def frM (P:Params) (k2 k3 k4 k5:Nat) (v0 v1 v2 v3:Value):Obj→Obj
  | ⟨c,d,.dict es _,sl⟩=>⟨c,d,.dict ⟨es.toList.take 2++[aq P "index" k2 v0,aq P "table" k3 v1,aq P "bit" k4 v2,aq P "char" k5 v3]⟩ 6,sl⟩
  | o=>o
noncomputable abbrev frMw (w:World):=frM w.params
noncomputable abbrev bJ (w:World) (req:List Nat) (x:Nat):Hk:=dS req (fun _ _=>.ok .next) (fun pre ys=>match pre with
  | [_,t,f,_]=>[⟨.type "enumerate",none,.fields #[.none,.bool false,.ref t.1,.int 10 0,.none,.ref 847],#[]⟩,⟨.type "tuple_iterator",none,.fields #[.none,.int 10 0],#[]⟩,frMw w (ys.n 1) (ys.n 2) (ys.n 3) (ys.n 4) (ys.v 0) (ys.v 1) (ys.v 2) (ys.v 3) f.2,ab (ys.a 0) (ys.n 0)]
  | _=>[]) (fun _ _=>[]) (fun pre ys=>∃ Bs,StrsAre Bs (((List.range 10).drop (enAt pre)).map (fmL x))∧(ys.a 0).toList=(bn pre 3).toList++Bs)
theorem c7 {V:Vw} {en ti f l:Nat} {o1 o2 o3 o4:Obj} {b tk:Nat} {ch:Ch} {gl:List GenState} {s:Shared} (hs:At V [(en,o1),(ti,o2),(f,o3),(l,o4)] b tk ch gl s):∀ a∈[en,ti,f,l,b+0],a∈[en,ti,f,l]∨s.heap.objs.size≤a:=fun a ha=>by
  rw [hs.size]
  simp only [List.mem_cons,List.not_mem_nil,or_false] at ha ⊢
  omega
theorem bK {x i τ:Nat} {b:Bool} {a a1 r:Array Value} (hi:i < 10) (hb:dT i (fE x i)=dT i b) (e:a1=a.push (.str (dT i b) τ)) (h:∃ Bs,StrsAre Bs (((List.range 10).drop (i+1)).map (fmL x))∧r.toList=a1.toList++Bs):∃ Bs,StrsAre Bs (((List.range 10).drop i).map (fmL x))∧r.toList=a.toList++Bs:=by
  obtain ⟨Bs,h1,h2⟩:=h
  refine ⟨.str (dT i b) τ :: Bs,?_,by rw [h2,e];simp⟩
  rw [List.drop_eq_getElem_cons (by simpa using hi),List.map_cons,List.getElem_range]
  show StrsAre _ (dT i (fE x i) :: _)
  rw [hb]
  exact .cons _ _ h1
noncomputable abbrev bZ (PL:Pos) (en:Nat) (f:Nat):Ctx:=⟨aH (bt (az cz) 1) (rf en) (bE f),none,none,[(bW cz (bE f),⟨814,24,814,50⟩),(bW aR au,PL),(aI,p0)],none⟩
theorem mf_0_0:∀ y,y < 512→decide (Int.ofNat (Nat.land (32768+y) 61440)=40960)=false:=by decide +kernel
theorem mf_0_1:∀ y,y < 512→decide (Int.ofNat (Nat.land (32768+y) 61440)=49152)=false:=by decide +kernel
theorem mf_0_2:∀ y,y < 512→decide (Int.ofNat (Nat.land (32768+y) 61440)=32768)=true:=by decide +kernel
theorem mD:∀ y,y < 512→decide (Int.ofNat (Nat.land (32768+y) 2112)=2112)=false:=by decide +kernel
theorem mC:∀ y,y < 512→decide (Int.ofNat (Nat.land (32768+y) 2048)=2048)=false:=by decide +kernel
theorem mB:∀ y,y < 512→decide (Int.ofNat (Nat.land (32768+y) 1032)=1032)=false:=by decide +kernel
theorem mA:∀ y,y < 512→decide (Int.ofNat (Nat.land (32768+y) 1024)=1024)=false:=by decide +kernel
theorem mz:∀ y,y < 512→decide (Int.ofNat (Nat.land (32768+y) 513)=513)=false:=by decide +kernel
theorem my:∀ y,y < 512→decide (Int.ofNat (Nat.land (32768+y) 512)=512)=false:=by decide +kernel
noncomputable def ma_10:Rs :=
cF (.ok .next) [(en,fO "enumerate" [.none,.bool false,rf ti,.int 10 0,.none,rf 847]),(ti,fO "tuple_iterator" [.none,.int 10 0]),(f,aQ w q0 (nv x σ) q1 (rf l) q2 v0 q3 v1 q4 v2 q5 v3),(l,ab a m)] (b+2) t tb gl
theorem ma_10':aZ w (bZ PL en f) P [(en,fO "enumerate" [.none,.bool false,rf ti,.int 10 0,.none,rf 847]),(ti,fO "tuple_iterator" [rf 848,.int 10 0]),(f,aQ w q0 (nv x σ) q1 (rf l) q2 v0 q3 v1 q4 v2 q5 v3),(l,ab a m)] b t tb gl [0,2,4,6] 1 [0x13ec99883520222021212001010] [] [] [] (@ma_10 b t en ti f l m x σ q0 q1 q2 q3 q4 q5 v0 v1 v2 v3 a tb gl w):=by kernel_rfl
theorem mo_10:HB w (bJ w req (32768+y)) (bZ PL en f) P [(en,fO "enumerate" [.none,.bool false,rf ti,.int 10 0,.none,rf 847]),(ti,fO "tuple_iterator" [rf 848,.int 10 0]),(f,aQ w q0 (nv (32768+y) σ) q1 (rf l) q2 v0 q3 v1 q4 v2 q5 v3),(l,ab a m)] b t tb gl:=by
  refine qH ma_10' rfl fun s hs Ξ ar=>?_
  exact gD rfl ar fun s' hA hF=>⟨bf [m,q2,q3,q4,q5] [a] [v0,v1,v2,v3] [] [],_,_,⟨[],.nil,by show a.toList=_++[];rw [List.append_nil];rfl⟩,rfl,rfl,hA,hF,fun a h=>h,ag⟩
noncomputable def ma_9:Rs :=
ip (bZ PL en f) (bq (rf en) (rf b) (bE f)) ⟨814,8,814,20⟩ [(en,fO "enumerate" [nv b 0,.bool false,rf ti,.int 10 0,.none,rf 847]),(ti,fO "tuple_iterator" [rf 848,.int 10 0]),(f,aQ w q0 (nv x σ) q1 (rf l) q2 v0 q3 v1 q4 v2 q5 v3),(l,ab a m),(b,sO "tuple" [.int 9 t,rf 847] 0)] (b+1) (t+1) tb gl
theorem ma_9':aZ w (bZ PL en f) P [(en,fO "enumerate" [.none,.bool false,rf ti,.int 9 0,.none,rf 843]),(ti,fO "tuple_iterator" [rf 848,.int 9 0]),(f,aQ w q0 (nv x σ) q1 (rf l) q2 v0 q3 v1 q4 v2 q5 v3),(l,ab a m)] b t tb gl [0,2,4,6,1] 1 [K37] [0] [] [] (@ma_9 PL b t en ti f l m x σ q0 q1 q2 q3 q4 q5 v0 v1 v2 v3 a tb gl w):=by kernel_rfl
noncomputable def mb_90:Rs :=
.nF (aN [6] fun v=>∃ τ,v = .str (dT 9 false) τ) (cB "list.append" [rf l,sv "-" (t+15)]) [(l,ab a m)] (b+15) (t+16) (cb tb) gl [(.bool (decide (Int.ofNat (Nat.land x 1)=1)),.bool false),(.bool (decide (Int.ofNat (Nat.land x 512)=512)),.bool false),(.bool (decide (Int.ofNat (Nat.land x 513)=513)),.bool false)] [] fun b1 t1 ak =>
bF (aH (bt (az cz) 1) (rf en) (bE f)) ⟨815,25,815,30⟩ [(en,fO "enumerate" [.none,.bool false,rf ti,.int 10 0,.none,rf 847]),(ti,fO "tuple_iterator" [rf 848,.int 10 0]),(f,aQ w q0 (nv x σ) q1 (rf l) q2 (.int 9 η) q3 (rf 847) q4 (.int 1 1369) q5 (sv "x" 1395)),(l,ab (ak.a 0) (ak.n 0))] b1 t1 tb gl
theorem mb_90':c4 w (bZ PL en f) P (cs (rf en) (rf tt) (bE f)) [(en,fO "enumerate" [.none,.bool false,rf ti,.int 10 0,.none,rf 847]),(ti,fO "tuple_iterator" [rf 848,.int 10 0]),(f,aQ w q0 (nv x σ) q1 (rf l) q2 v0 q3 v1 q4 v2 q5 v3),(l,ab a m),(tt,sO "tuple" [.int 9 η,rf 847] 0)] b t tb gl [0,2,4,6] 1 [K14,K29,K30,K53,1] [4,4,4,2,0] [(0,.rw (cS (.bool false))),(0,.rw (cS (.bool false))),(0,.rw (cS (.bool false)))] [15] (@mb_90 b t en ti f l m x σ q0 q1 q2 q3 q4 q5 η a tb gl w):=by revert w;refine @bs _ ?_ ?_<;>intro w<;>kernel_rfl
theorem mt_90 (hy:y < 512) (hA:a.size≤100) (hb:fE (32768+y) 9=false) (IH:∀ P b t m q2 q3 q4 q5 v0 v1 v2 v3 (a1:Array Value),a1.size=a.size+1→HB w (bJ w req (32768+y)) (bZ PL en f) P [(en,fO "enumerate" [.none,.bool false,rf ti,.int 10 0,.none,rf 847]),(ti,fO "tuple_iterator" [rf 848,.int 10 0]),(f,aQ w q0 (nv (32768+y) σ) q1 (rf l) q2 v0 q3 v1 q4 v2 q5 v3),(l,ab a1 m)] b t tb gl):HB w (bJ w req (32768+y)) (bZ PL en f) P [(en,fO "enumerate" [.none,.bool false,rf ti,.int 9 0,.none,rf 843]),(ti,fO "tuple_iterator" [rf 848,.int 9 0]),(f,aQ w q0 (nv (32768+y) σ) q1 (rf l) q2 v0 q3 v1 q4 v2 q5 v3),(l,ab a m)] b t tb gl:=by
  have hb0:Value.bool (decide (Int.ofNat (Nat.land (32768+y) 513)=513)) = .bool false:=congrArg Value.bool (mz y hy)
  have hb1:Value.bool (decide (Int.ofNat (Nat.land (32768+y) 512)=512)) = .bool false:=congrArg Value.bool (my y hy)
  have hb2:Value.bool (decide (Int.ofNat (Nat.land (32768+y) 1)=1)) = .bool false:=congrArg Value.bool hb
  refine qH ma_9' rfl fun s hs Ξ ar=>gC rfl ar fun s1 hA1 hF1=>?_
  unfold bq
  rw [cx]
  refine bd (V:=Vp w) (hA1.olds _ (.head _)) fun p' h' k1 k2=>?_
  have hA2:=hA1.owned (ai _) k1 k2
  have hF2:=hF1.owned (.head _) k2
  refine qS mb_90' rfl hA2 fun Ξ ar=>?_
  refine dJ rfl (ae (hb2) (ae (hb1) (ao (hb0)))) ag (aC (ai _) (by omega) ⟨_,rfl⟩) fun b1 t1 ak hb1 _ hk1 _=>?_
  obtain ⟨_,⟨τq,rfl⟩,hap0⟩:=hk1;have hap:ak.a 0=a.push (.str (dT 9 false) τq):=hap0
  exact gA rfl ar fun s' hA hF=>d8 hs (IH _ _ _ _ _ _ _ _ _ _ _ _ _ (by rw [hap,Array.size_push])) hA (hF2.trans hF (fun a h=>h) (c7 hs)) (by show b≤_;omega) (fun a h=>.inl h) fun ys hk _=>⟨ys,bK (i:=9) (by omega) (congrArg _ hb) hap hk,rfl,rfl,rfl,rfl,rfl,fun a h=>h,ag⟩
noncomputable def mb_91:Rs :=
.nF (aN [6] fun v=>∃ τ,v = .str (dT 9 true) τ) (cB "list.append" [rf l,sv "x" 1395]) [(l,ab a m)] (b+13) (t+14) (cb tb) gl [(.bool (decide (Int.ofNat (Nat.land x 1)=1)),.bool true),(.bool (decide (Int.ofNat (Nat.land x 512)=512)),.bool false),(.bool (decide (Int.ofNat (Nat.land x 513)=513)),.bool false)] [] fun b1 t1 ak =>
bF (aH (bt (az cz) 1) (rf en) (bE f)) ⟨815,25,815,30⟩ [(en,fO "enumerate" [.none,.bool false,rf ti,.int 10 0,.none,rf 847]),(ti,fO "tuple_iterator" [rf 848,.int 10 0]),(f,aQ w q0 (nv x σ) q1 (rf l) q2 (.int 9 η) q3 (rf 847) q4 (.int 1 1369) q5 (sv "x" 1395)),(l,ab (ak.a 0) (ak.n 0))] b1 t1 tb gl
theorem mb_91':c4 w (bZ PL en f) P (cs (rf en) (rf tt) (bE f)) [(en,fO "enumerate" [.none,.bool false,rf ti,.int 10 0,.none,rf 847]),(ti,fO "tuple_iterator" [rf 848,.int 10 0]),(f,aQ w q0 (nv x σ) q1 (rf l) q2 v0 q3 v1 q4 v2 q5 v3),(l,ab a m),(tt,sO "tuple" [.int 9 η,rf 847] 0)] b t tb gl [0,2,4,6] 1 [K14,K29,K30,K72,1] [4,4,4,3,0] [(0,.rw (cS (.bool false))),(0,.rw (cS (.bool false))),(0,.rw (cS (.bool true)))] [13] (@mb_91 b t en ti f l m x σ q0 q1 q2 q3 q4 q5 η a tb gl w):=by revert w;refine @bs _ ?_ ?_<;>intro w<;>kernel_rfl
theorem mt_91 (hy:y < 512) (hA:a.size≤100) (hb:fE (32768+y) 9=true) (IH:∀ P b t m q2 q3 q4 q5 v0 v1 v2 v3 (a1:Array Value),a1.size=a.size+1→HB w (bJ w req (32768+y)) (bZ PL en f) P [(en,fO "enumerate" [.none,.bool false,rf ti,.int 10 0,.none,rf 847]),(ti,fO "tuple_iterator" [rf 848,.int 10 0]),(f,aQ w q0 (nv (32768+y) σ) q1 (rf l) q2 v0 q3 v1 q4 v2 q5 v3),(l,ab a1 m)] b t tb gl):HB w (bJ w req (32768+y)) (bZ PL en f) P [(en,fO "enumerate" [.none,.bool false,rf ti,.int 9 0,.none,rf 843]),(ti,fO "tuple_iterator" [rf 848,.int 9 0]),(f,aQ w q0 (nv (32768+y) σ) q1 (rf l) q2 v0 q3 v1 q4 v2 q5 v3),(l,ab a m)] b t tb gl:=by
  have hb0:Value.bool (decide (Int.ofNat (Nat.land (32768+y) 513)=513)) = .bool false:=congrArg Value.bool (mz y hy)
  have hb1:Value.bool (decide (Int.ofNat (Nat.land (32768+y) 512)=512)) = .bool false:=congrArg Value.bool (my y hy)
  have hb2:Value.bool (decide (Int.ofNat (Nat.land (32768+y) 1)=1)) = .bool true:=congrArg Value.bool hb
  refine qH ma_9' rfl fun s hs Ξ ar=>gC rfl ar fun s1 hA1 hF1=>?_
  unfold bq
  rw [cx]
  refine bd (V:=Vp w) (hA1.olds _ (.head _)) fun p' h' k1 k2=>?_
  have hA2:=hA1.owned (ai _) k1 k2
  have hF2:=hF1.owned (.head _) k2
  refine qS mb_91' rfl hA2 fun Ξ ar=>?_
  refine dJ rfl (ae (hb2) (ae (hb1) (ao (hb0)))) ag (aC (ai _) (by omega) ⟨_,rfl⟩) fun b1 t1 ak hb1 _ hk1 _=>?_
  obtain ⟨_,⟨τq,rfl⟩,hap0⟩:=hk1;have hap:ak.a 0=a.push (.str (dT 9 true) τq):=hap0
  exact gA rfl ar fun s' hA hF=>d8 hs (IH _ _ _ _ _ _ _ _ _ _ _ _ _ (by rw [hap,Array.size_push])) hA (hF2.trans hF (fun a h=>h) (c7 hs)) (by show b≤_;omega) (fun a h=>.inl h) fun ys hk _=>⟨ys,bK (i:=9) (by omega) (congrArg _ hb) hap hk,rfl,rfl,rfl,rfl,rfl,fun a h=>h,ag⟩
theorem mo_9 (hy:y < 512) (hA:a.size≤9):HB w (bJ w req (32768+y)) (bZ PL en f) P [(en,fO "enumerate" [.none,.bool false,rf ti,.int 9 0,.none,rf 843]),(ti,fO "tuple_iterator" [rf 848,.int 9 0]),(f,aQ w q0 (nv (32768+y) σ) q1 (rf l) q2 v0 q3 v1 q4 v2 q5 v3),(l,ab a m)] b t tb gl:=by
  cases hb:fE (32768+y) 9 with
  | true=>exact mt_91 hy (by omega) hb fun P b t m q2 q3 q4 q5 v0 v1 v2 v3 a1 h=>mo_10
  | false=>exact mt_90 hy (by omega) hb fun P b t m q2 q3 q4 q5 v0 v1 v2 v3 a1 h=>mo_10
noncomputable def ma_8:Rs :=
ip (bZ PL en f) (bq (rf en) (rf b) (bE f)) ⟨814,8,814,20⟩ [(en,fO "enumerate" [nv b 0,.bool false,rf ti,.int 9 0,.none,rf 843]),(ti,fO "tuple_iterator" [rf 848,.int 9 0]),(f,aQ w q0 (nv x σ) q1 (rf l) q2 v0 q3 v1 q4 v2 q5 v3),(l,ab a m),(b,sO "tuple" [.int 8 t,rf 843] 0)] (b+1) (t+1) tb gl
theorem ma_8':aZ w (bZ PL en f) P [(en,fO "enumerate" [.none,.bool false,rf ti,.int 8 0,.none,rf 841]),(ti,fO "tuple_iterator" [rf 848,.int 8 0]),(f,aQ w q0 (nv x σ) q1 (rf l) q2 v0 q3 v1 q4 v2 q5 v3),(l,ab a m)] b t tb gl [0,2,4,6,1] 1 [K37] [0] [] [] (@ma_8 PL b t en ti f l m x σ q0 q1 q2 q3 q4 q5 v0 v1 v2 v3 a tb gl w):=by kernel_rfl
noncomputable def mb_80:Rs :=
.nF (aN [6] fun v=>∃ τ,v = .str (dT 8 false) τ) (cB "list.append" [rf l,sv "-" (t+7)]) [(l,ab a m)] (b+9) (t+8) (cb tb) gl [(.bool (decide (Int.ofNat (Nat.land x 2)=2)),.bool false)] [] fun b1 t1 ak =>
bF (aH (bt (az cz) 1) (rf en) (bE f)) ⟨815,25,815,30⟩ [(en,fO "enumerate" [.none,.bool false,rf ti,.int 9 0,.none,rf 843]),(ti,fO "tuple_iterator" [rf 848,.int 9 0]),(f,aQ w q0 (nv x σ) q1 (rf l) q2 (.int 8 η) q3 (rf 843) q4 (.int 2 1367) q5 (sv "w" 1391)),(l,ab (ak.a 0) (ak.n 0))] b1 t1 tb gl
theorem mb_80':c4 w (bZ PL en f) P (cs (rf en) (rf tt) (bE f)) [(en,fO "enumerate" [.none,.bool false,rf ti,.int 9 0,.none,rf 843]),(ti,fO "tuple_iterator" [rf 848,.int 9 0]),(f,aQ w q0 (nv x σ) q1 (rf l) q2 v0 q3 v1 q4 v2 q5 v3),(l,ab a m),(tt,sO "tuple" [.int 8 η,rf 843] 0)] b t tb gl [0,2,4,6] 1 [K14,K54,1] [4,2,0] [(0,.rw (cS (.bool false)))] [9] (@mb_80 b t en ti f l m x σ q0 q1 q2 q3 q4 q5 η a tb gl w):=by revert w;refine @bs _ ?_ ?_<;>intro w<;>kernel_rfl
theorem mt_80 (hy:y < 512) (hA:a.size≤100) (hb:fE (32768+y) 8=false) (IH:∀ P b t m q2 q3 q4 q5 v0 v1 v2 v3 (a1:Array Value),a1.size=a.size+1→HB w (bJ w req (32768+y)) (bZ PL en f) P [(en,fO "enumerate" [.none,.bool false,rf ti,.int 9 0,.none,rf 843]),(ti,fO "tuple_iterator" [rf 848,.int 9 0]),(f,aQ w q0 (nv (32768+y) σ) q1 (rf l) q2 v0 q3 v1 q4 v2 q5 v3),(l,ab a1 m)] b t tb gl):HB w (bJ w req (32768+y)) (bZ PL en f) P [(en,fO "enumerate" [.none,.bool false,rf ti,.int 8 0,.none,rf 841]),(ti,fO "tuple_iterator" [rf 848,.int 8 0]),(f,aQ w q0 (nv (32768+y) σ) q1 (rf l) q2 v0 q3 v1 q4 v2 q5 v3),(l,ab a m)] b t tb gl:=by
  have hb0:Value.bool (decide (Int.ofNat (Nat.land (32768+y) 2)=2)) = .bool false:=congrArg Value.bool hb
  refine qH ma_8' rfl fun s hs Ξ ar=>gC rfl ar fun s1 hA1 hF1=>?_
  unfold bq
  rw [cx]
  refine bd (V:=Vp w) (hA1.olds _ (.head _)) fun p' h' k1 k2=>?_
  have hA2:=hA1.owned (ai _) k1 k2
  have hF2:=hF1.owned (.head _) k2
  refine qS mb_80' rfl hA2 fun Ξ ar=>?_
  refine dJ rfl (ao (hb0)) ag (aC (ai _) (by omega) ⟨_,rfl⟩) fun b1 t1 ak _ _ hk1 _=>?_
  obtain ⟨_,⟨τq,rfl⟩,hap0⟩:=hk1;have hap:ak.a 0=a.push (.str (dT 8 false) τq):=hap0
  exact gA rfl ar fun s' hA hF=>d8 hs (IH _ _ _ _ _ _ _ _ _ _ _ _ _ (by rw [hap,Array.size_push])) hA (hF2.trans hF (fun a h=>h) (c7 hs)) (by show b≤_;omega) (fun a h=>.inl h) fun ys hk _=>⟨ys,bK (i:=8) (by omega) (congrArg _ hb) hap hk,rfl,rfl,rfl,rfl,rfl,fun a h=>h,ag⟩
noncomputable def mb_81:Rs :=
.nF (aN [6] fun v=>∃ τ,v = .str (dT 8 true) τ) (cB "list.append" [rf l,sv "w" 1391]) [(l,ab a m)] (b+7) (t+6) (cb tb) gl [(.bool (decide (Int.ofNat (Nat.land x 2)=2)),.bool true)] [] fun b1 t1 ak =>
bF (aH (bt (az cz) 1) (rf en) (bE f)) ⟨815,25,815,30⟩ [(en,fO "enumerate" [.none,.bool false,rf ti,.int 9 0,.none,rf 843]),(ti,fO "tuple_iterator" [rf 848,.int 9 0]),(f,aQ w q0 (nv x σ) q1 (rf l) q2 (.int 8 η) q3 (rf 843) q4 (.int 2 1367) q5 (sv "w" 1391)),(l,ab (ak.a 0) (ak.n 0))] b1 t1 tb gl
theorem mb_81':c4 w (bZ PL en f) P (cs (rf en) (rf tt) (bE f)) [(en,fO "enumerate" [.none,.bool false,rf ti,.int 9 0,.none,rf 843]),(ti,fO "tuple_iterator" [rf 848,.int 9 0]),(f,aQ w q0 (nv x σ) q1 (rf l) q2 v0 q3 v1 q4 v2 q5 v3),(l,ab a m),(tt,sO "tuple" [.int 8 η,rf 843] 0)] b t tb gl [0,2,4,6] 1 [K14,K72,1] [4,3,0] [(0,.rw (cS (.bool true)))] [7] (@mb_81 b t en ti f l m x σ q0 q1 q2 q3 q4 q5 η a tb gl w):=by revert w;refine @bs _ ?_ ?_<;>intro w<;>kernel_rfl
theorem mt_81 (hy:y < 512) (hA:a.size≤100) (hb:fE (32768+y) 8=true) (IH:∀ P b t m q2 q3 q4 q5 v0 v1 v2 v3 (a1:Array Value),a1.size=a.size+1→HB w (bJ w req (32768+y)) (bZ PL en f) P [(en,fO "enumerate" [.none,.bool false,rf ti,.int 9 0,.none,rf 843]),(ti,fO "tuple_iterator" [rf 848,.int 9 0]),(f,aQ w q0 (nv (32768+y) σ) q1 (rf l) q2 v0 q3 v1 q4 v2 q5 v3),(l,ab a1 m)] b t tb gl):HB w (bJ w req (32768+y)) (bZ PL en f) P [(en,fO "enumerate" [.none,.bool false,rf ti,.int 8 0,.none,rf 841]),(ti,fO "tuple_iterator" [rf 848,.int 8 0]),(f,aQ w q0 (nv (32768+y) σ) q1 (rf l) q2 v0 q3 v1 q4 v2 q5 v3),(l,ab a m)] b t tb gl:=by
  have hb0:Value.bool (decide (Int.ofNat (Nat.land (32768+y) 2)=2)) = .bool true:=congrArg Value.bool hb
  refine qH ma_8' rfl fun s hs Ξ ar=>gC rfl ar fun s1 hA1 hF1=>?_
  unfold bq
  rw [cx]
  refine bd (V:=Vp w) (hA1.olds _ (.head _)) fun p' h' k1 k2=>?_
  have hA2:=hA1.owned (ai _) k1 k2
  have hF2:=hF1.owned (.head _) k2
  refine qS mb_81' rfl hA2 fun Ξ ar=>?_
  refine dJ rfl (ao (hb0)) ag (aC (ai _) (by omega) ⟨_,rfl⟩) fun b1 t1 ak _ _ hk1 _=>?_
  obtain ⟨_,⟨τq,rfl⟩,hap0⟩:=hk1;have hap:ak.a 0=a.push (.str (dT 8 true) τq):=hap0
  exact gA rfl ar fun s' hA hF=>d8 hs (IH _ _ _ _ _ _ _ _ _ _ _ _ _ (by rw [hap,Array.size_push])) hA (hF2.trans hF (fun a h=>h) (c7 hs)) (by show b≤_;omega) (fun a h=>.inl h) fun ys hk _=>⟨ys,bK (i:=8) (by omega) (congrArg _ hb) hap hk,rfl,rfl,rfl,rfl,rfl,fun a h=>h,ag⟩
theorem mo_8 (hy:y < 512) (hA:a.size≤8):HB w (bJ w req (32768+y)) (bZ PL en f) P [(en,fO "enumerate" [.none,.bool false,rf ti,.int 8 0,.none,rf 841]),(ti,fO "tuple_iterator" [rf 848,.int 8 0]),(f,aQ w q0 (nv (32768+y) σ) q1 (rf l) q2 v0 q3 v1 q4 v2 q5 v3),(l,ab a m)] b t tb gl:=by
  cases hb:fE (32768+y) 8 with
  | true=>exact mt_81 hy (by omega) hb fun P b t m q2 q3 q4 q5 v0 v1 v2 v3 a1 h=>mo_9 hy (by omega)
  | false=>exact mt_80 hy (by omega) hb fun P b t m q2 q3 q4 q5 v0 v1 v2 v3 a1 h=>mo_9 hy (by omega)
noncomputable def ma_7:Rs :=
ip (bZ PL en f) (bq (rf en) (rf b) (bE f)) ⟨814,8,814,20⟩ [(en,fO "enumerate" [nv b 0,.bool false,rf ti,.int 8 0,.none,rf 841]),(ti,fO "tuple_iterator" [rf 848,.int 8 0]),(f,aQ w q0 (nv x σ) q1 (rf l) q2 v0 q3 v1 q4 v2 q5 v3),(l,ab a m),(b,sO "tuple" [.int 7 t,rf 841] 0)] (b+1) (t+1) tb gl
theorem ma_7':aZ w (bZ PL en f) P [(en,fO "enumerate" [.none,.bool false,rf ti,.int 7 0,.none,rf 839]),(ti,fO "tuple_iterator" [rf 848,.int 7 0]),(f,aQ w q0 (nv x σ) q1 (rf l) q2 v0 q3 v1 q4 v2 q5 v3),(l,ab a m)] b t tb gl [0,2,4,6,1] 1 [K37] [0] [] [] (@ma_7 PL b t en ti f l m x σ q0 q1 q2 q3 q4 q5 v0 v1 v2 v3 a tb gl w):=by kernel_rfl
noncomputable def mb_70:Rs :=
.nF (aN [6] fun v=>∃ τ,v = .str (dT 7 false) τ) (cB "list.append" [rf l,sv "-" (t+7)]) [(l,ab a m)] (b+9) (t+8) (cb tb) gl [(.bool (decide (Int.ofNat (Nat.land x 4)=4)),.bool false)] [] fun b1 t1 ak =>
bF (aH (bt (az cz) 1) (rf en) (bE f)) ⟨815,25,815,30⟩ [(en,fO "enumerate" [.none,.bool false,rf ti,.int 8 0,.none,rf 841]),(ti,fO "tuple_iterator" [rf 848,.int 8 0]),(f,aQ w q0 (nv x σ) q1 (rf l) q2 (.int 7 η) q3 (rf 841) q4 (.int 4 1365) q5 (sv "r" 1390)),(l,ab (ak.a 0) (ak.n 0))] b1 t1 tb gl
theorem mb_70':c4 w (bZ PL en f) P (cs (rf en) (rf tt) (bE f)) [(en,fO "enumerate" [.none,.bool false,rf ti,.int 8 0,.none,rf 841]),(ti,fO "tuple_iterator" [rf 848,.int 8 0]),(f,aQ w q0 (nv x σ) q1 (rf l) q2 v0 q3 v1 q4 v2 q5 v3),(l,ab a m),(tt,sO "tuple" [.int 7 η,rf 841] 0)] b t tb gl [0,2,4,6] 1 [K14,K54,1] [4,2,0] [(0,.rw (cS (.bool false)))] [9] (@mb_70 b t en ti f l m x σ q0 q1 q2 q3 q4 q5 η a tb gl w):=by revert w;refine @bs _ ?_ ?_<;>intro w<;>kernel_rfl
theorem mt_70 (hy:y < 512) (hA:a.size≤100) (hb:fE (32768+y) 7=false) (IH:∀ P b t m q2 q3 q4 q5 v0 v1 v2 v3 (a1:Array Value),a1.size=a.size+1→HB w (bJ w req (32768+y)) (bZ PL en f) P [(en,fO "enumerate" [.none,.bool false,rf ti,.int 8 0,.none,rf 841]),(ti,fO "tuple_iterator" [rf 848,.int 8 0]),(f,aQ w q0 (nv (32768+y) σ) q1 (rf l) q2 v0 q3 v1 q4 v2 q5 v3),(l,ab a1 m)] b t tb gl):HB w (bJ w req (32768+y)) (bZ PL en f) P [(en,fO "enumerate" [.none,.bool false,rf ti,.int 7 0,.none,rf 839]),(ti,fO "tuple_iterator" [rf 848,.int 7 0]),(f,aQ w q0 (nv (32768+y) σ) q1 (rf l) q2 v0 q3 v1 q4 v2 q5 v3),(l,ab a m)] b t tb gl:=by
  have hb0:Value.bool (decide (Int.ofNat (Nat.land (32768+y) 4)=4)) = .bool false:=congrArg Value.bool hb
  refine qH ma_7' rfl fun s hs Ξ ar=>gC rfl ar fun s1 hA1 hF1=>?_
  unfold bq
  rw [cx]
  refine bd (V:=Vp w) (hA1.olds _ (.head _)) fun p' h' k1 k2=>?_
  have hA2:=hA1.owned (ai _) k1 k2
  have hF2:=hF1.owned (.head _) k2
  refine qS mb_70' rfl hA2 fun Ξ ar=>?_
  refine dJ rfl (ao (hb0)) ag (aC (ai _) (by omega) ⟨_,rfl⟩) fun b1 t1 ak _ _ hk1 _=>?_
  obtain ⟨_,⟨τq,rfl⟩,hap0⟩:=hk1;have hap:ak.a 0=a.push (.str (dT 7 false) τq):=hap0
  exact gA rfl ar fun s' hA hF=>d8 hs (IH _ _ _ _ _ _ _ _ _ _ _ _ _ (by rw [hap,Array.size_push])) hA (hF2.trans hF (fun a h=>h) (c7 hs)) (by show b≤_;omega) (fun a h=>.inl h) fun ys hk _=>⟨ys,bK (i:=7) (by omega) (congrArg _ hb) hap hk,rfl,rfl,rfl,rfl,rfl,fun a h=>h,ag⟩
noncomputable def mb_71:Rs :=
.nF (aN [6] fun v=>∃ τ,v = .str (dT 7 true) τ) (cB "list.append" [rf l,sv "r" 1390]) [(l,ab a m)] (b+7) (t+6) (cb tb) gl [(.bool (decide (Int.ofNat (Nat.land x 4)=4)),.bool true)] [] fun b1 t1 ak =>
bF (aH (bt (az cz) 1) (rf en) (bE f)) ⟨815,25,815,30⟩ [(en,fO "enumerate" [.none,.bool false,rf ti,.int 8 0,.none,rf 841]),(ti,fO "tuple_iterator" [rf 848,.int 8 0]),(f,aQ w q0 (nv x σ) q1 (rf l) q2 (.int 7 η) q3 (rf 841) q4 (.int 4 1365) q5 (sv "r" 1390)),(l,ab (ak.a 0) (ak.n 0))] b1 t1 tb gl
theorem mb_71':c4 w (bZ PL en f) P (cs (rf en) (rf tt) (bE f)) [(en,fO "enumerate" [.none,.bool false,rf ti,.int 8 0,.none,rf 841]),(ti,fO "tuple_iterator" [rf 848,.int 8 0]),(f,aQ w q0 (nv x σ) q1 (rf l) q2 v0 q3 v1 q4 v2 q5 v3),(l,ab a m),(tt,sO "tuple" [.int 7 η,rf 841] 0)] b t tb gl [0,2,4,6] 1 [K14,K72,1] [4,3,0] [(0,.rw (cS (.bool true)))] [7] (@mb_71 b t en ti f l m x σ q0 q1 q2 q3 q4 q5 η a tb gl w):=by revert w;refine @bs _ ?_ ?_<;>intro w<;>kernel_rfl
theorem mt_71 (hy:y < 512) (hA:a.size≤100) (hb:fE (32768+y) 7=true) (IH:∀ P b t m q2 q3 q4 q5 v0 v1 v2 v3 (a1:Array Value),a1.size=a.size+1→HB w (bJ w req (32768+y)) (bZ PL en f) P [(en,fO "enumerate" [.none,.bool false,rf ti,.int 8 0,.none,rf 841]),(ti,fO "tuple_iterator" [rf 848,.int 8 0]),(f,aQ w q0 (nv (32768+y) σ) q1 (rf l) q2 v0 q3 v1 q4 v2 q5 v3),(l,ab a1 m)] b t tb gl):HB w (bJ w req (32768+y)) (bZ PL en f) P [(en,fO "enumerate" [.none,.bool false,rf ti,.int 7 0,.none,rf 839]),(ti,fO "tuple_iterator" [rf 848,.int 7 0]),(f,aQ w q0 (nv (32768+y) σ) q1 (rf l) q2 v0 q3 v1 q4 v2 q5 v3),(l,ab a m)] b t tb gl:=by
  have hb0:Value.bool (decide (Int.ofNat (Nat.land (32768+y) 4)=4)) = .bool true:=congrArg Value.bool hb
  refine qH ma_7' rfl fun s hs Ξ ar=>gC rfl ar fun s1 hA1 hF1=>?_
  unfold bq
  rw [cx]
  refine bd (V:=Vp w) (hA1.olds _ (.head _)) fun p' h' k1 k2=>?_
  have hA2:=hA1.owned (ai _) k1 k2
  have hF2:=hF1.owned (.head _) k2
  refine qS mb_71' rfl hA2 fun Ξ ar=>?_
  refine dJ rfl (ao (hb0)) ag (aC (ai _) (by omega) ⟨_,rfl⟩) fun b1 t1 ak _ _ hk1 _=>?_
  obtain ⟨_,⟨τq,rfl⟩,hap0⟩:=hk1;have hap:ak.a 0=a.push (.str (dT 7 true) τq):=hap0
  exact gA rfl ar fun s' hA hF=>d8 hs (IH _ _ _ _ _ _ _ _ _ _ _ _ _ (by rw [hap,Array.size_push])) hA (hF2.trans hF (fun a h=>h) (c7 hs)) (by show b≤_;omega) (fun a h=>.inl h) fun ys hk _=>⟨ys,bK (i:=7) (by omega) (congrArg _ hb) hap hk,rfl,rfl,rfl,rfl,rfl,fun a h=>h,ag⟩
theorem mo_7 (hy:y < 512) (hA:a.size≤7):HB w (bJ w req (32768+y)) (bZ PL en f) P [(en,fO "enumerate" [.none,.bool false,rf ti,.int 7 0,.none,rf 839]),(ti,fO "tuple_iterator" [rf 848,.int 7 0]),(f,aQ w q0 (nv (32768+y) σ) q1 (rf l) q2 v0 q3 v1 q4 v2 q5 v3),(l,ab a m)] b t tb gl:=by
  cases hb:fE (32768+y) 7 with
  | true=>exact mt_71 hy (by omega) hb fun P b t m q2 q3 q4 q5 v0 v1 v2 v3 a1 h=>mo_8 hy (by omega)
  | false=>exact mt_70 hy (by omega) hb fun P b t m q2 q3 q4 q5 v0 v1 v2 v3 a1 h=>mo_8 hy (by omega)
noncomputable def ma_6:Rs :=
ip (bZ PL en f) (bq (rf en) (rf b) (bE f)) ⟨814,8,814,20⟩ [(en,fO "enumerate" [nv b 0,.bool false,rf ti,.int 7 0,.none,rf 839]),(ti,fO "tuple_iterator" [rf 848,.int 7 0]),(f,aQ w q0 (nv x σ) q1 (rf l) q2 v0 q3 v1 q4 v2 q5 v3),(l,ab a m),(b,sO "tuple" [.int 6 t,rf 839] 0)] (b+1) (t+1) tb gl
theorem ma_6':aZ w (bZ PL en f) P [(en,fO "enumerate" [.none,.bool false,rf ti,.int 6 0,.none,rf 835]),(ti,fO "tuple_iterator" [rf 848,.int 6 0]),(f,aQ w q0 (nv x σ) q1 (rf l) q2 v0 q3 v1 q4 v2 q5 v3),(l,ab a m)] b t tb gl [0,2,4,6,1] 1 [K37] [0] [] [] (@ma_6 PL b t en ti f l m x σ q0 q1 q2 q3 q4 q5 v0 v1 v2 v3 a tb gl w):=by kernel_rfl
noncomputable def mb_60:Rs :=
.nF (aN [6] fun v=>∃ τ,v = .str (dT 6 false) τ) (cB "list.append" [rf l,sv "-" (t+15)]) [(l,ab a m)] (b+15) (t+16) (cb tb) gl [(.bool (decide (Int.ofNat (Nat.land x 8)=8)),.bool false),(.bool (decide (Int.ofNat (Nat.land x 1024)=1024)),.bool false),(.bool (decide (Int.ofNat (Nat.land x 1032)=1032)),.bool false)] [] fun b1 t1 ak =>
bF (aH (bt (az cz) 1) (rf en) (bE f)) ⟨815,25,815,30⟩ [(en,fO "enumerate" [.none,.bool false,rf ti,.int 7 0,.none,rf 839]),(ti,fO "tuple_iterator" [rf 848,.int 7 0]),(f,aQ w q0 (nv x σ) q1 (rf l) q2 (.int 6 η) q3 (rf 839) q4 (.int 8 1363) q5 (sv "x" 1389)),(l,ab (ak.a 0) (ak.n 0))] b1 t1 tb gl
theorem mb_60':c4 w (bZ PL en f) P (cs (rf en) (rf tt) (bE f)) [(en,fO "enumerate" [.none,.bool false,rf ti,.int 7 0,.none,rf 839]),(ti,fO "tuple_iterator" [rf 848,.int 7 0]),(f,aQ w q0 (nv x σ) q1 (rf l) q2 v0 q3 v1 q4 v2 q5 v3),(l,ab a m),(tt,sO "tuple" [.int 6 η,rf 839] 0)] b t tb gl [0,2,4,6] 1 [K14,K29,K30,K53,1] [4,4,4,2,0] [(0,.rw (cS (.bool false))),(0,.rw (cS (.bool false))),(0,.rw (cS (.bool false)))] [15] (@mb_60 b t en ti f l m x σ q0 q1 q2 q3 q4 q5 η a tb gl w):=by revert w;refine @bs _ ?_ ?_<;>intro w<;>kernel_rfl
theorem mt_60 (hy:y < 512) (hA:a.size≤100) (hb:fE (32768+y) 6=false) (IH:∀ P b t m q2 q3 q4 q5 v0 v1 v2 v3 (a1:Array Value),a1.size=a.size+1→HB w (bJ w req (32768+y)) (bZ PL en f) P [(en,fO "enumerate" [.none,.bool false,rf ti,.int 7 0,.none,rf 839]),(ti,fO "tuple_iterator" [rf 848,.int 7 0]),(f,aQ w q0 (nv (32768+y) σ) q1 (rf l) q2 v0 q3 v1 q4 v2 q5 v3),(l,ab a1 m)] b t tb gl):HB w (bJ w req (32768+y)) (bZ PL en f) P [(en,fO "enumerate" [.none,.bool false,rf ti,.int 6 0,.none,rf 835]),(ti,fO "tuple_iterator" [rf 848,.int 6 0]),(f,aQ w q0 (nv (32768+y) σ) q1 (rf l) q2 v0 q3 v1 q4 v2 q5 v3),(l,ab a m)] b t tb gl:=by
  have hb0:Value.bool (decide (Int.ofNat (Nat.land (32768+y) 1032)=1032)) = .bool false:=congrArg Value.bool (mB y hy)
  have hb1:Value.bool (decide (Int.ofNat (Nat.land (32768+y) 1024)=1024)) = .bool false:=congrArg Value.bool (mA y hy)
  have hb2:Value.bool (decide (Int.ofNat (Nat.land (32768+y) 8)=8)) = .bool false:=congrArg Value.bool hb
  refine qH ma_6' rfl fun s hs Ξ ar=>gC rfl ar fun s1 hA1 hF1=>?_
  unfold bq
  rw [cx]
  refine bd (V:=Vp w) (hA1.olds _ (.head _)) fun p' h' k1 k2=>?_
  have hA2:=hA1.owned (ai _) k1 k2
  have hF2:=hF1.owned (.head _) k2
  refine qS mb_60' rfl hA2 fun Ξ ar=>?_
  refine dJ rfl (ae (hb2) (ae (hb1) (ao (hb0)))) ag (aC (ai _) (by omega) ⟨_,rfl⟩) fun b1 t1 ak hb1 _ hk1 _=>?_
  obtain ⟨_,⟨τq,rfl⟩,hap0⟩:=hk1;have hap:ak.a 0=a.push (.str (dT 6 false) τq):=hap0
  exact gA rfl ar fun s' hA hF=>d8 hs (IH _ _ _ _ _ _ _ _ _ _ _ _ _ (by rw [hap,Array.size_push])) hA (hF2.trans hF (fun a h=>h) (c7 hs)) (by show b≤_;omega) (fun a h=>.inl h) fun ys hk _=>⟨ys,bK (i:=6) (by omega) (congrArg _ hb) hap hk,rfl,rfl,rfl,rfl,rfl,fun a h=>h,ag⟩
noncomputable def mb_61:Rs :=
.nF (aN [6] fun v=>∃ τ,v = .str (dT 6 true) τ) (cB "list.append" [rf l,sv "x" 1389]) [(l,ab a m)] (b+13) (t+14) (cb tb) gl [(.bool (decide (Int.ofNat (Nat.land x 8)=8)),.bool true),(.bool (decide (Int.ofNat (Nat.land x 1024)=1024)),.bool false),(.bool (decide (Int.ofNat (Nat.land x 1032)=1032)),.bool false)] [] fun b1 t1 ak =>
bF (aH (bt (az cz) 1) (rf en) (bE f)) ⟨815,25,815,30⟩ [(en,fO "enumerate" [.none,.bool false,rf ti,.int 7 0,.none,rf 839]),(ti,fO "tuple_iterator" [rf 848,.int 7 0]),(f,aQ w q0 (nv x σ) q1 (rf l) q2 (.int 6 η) q3 (rf 839) q4 (.int 8 1363) q5 (sv "x" 1389)),(l,ab (ak.a 0) (ak.n 0))] b1 t1 tb gl
theorem mb_61':c4 w (bZ PL en f) P (cs (rf en) (rf tt) (bE f)) [(en,fO "enumerate" [.none,.bool false,rf ti,.int 7 0,.none,rf 839]),(ti,fO "tuple_iterator" [rf 848,.int 7 0]),(f,aQ w q0 (nv x σ) q1 (rf l) q2 v0 q3 v1 q4 v2 q5 v3),(l,ab a m),(tt,sO "tuple" [.int 6 η,rf 839] 0)] b t tb gl [0,2,4,6] 1 [K14,K29,K30,K72,1] [4,4,4,3,0] [(0,.rw (cS (.bool false))),(0,.rw (cS (.bool false))),(0,.rw (cS (.bool true)))] [13] (@mb_61 b t en ti f l m x σ q0 q1 q2 q3 q4 q5 η a tb gl w):=by revert w;refine @bs _ ?_ ?_<;>intro w<;>kernel_rfl
theorem mt_61 (hy:y < 512) (hA:a.size≤100) (hb:fE (32768+y) 6=true) (IH:∀ P b t m q2 q3 q4 q5 v0 v1 v2 v3 (a1:Array Value),a1.size=a.size+1→HB w (bJ w req (32768+y)) (bZ PL en f) P [(en,fO "enumerate" [.none,.bool false,rf ti,.int 7 0,.none,rf 839]),(ti,fO "tuple_iterator" [rf 848,.int 7 0]),(f,aQ w q0 (nv (32768+y) σ) q1 (rf l) q2 v0 q3 v1 q4 v2 q5 v3),(l,ab a1 m)] b t tb gl):HB w (bJ w req (32768+y)) (bZ PL en f) P [(en,fO "enumerate" [.none,.bool false,rf ti,.int 6 0,.none,rf 835]),(ti,fO "tuple_iterator" [rf 848,.int 6 0]),(f,aQ w q0 (nv (32768+y) σ) q1 (rf l) q2 v0 q3 v1 q4 v2 q5 v3),(l,ab a m)] b t tb gl:=by
  have hb0:Value.bool (decide (Int.ofNat (Nat.land (32768+y) 1032)=1032)) = .bool false:=congrArg Value.bool (mB y hy)
  have hb1:Value.bool (decide (Int.ofNat (Nat.land (32768+y) 1024)=1024)) = .bool false:=congrArg Value.bool (mA y hy)
  have hb2:Value.bool (decide (Int.ofNat (Nat.land (32768+y) 8)=8)) = .bool true:=congrArg Value.bool hb
  refine qH ma_6' rfl fun s hs Ξ ar=>gC rfl ar fun s1 hA1 hF1=>?_
  unfold bq
  rw [cx]
  refine bd (V:=Vp w) (hA1.olds _ (.head _)) fun p' h' k1 k2=>?_
  have hA2:=hA1.owned (ai _) k1 k2
  have hF2:=hF1.owned (.head _) k2
  refine qS mb_61' rfl hA2 fun Ξ ar=>?_
  refine dJ rfl (ae (hb2) (ae (hb1) (ao (hb0)))) ag (aC (ai _) (by omega) ⟨_,rfl⟩) fun b1 t1 ak hb1 _ hk1 _=>?_
  obtain ⟨_,⟨τq,rfl⟩,hap0⟩:=hk1;have hap:ak.a 0=a.push (.str (dT 6 true) τq):=hap0
  exact gA rfl ar fun s' hA hF=>d8 hs (IH _ _ _ _ _ _ _ _ _ _ _ _ _ (by rw [hap,Array.size_push])) hA (hF2.trans hF (fun a h=>h) (c7 hs)) (by show b≤_;omega) (fun a h=>.inl h) fun ys hk _=>⟨ys,bK (i:=6) (by omega) (congrArg _ hb) hap hk,rfl,rfl,rfl,rfl,rfl,fun a h=>h,ag⟩
theorem mo_6 (hy:y < 512) (hA:a.size≤6):HB w (bJ w req (32768+y)) (bZ PL en f) P [(en,fO "enumerate" [.none,.bool false,rf ti,.int 6 0,.none,rf 835]),(ti,fO "tuple_iterator" [rf 848,.int 6 0]),(f,aQ w q0 (nv (32768+y) σ) q1 (rf l) q2 v0 q3 v1 q4 v2 q5 v3),(l,ab a m)] b t tb gl:=by
  cases hb:fE (32768+y) 6 with
  | true=>exact mt_61 hy (by omega) hb fun P b t m q2 q3 q4 q5 v0 v1 v2 v3 a1 h=>mo_7 hy (by omega)
  | false=>exact mt_60 hy (by omega) hb fun P b t m q2 q3 q4 q5 v0 v1 v2 v3 a1 h=>mo_7 hy (by omega)
noncomputable def ma_5:Rs :=
ip (bZ PL en f) (bq (rf en) (rf b) (bE f)) ⟨814,8,814,20⟩ [(en,fO "enumerate" [nv b 0,.bool false,rf ti,.int 6 0,.none,rf 835]),(ti,fO "tuple_iterator" [rf 848,.int 6 0]),(f,aQ w q0 (nv x σ) q1 (rf l) q2 v0 q3 v1 q4 v2 q5 v3),(l,ab a m),(b,sO "tuple" [.int 5 t,rf 835] 0)] (b+1) (t+1) tb gl
theorem ma_5':aZ w (bZ PL en f) P [(en,fO "enumerate" [.none,.bool false,rf ti,.int 5 0,.none,rf 833]),(ti,fO "tuple_iterator" [rf 848,.int 5 0]),(f,aQ w q0 (nv x σ) q1 (rf l) q2 v0 q3 v1 q4 v2 q5 v3),(l,ab a m)] b t tb gl [0,2,4,6,1] 1 [K37] [0] [] [] (@ma_5 PL b t en ti f l m x σ q0 q1 q2 q3 q4 q5 v0 v1 v2 v3 a tb gl w):=by kernel_rfl
noncomputable def mb_50:Rs :=
.nF (aN [6] fun v=>∃ τ,v = .str (dT 5 false) τ) (cB "list.append" [rf l,sv "-" (t+7)]) [(l,ab a m)] (b+9) (t+8) (cb tb) gl [(.bool (decide (Int.ofNat (Nat.land x 16)=16)),.bool false)] [] fun b1 t1 ak =>
bF (aH (bt (az cz) 1) (rf en) (bE f)) ⟨815,25,815,30⟩ [(en,fO "enumerate" [.none,.bool false,rf ti,.int 6 0,.none,rf 835]),(ti,fO "tuple_iterator" [rf 848,.int 6 0]),(f,aQ w q0 (nv x σ) q1 (rf l) q2 (.int 5 η) q3 (rf 835) q4 (.int 16 1361) q5 (sv "w" 1385)),(l,ab (ak.a 0) (ak.n 0))] b1 t1 tb gl
theorem mb_50':c4 w (bZ PL en f) P (cs (rf en) (rf tt) (bE f)) [(en,fO "enumerate" [.none,.bool false,rf ti,.int 6 0,.none,rf 835]),(ti,fO "tuple_iterator" [rf 848,.int 6 0]),(f,aQ w q0 (nv x σ) q1 (rf l) q2 v0 q3 v1 q4 v2 q5 v3),(l,ab a m),(tt,sO "tuple" [.int 5 η,rf 835] 0)] b t tb gl [0,2,4,6] 1 [K14,K54,1] [4,2,0] [(0,.rw (cS (.bool false)))] [9] (@mb_50 b t en ti f l m x σ q0 q1 q2 q3 q4 q5 η a tb gl w):=by revert w;refine @bs _ ?_ ?_<;>intro w<;>kernel_rfl
theorem mt_50 (hy:y < 512) (hA:a.size≤100) (hb:fE (32768+y) 5=false) (IH:∀ P b t m q2 q3 q4 q5 v0 v1 v2 v3 (a1:Array Value),a1.size=a.size+1→HB w (bJ w req (32768+y)) (bZ PL en f) P [(en,fO "enumerate" [.none,.bool false,rf ti,.int 6 0,.none,rf 835]),(ti,fO "tuple_iterator" [rf 848,.int 6 0]),(f,aQ w q0 (nv (32768+y) σ) q1 (rf l) q2 v0 q3 v1 q4 v2 q5 v3),(l,ab a1 m)] b t tb gl):HB w (bJ w req (32768+y)) (bZ PL en f) P [(en,fO "enumerate" [.none,.bool false,rf ti,.int 5 0,.none,rf 833]),(ti,fO "tuple_iterator" [rf 848,.int 5 0]),(f,aQ w q0 (nv (32768+y) σ) q1 (rf l) q2 v0 q3 v1 q4 v2 q5 v3),(l,ab a m)] b t tb gl:=by
  have hb0:Value.bool (decide (Int.ofNat (Nat.land (32768+y) 16)=16)) = .bool false:=congrArg Value.bool hb
  refine qH ma_5' rfl fun s hs Ξ ar=>gC rfl ar fun s1 hA1 hF1=>?_
  unfold bq
  rw [cx]
  refine bd (V:=Vp w) (hA1.olds _ (.head _)) fun p' h' k1 k2=>?_
  have hA2:=hA1.owned (ai _) k1 k2
  have hF2:=hF1.owned (.head _) k2
  refine qS mb_50' rfl hA2 fun Ξ ar=>?_
  refine dJ rfl (ao (hb0)) ag (aC (ai _) (by omega) ⟨_,rfl⟩) fun b1 t1 ak _ _ hk1 _=>?_
  obtain ⟨_,⟨τq,rfl⟩,hap0⟩:=hk1;have hap:ak.a 0=a.push (.str (dT 5 false) τq):=hap0
  exact gA rfl ar fun s' hA hF=>d8 hs (IH _ _ _ _ _ _ _ _ _ _ _ _ _ (by rw [hap,Array.size_push])) hA (hF2.trans hF (fun a h=>h) (c7 hs)) (by show b≤_;omega) (fun a h=>.inl h) fun ys hk _=>⟨ys,bK (i:=5) (by omega) (congrArg _ hb) hap hk,rfl,rfl,rfl,rfl,rfl,fun a h=>h,ag⟩
noncomputable def mb_51:Rs :=
.nF (aN [6] fun v=>∃ τ,v = .str (dT 5 true) τ) (cB "list.append" [rf l,sv "w" 1385]) [(l,ab a m)] (b+7) (t+6) (cb tb) gl [(.bool (decide (Int.ofNat (Nat.land x 16)=16)),.bool true)] [] fun b1 t1 ak =>
bF (aH (bt (az cz) 1) (rf en) (bE f)) ⟨815,25,815,30⟩ [(en,fO "enumerate" [.none,.bool false,rf ti,.int 6 0,.none,rf 835]),(ti,fO "tuple_iterator" [rf 848,.int 6 0]),(f,aQ w q0 (nv x σ) q1 (rf l) q2 (.int 5 η) q3 (rf 835) q4 (.int 16 1361) q5 (sv "w" 1385)),(l,ab (ak.a 0) (ak.n 0))] b1 t1 tb gl
theorem mb_51':c4 w (bZ PL en f) P (cs (rf en) (rf tt) (bE f)) [(en,fO "enumerate" [.none,.bool false,rf ti,.int 6 0,.none,rf 835]),(ti,fO "tuple_iterator" [rf 848,.int 6 0]),(f,aQ w q0 (nv x σ) q1 (rf l) q2 v0 q3 v1 q4 v2 q5 v3),(l,ab a m),(tt,sO "tuple" [.int 5 η,rf 835] 0)] b t tb gl [0,2,4,6] 1 [K14,K72,1] [4,3,0] [(0,.rw (cS (.bool true)))] [7] (@mb_51 b t en ti f l m x σ q0 q1 q2 q3 q4 q5 η a tb gl w):=by revert w;refine @bs _ ?_ ?_<;>intro w<;>kernel_rfl
theorem mt_51 (hy:y < 512) (hA:a.size≤100) (hb:fE (32768+y) 5=true) (IH:∀ P b t m q2 q3 q4 q5 v0 v1 v2 v3 (a1:Array Value),a1.size=a.size+1→HB w (bJ w req (32768+y)) (bZ PL en f) P [(en,fO "enumerate" [.none,.bool false,rf ti,.int 6 0,.none,rf 835]),(ti,fO "tuple_iterator" [rf 848,.int 6 0]),(f,aQ w q0 (nv (32768+y) σ) q1 (rf l) q2 v0 q3 v1 q4 v2 q5 v3),(l,ab a1 m)] b t tb gl):HB w (bJ w req (32768+y)) (bZ PL en f) P [(en,fO "enumerate" [.none,.bool false,rf ti,.int 5 0,.none,rf 833]),(ti,fO "tuple_iterator" [rf 848,.int 5 0]),(f,aQ w q0 (nv (32768+y) σ) q1 (rf l) q2 v0 q3 v1 q4 v2 q5 v3),(l,ab a m)] b t tb gl:=by
  have hb0:Value.bool (decide (Int.ofNat (Nat.land (32768+y) 16)=16)) = .bool true:=congrArg Value.bool hb
  refine qH ma_5' rfl fun s hs Ξ ar=>gC rfl ar fun s1 hA1 hF1=>?_
  unfold bq
  rw [cx]
  refine bd (V:=Vp w) (hA1.olds _ (.head _)) fun p' h' k1 k2=>?_
  have hA2:=hA1.owned (ai _) k1 k2
  have hF2:=hF1.owned (.head _) k2
  refine qS mb_51' rfl hA2 fun Ξ ar=>?_
  refine dJ rfl (ao (hb0)) ag (aC (ai _) (by omega) ⟨_,rfl⟩) fun b1 t1 ak _ _ hk1 _=>?_
  obtain ⟨_,⟨τq,rfl⟩,hap0⟩:=hk1;have hap:ak.a 0=a.push (.str (dT 5 true) τq):=hap0
  exact gA rfl ar fun s' hA hF=>d8 hs (IH _ _ _ _ _ _ _ _ _ _ _ _ _ (by rw [hap,Array.size_push])) hA (hF2.trans hF (fun a h=>h) (c7 hs)) (by show b≤_;omega) (fun a h=>.inl h) fun ys hk _=>⟨ys,bK (i:=5) (by omega) (congrArg _ hb) hap hk,rfl,rfl,rfl,rfl,rfl,fun a h=>h,ag⟩
theorem mo_5 (hy:y < 512) (hA:a.size≤5):HB w (bJ w req (32768+y)) (bZ PL en f) P [(en,fO "enumerate" [.none,.bool false,rf ti,.int 5 0,.none,rf 833]),(ti,fO "tuple_iterator" [rf 848,.int 5 0]),(f,aQ w q0 (nv (32768+y) σ) q1 (rf l) q2 v0 q3 v1 q4 v2 q5 v3),(l,ab a m)] b t tb gl:=by
  cases hb:fE (32768+y) 5 with
  | true=>exact mt_51 hy (by omega) hb fun P b t m q2 q3 q4 q5 v0 v1 v2 v3 a1 h=>mo_6 hy (by omega)
  | false=>exact mt_50 hy (by omega) hb fun P b t m q2 q3 q4 q5 v0 v1 v2 v3 a1 h=>mo_6 hy (by omega)
noncomputable def ma_4:Rs :=
ip (bZ PL en f) (bq (rf en) (rf b) (bE f)) ⟨814,8,814,20⟩ [(en,fO "enumerate" [nv b 0,.bool false,rf ti,.int 5 0,.none,rf 833]),(ti,fO "tuple_iterator" [rf 848,.int 5 0]),(f,aQ w q0 (nv x σ) q1 (rf l) q2 v0 q3 v1 q4 v2 q5 v3),(l,ab a m),(b,sO "tuple" [.int 4 t,rf 833] 0)] (b+1) (t+1) tb gl
theorem ma_4':aZ w (bZ PL en f) P [(en,fO "enumerate" [.none,.bool false,rf ti,.int 4 0,.none,rf 831]),(ti,fO "tuple_iterator" [rf 848,.int 4 0]),(f,aQ w q0 (nv x σ) q1 (rf l) q2 v0 q3 v1 q4 v2 q5 v3),(l,ab a m)] b t tb gl [0,2,4,6,1] 1 [K37] [0] [] [] (@ma_4 PL b t en ti f l m x σ q0 q1 q2 q3 q4 q5 v0 v1 v2 v3 a tb gl w):=by kernel_rfl
noncomputable def mb_40:Rs :=
.nF (aN [6] fun v=>∃ τ,v = .str (dT 4 false) τ) (cB "list.append" [rf l,sv "-" (t+7)]) [(l,ab a m)] (b+9) (t+8) (cb tb) gl [(.bool (decide (Int.ofNat (Nat.land x 32)=32)),.bool false)] [] fun b1 t1 ak =>
bF (aH (bt (az cz) 1) (rf en) (bE f)) ⟨815,25,815,30⟩ [(en,fO "enumerate" [.none,.bool false,rf ti,.int 5 0,.none,rf 833]),(ti,fO "tuple_iterator" [rf 848,.int 5 0]),(f,aQ w q0 (nv x σ) q1 (rf l) q2 (.int 4 η) q3 (rf 833) q4 (.int 32 1359) q5 (sv "r" 1384)),(l,ab (ak.a 0) (ak.n 0))] b1 t1 tb gl
theorem mb_40':c4 w (bZ PL en f) P (cs (rf en) (rf tt) (bE f)) [(en,fO "enumerate" [.none,.bool false,rf ti,.int 5 0,.none,rf 833]),(ti,fO "tuple_iterator" [rf 848,.int 5 0]),(f,aQ w q0 (nv x σ) q1 (rf l) q2 v0 q3 v1 q4 v2 q5 v3),(l,ab a m),(tt,sO "tuple" [.int 4 η,rf 833] 0)] b t tb gl [0,2,4,6] 1 [K14,K54,1] [4,2,0] [(0,.rw (cS (.bool false)))] [9] (@mb_40 b t en ti f l m x σ q0 q1 q2 q3 q4 q5 η a tb gl w):=by revert w;refine @bs _ ?_ ?_<;>intro w<;>kernel_rfl
theorem mt_40 (hy:y < 512) (hA:a.size≤100) (hb:fE (32768+y) 4=false) (IH:∀ P b t m q2 q3 q4 q5 v0 v1 v2 v3 (a1:Array Value),a1.size=a.size+1→HB w (bJ w req (32768+y)) (bZ PL en f) P [(en,fO "enumerate" [.none,.bool false,rf ti,.int 5 0,.none,rf 833]),(ti,fO "tuple_iterator" [rf 848,.int 5 0]),(f,aQ w q0 (nv (32768+y) σ) q1 (rf l) q2 v0 q3 v1 q4 v2 q5 v3),(l,ab a1 m)] b t tb gl):HB w (bJ w req (32768+y)) (bZ PL en f) P [(en,fO "enumerate" [.none,.bool false,rf ti,.int 4 0,.none,rf 831]),(ti,fO "tuple_iterator" [rf 848,.int 4 0]),(f,aQ w q0 (nv (32768+y) σ) q1 (rf l) q2 v0 q3 v1 q4 v2 q5 v3),(l,ab a m)] b t tb gl:=by
  have hb0:Value.bool (decide (Int.ofNat (Nat.land (32768+y) 32)=32)) = .bool false:=congrArg Value.bool hb
  refine qH ma_4' rfl fun s hs Ξ ar=>gC rfl ar fun s1 hA1 hF1=>?_
  unfold bq
  rw [cx]
  refine bd (V:=Vp w) (hA1.olds _ (.head _)) fun p' h' k1 k2=>?_
  have hA2:=hA1.owned (ai _) k1 k2
  have hF2:=hF1.owned (.head _) k2
  refine qS mb_40' rfl hA2 fun Ξ ar=>?_
  refine dJ rfl (ao (hb0)) ag (aC (ai _) (by omega) ⟨_,rfl⟩) fun b1 t1 ak _ _ hk1 _=>?_
  obtain ⟨_,⟨τq,rfl⟩,hap0⟩:=hk1;have hap:ak.a 0=a.push (.str (dT 4 false) τq):=hap0
  exact gA rfl ar fun s' hA hF=>d8 hs (IH _ _ _ _ _ _ _ _ _ _ _ _ _ (by rw [hap,Array.size_push])) hA (hF2.trans hF (fun a h=>h) (c7 hs)) (by show b≤_;omega) (fun a h=>.inl h) fun ys hk _=>⟨ys,bK (i:=4) (by omega) (congrArg _ hb) hap hk,rfl,rfl,rfl,rfl,rfl,fun a h=>h,ag⟩
noncomputable def mb_41:Rs :=
.nF (aN [6] fun v=>∃ τ,v = .str (dT 4 true) τ) (cB "list.append" [rf l,sv "r" 1384]) [(l,ab a m)] (b+7) (t+6) (cb tb) gl [(.bool (decide (Int.ofNat (Nat.land x 32)=32)),.bool true)] [] fun b1 t1 ak =>
bF (aH (bt (az cz) 1) (rf en) (bE f)) ⟨815,25,815,30⟩ [(en,fO "enumerate" [.none,.bool false,rf ti,.int 5 0,.none,rf 833]),(ti,fO "tuple_iterator" [rf 848,.int 5 0]),(f,aQ w q0 (nv x σ) q1 (rf l) q2 (.int 4 η) q3 (rf 833) q4 (.int 32 1359) q5 (sv "r" 1384)),(l,ab (ak.a 0) (ak.n 0))] b1 t1 tb gl
theorem mb_41':c4 w (bZ PL en f) P (cs (rf en) (rf tt) (bE f)) [(en,fO "enumerate" [.none,.bool false,rf ti,.int 5 0,.none,rf 833]),(ti,fO "tuple_iterator" [rf 848,.int 5 0]),(f,aQ w q0 (nv x σ) q1 (rf l) q2 v0 q3 v1 q4 v2 q5 v3),(l,ab a m),(tt,sO "tuple" [.int 4 η,rf 833] 0)] b t tb gl [0,2,4,6] 1 [K14,K72,1] [4,3,0] [(0,.rw (cS (.bool true)))] [7] (@mb_41 b t en ti f l m x σ q0 q1 q2 q3 q4 q5 η a tb gl w):=by revert w;refine @bs _ ?_ ?_<;>intro w<;>kernel_rfl
theorem mt_41 (hy:y < 512) (hA:a.size≤100) (hb:fE (32768+y) 4=true) (IH:∀ P b t m q2 q3 q4 q5 v0 v1 v2 v3 (a1:Array Value),a1.size=a.size+1→HB w (bJ w req (32768+y)) (bZ PL en f) P [(en,fO "enumerate" [.none,.bool false,rf ti,.int 5 0,.none,rf 833]),(ti,fO "tuple_iterator" [rf 848,.int 5 0]),(f,aQ w q0 (nv (32768+y) σ) q1 (rf l) q2 v0 q3 v1 q4 v2 q5 v3),(l,ab a1 m)] b t tb gl):HB w (bJ w req (32768+y)) (bZ PL en f) P [(en,fO "enumerate" [.none,.bool false,rf ti,.int 4 0,.none,rf 831]),(ti,fO "tuple_iterator" [rf 848,.int 4 0]),(f,aQ w q0 (nv (32768+y) σ) q1 (rf l) q2 v0 q3 v1 q4 v2 q5 v3),(l,ab a m)] b t tb gl:=by
  have hb0:Value.bool (decide (Int.ofNat (Nat.land (32768+y) 32)=32)) = .bool true:=congrArg Value.bool hb
  refine qH ma_4' rfl fun s hs Ξ ar=>gC rfl ar fun s1 hA1 hF1=>?_
  unfold bq
  rw [cx]
  refine bd (V:=Vp w) (hA1.olds _ (.head _)) fun p' h' k1 k2=>?_
  have hA2:=hA1.owned (ai _) k1 k2
  have hF2:=hF1.owned (.head _) k2
  refine qS mb_41' rfl hA2 fun Ξ ar=>?_
  refine dJ rfl (ao (hb0)) ag (aC (ai _) (by omega) ⟨_,rfl⟩) fun b1 t1 ak _ _ hk1 _=>?_
  obtain ⟨_,⟨τq,rfl⟩,hap0⟩:=hk1;have hap:ak.a 0=a.push (.str (dT 4 true) τq):=hap0
  exact gA rfl ar fun s' hA hF=>d8 hs (IH _ _ _ _ _ _ _ _ _ _ _ _ _ (by rw [hap,Array.size_push])) hA (hF2.trans hF (fun a h=>h) (c7 hs)) (by show b≤_;omega) (fun a h=>.inl h) fun ys hk _=>⟨ys,bK (i:=4) (by omega) (congrArg _ hb) hap hk,rfl,rfl,rfl,rfl,rfl,fun a h=>h,ag⟩
theorem mo_4 (hy:y < 512) (hA:a.size≤4):HB w (bJ w req (32768+y)) (bZ PL en f) P [(en,fO "enumerate" [.none,.bool false,rf ti,.int 4 0,.none,rf 831]),(ti,fO "tuple_iterator" [rf 848,.int 4 0]),(f,aQ w q0 (nv (32768+y) σ) q1 (rf l) q2 v0 q3 v1 q4 v2 q5 v3),(l,ab a m)] b t tb gl:=by
  cases hb:fE (32768+y) 4 with
  | true=>exact mt_41 hy (by omega) hb fun P b t m q2 q3 q4 q5 v0 v1 v2 v3 a1 h=>mo_5 hy (by omega)
  | false=>exact mt_40 hy (by omega) hb fun P b t m q2 q3 q4 q5 v0 v1 v2 v3 a1 h=>mo_5 hy (by omega)
noncomputable def ma_3:Rs :=
ip (bZ PL en f) (bq (rf en) (rf b) (bE f)) ⟨814,8,814,20⟩ [(en,fO "enumerate" [nv b 0,.bool false,rf ti,.int 4 0,.none,rf 831]),(ti,fO "tuple_iterator" [rf 848,.int 4 0]),(f,aQ w q0 (nv x σ) q1 (rf l) q2 v0 q3 v1 q4 v2 q5 v3),(l,ab a m),(b,sO "tuple" [.int 3 t,rf 831] 0)] (b+1) (t+1) tb gl
theorem ma_3':aZ w (bZ PL en f) P [(en,fO "enumerate" [.none,.bool false,rf ti,.int 3 0,.none,rf 827]),(ti,fO "tuple_iterator" [rf 848,.int 3 0]),(f,aQ w q0 (nv x σ) q1 (rf l) q2 v0 q3 v1 q4 v2 q5 v3),(l,ab a m)] b t tb gl [0,2,4,6,1] 1 [K37] [0] [] [] (@ma_3 PL b t en ti f l m x σ q0 q1 q2 q3 q4 q5 v0 v1 v2 v3 a tb gl w):=by kernel_rfl
noncomputable def mb_30:Rs :=
.nF (aN [6] fun v=>∃ τ,v = .str (dT 3 false) τ) (cB "list.append" [rf l,sv "-" (t+15)]) [(l,ab a m)] (b+15) (t+16) (cb tb) gl [(.bool (decide (Int.ofNat (Nat.land x 64)=64)),.bool false),(.bool (decide (Int.ofNat (Nat.land x 2048)=2048)),.bool false),(.bool (decide (Int.ofNat (Nat.land x 2112)=2112)),.bool false)] [] fun b1 t1 ak =>
bF (aH (bt (az cz) 1) (rf en) (bE f)) ⟨815,25,815,30⟩ [(en,fO "enumerate" [.none,.bool false,rf ti,.int 4 0,.none,rf 831]),(ti,fO "tuple_iterator" [rf 848,.int 4 0]),(f,aQ w q0 (nv x σ) q1 (rf l) q2 (.int 3 η) q3 (rf 831) q4 (.int 64 1357) q5 (sv "x" 1383)),(l,ab (ak.a 0) (ak.n 0))] b1 t1 tb gl
theorem mb_30':c4 w (bZ PL en f) P (cs (rf en) (rf tt) (bE f)) [(en,fO "enumerate" [.none,.bool false,rf ti,.int 4 0,.none,rf 831]),(ti,fO "tuple_iterator" [rf 848,.int 4 0]),(f,aQ w q0 (nv x σ) q1 (rf l) q2 v0 q3 v1 q4 v2 q5 v3),(l,ab a m),(tt,sO "tuple" [.int 3 η,rf 831] 0)] b t tb gl [0,2,4,6] 1 [K14,K29,K30,K53,1] [4,4,4,2,0] [(0,.rw (cS (.bool false))),(0,.rw (cS (.bool false))),(0,.rw (cS (.bool false)))] [15] (@mb_30 b t en ti f l m x σ q0 q1 q2 q3 q4 q5 η a tb gl w):=by revert w;refine @bs _ ?_ ?_<;>intro w<;>kernel_rfl
theorem mt_30 (hy:y < 512) (hA:a.size≤100) (hb:fE (32768+y) 3=false) (IH:∀ P b t m q2 q3 q4 q5 v0 v1 v2 v3 (a1:Array Value),a1.size=a.size+1→HB w (bJ w req (32768+y)) (bZ PL en f) P [(en,fO "enumerate" [.none,.bool false,rf ti,.int 4 0,.none,rf 831]),(ti,fO "tuple_iterator" [rf 848,.int 4 0]),(f,aQ w q0 (nv (32768+y) σ) q1 (rf l) q2 v0 q3 v1 q4 v2 q5 v3),(l,ab a1 m)] b t tb gl):HB w (bJ w req (32768+y)) (bZ PL en f) P [(en,fO "enumerate" [.none,.bool false,rf ti,.int 3 0,.none,rf 827]),(ti,fO "tuple_iterator" [rf 848,.int 3 0]),(f,aQ w q0 (nv (32768+y) σ) q1 (rf l) q2 v0 q3 v1 q4 v2 q5 v3),(l,ab a m)] b t tb gl:=by
  have hb0:Value.bool (decide (Int.ofNat (Nat.land (32768+y) 2112)=2112)) = .bool false:=congrArg Value.bool (mD y hy)
  have hb1:Value.bool (decide (Int.ofNat (Nat.land (32768+y) 2048)=2048)) = .bool false:=congrArg Value.bool (mC y hy)
  have hb2:Value.bool (decide (Int.ofNat (Nat.land (32768+y) 64)=64)) = .bool false:=congrArg Value.bool hb
  refine qH ma_3' rfl fun s hs Ξ ar=>gC rfl ar fun s1 hA1 hF1=>?_
  unfold bq
  rw [cx]
  refine bd (V:=Vp w) (hA1.olds _ (.head _)) fun p' h' k1 k2=>?_
  have hA2:=hA1.owned (ai _) k1 k2
  have hF2:=hF1.owned (.head _) k2
  refine qS mb_30' rfl hA2 fun Ξ ar=>?_
  refine dJ rfl (ae (hb2) (ae (hb1) (ao (hb0)))) ag (aC (ai _) (by omega) ⟨_,rfl⟩) fun b1 t1 ak hb1 _ hk1 _=>?_
  obtain ⟨_,⟨τq,rfl⟩,hap0⟩:=hk1;have hap:ak.a 0=a.push (.str (dT 3 false) τq):=hap0
  exact gA rfl ar fun s' hA hF=>d8 hs (IH _ _ _ _ _ _ _ _ _ _ _ _ _ (by rw [hap,Array.size_push])) hA (hF2.trans hF (fun a h=>h) (c7 hs)) (by show b≤_;omega) (fun a h=>.inl h) fun ys hk _=>⟨ys,bK (i:=3) (by omega) (congrArg _ hb) hap hk,rfl,rfl,rfl,rfl,rfl,fun a h=>h,ag⟩
noncomputable def mb_31:Rs :=
.nF (aN [6] fun v=>∃ τ,v = .str (dT 3 true) τ) (cB "list.append" [rf l,sv "x" 1383]) [(l,ab a m)] (b+13) (t+14) (cb tb) gl [(.bool (decide (Int.ofNat (Nat.land x 64)=64)),.bool true),(.bool (decide (Int.ofNat (Nat.land x 2048)=2048)),.bool false),(.bool (decide (Int.ofNat (Nat.land x 2112)=2112)),.bool false)] [] fun b1 t1 ak =>
bF (aH (bt (az cz) 1) (rf en) (bE f)) ⟨815,25,815,30⟩ [(en,fO "enumerate" [.none,.bool false,rf ti,.int 4 0,.none,rf 831]),(ti,fO "tuple_iterator" [rf 848,.int 4 0]),(f,aQ w q0 (nv x σ) q1 (rf l) q2 (.int 3 η) q3 (rf 831) q4 (.int 64 1357) q5 (sv "x" 1383)),(l,ab (ak.a 0) (ak.n 0))] b1 t1 tb gl
theorem mb_31':c4 w (bZ PL en f) P (cs (rf en) (rf tt) (bE f)) [(en,fO "enumerate" [.none,.bool false,rf ti,.int 4 0,.none,rf 831]),(ti,fO "tuple_iterator" [rf 848,.int 4 0]),(f,aQ w q0 (nv x σ) q1 (rf l) q2 v0 q3 v1 q4 v2 q5 v3),(l,ab a m),(tt,sO "tuple" [.int 3 η,rf 831] 0)] b t tb gl [0,2,4,6] 1 [K14,K29,K30,K72,1] [4,4,4,3,0] [(0,.rw (cS (.bool false))),(0,.rw (cS (.bool false))),(0,.rw (cS (.bool true)))] [13] (@mb_31 b t en ti f l m x σ q0 q1 q2 q3 q4 q5 η a tb gl w):=by revert w;refine @bs _ ?_ ?_<;>intro w<;>kernel_rfl
theorem mt_31 (hy:y < 512) (hA:a.size≤100) (hb:fE (32768+y) 3=true) (IH:∀ P b t m q2 q3 q4 q5 v0 v1 v2 v3 (a1:Array Value),a1.size=a.size+1→HB w (bJ w req (32768+y)) (bZ PL en f) P [(en,fO "enumerate" [.none,.bool false,rf ti,.int 4 0,.none,rf 831]),(ti,fO "tuple_iterator" [rf 848,.int 4 0]),(f,aQ w q0 (nv (32768+y) σ) q1 (rf l) q2 v0 q3 v1 q4 v2 q5 v3),(l,ab a1 m)] b t tb gl):HB w (bJ w req (32768+y)) (bZ PL en f) P [(en,fO "enumerate" [.none,.bool false,rf ti,.int 3 0,.none,rf 827]),(ti,fO "tuple_iterator" [rf 848,.int 3 0]),(f,aQ w q0 (nv (32768+y) σ) q1 (rf l) q2 v0 q3 v1 q4 v2 q5 v3),(l,ab a m)] b t tb gl:=by
  have hb0:Value.bool (decide (Int.ofNat (Nat.land (32768+y) 2112)=2112)) = .bool false:=congrArg Value.bool (mD y hy)
  have hb1:Value.bool (decide (Int.ofNat (Nat.land (32768+y) 2048)=2048)) = .bool false:=congrArg Value.bool (mC y hy)
  have hb2:Value.bool (decide (Int.ofNat (Nat.land (32768+y) 64)=64)) = .bool true:=congrArg Value.bool hb
  refine qH ma_3' rfl fun s hs Ξ ar=>gC rfl ar fun s1 hA1 hF1=>?_
  unfold bq
  rw [cx]
  refine bd (V:=Vp w) (hA1.olds _ (.head _)) fun p' h' k1 k2=>?_
  have hA2:=hA1.owned (ai _) k1 k2
  have hF2:=hF1.owned (.head _) k2
  refine qS mb_31' rfl hA2 fun Ξ ar=>?_
  refine dJ rfl (ae (hb2) (ae (hb1) (ao (hb0)))) ag (aC (ai _) (by omega) ⟨_,rfl⟩) fun b1 t1 ak hb1 _ hk1 _=>?_
  obtain ⟨_,⟨τq,rfl⟩,hap0⟩:=hk1;have hap:ak.a 0=a.push (.str (dT 3 true) τq):=hap0
  exact gA rfl ar fun s' hA hF=>d8 hs (IH _ _ _ _ _ _ _ _ _ _ _ _ _ (by rw [hap,Array.size_push])) hA (hF2.trans hF (fun a h=>h) (c7 hs)) (by show b≤_;omega) (fun a h=>.inl h) fun ys hk _=>⟨ys,bK (i:=3) (by omega) (congrArg _ hb) hap hk,rfl,rfl,rfl,rfl,rfl,fun a h=>h,ag⟩
theorem mo_3 (hy:y < 512) (hA:a.size≤3):HB w (bJ w req (32768+y)) (bZ PL en f) P [(en,fO "enumerate" [.none,.bool false,rf ti,.int 3 0,.none,rf 827]),(ti,fO "tuple_iterator" [rf 848,.int 3 0]),(f,aQ w q0 (nv (32768+y) σ) q1 (rf l) q2 v0 q3 v1 q4 v2 q5 v3),(l,ab a m)] b t tb gl:=by
  cases hb:fE (32768+y) 3 with
  | true=>exact mt_31 hy (by omega) hb fun P b t m q2 q3 q4 q5 v0 v1 v2 v3 a1 h=>mo_4 hy (by omega)
  | false=>exact mt_30 hy (by omega) hb fun P b t m q2 q3 q4 q5 v0 v1 v2 v3 a1 h=>mo_4 hy (by omega)
noncomputable def ma_2:Rs :=
ip (bZ PL en f) (bq (rf en) (rf b) (bE f)) ⟨814,8,814,20⟩ [(en,fO "enumerate" [nv b 0,.bool false,rf ti,.int 3 0,.none,rf 827]),(ti,fO "tuple_iterator" [rf 848,.int 3 0]),(f,aQ w q0 (nv x σ) q1 (rf l) q2 v0 q3 v1 q4 v2 q5 v3),(l,ab a m),(b,sO "tuple" [.int 2 t,rf 827] 0)] (b+1) (t+1) tb gl
theorem ma_2':aZ w (bZ PL en f) P [(en,fO "enumerate" [.none,.bool false,rf ti,.int 2 0,.none,rf 825]),(ti,fO "tuple_iterator" [rf 848,.int 2 0]),(f,aQ w q0 (nv x σ) q1 (rf l) q2 v0 q3 v1 q4 v2 q5 v3),(l,ab a m)] b t tb gl [0,2,4,6,1] 1 [K37] [0] [] [] (@ma_2 PL b t en ti f l m x σ q0 q1 q2 q3 q4 q5 v0 v1 v2 v3 a tb gl w):=by kernel_rfl
noncomputable def mb_20:Rs :=
.nF (aN [6] fun v=>∃ τ,v = .str (dT 2 false) τ) (cB "list.append" [rf l,sv "-" (t+7)]) [(l,ab a m)] (b+9) (t+8) (cb tb) gl [(.bool (decide (Int.ofNat (Nat.land x 128)=128)),.bool false)] [] fun b1 t1 ak =>
bF (aH (bt (az cz) 1) (rf en) (bE f)) ⟨815,25,815,30⟩ [(en,fO "enumerate" [.none,.bool false,rf ti,.int 3 0,.none,rf 827]),(ti,fO "tuple_iterator" [rf 848,.int 3 0]),(f,aQ w q0 (nv x σ) q1 (rf l) q2 (.int 2 η) q3 (rf 827) q4 (.int 128 1355) q5 (sv "w" 1379)),(l,ab (ak.a 0) (ak.n 0))] b1 t1 tb gl
theorem mb_20':c4 w (bZ PL en f) P (cs (rf en) (rf tt) (bE f)) [(en,fO "enumerate" [.none,.bool false,rf ti,.int 3 0,.none,rf 827]),(ti,fO "tuple_iterator" [rf 848,.int 3 0]),(f,aQ w q0 (nv x σ) q1 (rf l) q2 v0 q3 v1 q4 v2 q5 v3),(l,ab a m),(tt,sO "tuple" [.int 2 η,rf 827] 0)] b t tb gl [0,2,4,6] 1 [K14,K54,1] [4,2,0] [(0,.rw (cS (.bool false)))] [9] (@mb_20 b t en ti f l m x σ q0 q1 q2 q3 q4 q5 η a tb gl w):=by revert w;refine @bs _ ?_ ?_<;>intro w<;>kernel_rfl
theorem mt_20 (hy:y < 512) (hA:a.size≤100) (hb:fE (32768+y) 2=false) (IH:∀ P b t m q2 q3 q4 q5 v0 v1 v2 v3 (a1:Array Value),a1.size=a.size+1→HB w (bJ w req (32768+y)) (bZ PL en f) P [(en,fO "enumerate" [.none,.bool false,rf ti,.int 3 0,.none,rf 827]),(ti,fO "tuple_iterator" [rf 848,.int 3 0]),(f,aQ w q0 (nv (32768+y) σ) q1 (rf l) q2 v0 q3 v1 q4 v2 q5 v3),(l,ab a1 m)] b t tb gl):HB w (bJ w req (32768+y)) (bZ PL en f) P [(en,fO "enumerate" [.none,.bool false,rf ti,.int 2 0,.none,rf 825]),(ti,fO "tuple_iterator" [rf 848,.int 2 0]),(f,aQ w q0 (nv (32768+y) σ) q1 (rf l) q2 v0 q3 v1 q4 v2 q5 v3),(l,ab a m)] b t tb gl:=by
  have hb0:Value.bool (decide (Int.ofNat (Nat.land (32768+y) 128)=128)) = .bool false:=congrArg Value.bool hb
  refine qH ma_2' rfl fun s hs Ξ ar=>gC rfl ar fun s1 hA1 hF1=>?_
  unfold bq
  rw [cx]
  refine bd (V:=Vp w) (hA1.olds _ (.head _)) fun p' h' k1 k2=>?_
  have hA2:=hA1.owned (ai _) k1 k2
  have hF2:=hF1.owned (.head _) k2
  refine qS mb_20' rfl hA2 fun Ξ ar=>?_
  refine dJ rfl (ao (hb0)) ag (aC (ai _) (by omega) ⟨_,rfl⟩) fun b1 t1 ak _ _ hk1 _=>?_
  obtain ⟨_,⟨τq,rfl⟩,hap0⟩:=hk1;have hap:ak.a 0=a.push (.str (dT 2 false) τq):=hap0
  exact gA rfl ar fun s' hA hF=>d8 hs (IH _ _ _ _ _ _ _ _ _ _ _ _ _ (by rw [hap,Array.size_push])) hA (hF2.trans hF (fun a h=>h) (c7 hs)) (by show b≤_;omega) (fun a h=>.inl h) fun ys hk _=>⟨ys,bK (i:=2) (by omega) (congrArg _ hb) hap hk,rfl,rfl,rfl,rfl,rfl,fun a h=>h,ag⟩
noncomputable def mb_21:Rs :=
.nF (aN [6] fun v=>∃ τ,v = .str (dT 2 true) τ) (cB "list.append" [rf l,sv "w" 1379]) [(l,ab a m)] (b+7) (t+6) (cb tb) gl [(.bool (decide (Int.ofNat (Nat.land x 128)=128)),.bool true)] [] fun b1 t1 ak =>
bF (aH (bt (az cz) 1) (rf en) (bE f)) ⟨815,25,815,30⟩ [(en,fO "enumerate" [.none,.bool false,rf ti,.int 3 0,.none,rf 827]),(ti,fO "tuple_iterator" [rf 848,.int 3 0]),(f,aQ w q0 (nv x σ) q1 (rf l) q2 (.int 2 η) q3 (rf 827) q4 (.int 128 1355) q5 (sv "w" 1379)),(l,ab (ak.a 0) (ak.n 0))] b1 t1 tb gl
theorem mb_21':c4 w (bZ PL en f) P (cs (rf en) (rf tt) (bE f)) [(en,fO "enumerate" [.none,.bool false,rf ti,.int 3 0,.none,rf 827]),(ti,fO "tuple_iterator" [rf 848,.int 3 0]),(f,aQ w q0 (nv x σ) q1 (rf l) q2 v0 q3 v1 q4 v2 q5 v3),(l,ab a m),(tt,sO "tuple" [.int 2 η,rf 827] 0)] b t tb gl [0,2,4,6] 1 [K14,K72,1] [4,3,0] [(0,.rw (cS (.bool true)))] [7] (@mb_21 b t en ti f l m x σ q0 q1 q2 q3 q4 q5 η a tb gl w):=by revert w;refine @bs _ ?_ ?_<;>intro w<;>kernel_rfl
theorem mt_21 (hy:y < 512) (hA:a.size≤100) (hb:fE (32768+y) 2=true) (IH:∀ P b t m q2 q3 q4 q5 v0 v1 v2 v3 (a1:Array Value),a1.size=a.size+1→HB w (bJ w req (32768+y)) (bZ PL en f) P [(en,fO "enumerate" [.none,.bool false,rf ti,.int 3 0,.none,rf 827]),(ti,fO "tuple_iterator" [rf 848,.int 3 0]),(f,aQ w q0 (nv (32768+y) σ) q1 (rf l) q2 v0 q3 v1 q4 v2 q5 v3),(l,ab a1 m)] b t tb gl):HB w (bJ w req (32768+y)) (bZ PL en f) P [(en,fO "enumerate" [.none,.bool false,rf ti,.int 2 0,.none,rf 825]),(ti,fO "tuple_iterator" [rf 848,.int 2 0]),(f,aQ w q0 (nv (32768+y) σ) q1 (rf l) q2 v0 q3 v1 q4 v2 q5 v3),(l,ab a m)] b t tb gl:=by
  have hb0:Value.bool (decide (Int.ofNat (Nat.land (32768+y) 128)=128)) = .bool true:=congrArg Value.bool hb
  refine qH ma_2' rfl fun s hs Ξ ar=>gC rfl ar fun s1 hA1 hF1=>?_
  unfold bq
  rw [cx]
  refine bd (V:=Vp w) (hA1.olds _ (.head _)) fun p' h' k1 k2=>?_
  have hA2:=hA1.owned (ai _) k1 k2
  have hF2:=hF1.owned (.head _) k2
  refine qS mb_21' rfl hA2 fun Ξ ar=>?_
  refine dJ rfl (ao (hb0)) ag (aC (ai _) (by omega) ⟨_,rfl⟩) fun b1 t1 ak _ _ hk1 _=>?_
  obtain ⟨_,⟨τq,rfl⟩,hap0⟩:=hk1;have hap:ak.a 0=a.push (.str (dT 2 true) τq):=hap0
  exact gA rfl ar fun s' hA hF=>d8 hs (IH _ _ _ _ _ _ _ _ _ _ _ _ _ (by rw [hap,Array.size_push])) hA (hF2.trans hF (fun a h=>h) (c7 hs)) (by show b≤_;omega) (fun a h=>.inl h) fun ys hk _=>⟨ys,bK (i:=2) (by omega) (congrArg _ hb) hap hk,rfl,rfl,rfl,rfl,rfl,fun a h=>h,ag⟩
theorem mo_2 (hy:y < 512) (hA:a.size≤2):HB w (bJ w req (32768+y)) (bZ PL en f) P [(en,fO "enumerate" [.none,.bool false,rf ti,.int 2 0,.none,rf 825]),(ti,fO "tuple_iterator" [rf 848,.int 2 0]),(f,aQ w q0 (nv (32768+y) σ) q1 (rf l) q2 v0 q3 v1 q4 v2 q5 v3),(l,ab a m)] b t tb gl:=by
  cases hb:fE (32768+y) 2 with
  | true=>exact mt_21 hy (by omega) hb fun P b t m q2 q3 q4 q5 v0 v1 v2 v3 a1 h=>mo_3 hy (by omega)
  | false=>exact mt_20 hy (by omega) hb fun P b t m q2 q3 q4 q5 v0 v1 v2 v3 a1 h=>mo_3 hy (by omega)
noncomputable def ma_1:Rs :=
ip (bZ PL en f) (bq (rf en) (rf b) (bE f)) ⟨814,8,814,20⟩ [(en,fO "enumerate" [nv b 0,.bool false,rf ti,.int 2 0,.none,rf 825]),(ti,fO "tuple_iterator" [rf 848,.int 2 0]),(f,aQ w q0 (nv x σ) q1 (rf l) q2 v0 q3 v1 q4 v2 q5 v3),(l,ab a m),(b,sO "tuple" [.int 1 t,rf 825] 0)] (b+1) (t+1) tb gl
theorem ma_1':aZ w (bZ PL en f) P [(en,fO "enumerate" [.none,.bool false,rf ti,.int 1 0,.none,rf 823]),(ti,fO "tuple_iterator" [rf 848,.int 1 0]),(f,aQ w q0 (nv x σ) q1 (rf l) q2 v0 q3 v1 q4 v2 q5 v3),(l,ab a m)] b t tb gl [0,2,4,6,1] 1 [K37] [0] [] [] (@ma_1 PL b t en ti f l m x σ q0 q1 q2 q3 q4 q5 v0 v1 v2 v3 a tb gl w):=by kernel_rfl
noncomputable def mb_10:Rs :=
.nF (aN [6] fun v=>∃ τ,v = .str (dT 1 false) τ) (cB "list.append" [rf l,sv "-" (t+7)]) [(l,ab a m)] (b+9) (t+8) (cb tb) gl [(.bool (decide (Int.ofNat (Nat.land x 256)=256)),.bool false)] [] fun b1 t1 ak =>
bF (aH (bt (az cz) 1) (rf en) (bE f)) ⟨815,25,815,30⟩ [(en,fO "enumerate" [.none,.bool false,rf ti,.int 2 0,.none,rf 825]),(ti,fO "tuple_iterator" [rf 848,.int 2 0]),(f,aQ w q0 (nv x σ) q1 (rf l) q2 (.int 1 η) q3 (rf 825) q4 (.int 256 1353) q5 (sv "r" 1378)),(l,ab (ak.a 0) (ak.n 0))] b1 t1 tb gl
theorem mb_10':c4 w (bZ PL en f) P (cs (rf en) (rf tt) (bE f)) [(en,fO "enumerate" [.none,.bool false,rf ti,.int 2 0,.none,rf 825]),(ti,fO "tuple_iterator" [rf 848,.int 2 0]),(f,aQ w q0 (nv x σ) q1 (rf l) q2 v0 q3 v1 q4 v2 q5 v3),(l,ab a m),(tt,sO "tuple" [.int 1 η,rf 825] 0)] b t tb gl [0,2,4,6] 1 [K14,K54,1] [4,2,0] [(0,.rw (cS (.bool false)))] [9] (@mb_10 b t en ti f l m x σ q0 q1 q2 q3 q4 q5 η a tb gl w):=by revert w;refine @bs _ ?_ ?_<;>intro w<;>kernel_rfl
theorem mt_10 (hy:y < 512) (hA:a.size≤100) (hb:fE (32768+y) 1=false) (IH:∀ P b t m q2 q3 q4 q5 v0 v1 v2 v3 (a1:Array Value),a1.size=a.size+1→HB w (bJ w req (32768+y)) (bZ PL en f) P [(en,fO "enumerate" [.none,.bool false,rf ti,.int 2 0,.none,rf 825]),(ti,fO "tuple_iterator" [rf 848,.int 2 0]),(f,aQ w q0 (nv (32768+y) σ) q1 (rf l) q2 v0 q3 v1 q4 v2 q5 v3),(l,ab a1 m)] b t tb gl):HB w (bJ w req (32768+y)) (bZ PL en f) P [(en,fO "enumerate" [.none,.bool false,rf ti,.int 1 0,.none,rf 823]),(ti,fO "tuple_iterator" [rf 848,.int 1 0]),(f,aQ w q0 (nv (32768+y) σ) q1 (rf l) q2 v0 q3 v1 q4 v2 q5 v3),(l,ab a m)] b t tb gl:=by
  have hb0:Value.bool (decide (Int.ofNat (Nat.land (32768+y) 256)=256)) = .bool false:=congrArg Value.bool hb
  refine qH ma_1' rfl fun s hs Ξ ar=>gC rfl ar fun s1 hA1 hF1=>?_
  unfold bq
  rw [cx]
  refine bd (V:=Vp w) (hA1.olds _ (.head _)) fun p' h' k1 k2=>?_
  have hA2:=hA1.owned (ai _) k1 k2
  have hF2:=hF1.owned (.head _) k2
  refine qS mb_10' rfl hA2 fun Ξ ar=>?_
  refine dJ rfl (ao (hb0)) ag (aC (ai _) (by omega) ⟨_,rfl⟩) fun b1 t1 ak _ _ hk1 _=>?_
  obtain ⟨_,⟨τq,rfl⟩,hap0⟩:=hk1;have hap:ak.a 0=a.push (.str (dT 1 false) τq):=hap0
  exact gA rfl ar fun s' hA hF=>d8 hs (IH _ _ _ _ _ _ _ _ _ _ _ _ _ (by rw [hap,Array.size_push])) hA (hF2.trans hF (fun a h=>h) (c7 hs)) (by show b≤_;omega) (fun a h=>.inl h) fun ys hk _=>⟨ys,bK (i:=1) (by omega) (congrArg _ hb) hap hk,rfl,rfl,rfl,rfl,rfl,fun a h=>h,ag⟩
noncomputable def mb_11:Rs :=
.nF (aN [6] fun v=>∃ τ,v = .str (dT 1 true) τ) (cB "list.append" [rf l,sv "r" 1378]) [(l,ab a m)] (b+7) (t+6) (cb tb) gl [(.bool (decide (Int.ofNat (Nat.land x 256)=256)),.bool true)] [] fun b1 t1 ak =>
bF (aH (bt (az cz) 1) (rf en) (bE f)) ⟨815,25,815,30⟩ [(en,fO "enumerate" [.none,.bool false,rf ti,.int 2 0,.none,rf 825]),(ti,fO "tuple_iterator" [rf 848,.int 2 0]),(f,aQ w q0 (nv x σ) q1 (rf l) q2 (.int 1 η) q3 (rf 825) q4 (.int 256 1353) q5 (sv "r" 1378)),(l,ab (ak.a 0) (ak.n 0))] b1 t1 tb gl
theorem mb_11':c4 w (bZ PL en f) P (cs (rf en) (rf tt) (bE f)) [(en,fO "enumerate" [.none,.bool false,rf ti,.int 2 0,.none,rf 825]),(ti,fO "tuple_iterator" [rf 848,.int 2 0]),(f,aQ w q0 (nv x σ) q1 (rf l) q2 v0 q3 v1 q4 v2 q5 v3),(l,ab a m),(tt,sO "tuple" [.int 1 η,rf 825] 0)] b t tb gl [0,2,4,6] 1 [K14,K72,1] [4,3,0] [(0,.rw (cS (.bool true)))] [7] (@mb_11 b t en ti f l m x σ q0 q1 q2 q3 q4 q5 η a tb gl w):=by revert w;refine @bs _ ?_ ?_<;>intro w<;>kernel_rfl
theorem mt_11 (hy:y < 512) (hA:a.size≤100) (hb:fE (32768+y) 1=true) (IH:∀ P b t m q2 q3 q4 q5 v0 v1 v2 v3 (a1:Array Value),a1.size=a.size+1→HB w (bJ w req (32768+y)) (bZ PL en f) P [(en,fO "enumerate" [.none,.bool false,rf ti,.int 2 0,.none,rf 825]),(ti,fO "tuple_iterator" [rf 848,.int 2 0]),(f,aQ w q0 (nv (32768+y) σ) q1 (rf l) q2 v0 q3 v1 q4 v2 q5 v3),(l,ab a1 m)] b t tb gl):HB w (bJ w req (32768+y)) (bZ PL en f) P [(en,fO "enumerate" [.none,.bool false,rf ti,.int 1 0,.none,rf 823]),(ti,fO "tuple_iterator" [rf 848,.int 1 0]),(f,aQ w q0 (nv (32768+y) σ) q1 (rf l) q2 v0 q3 v1 q4 v2 q5 v3),(l,ab a m)] b t tb gl:=by
  have hb0:Value.bool (decide (Int.ofNat (Nat.land (32768+y) 256)=256)) = .bool true:=congrArg Value.bool hb
  refine qH ma_1' rfl fun s hs Ξ ar=>gC rfl ar fun s1 hA1 hF1=>?_
  unfold bq
  rw [cx]
  refine bd (V:=Vp w) (hA1.olds _ (.head _)) fun p' h' k1 k2=>?_
  have hA2:=hA1.owned (ai _) k1 k2
  have hF2:=hF1.owned (.head _) k2
  refine qS mb_11' rfl hA2 fun Ξ ar=>?_
  refine dJ rfl (ao (hb0)) ag (aC (ai _) (by omega) ⟨_,rfl⟩) fun b1 t1 ak _ _ hk1 _=>?_
  obtain ⟨_,⟨τq,rfl⟩,hap0⟩:=hk1;have hap:ak.a 0=a.push (.str (dT 1 true) τq):=hap0
  exact gA rfl ar fun s' hA hF=>d8 hs (IH _ _ _ _ _ _ _ _ _ _ _ _ _ (by rw [hap,Array.size_push])) hA (hF2.trans hF (fun a h=>h) (c7 hs)) (by show b≤_;omega) (fun a h=>.inl h) fun ys hk _=>⟨ys,bK (i:=1) (by omega) (congrArg _ hb) hap hk,rfl,rfl,rfl,rfl,rfl,fun a h=>h,ag⟩
theorem mo_1 (hy:y < 512) (hA:a.size≤1):HB w (bJ w req (32768+y)) (bZ PL en f) P [(en,fO "enumerate" [.none,.bool false,rf ti,.int 1 0,.none,rf 823]),(ti,fO "tuple_iterator" [rf 848,.int 1 0]),(f,aQ w q0 (nv (32768+y) σ) q1 (rf l) q2 v0 q3 v1 q4 v2 q5 v3),(l,ab a m)] b t tb gl:=by
  cases hb:fE (32768+y) 1 with
  | true=>exact mt_11 hy (by omega) hb fun P b t m q2 q3 q4 q5 v0 v1 v2 v3 a1 h=>mo_2 hy (by omega)
  | false=>exact mt_10 hy (by omega) hb fun P b t m q2 q3 q4 q5 v0 v1 v2 v3 a1 h=>mo_2 hy (by omega)
noncomputable def ma_0:Rs :=
ip (bZ PL en f) (bq (rf en) (rf b) (bE f)) ⟨814,8,814,20⟩ [(en,fO "enumerate" [nv b 0,.bool false,rf ti,.int 1 0,.none,rf 823]),(ti,fO "tuple_iterator" [rf 848,.int 1 0]),(f,kY w q0 (nv x σ) q1 (rf l)),(l,ab a m),(b,sO "tuple" [.int 0 t,rf 823] 0)] (b+1) (t+1) tb gl
theorem ma_0':aZ w (bZ PL en f) P [(en,fO "enumerate" [.none,.bool false,rf ti,.int 0 0,.none,.none]),(ti,fO "tuple_iterator" [rf 848,.int 0 0]),(f,kY w q0 (nv x σ) q1 (rf l)),(l,ab a m)] b t tb gl [0,2,4,6,1] 1 [K37] [0] [] [] (@ma_0 PL b t en ti f l m x σ q0 q1 a tb gl w):=by kernel_rfl
noncomputable def mb_01:Rs :=
.nF (aN [6] fun v=>∃ τ,v = .str (dT 0 true) τ) (cB "list.append" [rf l,sv "-" 1373]) [(l,ab a m)] (b+16) (t+20) (cb tb) gl [(.bool (decide (Int.ofNat (Nat.land x 61440)=32768)),.bool true),(.bool (decide (Int.ofNat (Nat.land x 61440)=49152)),.bool false),(.bool (decide (Int.ofNat (Nat.land x 61440)=40960)),.bool false)] [] fun b1 t1 ak =>
bF (aH (bt (az cz) 1) (rf en) (bE f)) ⟨815,25,815,30⟩ [(en,fO "enumerate" [.none,.bool false,rf ti,.int 1 0,.none,rf 823]),(ti,fO "tuple_iterator" [rf 848,.int 1 0]),(f,aQ w q0 (nv x σ) q1 (rf l) t (.int 0 η) (t+1) (rf 823) (t+2) (.int 32768 1339) (t+3) (sv "-" 1373)),(l,ab (ak.a 0) (ak.n 0))] b1 t1 tb gl
theorem mb_01':c4 w (bZ PL en f) P (cs (rf en) (rf tt) (bE f)) [(en,fO "enumerate" [.none,.bool false,rf ti,.int 1 0,.none,rf 823]),(ti,fO "tuple_iterator" [rf 848,.int 1 0]),(f,kY w q0 (nv x σ) q1 (rf l)),(l,ab a m),(tt,sO "tuple" [.int 0 η,rf 823] 0)] b t tb gl [0,2,4,6] 1 [0x124191f61f01f1841a43404540441d4190192190191191191190191190191191191190191190191191190191a717071707171727194340454044541011180101111111010180101111111010180101111101318218018018,0x124192f62f02f1841a43404540442d4290292290291291291290291290291291291290291290291291290291a7170717071717,0x124193f63f03f1841a43404540443d4390392390391391391390391390391391391390391390391391390391a7170717071717,K72,1] [4,4,4,3,0] [(0,.rw (cS (.bool false))),(0,.rw (cS (.bool false))),(0,.rw (cS (.bool true)))] [16] (@mb_01 b t en ti f l m x σ q0 q1 η a tb gl w):=by revert w;refine @bs _ ?_ ?_<;>intro w<;>kernel_rfl
theorem mt_01 (hy:y < 512) (hA:a.size≤100) (IH:∀ P b t m q2 q3 q4 q5 v0 v1 v2 v3 (a1:Array Value),a1.size=a.size+1→HB w (bJ w req (32768+y)) (bZ PL en f) P [(en,fO "enumerate" [.none,.bool false,rf ti,.int 1 0,.none,rf 823]),(ti,fO "tuple_iterator" [rf 848,.int 1 0]),(f,aQ w q0 (nv (32768+y) σ) q1 (rf l) q2 v0 q3 v1 q4 v2 q5 v3),(l,ab a1 m)] b t tb gl):HB w (bJ w req (32768+y)) (bZ PL en f) P [(en,fO "enumerate" [.none,.bool false,rf ti,.int 0 0,.none,.none]),(ti,fO "tuple_iterator" [rf 848,.int 0 0]),(f,kY w q0 (nv (32768+y) σ) q1 (rf l)),(l,ab a m)] b t tb gl:=by
  have hb0:Value.bool (decide (Int.ofNat (Nat.land (32768+y) 61440)=40960)) = .bool false:=congrArg Value.bool (mf_0_0 y hy)
  have hb1:Value.bool (decide (Int.ofNat (Nat.land (32768+y) 61440)=49152)) = .bool false:=congrArg Value.bool (mf_0_1 y hy)
  have hb2:Value.bool (decide (Int.ofNat (Nat.land (32768+y) 61440)=32768)) = .bool true:=congrArg Value.bool (mf_0_2 y hy)
  refine qH ma_0' rfl fun s hs Ξ ar=>gC rfl ar fun s1 hA1 hF1=>?_
  unfold bq
  rw [cx]
  refine bd (V:=Vp w) (hA1.olds _ (.head _)) fun p' h' k1 k2=>?_
  have hA2:=hA1.owned (ai _) k1 k2
  have hF2:=hF1.owned (.head _) k2
  refine qS mb_01' rfl hA2 fun Ξ ar=>?_
  refine dJ rfl (ae (hb2) (ae (hb1) (ao (hb0)))) ag (aC (ai _) (by omega) ⟨_,rfl⟩) fun b1 t1 ak hb1 _ hk1 _=>?_
  obtain ⟨_,⟨τq,rfl⟩,hap0⟩:=hk1;have hap:ak.a 0=a.push (.str (dT 0 true) τq):=hap0
  exact gA rfl ar fun s' hA hF=>d8 hs (IH _ _ _ _ _ _ _ _ _ _ _ _ _ (by rw [hap,Array.size_push])) hA (hF2.trans hF (fun a h=>h) (c7 hs)) (by show b≤_;omega) (fun a h=>.inl h) fun ys hk _=>⟨ys,bK (i:=0) (by omega) rfl hap hk,rfl,rfl,rfl,rfl,rfl,fun a h=>h,ag⟩
theorem mo_0 (hy:y < 512) (hA:a.size≤0):HB w (bJ w req (32768+y)) (bZ PL en f) P [(en,fO "enumerate" [.none,.bool false,rf ti,.int 0 0,.none,.none]),(ti,fO "tuple_iterator" [rf 848,.int 0 0]),(f,kY w q0 (nv (32768+y) σ) q1 (rf l)),(l,ab a m)] b t tb gl :=
  mt_01 hy (by omega) fun P b t m q2 q3 q4 q5 v0 v1 v2 v3 a1 h=>mo_1 hy (by omega)
end
section
variable {PL:Pos} {b t x σ y:Nat} {tb:Array Value} {gl:List GenState} {w:World} {req:List Nat}
noncomputable abbrev hkFm (req:List Nat) (x:Nat):Hk:=dS req (fun _ ys=>.ok (.ret (.str (ys.s 0) (ys.n 0)))) (fun pre _=>pre.map (·.2)) (fun _ _=>[]) (fun _ ys=>ys.s 0=Builtin.Str.glued (Str.mk #[]) ((List.range 10).map (fmL x)))
theorem m9:∀ i b,(dT i b).cps.size≤1
  | 0,true=>by decide
  | 0,false=>by decide
  | 1,true=>by decide
  | 2,true=>by decide
  | 3,true=>by decide
  | 4,true=>by decide
  | 5,true=>by decide
  | 6,true=>by decide
  | 7,true=>by decide
  | 8,true=>by decide
  | n+9,true=>by show (aX "x").cps.size≤1;decide
  | 1,false=>by decide
  | 2,false=>by decide
  | 3,false=>by decide
  | 4,false=>by decide
  | 5,false=>by decide
  | 6,false=>by decide
  | 7,false=>by decide
  | 8,false=>by decide
  | n+9,false=>by show (aX "-").cps.size≤1;decide
theorem hG {sep:Str} (h1:sep.length≤1) {L:List Str} (hL:∀ y∈L,y.cps.size≤2000) (hl:L.length≤100):JoinOk sep L=true:=by
  have key:∀ (L:List Str) (n:Nat),(∀ y∈L,y.cps.size≤2000)→L.foldl (fun n (s:Str)=>n+s.length+sep.length) n≤n+2001 * L.length:=by
    intro L
    induction L with
    | nil=>intro n _;simp
    | cons y r ih =>
      intro n h
      have h2:=ih (n+y.length+sep.length) fun z hz=>h z (.tail _ hz)
      have h3:y.length≤2000:=h y (.head _)
      simp only [List.foldl_cons,List.length_cons]
      omega
  unfold JoinOk Builtin.Str.tooLong
  have:=key L 0 hL
  simp only [List.foldl_toArray,Bool.not_eq_true',decide_eq_false_iff_not,bM]
  omega
theorem fm_res {x:Nat} {J:Str} {vs:Array Value} (h:J=Builtin.Str.glued (Str.mk #[]) (vs.toList.map strOf)) (hf:StrsAre vs.toList ((List.range 10).map (fmL x))):J=Builtin.Str.glued (Str.mk #[]) ((List.range 10).map (fmL x)):=by rw [h,StrsAre.strs hf]
theorem fm_join {x:Nat}:JoinOk (Str.mk #[]) ((List.range 10).map (fmL x))=true:=hG (by decide) (fun z hz=>by
  obtain ⟨i,_,rfl⟩:=List.mem_map.mp hz
  exact bT (m9 _ _) (by decide)) (by simp)
noncomputable def md:Rs :=
ca (bJ w [7,5,1,3] x) ⟨aH (bt (az cz) 1) (rf (b+3)) (bE b),none,none,[(bW cz (bE b),⟨814,24,814,50⟩),(bW aR au,PL),(aI,p0)],none⟩ ⟨814,24,814,50⟩ [(b+3,fO "enumerate" [.none,.bool false,rf (b+2),.int 0 0,.none,.none]),(b+2,fO "tuple_iterator" [rf 848,.int 0 0]),(b,kY w t (nv x σ) (t+1) (rf (b+1))),(b+1,ab #[] 0)] (b+4) (t+2) tb gl fun b1 t1 ak =>
aO (eT [3] (Str.mk #[])) (cB "str.join" [sv "" t1,rf (b+1)]) [(b+1,ab (ak.a 0) (ak.n 0))] b1 (t1+1) tb gl fun b2 t2 aw =>
cF (.ok (.ret (.str (aw.s 0) (aw.n 0)))) [] b2 t2 tb gl
theorem md':aZ w (Γmd PL x σ) PL [] b t tb gl [] 5 [0x10727270747171707252d1011b101,0x111] [5,99999] [] [4,4] (@md PL b t x σ tb gl w):=by revert w;refine @bs _ ?_ ?_<;>intro w<;>kernel_rfl
theorem mode_ok (hy:y < 512):HB w (hkFm req (32768+y)) (Γmd PL (32768+y) σ) PL [] b t tb gl:=by
  refine qH md' rfl fun s hs Ξ ar=>?_
  refine gH rfl (mo_0 hy (Nat.le_refl _)) fun b1 t1 ak _ _ hk1 _=>?_
  have hfm:StrsAre (ak.a 0).toList ((List.range 10).map (fmL (32768+y))):=by obtain ⟨Bs,h1,h2⟩:=hk1;rw [h2];exact h1
  refine gF rfl (eA (ai _) hfm fm_join rfl) fun b2 t2 aw _ _ hk2 _=>?_
  exact gD rfl ar fun s' hA hF=>⟨aw,_,_,fm_res hk2 hfm,rfl,rfl,hA,hF,fun a h=>h,ag⟩
end
section
variable {P p:Pos} {b t eR dR uR rR i0 i1 i2 i3 σ ku τ:Nat} {κ:Nat→Nat} {ν:Nat→Value} {wv ev vu:Value} {tb:Array Value} {gl:List GenState} {V:Vw} {ch:Ch} {Γ:Ctx} {y:Str} {req:List Nat} {w:World}
theorem seq_ok {x:Str} (h:x=y):an V (a9 req fun _=>.bool true) (Γ.enter (cB "str.__eq__" [.str x τ,.str y σ]) none p) p [] b t ch gl :=
  br (pre:=[]) fun s hs A=>by
    refine call_gives F.slot_str_eq (typeIs_str s x τ) F.entry_str_eq (F.args_str_eq_2 _ _) (gives_str_eq x y τ σ) ?_
    subst h
    exact ⟨⟨dz fun _=>0,by simp⟩,bV _⟩
theorem lu:∀ i b,(ef i b).cps.size≤2000
  | _,false=>by show (Str.mk #[45]).cps.size≤2000;decide
  | 0,true=>by decide
  | 1,true=>by decide
  | 2,true=>by decide
  | 3,true=>by decide
  | 4,true=>by decide
  | 5,true=>by decide
  | 6,true=>by decide
  | 7,true=>by decide
  | n+8,true=>by show (Str.mk #[120]).cps.size≤2000;decide
theorem sh_join {x:Nat}:JoinOk (Str.mk #[]) ((List.range 9).map (shL x))=true:=hG (by decide) (fun z hz=>by
  obtain ⟨i,_,rfl⟩:=List.mem_map.mp hz
  exact lu _ _) (by simp)
noncomputable def m6 (L:List Str):Str:=Builtin.Str.glued (Str.mk #[]) L
theorem sh_bit:∀ y,y < 512→∀ i,i < 9→fE (32768+y) (i+1)=fG (32768+y) i:=by decide +kernel
theorem lv:∀ i,i < 9→∀ b,dT (i+1) b=ef i b∧(ef i b).cps.size=1:=by decide +kernel
theorem iM:∀ (L:List Str) (a:Array Nat),(L.foldl (fun aj p=>aj++(Str.mk #[]).cps++p.cps) a)=a++(m6 L).cps
  | [],a=>by simp [m6,Builtin.Str.glued,Str.empty]
  | x :: L,a=>by
    show L.foldl _ (a ++ #[]++x.cps)=a++L.foldl _ x.cps
    rw [iM L,iM L x.cps]
    simp [Array.append_assoc]
theorem ko (x:Str) (L:List Str):m6 (x :: L)=fI x (m6 L):=congrArg Str.mk (iM L x.cps)
theorem m5:∀ L:List Str,(∀ x∈L,x.cps.size=1)→(m6 L).cps.size=L.length
  | [],_=>rfl
  | x :: L,h=>by
    rw [ko]
    show (x.cps++(m6 L).cps).size=_
    rw [Array.size_append,h x (.head _),m5 L fun y hy=>h y (.tail _ hy),List.length_cons,Nat.add_comm]
theorem sh_nine (y:Nat) (_:y < 512):(m6 ((List.range 9).map (shL (32768+y)))).cps.size=9:=m5 _ fun x hx=>by
  obtain ⟨i,hi,rfl⟩:=List.mem_map.mp hx
  exact (lv i (List.mem_range.mp hi) _).2
theorem sh_same (y:Nat) (hy:y < 512):m6 ((List.range 10).map (fmL (32768+y)))=fI (aX "-") (m6 ((List.range 9).map (shL (32768+y)))):=by
  rw [List.range_succ_eq_map,List.map_cons,List.map_map,ko]
  refine congrArg (fun z=>fI (aX "-") (m6 z)) (List.map_congr_left fun i hi=>?_)
  show dT (i+1) (fE (32768+y) (i+1))=_
  rw [sh_bit y hy i (List.mem_range.mp hi)]
  exact (lv i (List.mem_range.mp hi) _).1
theorem sh_size {y:Nat} {J:Str} {vs:Array Value} (hy:y < 512) (h:J=Builtin.Str.glued (Str.mk #[]) (vs.toList.map strOf)) (hs:StrsAre vs.toList ((List.range 9).map (shL (32768+y)))):(aX "-").cps.size+J.cps.size≤10000:=by
  have:=sh_nine y hy
  rw [h,StrsAre.strs hs]
  show (aX "-").cps.size+(m6 _).cps.size≤10000
  rw [this];decide
theorem kU {y:Nat} {J K:Str} {vs:Array Value} (hy:y < 512) (h:J=Builtin.Str.glued (Str.mk #[]) (vs.toList.map strOf)) (hs:StrsAre vs.toList ((List.range 9).map (shL (32768+y)))) (hK:K=Builtin.Str.glued (Str.mk #[]) ((List.range 10).map (fmL (32768+y)))):K=fI (aX "-") J:=by
  rw [hK,h,StrsAre.strs hs]
  exact sh_same y hy
noncomputable def p12n:Rs :=
cF (.ok (.ret (.bool true))) [(876,ah .none)] b t tb gl
theorem p12n':c4 w dy P (bw 12) [(876,ah .none)] b t tb gl [0] 2 [0x13ec99880] [] [] [] (@p12n b t tb gl):=by kernel_rfl
theorem end12n (E:ax) (hg:∀ g∈gl,g = .finished):Ends (Vp w) dy P (bw 12) ([(876,ah .none)]++E) b t (cb tb) gl:=by
  refine qE E p12n' rfl fun s hs Ξ ar=>?_
  exact gD rfl ar fun s' hA hF=>d7.ofEnd hs hA hF rfl hg
noncomputable def p12i {x:Nat}:Rs :=
cW (bQ w [5,3,7,2] x) dy (.compStart fe 0 (rf (b+1)) (rf (b+2)) (mkC fe (aX "law.<locals>.") none (rf 871) (b+3) (some 874) [(aX "last",876)])) ⟨880,99,880,107⟩ [(b+2,ab #[] 0),(b+1,av 0 9),(b+3,ap (.dict #[] 0)),(876,ah (nv x σ))] (b+4) (t+4) tb gl fun b1 t1 ak =>
aO (eT [5] (Str.mk #[])) (cB "str.join" [sv "" t,rf (b+2)]) [(b+2,ab (ak.a 0) (ak.n 0))] b1 t1 tb gl fun b2 t2 aw =>
cW (hkFm [] x) dy (aV 855 [nv x σ]) ⟨881,11,881,32⟩ [] b2 (t2+2) tb gl fun b3 t3 aL =>
aO (cm [] (fI (strOf (sv "-" t3)) (strOf (.str (aw.s 0) (aw.n 0))))) (cB "str.__add__" [sv "-" t3,.str (aw.s 0) (aw.n 0)]) [] b3 (t3+1) tb gl fun b4 t4 aG =>
aO (a9 [] fun _=>.bool true) (cB "str.__eq__" [.str (aL.s 0) (aL.n 0),.str (fI (PyProof.Rows.strOf (.str (PySem.Str.ofString "-") t3)) (PyProof.Rows.strOf (.str (aw.s 0) (aw.n 0)))) (aG.n 0)]) [] b4 t4 tb gl fun b5 t5 bx =>
cF (.ok (.ret (.bool true))) [(874,d13w w (κ 0) (ν 0) (κ 1) (ν 1) (κ 2) (ν 2) (κ 3) (ν 3) (κ 4) (ν 4) (κ 5) (ν 5) (κ 6) wv (κ 7) (ν 7) (κ 8) (ν 8) (κ 9) (rf eR) (κ 10) (ν 10) (κ 11) (ν 11) (κ 12) ev ku vu t2 (.str (aw.s 0) (aw.n 0))),(876,ah (nv x σ)),(eR,af dR),(dR,ac w i0 i1 i2 i3 uR rR (nv x σ))] b5 t5 tb gl
theorem p12i' {x:Nat}:okT w dy P (bw 12) [(874,bN w κ (pk [(9,rf eR)] ν) wv ev ku vu),(876,ah (nv x σ)),(eR,af dR),(dR,ac w i0 i1 i2 i3 uR rR (nv x σ))] b t (cb tb) gl [0,2,4,6] 2 [0x123210101112101411111012b2,0x1270717,0x14614043444205000,0x120,1] [0,5,3,2,99999] [(3,.freeF (fun c=>cm [] (fI (strOf (gI c 0)) (strOf (gI c 1)))))] [4,4,4,4,4] (@p12i b t eR dR uR rR i0 i1 i2 i3 σ ku κ ν wv ev vu tb gl w x):=by revert w;refine @bs _ ?_ ?_<;>intro w<;>kernel_rfl
theorem end12i {y:Nat} (E:ax) (hg:∀ g∈gl,g = .finished) (hy:y < 512):Ends (Vp w) dy P (bw 12) ([(874,bN w κ (pk [(9,rf eR)] ν) wv ev ku vu),(876,ah (nv (32768+y) σ)),(eR,af dR),(dR,ac w i0 i1 i2 i3 uR rR (nv (32768+y) σ))]++E) b t (cb tb) gl:=by
  refine qE E (p12i' (κ:=κ) (ν:=ν)) rfl fun s hs Ξ ar=>?_
  refine gH rfl (jW cl_sh Y1 rfl (sho_0 (Nat.le_refl _))) fun b1 t1 ak _ _ hk1 _=>?_
  have hsh:StrsAre (ak.a 0).toList ((List.range 9).map (shL (32768+y))):=by obtain ⟨Bs,h1,h2⟩:=hk1;rw [h2];exact h1
  refine gF rfl (eA (ai _) hsh sh_join rfl) fun b2 t2 aw _ _ hk2 _=>?_
  refine gH rfl (mode_ok hy) fun b3 t3 aL _ _ hk3 _=>?_
  refine gF rfl (gM (ai _) rfl (sh_size hy hk2 hsh)) fun b4 t4 aG _ _ _ _=>?_
  refine gF rfl (seq_ok (kU hy hk2 hsh hk3)) fun b5 t5 bx _ _ _ _=>?_
  exact gD rfl ar fun s' hA hF=>d7.ofEnd hs hA hF rfl hg
theorem end12 {D:Value} (hg:∀ g∈gl,g = .finished) (hD:ay D):Ends (Vp w) dy P (bw 12) [(874,bN w κ (pk [(9,rf eR)] ν) wv ev ku vu),(876,ah D),(eR,af dR),(dR,ac w i0 i1 i2 i3 uR rR D)] b t (cb tb) gl:=by
  rcases hD with rfl | ⟨y,τ,hy,rfl⟩
  · exact Ends.of_sel [1] rfl (by decide) (end12n [] hg)
  · exact Ends.of_sel [0,1,2,3] rfl (by decide) (end12i [] hg hy)
end
section
variable {P:Pos} {b t mr me w0 e0 d0 u0 r0 m0 n0 i00 i01 i02 i03 w1 e1 d1 u1 r1 m1 n1 i10 i11 i12 i13 w2 e2 w3 e3 d3 u3 r3 m3 n3 i30 i31 i32 i33:Nat} {κ:Nat→Nat} {ν:Nat→Value} {wv ev D0 D1 D3:Value} {cv:Option Value} {ws0 ws1 ws3 vs0 vs1 vs3 tb:Array Value} {gl:List GenState} {w:World}
theorem wd_low:∀ d,d < 5→(lowS (Wd d)).cps.size≤1000
  | 0,_=>by decide +kernel
  | 1,_=>by decide +kernel
  | 2,_=>by decide +kernel
  | 3,_=>by decide +kernel
  | 4,_=>by decide +kernel
  | n+5,h=>absurd h (by omega)
theorem iJ {Ws:List Str} (h:aJ Ws):∀ W∈Ws,(lowS W).cps.size≤1000:=fun W hW=>by
  obtain ⟨d,hd,rfl⟩:=h W hW
  exact wd_low d hd
noncomputable def p11:Rs :=
cW (eV w [9,7,0,8,1,10,12,14,16,3,18,20,22,24,5,26,28,30,32]) dy (aH (bt (az aR) 11) (rf (b+4)) au) ⟨871,24,871,86⟩ [(b+4,ad (b+3) 0),(b+3,ab #[rf b,rf (b+1),rf (b+2)] 0),(874,cn 13 w κ (pk [(2,rf 880),(6,wv),(8,rf e3),(10,rf w3),(12,ev)] ν)),(877,⟨.type "cell",none,.cell cv,#[]⟩),(b,sO "tuple" [rf w0,rf e0] 0),(w0,ab ws0 m0),(e0,af d0),(d0,ac w i00 i01 i02 i03 u0 r0 D0),(u0,ab vs0 n0),(b+1,sO "tuple" [rf w1,rf e1] 0),(w1,ab ws1 m1),(e1,af d1),(d1,ac w i10 i11 i12 i13 u1 r1 D1),(u1,ab vs1 n1),(b+2,sO "tuple" [rf w3,rf e3] 0),(w3,ab ws3 m3),(e3,af d3),(d3,ac w i30 i31 i32 i33 u3 r3 D3),(u3,ab vs3 n3)] (b+5) (t+4) tb gl fun b1 t1 ak =>
ip dy (bw 12) ⟨871,24,871,86⟩ [(874,cn 14 w (pk [(13,ak.n 1)] κ) (pk [(2,rf 880),(6,ak.v 0),(8,rf e3),(10,rf w3),(12,ak.v 1),(13,ak.v 2)] ν))] b1 t1 tb gl
theorem p11':c4 w dy P (bw 11) [(874,aU w κ (pk [(2,rf 880),(8,rf e3),(10,rf w3)] ν) wv ev),(875,ah (rf 878)),(878,ab #[rf w0,rf w1,rf w2] mr),(880,ab #[rf e0,rf e1,rf e2] me),(877,aE cv),(w0,ab ws0 m0),(e0,af d0),(d0,ac w i00 i01 i02 i03 u0 r0 D0),(u0,ab vs0 n0),(w1,ab ws1 m1),(e1,af d1),(d1,ac w i10 i11 i12 i13 u1 r1 D1),(u1,ab vs1 n1),(w3,ab ws3 m3),(e3,af d3),(d3,ac w i30 i31 i32 i33 u3 r3 D3),(u3,ab vs3 n3)] b t tb gl [0] 4 [0x10193727073010461616060620241414040422461616060620241414040422,1] [0,0] [] [5] (@p11 b t w0 e0 d0 u0 r0 m0 n0 i00 i01 i02 i03 w1 e1 d1 u1 r1 m1 n1 i10 i11 i12 i13 w3 e3 d3 u3 r3 m3 n3 i30 i31 i32 i33 κ ν wv ev D0 D1 D3 cv ws0 ws1 ws3 vs0 vs1 vs3 tb gl w):=by revert w;refine @bs _ ?_ ?_<;>intro w<;>kernel_rfl
theorem end11 {eR dR uR rR iR0 iR1 iR2 iR3:Nat} {D:Value} {Ws0 Ws1 Ws3:List Str} (hg:∀ g∈gl,g = .finished) (hD:ay D) (hW0:aJ Ws0) (hn0:Ws0.length≤50) (hw0:aD ws0 Ws0) (hu0:aD vs0 Ws0) (hW1:aJ Ws1) (hn1:Ws1.length≤50) (hw1:aD ws1 Ws1) (hu1:aD vs1 Ws1) (hW3:aJ Ws3) (hn3:Ws3.length≤50) (hw3:aD ws3 Ws3) (hu3:aD vs3 Ws3):Ends (Vp w) dy P (bw 11) ([(874,aU w κ (pk [(2,rf 880),(8,rf e3),(10,rf w3)] (pk [(9,rf eR)] ν)) wv ev),(875,ah (rf 878)),(878,ab #[rf w0,rf w1,rf w2] mr),(880,ab #[rf e0,rf e1,rf e2] me),(877,aE cv),(w0,ab ws0 m0),(e0,af d0),(d0,ac w i00 i01 i02 i03 u0 r0 D0),(u0,ab vs0 n0),(w1,ab ws1 m1),(e1,af d1),(d1,ac w i10 i11 i12 i13 u1 r1 D1),(u1,ab vs1 n1),(w3,ab ws3 m3),(e3,af d3),(d3,ac w i30 i31 i32 i33 u3 r3 D3),(u3,ab vs3 n3)]++[(876,ah D),(eR,af dR),(dR,ac w iR0 iR1 iR2 iR3 uR rR D)]) b t (cb tb) gl:=by
  refine qE [(876,ah D),(eR,af dR),(dR,ac w iR0 iR1 iR2 iR3 uR rR D)] (p11' (κ:=κ) (ν:=pk [(9,.ref eR)] ν)) rfl fun s hs Ξ ar=>?_
  refine gH rfl (f4_ok (κ:=κ) (ν:=pk [(2,.ref 880),(8,.ref e3),(10,.ref w3)] (pk [(9,.ref eR)] ν)) (wv:=wv) (ev:=ev) (iJ hW0) hn0 hw0 hu0 (iJ hW1) hn1 hw1 hu1 (iJ hW3) hn3 hw3 hu3) fun b1 t1 ak _ _ _ _=>?_
  exact gC rfl ar fun s' hA hF=>Ends.use hs hA hF (ao (.inl (.head _))) [0,1,2,3] rfl (by decide) (end12 (κ:=κ) (ν:=pk [(2,.ref 880),(8,.ref e3),(10,.ref w3)] ν) (wv:=ak.v 0) (ev:=ak.v 1) (ku:=ak.n 1) (vu:=ak.v 2) (eR:=eR) hg hD)
end
section
variable {P:Pos} {b t mr md me w0 e0 d0 u0 r0 m0 n0 o0 i00 i01 i02 i03 w1 e1 d1 u1 r1 m1 n1 o1 i10 i11 i12 i13 w2 e2 d2 u2 r2 m2 n2 o2 i20 i21 i22 i23:Nat} {κ:Nat→Nat} {ν:Nat→Value} {wv ev D0 D1 D2:Value} {ws0 ws1 ws2 vs0 vs1 vs2 tb:Array Value} {gl:List GenState} {w:World}
noncomputable def p10:Rs :=
cW (di [3,0,2,4,6,8,10,12,14,16,18,20,22,24,26,28,30,32,34,36,38]) dy (aH (bt (az aR) 10) (rf (b+1)) au) ⟨868,17,868,25⟩ [(b+1,av 0 3),(874,cn 13 w κ (pk [(1,rf 879),(2,rf 880),(6,wv),(12,ev)] ν)),(875,ah (rf 878)),(878,ab #[rf w0,rf w1,rf w2] mr),(879,ab #[D0,D1,D2] md),(880,ab #[rf e0,rf e1,rf e2] me),(w0,ab ws0 m0),(e0,af d0),(d0,ac w i00 i01 i02 i03 u0 r0 D0),(u0,ab vs0 n0),(r0,ab #[] o0),(w1,ab ws1 m1),(e1,af d1),(d1,ac w i10 i11 i12 i13 u1 r1 D1),(u1,ab vs1 n1),(r1,ab #[] o1),(w2,ab ws2 m2),(e2,af d2),(d2,ac w i20 i21 i22 i23 u2 r2 D2),(u2,ab vs2 n2),(r2,ab #[] o2)] (b+2) (t+3) tb gl fun b1 t1 ak =>
ip dy (bw 11) ⟨868,17,868,25⟩ [(874,cn 13 w κ (pk [(1,rf 879),(2,rf 880),(3,ak.v 0),(6,wv),(12,ev)] ν)),(875,ah (rf 878)),(878,ab #[rf w0,rf w1,rf w2] mr),(880,ab #[rf e0,rf e1,rf e2] me),(w0,ab ws0 m0),(e0,af d0),(d0,ac w i00 i01 i02 i03 u0 r0 D0),(u0,ab vs0 n0),(w1,ab ws1 m1),(e1,af d1),(d1,ac w i10 i11 i12 i13 u1 r1 D1),(u1,ab vs1 n1)] b1 t1 tb gl
theorem p10':c4 w dy P (bw 10) [(874,aU w κ (pk [(1,rf 879),(2,rf 880)] ν) wv ev),(875,ah (rf 878)),(878,ab #[rf w0,rf w1,rf w2] mr),(879,ab #[D0,D1,D2] md),(880,ab #[rf e0,rf e1,rf e2] me),(w0,ab ws0 m0),(e0,af d0),(d0,ac w i00 i01 i02 i03 u0 r0 D0),(u0,ab vs0 n0),(r0,ab #[] o0),(w1,ab ws1 m1),(e1,af d1),(d1,ac w i10 i11 i12 i13 u1 r1 D1),(u1,ab vs1 n1),(r1,ab #[] o1),(w2,ab ws2 m2),(e2,af d2),(d2,ac w i20 i21 i22 i23 u2 r2 D2),(u2,ab vs2 n2),(r2,ab #[] o2)] b t tb gl [0,2,4,8,10,12,14,16,20,22,24,26] 15 [0x10321010111210141111101,1] [0,0] [] [2] (@p10 b t mr md me w0 e0 d0 u0 r0 m0 n0 o0 i00 i01 i02 i03 w1 e1 d1 u1 r1 m1 n1 o1 i10 i11 i12 i13 w2 e2 d2 u2 r2 m2 n2 o2 i20 i21 i22 i23 κ ν wv ev D0 D1 D2 ws0 ws1 ws2 vs0 vs1 vs2 tb gl w):=by revert w;refine @bs _ ?_ ?_<;>intro w<;>kernel_rfl
theorem end10 {w3 e3 d3 u3 r3 m3 n3 i30 i31 i32 i33 eR dR uR rR iR0 iR1 iR2 iR3:Nat} {D:Value} {cv:Option Value} {ws3 vs3:Array Value} {Ws0 Ws1 Ws2 Ws3:List Str} (hg:∀ g∈gl,g = .finished) (hD:ay D) (hD0:ay D0) (hW0:aJ Ws0) (hn0:Ws0.length≤50) (hw0:aD ws0 Ws0) (hu0:aD vs0 Ws0) (hD1:ay D1) (hW1:aJ Ws1) (hn1:Ws1.length≤50) (hw1:aD ws1 Ws1) (hu1:aD vs1 Ws1) (hD2:ay D2) (hW2:aJ Ws2) (hn2:Ws2.length≤50) (hw2:aD ws2 Ws2) (hu2:aD vs2 Ws2) (hW3:aJ Ws3) (hn3:Ws3.length≤50) (hw3:aD ws3 Ws3) (hu3:aD vs3 Ws3):Ends (Vp w) dy P (bw 10) ([(874,aU w κ (pk [(1,rf 879),(2,rf 880)] (pk [(8,rf e3),(9,rf eR),(10,rf w3)] ν)) wv ev),(875,ah (rf 878)),(878,ab #[rf w0,rf w1,rf w2] mr),(879,ab #[D0,D1,D2] md),(880,ab #[rf e0,rf e1,rf e2] me),(w0,ab ws0 m0),(e0,af d0),(d0,ac w i00 i01 i02 i03 u0 r0 D0),(u0,ab vs0 n0),(r0,ab #[] o0),(w1,ab ws1 m1),(e1,af d1),(d1,ac w i10 i11 i12 i13 u1 r1 D1),(u1,ab vs1 n1),(r1,ab #[] o1),(w2,ab ws2 m2),(e2,af d2),(d2,ac w i20 i21 i22 i23 u2 r2 D2),(u2,ab vs2 n2),(r2,ab #[] o2)]++[(877,aE cv),(w3,ab ws3 m3),(e3,af d3),(d3,ac w i30 i31 i32 i33 u3 r3 D),(u3,ab vs3 n3),(876,ah D),(eR,af dR),(dR,ac w iR0 iR1 iR2 iR3 uR rR D)]) b t (cb tb) gl:=by
  refine qE [(877,aE cv),(w3,ab ws3 m3),(e3,af d3),(d3,ac w i30 i31 i32 i33 u3 r3 D),(u3,ab vs3 n3),(876,ah D),(eR,af dR),(dR,ac w iR0 iR1 iR2 iR3 uR rR D)] (p10' (κ:=κ) (ν:=pk [(8,.ref e3),(9,.ref eR),(10,.ref w3)] ν)) rfl fun s hs Ξ ar=>?_
  refine gH rfl (f3_ok (κ:=κ) (ν:=pk [(8,.ref e3),(9,.ref eR),(10,.ref w3)] ν) (wv:=wv) (ev:=ev) (pv:=ν 3) hD0 hW0 hn0 hw0 hu0 hD1 hW1 hn1 hw1 hu1 hD2 hW2 hn2 hw2 hu2) fun b1 t1 ak _ _ _ _=>?_
  exact gC rfl ar fun s' hA hF=>Ends.use hs hA hF (ae (.inl (.head _)) (ae (.inl Y1) (ae (.inl Y2) (ae (.inl Y4) (ae (.inl Y5) (ae (.inl Y6) (ae (.inl Y7) (ae (.inl Y8) (ae (.inl (mI 10 rfl)) (ae (.inl (mI 11 rfl)) (ae (.inl (mI 12 rfl)) (ao (.inl (mI 13 rfl)))))))))))))) [0,1,2,3,12,4,5,6,7,8,9,10,11,13,14,15,16,17,18,19] rfl (by decide) (end11 (κ:=κ) (wv:=wv) (ev:=ev) (eR:=eR) (e3:=e3) (w3:=w3) (ν:=pk [(1,.ref 879),(3,ak.v 0)] ν) hg hD hW0 hn0 hw0 hu0 hW1 hn1 hw1 hu1 hW3 hn3 hw3 hu3)
end
section
variable {P:Pos} {b t al ma eL dL uL rL nL oL iL0 iL1 iL2 iL3 eR dR uR rR nR oR iR0 iR1 iR2 iR3:Nat} {κ:Nat→Nat} {ν:Nat→Value} {wv D:Value} {as vsL vsR tb:Array Value} {gl:List GenState} {w:World}
noncomputable def p9:Rs :=
cW (eg w [3,1,0,2,4,6,8,10,12,14,16,18,20]) dy (aH (bt (az aR) 9) (rf (b+1)) au) ⟨865,17,865,30⟩ [(b+1,ad b 0),(b,ab #[rf eL,rf eR] 0),(874,cn 12 w κ (pk [(6,wv),(8,rf eL),(9,rf eR),(10,rf al)] ν)),(876,ah D),(al,ab as ma),(eL,af dL),(dL,ac w iL0 iL1 iL2 iL3 uL rL D),(uL,ab vsL nL),(rL,ab #[] oL),(eR,af dR),(dR,ac w iR0 iR1 iR2 iR3 uR rR D),(uR,ab vsR nR),(rR,ab #[] oR)] (b+2) t tb gl fun b1 t1 ak =>
ip dy (bw 10) ⟨865,17,865,30⟩ [(874,cn 13 w (pk [(12,ak.n 1)] κ) (pk [(6,wv),(8,rf eL),(9,rf eR),(10,rf al),(12,ak.v 0)] ν)),(876,ah D),(al,ab as ma),(eL,af dL),(dL,ac w iL0 iL1 iL2 iL3 uL rL D),(uL,ab vsL nL),(eR,af dR),(dR,ac w iR0 iR1 iR2 iR3 uR rR D)] b1 t1 tb gl
theorem p9':c4 w dy P (bw 9) [(874,ge w κ (pk [(8,rf eL),(9,rf eR),(10,rf al)] ν) wv),(876,ah D),(al,ab as ma),(eL,af dL),(dL,ac w iL0 iL1 iL2 iL3 uL rL D),(uL,ab vsL nL),(rL,ab #[] oL),(eR,af dR),(dR,ac w iR0 iR1 iR2 iR3 uR rR D),(uR,ab vsR nR),(rR,ab #[] oR)] b t tb gl [0,2,4,6,8,10,14,16] 3 [0x1033121012010,1] [0,0] [] [2] (@p9 b t al ma eL dL uL rL nL oL iL0 iL1 iL2 iL3 eR dR uR rR nR oR iR0 iR1 iR2 iR3 κ ν wv D as vsL vsR tb gl w):=by revert w;refine @bs _ ?_ ?_<;>intro w<;>kernel_rfl
theorem end9 {mr md me w0 e0 d0 u0 r0 m0 n0 o0 i00 i01 i02 i03 w1 e1 d1 u1 r1 m1 n1 o1 i10 i11 i12 i13 w2 e2 d2 u2 r2 m2 n2 o2 i20 i21 i22 i23:Nat} {D0 D1 D2:Value} {cv:Option Value} {ws0 ws1 ws2 vs0 vs1 vs2:Array Value} {Ws0 Ws1 Ws2 Ws3:List Str} (hg:∀ g∈gl,g = .finished) (hD:ay D) (hD0:ay D0) (hW0:aJ Ws0) (hn0:Ws0.length≤50) (hw0:aD ws0 Ws0) (hu0:aD vs0 Ws0) (hD1:ay D1) (hW1:aJ Ws1) (hn1:Ws1.length≤50) (hw1:aD ws1 Ws1) (hu1:aD vs1 Ws1) (hD2:ay D2) (hW2:aJ Ws2) (hn2:Ws2.length≤50) (hw2:aD ws2 Ws2) (hu2:aD vs2 Ws2) (hW3:aJ Ws3) (hn3:Ws3.length≤50) (hw3:aD as Ws3) (hu3:aD vsL Ws3) (huR:aD vsR Ws3):Ends (Vp w) dy P (bw 9) ([(874,ge w κ (pk [(8,rf eL),(9,rf eR),(10,rf al)] (pk [(1,rf 879),(2,rf 880)] ν)) wv),(876,ah D),(al,ab as ma),(eL,af dL),(dL,ac w iL0 iL1 iL2 iL3 uL rL D),(uL,ab vsL nL),(rL,ab #[] oL),(eR,af dR),(dR,ac w iR0 iR1 iR2 iR3 uR rR D),(uR,ab vsR nR),(rR,ab #[] oR)]++[(875,ah (rf 878)),(878,ab #[rf w0,rf w1,rf w2] mr),(879,ab #[D0,D1,D2] md),(880,ab #[rf e0,rf e1,rf e2] me),(w0,ab ws0 m0),(e0,af d0),(d0,ac w i00 i01 i02 i03 u0 r0 D0),(u0,ab vs0 n0),(r0,ab #[] o0),(w1,ab ws1 m1),(e1,af d1),(d1,ac w i10 i11 i12 i13 u1 r1 D1),(u1,ab vs1 n1),(r1,ab #[] o1),(w2,ab ws2 m2),(e2,af d2),(d2,ac w i20 i21 i22 i23 u2 r2 D2),(u2,ab vs2 n2),(r2,ab #[] o2),(877,aE cv)]) b t (cb tb) gl:=by
  refine qE [(875,ah (.ref 878)),(878,ab #[.ref w0,.ref w1,.ref w2] mr),(879,ab #[D0,D1,D2] md),(880,ab #[.ref e0,.ref e1,.ref e2] me),(w0,ab ws0 m0),(e0,af d0),(d0,ac w i00 i01 i02 i03 u0 r0 D0),(u0,ab vs0 n0),(r0,ab #[] o0),(w1,ab ws1 m1),(e1,af d1),(d1,ac w i10 i11 i12 i13 u1 r1 D1),(u1,ab vs1 n1),(r1,ab #[] o1),(w2,ab ws2 m2),(e2,af d2),(d2,ac w i20 i21 i22 i23 u2 r2 D2),(u2,ab vs2 n2),(r2,ab #[] o2),(877,aE cv)] (p9' (κ:=κ) (ν:=pk [(1,.ref 879),(2,.ref 880)] ν)) rfl fun s hs Ξ ar=>?_
  refine gH rfl (f2_ok (al:=al) (κ:=κ) (ν:=pk [(8,.ref eL),(9,.ref eR)] (pk [(1,.ref 879),(2,.ref 880)] ν)) (wv:=wv) hD hW3 hn3 hu3 huR hw3) fun b1 t1 ak _ _ _ _=>?_
  exact gC rfl ar fun s' hA hF=>Ends.use hs hA hF (ae (.inl (.head _)) (ae (.inl Y1) (ae (.inl Y2) (ae (.inl Y3) (ae (.inl Y4) (ae (.inl Y5) (ae (.inl Y7) (ao (.inl Y8))))))))) [0,8,9,10,11,12,13,14,15,16,17,18,19,20,21,22,23,24,25,26,27,2,3,4,5,1,6,7] rfl (by decide) (end10 (κ:=pk [(12,ak.n 1)] κ) (ν:=ν) (wv:=wv) (ev:=ak.v 0) (eR:=eR) (e3:=eL) (w3:=al) hg hD hD0 hW0 hn0 hw0 hu0 hD1 hW1 hn1 hw1 hu1 hD2 hW2 hn2 hw2 hu2 hW3 hn3 hw3 hu3)
end
section
variable {V:Vw} {p:Pos} {b t c:Nat} {ch:Ch} {gl:List GenState} {vs:Array Value} {m:Nat} {l:Addr}
theorem last_ok {Γ:Ctx} {τ:Nat} {v:Ys→Value} {req:List Nat} (hx:∃ ys,vs[vs.size - 1]?=some (v ys)) (hpos:0 < vs.size) (hb:vs.size≤1000) :
    an V (a9 req v) (Γ.enter (.call (.builtin "list.__getitem__") ⟨[.ref l,.int (-1) τ],[]⟩) none p) p [(l,ab vs m)] b t ch gl :=
  br fun s hs A=>by
    obtain ⟨ys,hx⟩:=hx
    have ho:=hs.olds (l,ab vs m) (.head _)
    have hl:=bP ho
    refine wpAny_call_entry slot_list_getitem hl.typeIs entry_list_getitem ?_ (args_list_getitem _ _)
    show wpAny _ _ (Builtin.List.listSubscript? (.int (-1) τ) >>= _) _ _ s
    refine wpAny_bind (wpAny_listSubscript_int (fitsIndex_neg (by decide) (by decide)) ?_)
    show wpAny _ _ ((Builtin.List.listItems (.ref l) >>= fun xs=>pure ((seqIndex? (Int.negSucc 0) xs.size).bind fun i=>xs[i]?.map (i,·))) >>= _) _ _ s
    refine wpAny_bind (wpAny_bind ?_)
    show wpAny _ _ (seqItems? (.ref l) >>= _) _ _ s
    refine wpAny_bind (wpAny_seqItems ho rfl (wpAny_pure (wpAny_pure ?_)))
    have hidx:seqIndex? (Int.negSucc 0) vs.size=some (vs.size - 1):=by
      rw [seqIndex_neg (by decide) (by omega)];congr 1;omega
    rw [hidx]
    simp only [Option.bind_some,hx,Option.map_some]
    exact wpAny_bind (wpAny_pure (wpAny_pure ⟨_,rfl,⟨ys,rfl⟩,bV _⟩))
end
section
variable {P:Pos} {b t aj it l am i m ml k0 x σ:Nat} {v0:Value} {a vs tb:Array Value} {dd:Data} {gl:List GenState} {w:World} {req:List Nat}
theorem cl_th:Cl fb:=by unfold fb;exact .list _ _ _ _ _ rfl
noncomputable def eP:Value→Bool
  | .none=>true
  | _=>false
noncomputable abbrev gJ (w:World) (req:List Nat):Hk:=dS req (fun _ _=>.ok .next) (fun pre ys=>match pre with
  | [_,_,l,_]=>[ab (ys.a 0) (ys.n 0),cc (ys.n 1),l.2,ap (.dict #[aq w.params "delay" (ys.n 3) (ys.v 0)] 1)]
  | _=>[]) (fun _ _=>[]) (fun pre ys=>(ys.a 0).toList=(bn pre 0).toList++((bn pre 2).toList.drop (iK pre 1)).filter fun v=>!eP v)
noncomputable abbrev hkTh0 (req:List Nat):Hk:=dS req (fun _ _=>.ok .next) (fun pre ys=>match pre with
  | [_,_,l,_]=>[ab (ys.a 0) (ys.n 0),cc (ys.n 1),l.2,ap (.dict #[] 0)]
  | _=>[]) (fun _ _=>[]) (fun pre ys=>(ys.a 0).toList=(bn pre 0).toList++((bn pre 2).toList.drop (iK pre 1)).filter fun v=>!eP v)
noncomputable abbrev iT (aj:Nat) (it:Nat) (am:Nat):Ctx:=⟨.compLoop fb 0 (rf it) (rf aj) (jF fb (aX "law.<locals>.") none (rf 871) am (some 874) []),none,none,[(bW aR au,⟨863,12,863,60⟩),(aI,p0)],none⟩
noncomputable abbrev Zn0 (aj it am:Nat):Code :=
  (.compLoop fb 0 (rf it) (rf aj) (jF fb (aX "law.<locals>.") none (rf 871) am (some 874) []))
noncomputable def th_I0:Rs :=
aO (aF [2,4] fun _=>.int (.ofNat x) σ) (cB "list_iterator.__next__" [rf it]) [(it,ad l i),(l,ab vs ml)] b t tb gl fun b1 t1 ak =>
aO (aN [0] fun v=>v = .int (.ofNat x) σ) (cB "list.append" [rf aj,nv x σ]) [(aj,ab a m)] b1 (t1+1) tb gl fun b2 t2 aw =>
bF (Zn0 aj it am) ⟨863,13,863,18⟩ [(aj,ab (aw.a 0) (aw.n 0)),(it,ad l (i+1)),(l,ab vs ml),(am,ap (.dict #[aq w.params "delay" t1 (nv x σ)] 1))] b2 t2 tb gl
theorem th_I0':aZ w (iT aj it am) P [(aj,ab a m),(it,ad l i),(l,ab vs ml),(am,ap (.dict #[] 0))] b t tb gl [0,2,4,6] 1 [K82,0x106262606,1] [4,0,0] [] [] (@th_I0 b t aj it l am i m ml x σ a vs tb gl w):=by revert w;refine @bs _ ?_ ?_<;>intro w<;>kernel_rfl
theorem th_tI0 (hA:a.size≤100) (hx:vs[i]?=some (nv x σ)) (IH:∀ P b t mq k0 v0 (a1:Array Value),a1=a.push (nv x σ)→HB w (gJ w req) (iT aj it am) P [(aj,ab a1 mq),(it,ad l (i+1)),(l,ab vs ml),(am,ap (.dict #[aq w.params "delay" k0 v0] 1))] b t tb gl):HB w (gJ w req) (iT aj it am) P [(aj,ab a m),(it,ad l i),(l,ab vs ml),(am,ap (.dict #[] 0))] b t tb gl:=by
  refine qH (th_I0' (x:=x) (σ:=σ)) rfl fun s hs Ξ ar=>?_
  refine gF rfl (aA (ai w) ⟨bf [] [] [] [] [],hx⟩) fun b1 t1 ak _ _ _ _=>?_
  refine gF rfl (aC (ai w) (by omega) rfl) fun b2 t2 aw _ _ hk2 _=>?_
  obtain ⟨_,rfl,hap0⟩:=hk2;have hap:aw.a 0=a.push (.int (.ofNat x) σ):=hap0
  exact gG rfl ar hs (IH _ _ _ _ _ _ _ hap) fun ys hk=>dM (f:=(fun v=>!eP v)) (A:=a.toList) hx rfl (by rw [← Array.toList_push,← hap];exact hk)
noncomputable def th_I1:Rs :=
aO (aF [2,4] fun _=>.int (.ofNat x) σ) (cB "list_iterator.__next__" [rf it]) [(it,ad l i),(l,ab vs ml)] b t tb gl fun b1 t1 ak =>
aO (aN [0] fun v=>v = .int (.ofNat x) σ) (cB "list.append" [rf aj,nv x σ]) [(aj,ab a m)] b1 (t1+1) tb gl fun b2 t2 aw =>
bF (Zn0 aj it am) ⟨863,13,863,18⟩ [(aj,ab (aw.a 0) (aw.n 0)),(it,ad l (i+1)),(l,ab vs ml),(am,ap (.dict #[aq w.params "delay" k0 (nv x σ)] 1))] b2 t2 tb gl
noncomputable abbrev Zn1 (a vs:Array Value) (aj i it k0 l am m ml:Nat) (v0:Value) (w:World):ax :=
  [(aj,ab a m),(it,ad l i),(l,ab vs ml),(am,ap (.dict #[aq w.params "delay" k0 v0] 1))]
theorem th_I1':aZ w (iT aj it am) P (Zn1 a vs aj i it k0 l am m ml v0 w) b t tb gl [0,2,4,6] 1 [K82,0x106262606,1] [4,0,0] [] [] (@th_I1 b t aj it l am i m ml k0 x σ a vs tb gl w):=by revert w;refine @bs _ ?_ ?_<;>intro w<;>kernel_rfl
theorem th_tI1 (hA:a.size≤100) (hx:vs[i]?=some (nv x σ)) (IH:∀ P b t mq k0 v0 (a1:Array Value),a1=a.push (nv x σ)→HB w (gJ w req) (iT aj it am) P [(aj,ab a1 mq),(it,ad l (i+1)),(l,ab vs ml),(am,ap (.dict #[aq w.params "delay" k0 v0] 1))] b t tb gl):HB w (gJ w req) (iT aj it am) P (Zn1 a vs aj i it k0 l am m ml v0 w) b t tb gl:=by
  refine qH (th_I1' (x:=x) (σ:=σ)) rfl fun s hs Ξ ar=>?_
  refine gF rfl (aA (ai w) ⟨bf [] [] [] [] [],hx⟩) fun b1 t1 ak _ _ _ _=>?_
  refine gF rfl (aC (ai w) (by omega) rfl) fun b2 t2 aw _ _ hk2 _=>?_
  obtain ⟨_,rfl,hap0⟩:=hk2;have hap:aw.a 0=a.push (.int (.ofNat x) σ):=hap0
  exact gG rfl ar hs (IH _ _ _ _ _ _ _ hap) fun ys hk=>dM (f:=(fun v=>!eP v)) (A:=a.toList) hx rfl (by rw [← Array.toList_push,← hap];exact hk)
noncomputable def th_N0:Rs :=
aO (aF [2,4] fun _=>.none) (cB "list_iterator.__next__" [rf it]) [(it,ad l i),(l,ab vs ml)] b t tb gl fun b1 t1 ak =>
bF (Zn0 aj it am) ⟨863,42,863,59⟩ [(aj,ab a m),(it,ad l (i+1)),(l,ab vs ml),(am,ap (.dict #[aq w.params "delay" t1 .none] 1))] b1 (t1+1) tb gl
theorem th_N0':aZ w (iT aj it am) P [(aj,ab a m),(it,ad l i),(l,ab vs ml),(am,ap (.dict #[] 0))] b t tb gl [0,2,4,6] 1 [K82,0x1162606] [4,0] [] [] (@th_N0 b t aj it l am i m ml a vs tb gl w):=by revert w;refine @bs _ ?_ ?_<;>intro w<;>kernel_rfl
theorem th_tN0 (hx:vs[i]?=some .none) (IH:∀ P b t k0 v0,HB w (gJ w req) (iT aj it am) P [(aj,ab a m),(it,ad l (i+1)),(l,ab vs ml),(am,ap (.dict #[aq w.params "delay" k0 v0] 1))] b t tb gl):HB w (gJ w req) (iT aj it am) P [(aj,ab a m),(it,ad l i),(l,ab vs ml),(am,ap (.dict #[] 0))] b t tb gl:=by
  refine qH th_N0' rfl fun s hs Ξ ar=>?_
  refine gF rfl (aA (ai w) ⟨bf [] [] [] [] [],hx⟩) fun b1 t1 ak _ _ _ _=>?_
  exact gG rfl ar hs (IH _ _ _ _ _) fun ys hk=>cD (f:=(fun v=>!eP v)) (A:=a.toList) hx rfl hk
noncomputable def th_N1:Rs :=
aO (aF [2,4] fun _=>.none) (cB "list_iterator.__next__" [rf it]) [(it,ad l i),(l,ab vs ml)] b t tb gl fun b1 t1 ak =>
bF (Zn0 aj it am) ⟨863,42,863,59⟩ [(aj,ab a m),(it,ad l (i+1)),(l,ab vs ml),(am,ap (.dict #[aq w.params "delay" k0 .none] 1))] b1 (t1+1) tb gl
theorem th_N1':aZ w (iT aj it am) P (Zn1 a vs aj i it k0 l am m ml v0 w) b t tb gl [0,2,4,6] 1 [K82,0x1162606] [4,0] [] [] (@th_N1 b t aj it l am i m ml k0 a vs tb gl w):=by revert w;refine @bs _ ?_ ?_<;>intro w<;>kernel_rfl
theorem th_tN1 (hx:vs[i]?=some .none) (IH:∀ P b t k0 v0,HB w (gJ w req) (iT aj it am) P [(aj,ab a m),(it,ad l (i+1)),(l,ab vs ml),(am,ap (.dict #[aq w.params "delay" k0 v0] 1))] b t tb gl):HB w (gJ w req) (iT aj it am) P (Zn1 a vs aj i it k0 l am m ml v0 w) b t tb gl:=by
  refine qH th_N1' rfl fun s hs Ξ ar=>?_
  refine gF rfl (aA (ai w) ⟨bf [] [] [] [] [],hx⟩) fun b1 t1 ak _ _ _ _=>?_
  exact gG rfl ar hs (IH _ _ _ _ _) fun ys hk=>cD (f:=(fun v=>!eP v)) (A:=a.toList) hx rfl hk
noncomputable def th_E:Rs :=
cW (e8 [2,4]) (iT aj it am) (cB "list_iterator.__next__" [rf it]) ⟨863,32,863,38⟩ [(it,ad l i),(l,ab vs ml)] b t tb gl fun b1 t1 ak =>
cF (.ok .next) [(aj,ab a m),(it,fO "list_iterator" [.none,nv i 0]),(l,ab vs ml),(am,⟨.type "dict",none,dd,#[]⟩)] b1 t1 tb gl
theorem th_E':aZ w (iT aj it am) P [(aj,ab a m),(it,ad l i),(l,ab vs ml),(am,ap dd)] b t tb gl [0,2,4,6] 1 [K82,K74] [0] [] [] (@th_E b t aj it l am i m ml a vs tb dd gl):=by revert w;refine @bs _ ?_ ?_<;>intro w<;>kernel_rfl
theorem th_tE1 (hx:vs[i]?=none):HB w (gJ w req) (iT aj it am) P (Zn1 a vs aj i it k0 l am m ml v0 w) b t tb gl:=by
  refine qH th_E' rfl fun s hs Ξ ar=>?_
  refine gH rfl (cT (ai _) hx) fun b1 t1 ak _ _ _ _=>?_
  exact gD rfl ar fun s' hA hF=>⟨bf [m,i,0,k0] [a] [v0] [] [],_,_,fa (f:=(fun v=>!eP v)) hx,rfl,rfl,hA,hF,fun a h=>h,ag⟩
theorem th_tE0 (hx:vs[i]?=none):HB w (hkTh0 req) (iT aj it am) P [(aj,ab a m),(it,ad l i),(l,ab vs ml),(am,ap (.dict #[] 0))] b t tb gl:=by
  refine qH th_E' rfl fun s hs Ξ ar=>?_
  refine gH rfl (cT (ai _) hx) fun b1 t1 ak _ _ _ _=>?_
  exact gD rfl ar fun s' hA hF=>⟨bf [m,i] [a] [] [] [],_,_,fa (f:=(fun v=>!eP v)) hx,rfl,rfl,hA,hF,fun a h=>h,ag⟩
theorem ll (hD:∀ v,v∈vs→ay v) (hn:vs.size≤50):∀ (k:Nat) {P:Pos} {b t i m k0:Nat} {v0:Value} {a:Array Value},vs.size - i=k→a.size≤i→HB w (gJ w req) (iT aj it am) P (Zn1 a vs aj i it k0 l am m ml v0 w) b t tb gl:=by
  intro k
  induction k with
  | zero =>
    intro P b t i m k0 v0 a hk ha
    exact th_tE1 (Array.getElem?_eq_none (by omega))
  | succ k ih =>
    intro P b t i m k0 v0 a hk ha
    have hi:i < vs.size:=by omega
    have hσ:vs[i]?=some vs[i]:=Array.getElem?_eq_getElem hi
    have hDi:=hD vs[i] (by simp)
    generalize vs[i]=v at hσ hDi
    have hA:a.size≤100:=by omega
    rcases hDi with rfl | ⟨x,τ,hx,rfl⟩
    · exact th_tN1 hσ fun P b t k0 v0=>ih (by omega) (by omega)
    · exact th_tI1 (by omega) hσ fun P b t mq k0 v0 a1 e=>by subst e;exact ih (by omega) (by rw [Array.size_push];omega)
theorem th_ok0 (hD:∀ v,v∈vs→ay v) (hn:vs.size≤50) (hi:0 < vs.size):HB w (gJ w req) (iT aj it am) P [(aj,ab #[] m),(it,ad l 0),(l,ab vs ml),(am,ap (.dict #[] 0))] b t tb gl:=by
    have hσ:vs[0]?=some vs[0]:=Array.getElem?_eq_getElem hi
    have hDi:=hD vs[0] (by simp)
    generalize vs[0]=v at hσ hDi
    have hA:(#[]:Array Value).size≤100:=by simp
    have h00:(#[]:Array Value).size=0:=rfl
    rcases hDi with rfl | ⟨x,τ,hx,rfl⟩
    · exact th_tN0 hσ fun P b t k0 v0=>ll hD hn (vs.size - 1) rfl (by omega)
    · exact th_tI0 (by omega) hσ fun P b t mq k0 v0 a1 e=>by subst e;exact ll hD hn (vs.size - 1) rfl (by rw [Array.size_push];omega)
end
section
variable {P:Pos} {b t th mt x σ:Nat} {κ:Nat→Nat} {ν:Nat→Value} {wv:Value} {cw:Option Value} {ts tb:Array Value} {gl:List GenState} {w:World}
theorem jU {f:Value→Bool} {a b c:Value}:(⟨[a,b,c].filter f⟩:Array Value).size≤1000:=bT (List.length_filter_le _ _) (by simp)
noncomputable abbrev cN (D0 D1 D2:Value):Value:=fg (fg D0 D1) D2
noncomputable def p8n:Rs :=
ip dy (bw 9) ⟨864,4,864,8⟩ [(874,cn 12 w κ (pk [(6,wv),(11,rf th)] ν)),(876,ah .none)] (b+1) t tb gl
theorem p8n':c4 w dy P (bw 8) [(874,ge w κ (pk [(11,rf th)] ν) wv),(876,aE cw),(th,ab #[] mt)] b t tb gl [0,2] 2 [0x11202410401041104011424010440] [0] [] [] (@p8n b t th κ ν wv tb gl w):=by revert w;refine @bs _ ?_ ?_<;>intro w<;>kernel_rfl
theorem end8n {al ma eL dL uL rL nL oL iL0 iL1 iL2 iL3 eR dR uR rR nR oR iR0 iR1 iR2 iR3 mr md me w0 e0 d0 u0 r0 m0 n0 o0 i00 i01 i02 i03 w1 e1 d1 u1 r1 m1 n1 o1 i10 i11 i12 i13 w2 e2 d2 u2 r2 m2 n2 o2 i20 i21 i22 i23:Nat} {D0 D1 D2:Value} {cv:Option Value} {as vsL vsR ws0 ws1 ws2 vs0 vs1 vs2:Array Value} {Ws0 Ws1 Ws2 Ws3:List Str} (hg:∀ g∈gl,g = .finished) (hD0:ay D0) (hW0:aJ Ws0) (hn0:Ws0.length≤50) (hw0:aD ws0 Ws0) (hu0:aD vs0 Ws0) (hD1:ay D1) (hW1:aJ Ws1) (hn1:Ws1.length≤50) (hw1:aD ws1 Ws1) (hu1:aD vs1 Ws1) (hD2:ay D2) (hW2:aJ Ws2) (hn2:Ws2.length≤50) (hw2:aD ws2 Ws2) (hu2:aD vs2 Ws2) (hW3:aJ Ws3) (hn3:Ws3.length≤50) (hw3:aD as Ws3) (hu3:aD vsL Ws3) (huR:aD vsR Ws3):Ends (Vp w) dy P (bw 8) ([(874,ge w κ (pk [(11,rf th)] (pk [(8,rf eL),(9,rf eR),(10,rf al)] (pk [(1,rf 879),(2,rf 880)] ν))) wv),(876,aE cw),(th,ab #[] mt)]++[(al,ab as ma),(eL,af dL),(dL,ac w iL0 iL1 iL2 iL3 uL rL .none),(uL,ab vsL nL),(rL,ab #[] oL),(eR,af dR),(dR,ac w iR0 iR1 iR2 iR3 uR rR .none),(uR,ab vsR nR),(rR,ab #[] oR),(875,ah (rf 878)),(878,ab #[rf w0,rf w1,rf w2] mr),(879,ab #[D0,D1,D2] md),(880,ab #[rf e0,rf e1,rf e2] me),(w0,ab ws0 m0),(e0,af d0),(d0,ac w i00 i01 i02 i03 u0 r0 D0),(u0,ab vs0 n0),(r0,ab #[] o0),(w1,ab ws1 m1),(e1,af d1),(d1,ac w i10 i11 i12 i13 u1 r1 D1),(u1,ab vs1 n1),(r1,ab #[] o1),(w2,ab ws2 m2),(e2,af d2),(d2,ac w i20 i21 i22 i23 u2 r2 D2),(u2,ab vs2 n2),(r2,ab #[] o2),(877,aE cv)]) b t (cb tb) gl:=by
  refine qE [(al,ab as ma),(eL,af dL),(dL,ac w iL0 iL1 iL2 iL3 uL rL .none),(uL,ab vsL nL),(rL,ab #[] oL),(eR,af dR),(dR,ac w iR0 iR1 iR2 iR3 uR rR .none),(uR,ab vsR nR),(rR,ab #[] oR),(875,ah (.ref 878)),(878,ab #[.ref w0,.ref w1,.ref w2] mr),(879,ab #[D0,D1,D2] md),(880,ab #[.ref e0,.ref e1,.ref e2] me),(w0,ab ws0 m0),(e0,af d0),(d0,ac w i00 i01 i02 i03 u0 r0 D0),(u0,ab vs0 n0),(r0,ab #[] o0),(w1,ab ws1 m1),(e1,af d1),(d1,ac w i10 i11 i12 i13 u1 r1 D1),(u1,ab vs1 n1),(r1,ab #[] o1),(w2,ab ws2 m2),(e2,af d2),(d2,ac w i20 i21 i22 i23 u2 r2 D2),(u2,ab vs2 n2),(r2,ab #[] o2),(877,aE cv)] (p8n' (κ:=κ) (ν:=pk [(8,.ref eL),(9,.ref eR),(10,.ref al)] (pk [(1,.ref 879),(2,.ref 880)] ν))) rfl fun s hs Ξ ar=>?_
  exact gC rfl ar fun s' hA hF=>Ends.use hs hA hF (ae (.inl (.head _)) (ao (.inl Y1))) [0,1,2,3,4,5,6,7,8,9,10,11,12,13,14,15,16,17,18,19,20,21,22,23,24,25,26,27,28,29,30] rfl (by decide) (end9 (κ:=κ) (ν:=pk [(11,.ref th)] ν) (wv:=wv) (al:=al) (eL:=eL) (eR:=eR) (D:=.none) hg (.inl rfl) hD0 hW0 hn0 hw0 hu0 hD1 hW1 hn1 hw1 hu1 hD2 hW2 hn2 hw2 hu2 hW3 hn3 hw3 hu3 huR)
noncomputable def p8i:Rs :=
aO (a9 [4,1] fun _=>.bool true) (cB "list.__ne__" [rf th,rf b]) [(th,ab ts mt),(b,ab #[] 0)] (b+1) t tb gl fun b1 t1 ak =>
aO (a9 [4] fun _=>.int (.ofNat x) σ) (cB "list.__getitem__" [rf th,.int (-1) (t1+1)]) [(th,ab ts mt)] b1 (t1+2) tb gl fun b2 t2 aw =>
ip dy (bw 9) ⟨864,4,864,8⟩ [(874,cn 12 w κ (pk [(6,wv),(11,rf th)] ν)),(876,ah (nv x σ))] b2 t2 tb gl
theorem p8i':c4 w dy P (bw 8) [(874,ge w κ (pk [(11,rf th)] ν) wv),(876,aE cw),(th,ab ts mt)] b t tb gl [0,2] 2 [0x114010440,0x104040470,0x11202] [2,2,0] [] [1,1] (@p8i b t th mt x σ κ ν wv ts tb gl w):=by revert w;refine @bs _ ?_ ?_<;>intro w<;>kernel_rfl
theorem ib {y:Nat} {al ma eL dL uL rL nL oL iL0 iL1 iL2 iL3 eR dR uR rR nR oR iR0 iR1 iR2 iR3 mr md me w0 e0 d0 u0 r0 m0 n0 o0 i00 i01 i02 i03 w1 e1 d1 u1 r1 m1 n1 o1 i10 i11 i12 i13 w2 e2 d2 u2 r2 m2 n2 o2 i20 i21 i22 i23:Nat} {D0 D1 D2:Value} {cv:Option Value} {as vsL vsR ws0 ws1 ws2 vs0 vs1 vs2:Array Value} {Ws0 Ws1 Ws2 Ws3:List Str} (hg:∀ g∈gl,g = .finished) (hD0:ay D0) (hW0:aJ Ws0) (hn0:Ws0.length≤50) (hw0:aD ws0 Ws0) (hu0:aD vs0 Ws0) (hD1:ay D1) (hW1:aJ Ws1) (hn1:Ws1.length≤50) (hw1:aD ws1 Ws1) (hu1:aD vs1 Ws1) (hD2:ay D2) (hW2:aJ Ws2) (hn2:Ws2.length≤50) (hw2:aD ws2 Ws2) (hu2:aD vs2 Ws2) (hW3:aJ Ws3) (hn3:Ws3.length≤50) (hw3:aD as Ws3) (hu3:aD vsL Ws3) (huR:aD vsR Ws3) (hy:y < 512) (hne:(!ts.toList.isEmpty)=true) (hl:ts[ts.size - 1]?=some (nv (32768+y) σ)) (hpos:0 < ts.size) (hsz:ts.size≤1000):Ends (Vp w) dy P (bw 8) ([(874,ge w κ (pk [(11,rf th)] (pk [(8,rf eL),(9,rf eR),(10,rf al)] (pk [(1,rf 879),(2,rf 880)] ν))) wv),(876,aE cw),(th,ab ts mt)]++[(al,ab as ma),(eL,af dL),(dL,ac w iL0 iL1 iL2 iL3 uL rL (nv (32768+y) σ)),(uL,ab vsL nL),(rL,ab #[] oL),(eR,af dR),(dR,ac w iR0 iR1 iR2 iR3 uR rR (nv (32768+y) σ)),(uR,ab vsR nR),(rR,ab #[] oR),(875,ah (rf 878)),(878,ab #[rf w0,rf w1,rf w2] mr),(879,ab #[D0,D1,D2] md),(880,ab #[rf e0,rf e1,rf e2] me),(w0,ab ws0 m0),(e0,af d0),(d0,ac w i00 i01 i02 i03 u0 r0 D0),(u0,ab vs0 n0),(r0,ab #[] o0),(w1,ab ws1 m1),(e1,af d1),(d1,ac w i10 i11 i12 i13 u1 r1 D1),(u1,ab vs1 n1),(r1,ab #[] o1),(w2,ab ws2 m2),(e2,af d2),(d2,ac w i20 i21 i22 i23 u2 r2 D2),(u2,ab vs2 n2),(r2,ab #[] o2),(877,aE cv)]) b t (cb tb) gl:=by
  refine qE [(al,ab as ma),(eL,af dL),(dL,ac w iL0 iL1 iL2 iL3 uL rL (.int (.ofNat (32768+y)) σ)),(uL,ab vsL nL),(rL,ab #[] oL),(eR,af dR),(dR,ac w iR0 iR1 iR2 iR3 uR rR (.int (.ofNat (32768+y)) σ)),(uR,ab vsR nR),(rR,ab #[] oR),(875,ah (.ref 878)),(878,ab #[.ref w0,.ref w1,.ref w2] mr),(879,ab #[D0,D1,D2] md),(880,ab #[.ref e0,.ref e1,.ref e2] me),(w0,ab ws0 m0),(e0,af d0),(d0,ac w i00 i01 i02 i03 u0 r0 D0),(u0,ab vs0 n0),(r0,ab #[] o0),(w1,ab ws1 m1),(e1,af d1),(d1,ac w i10 i11 i12 i13 u1 r1 D1),(u1,ab vs1 n1),(r1,ab #[] o1),(w2,ab ws2 m2),(e2,af d2),(d2,ac w i20 i21 i22 i23 u2 r2 D2),(u2,ab vs2 n2),(r2,ab #[] o2),(877,aE cv)] (p8i' (x:=32768+y) (σ:=σ) (κ:=κ) (ν:=pk [(8,.ref eL),(9,.ref eR),(10,.ref al)] (pk [(1,.ref 879),(2,.ref 880)] ν))) rfl fun s hs Ξ ar=>?_
  refine gF rfl (fY hne) fun b1 t1 ak _ _ _ _=>?_
  refine gF rfl (last_ok ⟨bf [] [] [] [] [],hl⟩ hpos hsz) fun b2 t2 aw _ _ _ _=>?_
  exact gC rfl ar fun s' hA hF=>Ends.use hs hA hF (ae (.inl (.head _)) (ao (.inl Y1))) [0,1,2,3,4,5,6,7,8,9,10,11,12,13,14,15,16,17,18,19,20,21,22,23,24,25,26,27,28,29,30] rfl (by decide) (end9 (κ:=κ) (ν:=pk [(11,.ref th)] ν) (wv:=wv) (al:=al) (eL:=eL) (eR:=eR) (D:=.int (.ofNat (32768+y)) σ) hg (.inr ⟨y,σ,hy,rfl⟩) hD0 hW0 hn0 hw0 hu0 hD1 hW1 hn1 hw1 hu1 hD2 hW2 hn2 hw2 hu2 hW3 hn3 hw3 hu3 huR)
theorem end8 {al ma eL dL uL rL nL oL iL0 iL1 iL2 iL3 eR dR uR rR nR oR iR0 iR1 iR2 iR3 mr md me w0 e0 d0 u0 r0 m0 n0 o0 i00 i01 i02 i03 w1 e1 d1 u1 r1 m1 n1 o1 i10 i11 i12 i13 w2 e2 d2 u2 r2 m2 n2 o2 i20 i21 i22 i23:Nat} {D0 D1 D2:Value} {cv:Option Value} {as vsL vsR ws0 ws1 ws2 vs0 vs1 vs2:Array Value} {Ws0 Ws1 Ws2 Ws3:List Str} (hg:∀ g∈gl,g = .finished) (hD0:ay D0) (hW0:aJ Ws0) (hn0:Ws0.length≤50) (hw0:aD ws0 Ws0) (hu0:aD vs0 Ws0) (hD1:ay D1) (hW1:aJ Ws1) (hn1:Ws1.length≤50) (hw1:aD ws1 Ws1) (hu1:aD vs1 Ws1) (hD2:ay D2) (hW2:aJ Ws2) (hn2:Ws2.length≤50) (hw2:aD ws2 Ws2) (hu2:aD vs2 Ws2) (hW3:aJ Ws3) (hn3:Ws3.length≤50) (hw3:aD as Ws3) (hu3:aD vsL Ws3) (huR:aD vsR Ws3) (hts:ts.toList=[D0,D1,D2].filter fun v=>!eP v):Ends (Vp w) dy P (bw 8) ([(874,ge w κ (pk [(11,rf th)] (pk [(8,rf eL),(9,rf eR),(10,rf al)] (pk [(1,rf 879),(2,rf 880)] ν))) wv),(876,aE cw),(th,ab ts mt)]++[(al,ab as ma),(eL,af dL),(dL,ac w iL0 iL1 iL2 iL3 uL rL (cN D0 D1 D2)),(uL,ab vsL nL),(rL,ab #[] oL),(eR,af dR),(dR,ac w iR0 iR1 iR2 iR3 uR rR (cN D0 D1 D2)),(uR,ab vsR nR),(rR,ab #[] oR),(875,ah (rf 878)),(878,ab #[rf w0,rf w1,rf w2] mr),(879,ab #[D0,D1,D2] md),(880,ab #[rf e0,rf e1,rf e2] me),(w0,ab ws0 m0),(e0,af d0),(d0,ac w i00 i01 i02 i03 u0 r0 D0),(u0,ab vs0 n0),(r0,ab #[] o0),(w1,ab ws1 m1),(e1,af d1),(d1,ac w i10 i11 i12 i13 u1 r1 D1),(u1,ab vs1 n1),(r1,ab #[] o1),(w2,ab ws2 m2),(e2,af d2),(d2,ac w i20 i21 i22 i23 u2 r2 D2),(u2,ab vs2 n2),(r2,ab #[] o2),(877,aE cv)]) b t (cb tb) gl:=by
  obtain ⟨ts⟩:=ts
  have e:ts=_:=hts
  subst e
  rcases hD2 with rfl | ⟨y,σ,hy,rfl⟩
  · rcases hD1 with rfl | ⟨y,σ,hy,rfl⟩
    · rcases hD0 with rfl | ⟨y,σ,hy,rfl⟩
      · exact end8n hg (.inl rfl) hW0 hn0 hw0 hu0 (.inl rfl) hW1 hn1 hw1 hu1 (.inl rfl) hW2 hn2 hw2 hu2 hW3 hn3 hw3 hu3 huR
      · exact ib hg (.inr ⟨y,σ,hy,rfl⟩) hW0 hn0 hw0 hu0 (.inl rfl) hW1 hn1 hw1 hu1 (.inl rfl) hW2 hn2 hw2 hu2 hW3 hn3 hw3 hu3 huR hy rfl rfl (Nat.zero_lt_succ _) jU
    · rcases hD0 with rfl | ⟨y',σ',hy',rfl⟩
      · exact ib hg (.inl rfl) hW0 hn0 hw0 hu0 (.inr ⟨y,σ,hy,rfl⟩) hW1 hn1 hw1 hu1 (.inl rfl) hW2 hn2 hw2 hu2 hW3 hn3 hw3 hu3 huR hy rfl rfl (Nat.zero_lt_succ _) jU
      · exact ib hg (.inr ⟨y',σ',hy',rfl⟩) hW0 hn0 hw0 hu0 (.inr ⟨y,σ,hy,rfl⟩) hW1 hn1 hw1 hu1 (.inl rfl) hW2 hn2 hw2 hu2 hW3 hn3 hw3 hu3 huR hy rfl rfl (Nat.zero_lt_succ _) jU
  · rcases hD1 with rfl | ⟨y1,σ1,hy1,rfl⟩ <;> rcases hD0 with rfl | ⟨y0,σ0,hy0,rfl⟩
    · exact ib hg (.inl rfl) hW0 hn0 hw0 hu0 (.inl rfl) hW1 hn1 hw1 hu1 (.inr ⟨y,σ,hy,rfl⟩) hW2 hn2 hw2 hu2 hW3 hn3 hw3 hu3 huR hy rfl rfl (Nat.zero_lt_succ _) jU
    · exact ib hg (.inr ⟨y0,σ0,hy0,rfl⟩) hW0 hn0 hw0 hu0 (.inl rfl) hW1 hn1 hw1 hu1 (.inr ⟨y,σ,hy,rfl⟩) hW2 hn2 hw2 hu2 hW3 hn3 hw3 hu3 huR hy rfl rfl (Nat.zero_lt_succ _) jU
    · exact ib hg (.inl rfl) hW0 hn0 hw0 hu0 (.inr ⟨y1,σ1,hy1,rfl⟩) hW1 hn1 hw1 hu1 (.inr ⟨y,σ,hy,rfl⟩) hW2 hn2 hw2 hu2 hW3 hn3 hw3 hu3 huR hy rfl rfl (Nat.zero_lt_succ _) jU
    · exact ib hg (.inr ⟨y0,σ0,hy0,rfl⟩) hW0 hn0 hw0 hu0 (.inr ⟨y1,σ1,hy1,rfl⟩) hW1 hn1 hw1 hu1 (.inr ⟨y,σ,hy,rfl⟩) hW2 hn2 hw2 hu2 hW3 hn3 hw3 hu3 huR hy rfl rfl (Nat.zero_lt_succ _) jU
end
section
variable {P:Pos} {b t md:Nat} {κ:Nat→Nat} {ν:Nat→Value} {wv:Value} {ds tb:Array Value} {gl:List GenState} {w:World}
noncomputable abbrev frA (n:Nat) (P:Params) (κ:Nat→Nat) (ν:Nat→Value) (wv:Value):Obj:=⟨.type "frame",none,.dict ⟨(frL P κ ν wv .none).take n⟩ n,bp⟩
noncomputable abbrev hZ (n:Nat) (w:World):=frA n w.params
theorem d3 {D0 D1 D2:Value} (h0:ay D0) (h1:ay D1) (h2:ay D2):∀ v,v∈(#[D0,D1,D2]:Array Value)→ay v:=fun v hv=>by
  simp only [List.mem_toArray,List.mem_cons,List.not_mem_nil,or_false] at hv
  rcases hv with rfl | rfl | rfl
  · exact h0
  · exact h1
  · exact h2
theorem sz3 {a b c:Value}:(#[a,b,c]:Array Value).size≤50:=by show 3≤50;decide
theorem ps3 {a b c:Value}:0 < (#[a,b,c]:Array Value).size:=by show 0 < 3;decide
noncomputable def p7:Rs :=
cW (gJ w [3,1,2,5]) dy (.compStart fb 0 (rf b) (rf (b+1)) (jF fb (aX "law.<locals>.") none (rf 871) (b+2) (some 874) [])) ⟨863,12,863,60⟩ [(b+1,ab #[] 0),(b,ad 879 0),(879,ab ds md),(b+2,ap (.dict #[] 0))] (b+3) t tb gl fun b1 t1 ak =>
ip dy (bw 8) ⟨863,4,863,9⟩ [(874,cn 12 w (pk [(11,t1)] κ) (pk [(1,rf 879),(6,wv),(11,rf (b+1))] ν)),(879,ab ds md),(b+1,ab (ak.a 0) (ak.n 0))] b1 (t1+1) tb gl
theorem p7':c4 w dy P (bw 7) [(874,hZ 11 w κ (pk [(1,rf 879)] ν) wv),(879,ab ds md)] b t tb gl [0,2,3] 2 [0x13132220210,0x11505151000] [5,0] [] [3] (@p7 b t md κ ν wv ds tb gl w):=by revert w;refine @bs _ ?_ ?_<;>intro w<;>kernel_rfl
theorem end7 {al ma eL dL uL rL nL oL iL0 iL1 iL2 iL3 eR dR uR rR nR oR iR0 iR1 iR2 iR3 mr me w0 e0 d0 u0 r0 m0 n0 o0 i00 i01 i02 i03 w1 e1 d1 u1 r1 m1 n1 o1 i10 i11 i12 i13 w2 e2 d2 u2 r2 m2 n2 o2 i20 i21 i22 i23:Nat} {D0 D1 D2:Value} {cv cw:Option Value} {as vsL vsR ws0 ws1 ws2 vs0 vs1 vs2:Array Value} {Ws0 Ws1 Ws2 Ws3:List Str} (hg:∀ g∈gl,g = .finished) (hD0:ay D0) (hW0:aJ Ws0) (hn0:Ws0.length≤50) (hw0:aD ws0 Ws0) (hu0:aD vs0 Ws0) (hD1:ay D1) (hW1:aJ Ws1) (hn1:Ws1.length≤50) (hw1:aD ws1 Ws1) (hu1:aD vs1 Ws1) (hD2:ay D2) (hW2:aJ Ws2) (hn2:Ws2.length≤50) (hw2:aD ws2 Ws2) (hu2:aD vs2 Ws2) (hW3:aJ Ws3) (hn3:Ws3.length≤50) (hw3:aD as Ws3) (hu3:aD vsL Ws3) (huR:aD vsR Ws3):Ends (Vp w) dy P (bw 7) ([(874,hZ 11 w κ (pk [(1,rf 879)] (pk [(8,rf eL),(9,rf eR),(10,rf al)] (pk [(2,rf 880)] ν))) wv),(879,ab #[D0,D1,D2] md)]++[(876,aE cw),(al,ab as ma),(eL,af dL),(dL,ac w iL0 iL1 iL2 iL3 uL rL (cN D0 D1 D2)),(uL,ab vsL nL),(rL,ab #[] oL),(eR,af dR),(dR,ac w iR0 iR1 iR2 iR3 uR rR (cN D0 D1 D2)),(uR,ab vsR nR),(rR,ab #[] oR),(875,ah (rf 878)),(878,ab #[rf w0,rf w1,rf w2] mr),(880,ab #[rf e0,rf e1,rf e2] me),(w0,ab ws0 m0),(e0,af d0),(d0,ac w i00 i01 i02 i03 u0 r0 D0),(u0,ab vs0 n0),(r0,ab #[] o0),(w1,ab ws1 m1),(e1,af d1),(d1,ac w i10 i11 i12 i13 u1 r1 D1),(u1,ab vs1 n1),(r1,ab #[] o1),(w2,ab ws2 m2),(e2,af d2),(d2,ac w i20 i21 i22 i23 u2 r2 D2),(u2,ab vs2 n2),(r2,ab #[] o2),(877,aE cv)]) b t (cb tb) gl:=by
  refine qE [(876,aE cw),(al,ab as ma),(eL,af dL),(dL,ac w iL0 iL1 iL2 iL3 uL rL (cN D0 D1 D2)),(uL,ab vsL nL),(rL,ab #[] oL),(eR,af dR),(dR,ac w iR0 iR1 iR2 iR3 uR rR (cN D0 D1 D2)),(uR,ab vsR nR),(rR,ab #[] oR),(875,ah (.ref 878)),(878,ab #[.ref w0,.ref w1,.ref w2] mr),(880,ab #[.ref e0,.ref e1,.ref e2] me),(w0,ab ws0 m0),(e0,af d0),(d0,ac w i00 i01 i02 i03 u0 r0 D0),(u0,ab vs0 n0),(r0,ab #[] o0),(w1,ab ws1 m1),(e1,af d1),(d1,ac w i10 i11 i12 i13 u1 r1 D1),(u1,ab vs1 n1),(r1,ab #[] o1),(w2,ab ws2 m2),(e2,af d2),(d2,ac w i20 i21 i22 i23 u2 r2 D2),(u2,ab vs2 n2),(r2,ab #[] o2),(877,aE cv)] (p7' (κ:=κ) (ν:=pk [(8,.ref eL),(9,.ref eR),(10,.ref al)] (pk [(2,.ref 880)] ν))) rfl fun s hs Ξ ar=>?_
  refine gH rfl (co cl_th Y1 rfl (th_ok0 (d3 hD0 hD1 hD2) sz3 ps3)) fun b1 t1 ak _ _ hk1 _=>?_
  exact gC rfl ar fun s' hA hF=>Ends.use hs hA hF (ae (.inl (.head _)) (ae (.inl Y1) (ao (.inr (by show b≤b+1;omega))))) [0,3,2,4,5,6,7,8,9,10,11,12,13,14,1,15,16,17,18,19,20,21,22,23,24,25,26,27,28,29,30,31] rfl (by decide) (end8 (κ:=pk [(11,t1)] κ) (ν:=ν) (wv:=wv) (al:=al) (eL:=eL) (eR:=eR) (th:=b+1) (D0:=D0) (D1:=D1) (D2:=D2) hg hD0 hW0 hn0 hw0 hu0 hD1 hW1 hn1 hw1 hu1 hD2 hW2 hn2 hw2 hu2 hW3 hn3 hw3 hu3 huR hk1)
end
section
variable {P:Pos} {b t aj it l am i m ml k0 σ w1 w2 m1 m2 mr:Nat} {x:Str} {v0:Value} {a vs tb vs1 vs2:Array Value} {dd:Data} {gl:List GenState} {w:World} {req:List Nat} {Ws1 Ws2 Ws:List Str}
theorem cl_ag:Cl d6:=by unfold d6;exact .list _ _ _ _ _ rfl
noncomputable abbrev fz (w:World) (req:List Nat):Hk:=dS req (fun _ _=>.ok .next) (fun pre ys=>match pre with
  | [_,_,l,_,x1,x2,x3,x4]=>[ab (ys.a 0) (ys.n 0),cc (ys.n 1),l.2,ap (.dict #[aq w.params "agent" (ys.n 3) (ys.v 0)] 1),x1.2,x2.2,x3.2,x4.2]
  | _=>[]) (fun _ _=>[]) (fun pre ys=>(ys.a 0).toList=(bn pre 0).toList++((bn pre 2).toList.drop (iK pre 1)).filter fun v=>(dA pre 6).any (· == strOf v) && (dA pre 7).any (· == strOf v))
noncomputable abbrev hkAg0 (req:List Nat):Hk:=dS req (fun _ _=>.ok .next) (fun pre ys=>match pre with
  | [_,_,l,_,x1,x2,x3,x4]=>[ab (ys.a 0) (ys.n 0),cc (ys.n 1),l.2,ap (.dict #[] 0),x1.2,x2.2,x3.2,x4.2]
  | _=>[]) (fun _ _=>[]) (fun pre ys=>(ys.a 0).toList=(bn pre 0).toList++((bn pre 2).toList.drop (iK pre 1)).filter fun v=>(dA pre 6).any (· == strOf v) && (dA pre 7).any (· == strOf v))
noncomputable abbrev gU (aj:Nat) (it:Nat) (am:Nat):Ctx:=⟨.compLoop d6 0 (rf it) (rf aj) (mkC d6 (aX "law.<locals>.") none (rf 871) am (some 874) [(aX "rows",875)]),none,none,[(bW aR au,⟨862,13,862,82⟩),(aI,p0)],none⟩
noncomputable abbrev Zm1 (aj it am:Nat):Code :=
  (.compLoop d6 0 (rf it) (rf aj) (mkC d6 (aX "law.<locals>.") none (rf 871) am (some 874) [(aX "rows",875)]))
noncomputable def ag_K0:Rs :=
aO (aF [2,4] fun _=>.str x σ) (cB "list_iterator.__next__" [rf it]) [(it,ad l i),(l,ab vs ml)] b t tb gl fun b1 t1 ak =>
aO (a9 [12] fun _=>.bool true) (cB "list.__contains__" [rf w1,.str x σ]) [(w1,ab vs1 m1)] b1 (t1+2) tb gl fun b2 t2 aw =>
aO (a9 [14] fun _=>.bool true) (cB "list.__contains__" [rf w2,.str x σ]) [(w2,ab vs2 m2)] b2 (t2+1) tb gl fun b3 t3 aL =>
aO (aN [0] fun v=>v = .str x σ) (cB "list.append" [rf aj,.str x σ]) [(aj,ab a m)] b3 t3 tb gl fun b4 t4 aG =>
bF (Zm1 aj it am) ⟨862,14,862,19⟩ [(aj,ab (aG.a 0) (aG.n 0)),(it,ad l (i+1)),(l,ab vs ml),(am,ap (.dict #[aq w.params "agent" t1 (.str x σ)] 1)),(875,ah (rf 878)),(878,ab #[rf l,rf w1,rf w2] mr),(w1,ab vs1 m1),(w2,ab vs2 m2)] b4 t4 tb gl
noncomputable abbrev Zm2 (a vs vs1 vs2:Array Value) (aj i it l am m m1 m2 ml mr w1 w2:Nat):ax :=
  [(aj,ab a m),(it,ad l i),(l,ab vs ml),(am,ap (.dict #[] 0)),(875,ah (rf 878)),(878,ab #[rf l,rf w1,rf w2] mr),(w1,ab vs1 m1),(w2,ab vs2 m2)]
theorem ag_K0':aZ w (gU aj it am) P (Zm2 a vs vs1 vs2 aj i it l am m m1 m2 ml mr w1 w2) b t tb gl [0,2,4,6,8,10,12,14] 1 [K82,K51,K56,0x106,1] [4,1,1,0,0] [] [] (@ag_K0 b t aj it l am i m ml σ w1 w2 m1 m2 mr x a vs tb vs1 vs2 gl w):=by kernel_rfl
theorem ag_tK0 (hw1:aD vs1 Ws1) (hw2:aD vs2 Ws2) (hA:a.size≤100) (hx:vs[i]?=some (.str x σ)) (h1:(vs1.toList.map strOf).any (· == x)=true) (h2:(vs2.toList.map strOf).any (· == x)=true) (IH:∀ P b t mq k0 v0 (a1:Array Value),a1=a.push (.str x σ)→HB w (fz w req) (gU aj it am) P [(aj,ab a1 mq),(it,ad l (i+1)),(l,ab vs ml),(am,ap (.dict #[aq w.params "agent" k0 v0] 1)),(875,ah (rf 878)),(878,ab #[rf l,rf w1,rf w2] mr),(w1,ab vs1 m1),(w2,ab vs2 m2)] b t tb gl):HB w (fz w req) (gU aj it am) P (Zm2 a vs vs1 vs2 aj i it l am m m1 m2 ml mr w1 w2) b t tb gl:=by
  refine qH (ag_K0' (x:=x) (σ:=σ)) rfl fun s hs Ξ ar=>?_
  refine gF rfl (aA (ai _) ⟨bf [] [] [] [] [],hx⟩) fun b1 t1 ak _ _ _ _=>?_
  refine gF rfl (dP hw1 h1) fun b2 t2 aw _ _ _ _=>?_
  refine gF rfl (dP hw2 h2) fun b3 t3 aL _ _ _ _=>?_
  refine gF rfl (aC (ai w) (by omega) rfl) fun b4 t4 aG _ _ hk4 _=>?_
  obtain ⟨_,rfl,hap0⟩:=hk4;have hap:aG.a 0=a.push (.str x σ):=hap0
  exact gG rfl ar hs (IH _ _ _ _ _ _ _ hap) fun ys hk=>dM (f:=(fun v=>(vs1.toList.map strOf).any (· == strOf v) && (vs2.toList.map strOf).any (· == strOf v))) (A:=a.toList) hx (by show ((vs1.toList.map strOf).any (· == x) && (vs2.toList.map strOf).any (· == x))=true;rw [h1,h2];rfl) (by rw [← Array.toList_push,← hap];exact hk)
noncomputable def ag_K1:Rs :=
aO (aF [2,4] fun _=>.str x σ) (cB "list_iterator.__next__" [rf it]) [(it,ad l i),(l,ab vs ml)] b t tb gl fun b1 t1 ak =>
aO (a9 [12] fun _=>.bool true) (cB "list.__contains__" [rf w1,.str x σ]) [(w1,ab vs1 m1)] b1 (t1+2) tb gl fun b2 t2 aw =>
aO (a9 [14] fun _=>.bool true) (cB "list.__contains__" [rf w2,.str x σ]) [(w2,ab vs2 m2)] b2 (t2+1) tb gl fun b3 t3 aL =>
aO (aN [0] fun v=>v = .str x σ) (cB "list.append" [rf aj,.str x σ]) [(aj,ab a m)] b3 t3 tb gl fun b4 t4 aG =>
bF (Zm1 aj it am) ⟨862,14,862,19⟩ [(aj,ab (aG.a 0) (aG.n 0)),(it,ad l (i+1)),(l,ab vs ml),(am,ap (.dict #[aq w.params "agent" k0 (.str x σ)] 1)),(875,ah (rf 878)),(878,ab #[rf l,rf w1,rf w2] mr),(w1,ab vs1 m1),(w2,ab vs2 m2)] b4 t4 tb gl
noncomputable abbrev Zm0 (a vs vs1 vs2:Array Value) (aj i it k0 l am m m1 m2 ml mr w1 w2:Nat) (v0:Value) (w:World):ax :=
  [(aj,ab a m),(it,ad l i),(l,ab vs ml),(am,ap (.dict #[aq w.params "agent" k0 v0] 1)),(875,ah (rf 878)),(878,ab #[rf l,rf w1,rf w2] mr),(w1,ab vs1 m1),(w2,ab vs2 m2)]
theorem ag_K1':aZ w (gU aj it am) P (Zm0 a vs vs1 vs2 aj i it k0 l am m m1 m2 ml mr w1 w2 v0 w) b t tb gl [0,2,4,6,8,10,12,14] 1 [K82,K51,K56,0x106,1] [4,1,1,0,0] [] [] (@ag_K1 b t aj it l am i m ml k0 σ w1 w2 m1 m2 mr x a vs tb vs1 vs2 gl w):=by kernel_rfl
theorem ag_tK1 (hw1:aD vs1 Ws1) (hw2:aD vs2 Ws2) (hA:a.size≤100) (hx:vs[i]?=some (.str x σ)) (h1:(vs1.toList.map strOf).any (· == x)=true) (h2:(vs2.toList.map strOf).any (· == x)=true) (IH:∀ P b t mq k0 v0 (a1:Array Value),a1=a.push (.str x σ)→HB w (fz w req) (gU aj it am) P [(aj,ab a1 mq),(it,ad l (i+1)),(l,ab vs ml),(am,ap (.dict #[aq w.params "agent" k0 v0] 1)),(875,ah (rf 878)),(878,ab #[rf l,rf w1,rf w2] mr),(w1,ab vs1 m1),(w2,ab vs2 m2)] b t tb gl):HB w (fz w req) (gU aj it am) P (Zm0 a vs vs1 vs2 aj i it k0 l am m m1 m2 ml mr w1 w2 v0 w) b t tb gl:=by
  refine qH (ag_K1' (x:=x) (σ:=σ)) rfl fun s hs Ξ ar=>?_
  refine gF rfl (aA (ai _) ⟨bf [] [] [] [] [],hx⟩) fun b1 t1 ak _ _ _ _=>?_
  refine gF rfl (dP hw1 h1) fun b2 t2 aw _ _ _ _=>?_
  refine gF rfl (dP hw2 h2) fun b3 t3 aL _ _ _ _=>?_
  refine gF rfl (aC (ai w) (by omega) rfl) fun b4 t4 aG _ _ hk4 _=>?_
  obtain ⟨_,rfl,hap0⟩:=hk4;have hap:aG.a 0=a.push (.str x σ):=hap0
  exact gG rfl ar hs (IH _ _ _ _ _ _ _ hap) fun ys hk=>dM (f:=(fun v=>(vs1.toList.map strOf).any (· == strOf v) && (vs2.toList.map strOf).any (· == strOf v))) (A:=a.toList) hx (by show ((vs1.toList.map strOf).any (· == x) && (vs2.toList.map strOf).any (· == x))=true;rw [h1,h2];rfl) (by rw [← Array.toList_push,← hap];exact hk)
noncomputable def ag_A0:Rs :=
aO (aF [2,4] fun _=>.str x σ) (cB "list_iterator.__next__" [rf it]) [(it,ad l i),(l,ab vs ml)] b t tb gl fun b1 t1 ak =>
aO (a9 [12] fun _=>.bool false) (cB "list.__contains__" [rf w1,.str x σ]) [(w1,ab vs1 m1)] b1 (t1+2) tb gl fun b2 t2 aw =>
bF (Zm1 aj it am) ⟨862,44,862,60⟩ [(aj,ab a m),(it,ad l (i+1)),(l,ab vs ml),(am,ap (.dict #[aq w.params "agent" t1 (.str x σ)] 1)),(875,ah (rf 878)),(878,ab #[rf l,rf w1,rf w2] mr),(w1,ab vs1 m1),(w2,ab vs2 m2)] b2 t2 tb gl
theorem ag_A0':aZ w (gU aj it am) P (Zm2 a vs vs1 vs2 aj i it l am m m1 m2 ml mr w1 w2) b t tb gl [0,2,4,6,8,10,12,14] 1 [K82,K51,1] [4,0,0] [] [] (@ag_A0 b t aj it l am i m ml σ w1 w2 m1 m2 mr x a vs tb vs1 vs2 gl w):=by kernel_rfl
noncomputable abbrev Zm3 (a vs vs1 vs2:Array Value) (aj i it k0 l am m m1 m2 ml mr w1 w2:Nat) (v0:Value) (w:World):ax :=
  [(aj,ab a m),(it,ad l (i+1)),(l,ab vs ml),(am,ap (.dict #[aq w.params "agent" k0 v0] 1)),(875,ah (rf 878)),(878,ab #[rf l,rf w1,rf w2] mr),(w1,ab vs1 m1),(w2,ab vs2 m2)]
theorem ag_tA0 (hw1:aD vs1 Ws1) (hw2:aD vs2 Ws2) (hA:a.size≤100) (hx:vs[i]?=some (.str x σ)) (h1:(vs1.toList.map strOf).any (· == x)=false) (IH:∀ P b t k0 v0,HB w (fz w req) (gU aj it am) P (Zm3 a vs vs1 vs2 aj i it k0 l am m m1 m2 ml mr w1 w2 v0 w) b t tb gl):HB w (fz w req) (gU aj it am) P (Zm2 a vs vs1 vs2 aj i it l am m m1 m2 ml mr w1 w2) b t tb gl:=by
  refine qH (ag_A0' (x:=x) (σ:=σ)) rfl fun s hs Ξ ar=>?_
  refine gF rfl (aA (ai _) ⟨bf [] [] [] [] [],hx⟩) fun b1 t1 ak _ _ _ _=>?_
  refine gF rfl (dP hw1 h1) fun b2 t2 aw _ _ _ _=>?_
  exact gG rfl ar hs (IH _ _ _ _ _) fun ys hk=>cD (f:=(fun v=>(vs1.toList.map strOf).any (· == strOf v) && (vs2.toList.map strOf).any (· == strOf v))) (A:=a.toList) hx (by show ((vs1.toList.map strOf).any (· == x) && (vs2.toList.map strOf).any (· == x))=false;simp [*]) hk
noncomputable def ag_A1:Rs :=
aO (aF [2,4] fun _=>.str x σ) (cB "list_iterator.__next__" [rf it]) [(it,ad l i),(l,ab vs ml)] b t tb gl fun b1 t1 ak =>
aO (a9 [12] fun _=>.bool false) (cB "list.__contains__" [rf w1,.str x σ]) [(w1,ab vs1 m1)] b1 (t1+2) tb gl fun b2 t2 aw =>
bF (Zm1 aj it am) ⟨862,44,862,60⟩ [(aj,ab a m),(it,ad l (i+1)),(l,ab vs ml),(am,ap (.dict #[aq w.params "agent" k0 (.str x σ)] 1)),(875,ah (rf 878)),(878,ab #[rf l,rf w1,rf w2] mr),(w1,ab vs1 m1),(w2,ab vs2 m2)] b2 t2 tb gl
theorem ag_A1':aZ w (gU aj it am) P (Zm0 a vs vs1 vs2 aj i it k0 l am m m1 m2 ml mr w1 w2 v0 w) b t tb gl [0,2,4,6,8,10,12,14] 1 [K82,K51,1] [4,0,0] [] [] (@ag_A1 b t aj it l am i m ml k0 σ w1 w2 m1 m2 mr x a vs tb vs1 vs2 gl w):=by kernel_rfl
theorem ag_tA1 (hw1:aD vs1 Ws1) (hw2:aD vs2 Ws2) (hA:a.size≤100) (hx:vs[i]?=some (.str x σ)) (h1:(vs1.toList.map strOf).any (· == x)=false) (IH:∀ P b t k0 v0,HB w (fz w req) (gU aj it am) P (Zm3 a vs vs1 vs2 aj i it k0 l am m m1 m2 ml mr w1 w2 v0 w) b t tb gl):HB w (fz w req) (gU aj it am) P (Zm0 a vs vs1 vs2 aj i it k0 l am m m1 m2 ml mr w1 w2 v0 w) b t tb gl:=by
  refine qH (ag_A1' (x:=x) (σ:=σ)) rfl fun s hs Ξ ar=>?_
  refine gF rfl (aA (ai _) ⟨bf [] [] [] [] [],hx⟩) fun b1 t1 ak _ _ _ _=>?_
  refine gF rfl (dP hw1 h1) fun b2 t2 aw _ _ _ _=>?_
  exact gG rfl ar hs (IH _ _ _ _ _) fun ys hk=>cD (f:=(fun v=>(vs1.toList.map strOf).any (· == strOf v) && (vs2.toList.map strOf).any (· == strOf v))) (A:=a.toList) hx (by show ((vs1.toList.map strOf).any (· == x) && (vs2.toList.map strOf).any (· == x))=false;simp [*]) hk
noncomputable def ag_B0:Rs :=
aO (aF [2,4] fun _=>.str x σ) (cB "list_iterator.__next__" [rf it]) [(it,ad l i),(l,ab vs ml)] b t tb gl fun b1 t1 ak =>
aO (a9 [12] fun _=>.bool true) (cB "list.__contains__" [rf w1,.str x σ]) [(w1,ab vs1 m1)] b1 (t1+2) tb gl fun b2 t2 aw =>
aO (a9 [14] fun _=>.bool false) (cB "list.__contains__" [rf w2,.str x σ]) [(w2,ab vs2 m2)] b2 (t2+1) tb gl fun b3 t3 aL =>
bF (Zm1 aj it am) ⟨862,65,862,81⟩ [(aj,ab a m),(it,ad l (i+1)),(l,ab vs ml),(am,ap (.dict #[aq w.params "agent" t1 (.str x σ)] 1)),(875,ah (rf 878)),(878,ab #[rf l,rf w1,rf w2] mr),(w1,ab vs1 m1),(w2,ab vs2 m2)] b3 t3 tb gl
theorem ag_B0':aZ w (gU aj it am) P (Zm2 a vs vs1 vs2 aj i it l am m m1 m2 ml mr w1 w2) b t tb gl [0,2,4,6,8,10,12,14] 1 [K82,K51,K56,1] [4,1,0,0] [] [] (@ag_B0 b t aj it l am i m ml σ w1 w2 m1 m2 mr x a vs tb vs1 vs2 gl w):=by kernel_rfl
theorem ag_tB0 (hw1:aD vs1 Ws1) (hw2:aD vs2 Ws2) (hA:a.size≤100) (hx:vs[i]?=some (.str x σ)) (h1:(vs1.toList.map strOf).any (· == x)=true) (h2:(vs2.toList.map strOf).any (· == x)=false) (IH:∀ P b t k0 v0,HB w (fz w req) (gU aj it am) P (Zm3 a vs vs1 vs2 aj i it k0 l am m m1 m2 ml mr w1 w2 v0 w) b t tb gl):HB w (fz w req) (gU aj it am) P (Zm2 a vs vs1 vs2 aj i it l am m m1 m2 ml mr w1 w2) b t tb gl:=by
  refine qH (ag_B0' (x:=x) (σ:=σ)) rfl fun s hs Ξ ar=>?_
  refine gF rfl (aA (ai _) ⟨bf [] [] [] [] [],hx⟩) fun b1 t1 ak _ _ _ _=>?_
  refine gF rfl (dP hw1 h1) fun b2 t2 aw _ _ _ _=>?_
  refine gF rfl (dP hw2 h2) fun b3 t3 aL _ _ _ _=>?_
  exact gG rfl ar hs (IH _ _ _ _ _) fun ys hk=>cD (f:=(fun v=>(vs1.toList.map strOf).any (· == strOf v) && (vs2.toList.map strOf).any (· == strOf v))) (A:=a.toList) hx (by show ((vs1.toList.map strOf).any (· == x) && (vs2.toList.map strOf).any (· == x))=false;simp [*]) hk
noncomputable def ag_B1:Rs :=
aO (aF [2,4] fun _=>.str x σ) (cB "list_iterator.__next__" [rf it]) [(it,ad l i),(l,ab vs ml)] b t tb gl fun b1 t1 ak =>
aO (a9 [12] fun _=>.bool true) (cB "list.__contains__" [rf w1,.str x σ]) [(w1,ab vs1 m1)] b1 (t1+2) tb gl fun b2 t2 aw =>
aO (a9 [14] fun _=>.bool false) (cB "list.__contains__" [rf w2,.str x σ]) [(w2,ab vs2 m2)] b2 (t2+1) tb gl fun b3 t3 aL =>
bF (Zm1 aj it am) ⟨862,65,862,81⟩ [(aj,ab a m),(it,ad l (i+1)),(l,ab vs ml),(am,ap (.dict #[aq w.params "agent" k0 (.str x σ)] 1)),(875,ah (rf 878)),(878,ab #[rf l,rf w1,rf w2] mr),(w1,ab vs1 m1),(w2,ab vs2 m2)] b3 t3 tb gl
theorem ag_B1':aZ w (gU aj it am) P (Zm0 a vs vs1 vs2 aj i it k0 l am m m1 m2 ml mr w1 w2 v0 w) b t tb gl [0,2,4,6,8,10,12,14] 1 [K82,K51,K56,1] [4,1,0,0] [] [] (@ag_B1 b t aj it l am i m ml k0 σ w1 w2 m1 m2 mr x a vs tb vs1 vs2 gl w):=by kernel_rfl
theorem ag_tB1 (hw1:aD vs1 Ws1) (hw2:aD vs2 Ws2) (hA:a.size≤100) (hx:vs[i]?=some (.str x σ)) (h1:(vs1.toList.map strOf).any (· == x)=true) (h2:(vs2.toList.map strOf).any (· == x)=false) (IH:∀ P b t k0 v0,HB w (fz w req) (gU aj it am) P (Zm3 a vs vs1 vs2 aj i it k0 l am m m1 m2 ml mr w1 w2 v0 w) b t tb gl):HB w (fz w req) (gU aj it am) P (Zm0 a vs vs1 vs2 aj i it k0 l am m m1 m2 ml mr w1 w2 v0 w) b t tb gl:=by
  refine qH (ag_B1' (x:=x) (σ:=σ)) rfl fun s hs Ξ ar=>?_
  refine gF rfl (aA (ai _) ⟨bf [] [] [] [] [],hx⟩) fun b1 t1 ak _ _ _ _=>?_
  refine gF rfl (dP hw1 h1) fun b2 t2 aw _ _ _ _=>?_
  refine gF rfl (dP hw2 h2) fun b3 t3 aL _ _ _ _=>?_
  exact gG rfl ar hs (IH _ _ _ _ _) fun ys hk=>cD (f:=(fun v=>(vs1.toList.map strOf).any (· == strOf v) && (vs2.toList.map strOf).any (· == strOf v))) (A:=a.toList) hx (by show ((vs1.toList.map strOf).any (· == x) && (vs2.toList.map strOf).any (· == x))=false;simp [*]) hk
noncomputable def ag_E:Rs :=
cW (e8 [2,4]) (gU aj it am) (cB "list_iterator.__next__" [rf it]) ⟨862,33,862,40⟩ [(it,ad l i),(l,ab vs ml)] b t tb gl fun b1 t1 ak =>
cF (.ok .next) [(aj,ab a m),(it,fO "list_iterator" [.none,nv i 0]),(l,ab vs ml),(am,⟨.type "dict",none,dd,#[]⟩),(875,ah (rf 878)),(878,ab #[rf l,rf w1,rf w2] mr),(w1,ab vs1 m1),(w2,ab vs2 m2)] b1 t1 tb gl
theorem ag_E':aZ w (gU aj it am) P [(aj,ab a m),(it,ad l i),(l,ab vs ml),(am,ap dd),(875,ah (rf 878)),(878,ab #[rf l,rf w1,rf w2] mr),(w1,ab vs1 m1),(w2,ab vs2 m2)] b t tb gl [0,2,4,6,8,10,12,14] 1 [K82,0x13ec998828] [0] [] [] (@ag_E b t aj it l am i m ml w1 w2 m1 m2 mr a vs tb vs1 vs2 dd gl):=by kernel_rfl
theorem ag_tE1 (hx:vs[i]?=none):HB w (fz w req) (gU aj it am) P (Zm0 a vs vs1 vs2 aj i it k0 l am m m1 m2 ml mr w1 w2 v0 w) b t tb gl:=by
  refine qH ag_E' rfl fun s hs Ξ ar=>?_
  refine gH rfl (cT (ai _) hx) fun b1 t1 ak _ _ _ _=>?_
  exact gD rfl ar fun s' hA hF=>⟨bf [m,i,0,k0] [a] [v0] [] [],_,_,fa (f:=(fun v=>(vs1.toList.map strOf).any (· == strOf v) && (vs2.toList.map strOf).any (· == strOf v))) hx,rfl,rfl,hA,hF,fun a h=>h,ag⟩
theorem ag_tE0 (hx:vs[i]?=none):HB w (hkAg0 req) (gU aj it am) P (Zm2 a vs vs1 vs2 aj i it l am m m1 m2 ml mr w1 w2) b t tb gl:=by
  refine qH ag_E' rfl fun s hs Ξ ar=>?_
  refine gH rfl (cT (ai _) hx) fun b1 t1 ak _ _ _ _=>?_
  exact gD rfl ar fun s' hA hF=>⟨bf [m,i] [a] [] [] [],_,_,fa (f:=(fun v=>(vs1.toList.map strOf).any (· == strOf v) && (vs2.toList.map strOf).any (· == strOf v))) hx,rfl,rfl,hA,hF,fun a h=>h,ag⟩
theorem jY (hw1:aD vs1 Ws1) (hw2:aD vs2 Ws2) (hw:aD vs Ws) (hn:Ws.length≤50):∀ (k:Nat) {P:Pos} {b t i m k0:Nat} {v0:Value} {a:Array Value},Ws.length - i=k→a.size≤i→HB w (fz w req) (gU aj it am) P (Zm0 a vs vs1 vs2 aj i it k0 l am m m1 m2 ml mr w1 w2 v0 w) b t tb gl:=by
  intro k
  induction k with
  | zero =>
    intro P b t i m k0 v0 a hk ha
    have hl:vs.toList.length=Ws.length:=StrsAre.length hw
    exact ag_tE1 (Array.getElem?_eq_none (by simp at hl;omega))
  | succ k ih =>
    intro P b t i m k0 v0 a hk ha
    have hi:i < Ws.length:=by omega
    obtain ⟨σ,hσ⟩:=StrsAre.get hw i Ws[i] (by simp [hi])
    rw [Array.getElem?_toList] at hσ
    have hA:a.size≤100:=by omega
    cases h1:(vs1.toList.map strOf).any (· == Ws[i]) with
    | false=>exact ag_tA1 hw1 hw2 hA hσ h1 fun P b t k0 v0=>ih (by omega) (by omega)
    | true =>
      cases h2:(vs2.toList.map strOf).any (· == Ws[i]) with
      | false=>exact ag_tB1 hw1 hw2 hA hσ h1 h2 fun P b t k0 v0=>ih (by omega) (by omega)
      | true=>exact ag_tK1 hw1 hw2 hA hσ h1 h2 fun P b t mq k0 v0 a1 e=>by subst e;exact ih (by omega) (by rw [Array.size_push];omega)
theorem ag_ok0 (hw1:aD vs1 Ws1) (hw2:aD vs2 Ws2) (hw:aD vs Ws) (hn:Ws.length≤50) (hi:0 < Ws.length):HB w (fz w req) (gU aj it am) P [(aj,ab #[] m),(it,ad l 0),(l,ab vs ml),(am,ap (.dict #[] 0)),(875,ah (rf 878)),(878,ab #[rf l,rf w1,rf w2] mr),(w1,ab vs1 m1),(w2,ab vs2 m2)] b t tb gl:=by
    obtain ⟨σ,hσ⟩:=StrsAre.get hw 0 Ws[0] (by simp [hi])
    rw [Array.getElem?_toList] at hσ
    have hA:(#[]:Array Value).size≤100:=by simp
    have h00:(#[]:Array Value).size=0:=rfl
    cases h1:(vs1.toList.map strOf).any (· == Ws[0]) with
    | false=>exact ag_tA0 hw1 hw2 hA hσ h1 fun P b t k0 v0=>jY hw1 hw2 hw hn (Ws.length - 1) rfl (by omega)
    | true =>
      cases h2:(vs2.toList.map strOf).any (· == Ws[0]) with
      | false=>exact ag_tB0 hw1 hw2 hA hσ h1 h2 fun P b t k0 v0=>jY hw1 hw2 hw hn (Ws.length - 1) rfl (by omega)
      | true=>exact ag_tK0 hw1 hw2 hA hσ h1 h2 fun P b t mq k0 v0 a1 e=>by subst e;exact jY hw1 hw2 hw hn (Ws.length - 1) rfl (by rw [Array.size_push];omega)
end
section
variable {P:Pos} {b t w0 w1 w2 m0 m1 m2 mr:Nat} {κ:Nat→Nat} {ν:Nat→Value} {wv:Value} {ws0 ws1 ws2 tb:Array Value} {gl:List GenState} {w:World}
noncomputable def dW (W0 W1 W2:List Str):List Str:=W0.filter fun x=>W1.any (· == x) && W2.any (· == x)
theorem StrsAre.filt {f:Str→Bool} {vs:List Value} {Ws:List Str} (h:StrsAre vs Ws):StrsAre (vs.filter fun v=>f (strOf v)) (Ws.filter f):=by
  induction h with
  | nil=>exact .nil
  | cons x τ h ih =>
    rw [List.filter_cons,List.filter_cons]
    show StrsAre (if f x=true then _ else _) (if f x=true then _ else _)
    by_cases e:f x=true
    · rw [if_pos e,if_pos e];exact .cons _ _ ih
    · rw [if_neg e,if_neg e];exact ih
theorem nr {a ws0 ws1 ws2:Array Value} {Ws0 Ws1 Ws2:List Str} (h0:StrsAre ws0.toList Ws0) (h1:StrsAre ws1.toList Ws1) (h2:StrsAre ws2.toList Ws2)
    (h:a.toList=(#[]:Array Value).toList++(ws0.toList.drop 0).filter (fun v=>(ws1.toList.map strOf).any (· == strOf v) && (ws2.toList.map strOf).any (· == strOf v))):StrsAre a.toList (dW Ws0 Ws1 Ws2):=by
  rw [h,StrsAre.strs h1,StrsAre.strs h2]
  exact StrsAre.filt (f:=fun x=>Ws1.any (· == x) && Ws2.any (· == x)) h0
theorem i7 {W0 W1 W2:List Str} (h:aJ W0):∀ W∈dW W0 W1 W2,∃ d,d < 5∧W=Wd d:=fun W hW=>h W (List.mem_filter.mp hW).1
theorem ir {W0 W1 W2:List Str} (h:W0.length≤50):(dW W0 W1 W2).length≤50:=bT (List.length_filter_le _ _) h
noncomputable abbrev ZG0 (b:Nat):Code :=
  (.compStart d6 0 (rf b) (rf (b+1)) (mkC d6 (aX "law.<locals>.") none (rf 871) (b+2) (some 874) [(aX "rows",875)]))
noncomputable def p60:Rs :=
cW (hkAg0 [3,1,6,5,2,4,8,10]) dy (ZG0 b) ⟨862,13,862,82⟩ [(b+1,ab #[] 0),(b,ad w0 0),(w0,ab ws0 m0),(b+2,ap (.dict #[] 0)),(875,ah (rf 878)),(878,ab #[rf w0,rf w1,rf w2] mr),(w1,ab ws1 m1),(w2,ab ws2 m2)] (b+3) (t+1) tb gl fun b1 t1 ak =>
ip dy (bw 7) ⟨862,4,862,10⟩ [(874,cn 11 w (pk [(10,t1)] κ) (pk [(6,wv),(10,rf (b+1))] ν)),(875,ah (rf 878)),(878,ab #[rf w0,rf w1,rf w2] mr),(w0,ab ws0 m0),(w1,ab ws1 m1),(w2,ab ws2 m2),(b+1,ab (ak.a 0) (ak.n 0))] b1 (t1+1) tb gl
theorem p60':c4 w dy P (bw 6) [(874,hZ 10 w κ ν wv),(875,ah (rf 878)),(878,ab #[rf w0,rf w1,rf w2] mr),(w0,ab ws0 m0),(w1,ab ws1 m1),(w2,ab ws2 m2)] b t tb gl [0,2,4,6,8,10,3] 2 [K64,0x1051000] [5,0] [] [3] (@p60 b t w0 w1 w2 m0 m1 m2 mr κ ν wv ws0 ws1 ws2 tb gl w):=by revert w;refine @bs _ ?_ ?_<;>intro w<;>kernel_rfl
theorem end60 {eL dL uL rL nL oL iL0 iL1 iL2 iL3 eR dR uR rR nR oR iR0 iR1 iR2 iR3 md me e0 d0 u0 r0 n0 o0 i00 i01 i02 i03 e1 d1 u1 r1 n1 o1 i10 i11 i12 i13 e2 d2 u2 r2 n2 o2 i20 i21 i22 i23:Nat} {D0 D1 D2:Value} {cv cw:Option Value} {vsL vsR vs0 vs1 vs2:Array Value} {Ws0 Ws1 Ws2:List Str} (hg:∀ g∈gl,g = .finished) (hD0:ay D0) (hW0:aJ Ws0) (hn0:Ws0.length≤50) (hw0:aD ws0 Ws0) (hu0:aD vs0 Ws0) (hD1:ay D1) (hW1:aJ Ws1) (hn1:Ws1.length≤50) (hw1:aD ws1 Ws1) (hu1:aD vs1 Ws1) (hD2:ay D2) (hW2:aJ Ws2) (hn2:Ws2.length≤50) (hw2:aD ws2 Ws2) (hu2:aD vs2 Ws2) (hu3:aD vsL (dW Ws0 Ws1 Ws2)) (huR:aD vsR (dW Ws0 Ws1 Ws2)) (hno:ws0[0]?=none):Ends (Vp w) dy P (bw 6) ([(874,hZ 10 w κ (pk [(8,rf eL),(9,rf eR)] (pk [(1,rf 879),(2,rf 880)] ν)) wv),(875,ah (rf 878)),(878,ab #[rf w0,rf w1,rf w2] mr),(w0,ab ws0 m0),(w1,ab ws1 m1),(w2,ab ws2 m2)]++[(876,aE cw),(eL,af dL),(dL,ac w iL0 iL1 iL2 iL3 uL rL (cN D0 D1 D2)),(uL,ab vsL nL),(rL,ab #[] oL),(eR,af dR),(dR,ac w iR0 iR1 iR2 iR3 uR rR (cN D0 D1 D2)),(uR,ab vsR nR),(rR,ab #[] oR),(879,ab #[D0,D1,D2] md),(880,ab #[rf e0,rf e1,rf e2] me),(e0,af d0),(d0,ac w i00 i01 i02 i03 u0 r0 D0),(u0,ab vs0 n0),(r0,ab #[] o0),(e1,af d1),(d1,ac w i10 i11 i12 i13 u1 r1 D1),(u1,ab vs1 n1),(r1,ab #[] o1),(e2,af d2),(d2,ac w i20 i21 i22 i23 u2 r2 D2),(u2,ab vs2 n2),(r2,ab #[] o2),(877,aE cv)]) b t (cb tb) gl:=by
  refine qE [(876,aE cw),(eL,af dL),(dL,ac w iL0 iL1 iL2 iL3 uL rL (cN D0 D1 D2)),(uL,ab vsL nL),(rL,ab #[] oL),(eR,af dR),(dR,ac w iR0 iR1 iR2 iR3 uR rR (cN D0 D1 D2)),(uR,ab vsR nR),(rR,ab #[] oR),(879,ab #[D0,D1,D2] md),(880,ab #[.ref e0,.ref e1,.ref e2] me),(e0,af d0),(d0,ac w i00 i01 i02 i03 u0 r0 D0),(u0,ab vs0 n0),(r0,ab #[] o0),(e1,af d1),(d1,ac w i10 i11 i12 i13 u1 r1 D1),(u1,ab vs1 n1),(r1,ab #[] o1),(e2,af d2),(d2,ac w i20 i21 i22 i23 u2 r2 D2),(u2,ab vs2 n2),(r2,ab #[] o2),(877,aE cv)] (p60' (κ:=κ) (ν:=pk [(8,.ref eL),(9,.ref eR)] (pk [(1,.ref 879),(2,.ref 880)] ν))) rfl fun s hs Ξ ar=>?_
  refine gH rfl (co cl_ag Y1 rfl (ag_tE0 hno)) fun b1 t1 ak _ _ hk1 _=>?_
  exact gC rfl ar fun s' hA hF=>Ends.use hs hA hF (ae (.inl (.head _)) (ae (.inl Y1) (ae (.inl Y2) (ae (.inl Y3) (ae (.inl Y4) (ae (.inl Y5) (ao (.inr (by show b≤b+1;omega))))))))) [0,16,7,6,8,9,10,11,12,13,14,15,1,2,17,3,18,19,20,21,4,22,23,24,25,5,26,27,28,29,30] rfl (by decide) (end7 (κ:=pk [(10,t1)] κ) (ν:=ν) (wv:=wv) (al:=b+1) (eL:=eL) (eR:=eR) hg hD0 hW0 hn0 hw0 hu0 hD1 hW1 hn1 hw1 hu1 hD2 hW2 hn2 hw2 hu2 (i7 hW0) (ir hn0) (nr hw0 hw1 hw2 hk1) hu3 huR)
noncomputable def p61:Rs :=
cW (fz w [3,1,6,5,2,4,8,10]) dy (ZG0 b) ⟨862,13,862,82⟩ [(b+1,ab #[] 0),(b,ad w0 0),(w0,ab ws0 m0),(b+2,ap (.dict #[] 0)),(875,ah (rf 878)),(878,ab #[rf w0,rf w1,rf w2] mr),(w1,ab ws1 m1),(w2,ab ws2 m2)] (b+3) (t+1) tb gl fun b1 t1 ak =>
ip dy (bw 7) ⟨862,4,862,10⟩ [(874,cn 11 w (pk [(10,t1)] κ) (pk [(6,wv),(10,rf (b+1))] ν)),(875,ah (rf 878)),(878,ab #[rf w0,rf w1,rf w2] mr),(w0,ab ws0 m0),(w1,ab ws1 m1),(w2,ab ws2 m2),(b+1,ab (ak.a 0) (ak.n 0))] b1 (t1+1) tb gl
theorem p61':c4 w dy P (bw 6) [(874,hZ 10 w κ ν wv),(875,ah (rf 878)),(878,ab #[rf w0,rf w1,rf w2] mr),(w0,ab ws0 m0),(w1,ab ws1 m1),(w2,ab ws2 m2)] b t tb gl [0,2,4,6,8,10,3] 2 [K64,0x11505151000] [5,0] [] [3] (@p61 b t w0 w1 w2 m0 m1 m2 mr κ ν wv ws0 ws1 ws2 tb gl w):=by revert w;refine @bs _ ?_ ?_<;>intro w<;>kernel_rfl
theorem end61 {eL dL uL rL nL oL iL0 iL1 iL2 iL3 eR dR uR rR nR oR iR0 iR1 iR2 iR3 md me e0 d0 u0 r0 n0 o0 i00 i01 i02 i03 e1 d1 u1 r1 n1 o1 i10 i11 i12 i13 e2 d2 u2 r2 n2 o2 i20 i21 i22 i23:Nat} {D0 D1 D2:Value} {cv cw:Option Value} {vsL vsR vs0 vs1 vs2:Array Value} {Ws0 Ws1 Ws2:List Str} (hg:∀ g∈gl,g = .finished) (hD0:ay D0) (hW0:aJ Ws0) (hn0:Ws0.length≤50) (hw0:aD ws0 Ws0) (hu0:aD vs0 Ws0) (hD1:ay D1) (hW1:aJ Ws1) (hn1:Ws1.length≤50) (hw1:aD ws1 Ws1) (hu1:aD vs1 Ws1) (hD2:ay D2) (hW2:aJ Ws2) (hn2:Ws2.length≤50) (hw2:aD ws2 Ws2) (hu2:aD vs2 Ws2) (hu3:aD vsL (dW Ws0 Ws1 Ws2)) (huR:aD vsR (dW Ws0 Ws1 Ws2)) (hpos:0 < Ws0.length):Ends (Vp w) dy P (bw 6) ([(874,hZ 10 w κ (pk [(8,rf eL),(9,rf eR)] (pk [(1,rf 879),(2,rf 880)] ν)) wv),(875,ah (rf 878)),(878,ab #[rf w0,rf w1,rf w2] mr),(w0,ab ws0 m0),(w1,ab ws1 m1),(w2,ab ws2 m2)]++[(876,aE cw),(eL,af dL),(dL,ac w iL0 iL1 iL2 iL3 uL rL (cN D0 D1 D2)),(uL,ab vsL nL),(rL,ab #[] oL),(eR,af dR),(dR,ac w iR0 iR1 iR2 iR3 uR rR (cN D0 D1 D2)),(uR,ab vsR nR),(rR,ab #[] oR),(879,ab #[D0,D1,D2] md),(880,ab #[rf e0,rf e1,rf e2] me),(e0,af d0),(d0,ac w i00 i01 i02 i03 u0 r0 D0),(u0,ab vs0 n0),(r0,ab #[] o0),(e1,af d1),(d1,ac w i10 i11 i12 i13 u1 r1 D1),(u1,ab vs1 n1),(r1,ab #[] o1),(e2,af d2),(d2,ac w i20 i21 i22 i23 u2 r2 D2),(u2,ab vs2 n2),(r2,ab #[] o2),(877,aE cv)]) b t (cb tb) gl:=by
  refine qE [(876,aE cw),(eL,af dL),(dL,ac w iL0 iL1 iL2 iL3 uL rL (cN D0 D1 D2)),(uL,ab vsL nL),(rL,ab #[] oL),(eR,af dR),(dR,ac w iR0 iR1 iR2 iR3 uR rR (cN D0 D1 D2)),(uR,ab vsR nR),(rR,ab #[] oR),(879,ab #[D0,D1,D2] md),(880,ab #[.ref e0,.ref e1,.ref e2] me),(e0,af d0),(d0,ac w i00 i01 i02 i03 u0 r0 D0),(u0,ab vs0 n0),(r0,ab #[] o0),(e1,af d1),(d1,ac w i10 i11 i12 i13 u1 r1 D1),(u1,ab vs1 n1),(r1,ab #[] o1),(e2,af d2),(d2,ac w i20 i21 i22 i23 u2 r2 D2),(u2,ab vs2 n2),(r2,ab #[] o2),(877,aE cv)] (p61' (κ:=κ) (ν:=pk [(8,.ref eL),(9,.ref eR)] (pk [(1,.ref 879),(2,.ref 880)] ν))) rfl fun s hs Ξ ar=>?_
  refine gH rfl (co cl_ag Y1 rfl (ag_ok0 hw1 hw2 hw0 hn0 hpos)) fun b1 t1 ak _ _ hk1 _=>?_
  exact gC rfl ar fun s' hA hF=>Ends.use hs hA hF (ae (.inl (.head _)) (ae (.inl Y1) (ae (.inl Y2) (ae (.inl Y3) (ae (.inl Y4) (ae (.inl Y5) (ao (.inr (by show b≤b+1;omega))))))))) [0,16,7,6,8,9,10,11,12,13,14,15,1,2,17,3,18,19,20,21,4,22,23,24,25,5,26,27,28,29,30] rfl (by decide) (end7 (κ:=pk [(10,t1)] κ) (ν:=ν) (wv:=wv) (al:=b+1) (eL:=eL) (eR:=eR) hg hD0 hW0 hn0 hw0 hu0 hD1 hW1 hn1 hw1 hu1 hD2 hW2 hn2 hw2 hu2 (i7 hW0) (ir hn0) (nr hw0 hw1 hw2 hk1) hu3 huR)
theorem end6 {eL dL uL rL nL oL iL0 iL1 iL2 iL3 eR dR uR rR nR oR iR0 iR1 iR2 iR3 md me e0 d0 u0 r0 n0 o0 i00 i01 i02 i03 e1 d1 u1 r1 n1 o1 i10 i11 i12 i13 e2 d2 u2 r2 n2 o2 i20 i21 i22 i23:Nat} {D0 D1 D2:Value} {cv cw:Option Value} {vsL vsR vs0 vs1 vs2:Array Value} {Ws0 Ws1 Ws2:List Str} (hg:∀ g∈gl,g = .finished) (hD0:ay D0) (hW0:aJ Ws0) (hn0:Ws0.length≤50) (hw0:aD ws0 Ws0) (hu0:aD vs0 Ws0) (hD1:ay D1) (hW1:aJ Ws1) (hn1:Ws1.length≤50) (hw1:aD ws1 Ws1) (hu1:aD vs1 Ws1) (hD2:ay D2) (hW2:aJ Ws2) (hn2:Ws2.length≤50) (hw2:aD ws2 Ws2) (hu2:aD vs2 Ws2) (hu3:aD vsL (dW Ws0 Ws1 Ws2)) (huR:aD vsR (dW Ws0 Ws1 Ws2)):Ends (Vp w) dy P (bw 6) ([(874,hZ 10 w κ (pk [(8,rf eL),(9,rf eR)] (pk [(1,rf 879),(2,rf 880)] ν)) wv),(875,ah (rf 878)),(878,ab #[rf w0,rf w1,rf w2] mr),(w0,ab ws0 m0),(w1,ab ws1 m1),(w2,ab ws2 m2)]++[(876,aE cw),(eL,af dL),(dL,ac w iL0 iL1 iL2 iL3 uL rL (cN D0 D1 D2)),(uL,ab vsL nL),(rL,ab #[] oL),(eR,af dR),(dR,ac w iR0 iR1 iR2 iR3 uR rR (cN D0 D1 D2)),(uR,ab vsR nR),(rR,ab #[] oR),(879,ab #[D0,D1,D2] md),(880,ab #[rf e0,rf e1,rf e2] me),(e0,af d0),(d0,ac w i00 i01 i02 i03 u0 r0 D0),(u0,ab vs0 n0),(r0,ab #[] o0),(e1,af d1),(d1,ac w i10 i11 i12 i13 u1 r1 D1),(u1,ab vs1 n1),(r1,ab #[] o1),(e2,af d2),(d2,ac w i20 i21 i22 i23 u2 r2 D2),(u2,ab vs2 n2),(r2,ab #[] o2),(877,aE cv)]) b t (cb tb) gl:=by
  rcases Nat.eq_zero_or_pos Ws0.length with h | h
  · exact end60 hg hD0 hW0 hn0 hw0 hu0 hD1 hW1 hn1 hw1 hu1 hD2 hW2 hn2 hw2 hu2 hu3 huR (by
      have:=StrsAre.length hw0
      simp only [Array.length_toList] at this
      exact Array.getElem?_eq_none (by omega))
  · exact end61 hg hD0 hW0 hn0 hw0 hu0 hD1 hW1 hn1 hw1 hu1 hD2 hW2 hn2 hw2 hu2 hu3 huR h
end
section
variable {P:Pos} {b t me e0 d0 u0 r0 n0 o0 i00 i01 i02 i03 e1 d1 u1 r1 n1 o1 i10 i11 i12 i13 e2 d2 u2 r2 n2 o2 i20 i21 i22 i23 i0 i1 i2 i3 j0 j1 j2 j3:Nat} {κ:Nat→Nat} {ν:Nat→Value} {wv D0 D1 D2 D:Value} {vs0 vs1 vs2 tb vs us:Array Value} {gl:List GenState} {w:World} {req:List Nat} {Vs Us:List Str}
noncomputable def gB (W V:List Str):List Str:=W.filter fun x=>V.any (· == x)
theorem pick_as {D0 D1 D2:Value}:fg D0 (fg D1 D2)=cN D0 D1 D2:=by cases D2 <;> rfl
theorem kf {l:List Str} (h:l.length≤4):l.length≤100:=Nat.le_trans h (by decide)
theorem mR {W V:List Str} (h:W.length≤4):(gB W V).length≤4:=bT (List.length_filter_le _ _) h
theorem gc {a vs us:Array Value} {W V:List Str} (hv:StrsAre vs.toList W) (hu:StrsAre us.toList V) (h:a.toList=vs.toList.filter fun v=>(us.toList.map strOf).any (· == strOf v)):StrsAre a.toList (gB W V):=by
  rw [h,StrsAre.strs hu]
  exact StrsAre.filt (f:=fun x=>V.any (· == x)) hv
theorem in_left {A B C:List Str}:gB (gB A B) C=dW A B C:=by
  unfold gB dW
  rw [List.filter_filter]
  congr 1
  funext x
  exact Bool.and_comm _ _
theorem mQ {A B C:List Str}:gB A (gB B C)=dW A B C:=by
  unfold dW gB
  congr 1
  funext x
  rw [Bool.eq_iff_iff]
  simp only [List.any_eq_true,List.mem_filter,Bool.and_eq_true,beq_iff_eq]
  constructor
  · rintro ⟨y,⟨h1,z,h2,rfl⟩,rfl⟩
    exact ⟨⟨_,h1,rfl⟩,⟨_,h2,rfl⟩⟩
  · rintro ⟨⟨y,h1,rfl⟩,⟨z,h2,rfl⟩⟩
    exact ⟨_,⟨h1,_,h2,rfl⟩,rfl⟩
theorem iI (h1:ay D1) (h2:ay D2) (hD:fg D1 D2=D) (hv:aD vs Vs) (hv4:Vs.length≤4) (hu:aD us Us) (hu4:Us.length≤100):HB w (dI w req D) (gt P e1 e2) P [(e1,af d1),(d1,ac w i0 i1 i2 i3 u1 r1 D1),(u1,ab vs n1),(r1,ab #[] o1),(e2,af d2),(d2,ac w j0 j1 j2 j3 u2 r2 D2),(u2,ab us n2),(r2,ab #[] o2)] b t tb gl:=by
  subst hD
  exact mE h1 h2 hv hv4 hu hu4
noncomputable def p5:Rs :=
cW (dI w [12,14,16,18,20,22,24,26] (fg D1 D2)) dy (aV 93 [rf e1,rf e2]) ⟨861,38,861,75⟩ [(e1,af d1),(d1,ac w i10 i11 i12 i13 u1 r1 D1),(u1,ab vs1 n1),(r1,ab #[] o1),(e2,af d2),(d2,ac w i20 i21 i22 i23 u2 r2 D2),(u2,ab vs2 n2),(r2,ab #[] o2)] b (t+3) tb gl fun b1 t1 ak =>
cW (dI w [4,6,8,10,28,30,32,34] (cN D0 D1 D2)) dy (aV 93 [rf e0,rf (ak.n 0)]) ⟨861,12,861,76⟩ [(e0,af d0),(d0,ac w i00 i01 i02 i03 u0 r0 D0),(u0,ab vs0 n0),(r0,ab #[] o0),(ak.n 0,af (ak.n 1)),(ak.n 1,ac w (ak.n 10) (ak.n 11) (ak.n 12) (ak.n 13) (ak.n 2) (ak.n 3) (fg D1 D2)),(ak.n 2,ab (ak.a 0) (ak.n 4)),(ak.n 3,ab #[] (ak.n 5))] b1 t1 tb gl fun b2 t2 aw =>
ip dy (bw 6) ⟨861,4,861,9⟩ [(874,cn 10 w (pk [(9,t2)] κ) (pk [(2,rf 880),(6,wv),(9,rf (aw.n 0))] ν)),(880,ab #[rf e0,rf e1,rf e2] me),(e0,af d0),(d0,ac w i00 i01 i02 i03 u0 r0 D0),(u0,ab vs0 n0),(r0,ab #[] o0),(e1,af d1),(d1,ac w i10 i11 i12 i13 u1 r1 D1),(u1,ab vs1 n1),(r1,ab #[] o1),(e2,af d2),(d2,ac w i20 i21 i22 i23 u2 r2 D2),(u2,ab vs2 n2),(r2,ab #[] o2),(aw.n 0,af (aw.n 1)),(aw.n 1,ac w (aw.n 10) (aw.n 11) (aw.n 12) (aw.n 13) (aw.n 2) (aw.n 3) (cN D0 D1 D2)),(aw.n 2,ab (aw.a 0) (aw.n 4)),(aw.n 3,ab #[] (aw.n 5))] b2 (t2+1) tb gl
theorem p5':c4 w dy P (bw 5) [(874,hZ 9 w κ (pk [(2,rf 880)] ν) wv),(880,ab #[rf e0,rf e1,rf e2] me),(e0,af d0),(d0,ac w i00 i01 i02 i03 u0 r0 D0),(u0,ab vs0 n0),(r0,ab #[] o0),(e1,af d1),(d1,ac w i10 i11 i12 i13 u1 r1 D1),(u1,ab vs1 n1),(r1,ab #[] o1),(e2,af d2),(d2,ac w i20 i21 i22 i23 u2 r2 D2),(u2,ab vs2 n2),(r2,ab #[] o2)] b t tb gl [0,2,4,6,8,10,12,14,16,18,20,22,24,26,36,38,40,42] 4 [0x1321212020220221212020220421212020220,1,0x11000] [3,5,0] [] [] (@p5 b t me e0 d0 u0 r0 n0 o0 i00 i01 i02 i03 e1 d1 u1 r1 n1 o1 i10 i11 i12 i13 e2 d2 u2 r2 n2 o2 i20 i21 i22 i23 κ ν wv D0 D1 D2 vs0 vs1 vs2 tb gl w):=by kernel_rfl
theorem end5 {eL dL uL rL nL oL iL0 iL1 iL2 iL3 mr md w0 m0 w1 m1 w2 m2:Nat} {cv cw:Option Value} {vsL ws0 ws1 ws2:Array Value} {Ws0 Ws1 Ws2:List Str} (hg:∀ g∈gl,g = .finished) (hD0:ay D0) (hW0:aJ Ws0) (hn0:Ws0.length≤4) (hw0:aD ws0 Ws0) (hu0:aD vs0 Ws0) (hD1:ay D1) (hW1:aJ Ws1) (hn1:Ws1.length≤4) (hw1:aD ws1 Ws1) (hu1:aD vs1 Ws1) (hD2:ay D2) (hW2:aJ Ws2) (hn2:Ws2.length≤4) (hw2:aD ws2 Ws2) (hu2:aD vs2 Ws2) (hu3:aD vsL (dW Ws0 Ws1 Ws2)):Ends (Vp w) dy P (bw 5) ([(874,hZ 9 w κ (pk [(2,rf 880)] (pk [(8,rf eL)] (pk [(1,rf 879)] ν))) wv),(880,ab #[rf e0,rf e1,rf e2] me),(e0,af d0),(d0,ac w i00 i01 i02 i03 u0 r0 D0),(u0,ab vs0 n0),(r0,ab #[] o0),(e1,af d1),(d1,ac w i10 i11 i12 i13 u1 r1 D1),(u1,ab vs1 n1),(r1,ab #[] o1),(e2,af d2),(d2,ac w i20 i21 i22 i23 u2 r2 D2),(u2,ab vs2 n2),(r2,ab #[] o2)]++[(875,ah (rf 878)),(878,ab #[rf w0,rf w1,rf w2] mr),(w0,ab ws0 m0),(w1,ab ws1 m1),(w2,ab ws2 m2),(876,aE cw),(eL,af dL),(dL,ac w iL0 iL1 iL2 iL3 uL rL (cN D0 D1 D2)),(uL,ab vsL nL),(rL,ab #[] oL),(879,ab #[D0,D1,D2] md),(877,aE cv)]) b t (cb tb) gl:=by
  refine qE [(875,ah (.ref 878)),(878,ab #[.ref w0,.ref w1,.ref w2] mr),(w0,ab ws0 m0),(w1,ab ws1 m1),(w2,ab ws2 m2),(876,aE cw),(eL,af dL),(dL,ac w iL0 iL1 iL2 iL3 uL rL (cN D0 D1 D2)),(uL,ab vsL nL),(rL,ab #[] oL),(879,ab #[D0,D1,D2] md),(877,aE cv)] (p5' (κ:=κ) (ν:=pk [(8,.ref eL)] (pk [(1,.ref 879)] ν))) rfl fun s hs Ξ ar=>?_
  refine gH rfl (iI hD1 hD2 rfl hu1 hn1 hu2 (kf hn2)) fun b1 t1 ak _ _ hk1 _=>?_
  refine gH rfl (iI hD0 (i4 hD1 hD2) pick_as hu0 hn0 (gc hu1 hu2 hk1) (kf (mR hn1))) fun b2 t2 aw _ _ hk2 ha2=>?_
  exact gC rfl ar fun s' hA hF=>Ends.use hs hA hF (ae (.inl (.head _)) (ae (.inl Y1) (ae (.inl Y2) (ae (.inl Y3) (ae (.inl Y4) (ae (.inl Y5) (ae (.inl Y6) (ae (.inl Y7) (ae (.inl Y8) (ae (.inl (mI 9 rfl)) (ae (.inl (mI 10 rfl)) (ae (.inl (mI 11 rfl)) (ae (.inl (mI 12 rfl)) (ae (.inl (mI 13 rfl)) (ae (.inr (bT (by show b≤_;omega) (ha2 _ (.head _)).1)) (ae (.inr (bT (by show b≤_;omega) (ha2 _ Y1).1)) (ae (.inr (bT (by show b≤_;omega) (ha2 _ Y2).1)) (ao (.inr (bT (by show b≤_;omega) (ha2 _ Y3).1)))))))))))))))))))) [0,18,19,20,21,22,23,24,25,26,27,14,15,16,17,28,1,2,3,4,5,6,7,8,9,10,11,12,13,29] rfl (by decide) (end6 (κ:=pk [(9,t2)] κ) (ν:=ν) (wv:=wv) (eL:=eL) (eR:=aw.n 0) hg hD0 hW0 (Nat.le_trans hn0 (by decide)) hw0 hu0 hD1 hW1 (Nat.le_trans hn1 (by decide)) hw1 hu1 hD2 hW2 (Nat.le_trans hn2 (by decide)) hw2 hu2 hu3 (mQ ▸ gc hu0 (gc hu1 hu2 hk1) hk2))
noncomputable def p4:Rs :=
cW (dI w [4,6,8,10,12,14,16,18] (fg D0 D1)) dy (aV 93 [rf e0,rf e1]) ⟨860,25,860,62⟩ [(e0,af d0),(d0,ac w i00 i01 i02 i03 u0 r0 D0),(u0,ab vs0 n0),(r0,ab #[] o0),(e1,af d1),(d1,ac w i10 i11 i12 i13 u1 r1 D1),(u1,ab vs1 n1),(r1,ab #[] o1)] b (t+2) tb gl fun b1 t1 ak =>
cW (dI w [28,30,32,34,20,22,24,26] (cN D0 D1 D2)) dy (aV 93 [rf (ak.n 0),rf e2]) ⟨860,11,860,75⟩ [(ak.n 0,af (ak.n 1)),(ak.n 1,ac w (ak.n 10) (ak.n 11) (ak.n 12) (ak.n 13) (ak.n 2) (ak.n 3) (fg D0 D1)),(ak.n 2,ab (ak.a 0) (ak.n 4)),(ak.n 3,ab #[] (ak.n 5)),(e2,af d2),(d2,ac w i20 i21 i22 i23 u2 r2 D2),(u2,ab vs2 n2),(r2,ab #[] o2)] b1 (t1+1) tb gl fun b2 t2 aw =>
ip dy (bw 5) ⟨860,4,860,8⟩ [(874,cn 9 w (pk [(8,t2)] κ) (pk [(2,rf 880),(6,wv),(8,rf (aw.n 0))] ν)),(880,ab #[rf e0,rf e1,rf e2] me),(e0,af d0),(d0,ac w i00 i01 i02 i03 u0 r0 D0),(u0,ab vs0 n0),(r0,ab #[] o0),(e1,af d1),(d1,ac w i10 i11 i12 i13 u1 r1 D1),(u1,ab vs1 n1),(r1,ab #[] o1),(e2,af d2),(d2,ac w i20 i21 i22 i23 u2 r2 D2),(u2,ab vs2 n2),(r2,ab #[] o2),(aw.n 0,af (aw.n 1)),(aw.n 1,ac w (aw.n 10) (aw.n 11) (aw.n 12) (aw.n 13) (aw.n 2) (aw.n 3) (cN D0 D1 D2)),(aw.n 2,ab (aw.a 0) (aw.n 4)),(aw.n 3,ab #[] (aw.n 5))] b2 (t2+1) tb gl
theorem p4':c4 w dy P (bw 4) [(874,hZ 8 w κ (pk [(2,rf 880)] ν) wv),(880,ab #[rf e0,rf e1,rf e2] me),(e0,af d0),(d0,ac w i00 i01 i02 i03 u0 r0 D0),(u0,ab vs0 n0),(r0,ab #[] o0),(e1,af d1),(d1,ac w i10 i11 i12 i13 u1 r1 D1),(u1,ab vs1 n1),(r1,ab #[] o1),(e2,af d2),(d2,ac w i20 i21 i22 i23 u2 r2 D2),(u2,ab vs2 n2),(r2,ab #[] o2)] b t tb gl [0,2,4,6,8,10,12,14,16,18,20,22,24,26,36,38,40,42] 6 [0x1321212020220221212020220,0x1321212020220,0x11000] [2,5,0] [] [] (@p4 b t me e0 d0 u0 r0 n0 o0 i00 i01 i02 i03 e1 d1 u1 r1 n1 o1 i10 i11 i12 i13 e2 d2 u2 r2 n2 o2 i20 i21 i22 i23 κ ν wv D0 D1 D2 vs0 vs1 vs2 tb gl w):=by kernel_rfl
theorem end4 {mr md w0 m0 w1 m1 w2 m2:Nat} {cv cw:Option Value} {ws0 ws1 ws2:Array Value} {Ws0 Ws1 Ws2:List Str} (hg:∀ g∈gl,g = .finished) (hD0:ay D0) (hW0:aJ Ws0) (hn0:Ws0.length≤4) (hw0:aD ws0 Ws0) (hu0:aD vs0 Ws0) (hD1:ay D1) (hW1:aJ Ws1) (hn1:Ws1.length≤4) (hw1:aD ws1 Ws1) (hu1:aD vs1 Ws1) (hD2:ay D2) (hW2:aJ Ws2) (hn2:Ws2.length≤4) (hw2:aD ws2 Ws2) (hu2:aD vs2 Ws2):Ends (Vp w) dy P (bw 4) ([(874,hZ 8 w κ (pk [(2,rf 880)] (pk [(1,rf 879)] ν)) wv),(880,ab #[rf e0,rf e1,rf e2] me),(e0,af d0),(d0,ac w i00 i01 i02 i03 u0 r0 D0),(u0,ab vs0 n0),(r0,ab #[] o0),(e1,af d1),(d1,ac w i10 i11 i12 i13 u1 r1 D1),(u1,ab vs1 n1),(r1,ab #[] o1),(e2,af d2),(d2,ac w i20 i21 i22 i23 u2 r2 D2),(u2,ab vs2 n2),(r2,ab #[] o2)]++[(875,ah (rf 878)),(878,ab #[rf w0,rf w1,rf w2] mr),(w0,ab ws0 m0),(w1,ab ws1 m1),(w2,ab ws2 m2),(876,aE cw),(879,ab #[D0,D1,D2] md),(877,aE cv)]) b t (cb tb) gl:=by
  refine qE [(875,ah (.ref 878)),(878,ab #[.ref w0,.ref w1,.ref w2] mr),(w0,ab ws0 m0),(w1,ab ws1 m1),(w2,ab ws2 m2),(876,aE cw),(879,ab #[D0,D1,D2] md),(877,aE cv)] (p4' (κ:=κ) (ν:=pk [(1,.ref 879)] ν)) rfl fun s hs Ξ ar=>?_
  refine gH rfl (iI hD0 hD1 rfl hu0 hn0 hu1 (kf hn1)) fun b1 t1 ak _ _ hk1 _=>?_
  refine gH rfl (iI (i4 hD0 hD1) hD2 rfl (gc hu0 hu1 hk1) (mR hn0) hu2 (kf hn2)) fun b2 t2 aw _ _ hk2 ha2=>?_
  exact gC rfl ar fun s' hA hF=>Ends.use hs hA hF (ae (.inl (.head _)) (ae (.inl Y1) (ae (.inl Y2) (ae (.inl Y3) (ae (.inl Y4) (ae (.inl Y5) (ae (.inl Y6) (ae (.inl Y7) (ae (.inl Y8) (ae (.inl (mI 9 rfl)) (ae (.inl (mI 10 rfl)) (ae (.inl (mI 11 rfl)) (ae (.inl (mI 12 rfl)) (ae (.inl (mI 13 rfl)) (ae (.inr (bT (by show b≤_;omega) (ha2 _ (.head _)).1)) (ae (.inr (bT (by show b≤_;omega) (ha2 _ Y1).1)) (ae (.inr (bT (by show b≤_;omega) (ha2 _ Y2).1)) (ao (.inr (bT (by show b≤_;omega) (ha2 _ Y3).1)))))))))))))))))))) [0,1,2,3,4,5,6,7,8,9,10,11,12,13,18,19,20,21,22,23,14,15,16,17,24,25] rfl (by decide) (end5 (κ:=pk [(8,t2)] κ) (ν:=ν) (wv:=wv) (eL:=aw.n 0) hg hD0 hW0 hn0 hw0 hu0 hD1 hW1 hn1 hw1 hu1 hD2 hW2 hn2 hw2 hu2 (in_left ▸ gc (gc hu0 hu1 hk1) hu2 hk2))
end
section
variable {t m:Nat} {ns:Array Value} {w:World}
theorem Ends.use0 {V:Vw} {Γ:Ctx} {p:Pos} {t:Sem Fin} {o:Obj} {Y:ax} {tk b' tk':Nat} {tb tb':Array Value} {gl':List GenState} {s s':Shared} (hs:At V [(873,o)] 874 tk (cb tb) [] s) (hA:At V ((873,o) :: Y) b' tk' [(795,tb')] gl' s') (hF:Fr [873] [(795,tb')] s s') (hY:∀ a∈Y.map (·.1),874≤a) (I:List Nat) (hI:fW Y.length I=true) (hn:I.Nodup) (H:Ends V Γ p t (sel Y I) b' tk' [(795,tb')] gl'):∃ r s'',Runs (cg V) Γ p t [] s' (.ret r) s''∧d7 [] s r s'':=by
  have hA2:At V Y b' tk' [(795,tb')] gl' s':=⟨hA.base,hA.tab,fun x hx=>hA.olds x (.tail _ hx),(List.nodup_cons.mp hA.nd).2,fun x hx=>hA.hi x (.tail _ hx),hA.size,hA.toks,hA.gens,hA.lo⟩
  obtain ⟨r,s'',hr,h⟩:=H s' (hA2.sel hI hn)
  refine ⟨r,s'',hr,h.res,fun a o' e _ q2=>?_,Nat.le_trans hF.size h.size,h.os.trans hF.os,h.drawn.trans hF.drawn,h.tab,h.gens⟩
  have hlt:a < 874:=by
    have:=Heap.lt_size e
    rw [hs.size] at this;exact this
  refine h.keep a o' ?_ (fun hm=>?_) q2
  · by_cases h1:a=873
    · subst h1
      have h2:=hs.olds _ (.head _)
      rw [show s.heap.get? 873=some o' from e] at h2
      cases h2
      exact hA.olds _ (.head _)
    · exact hF.keep a o' e (by simpa using h1) (gp q2)
  · obtain ⟨x,hx,rfl⟩:=List.mem_map.mp hm
    exact absurd (hY _ (List.mem_map_of_mem (fV hI x hx))) (Nat.not_le.mpr hlt)
theorem le {ds:List Nat} (h:∀ d∈ds,d < 5):∀ W∈ds.map Wd,∃ d,d < 5∧W=Wd d:=fun W hW=>by
  obtain ⟨d,hd,rfl⟩:=List.mem_map.mp hW
  exact ⟨d,h d hd,rfl⟩
theorem jl {ds:List Nat} (h:ds.length≤4):(ds.map Wd).length≤4:=by rw [List.length_map];exact h
theorem hgF:∀ g∈(ij:List GenState),g = .finished:=fun g h=>by simpa using h
theorem hC (n:Nat) (h:Nat.ble 874 n=true):874≤n:=Nat.le_of_ble_eq_true h
noncomputable def lawA:Rs :=
rH (hkF0 w [0,1,3,9,11,13,17]) ⟨aH (bt (az aR) 3) (rf 882) au,none,none,[(bW aR au,⟨847,17,847,25⟩),(aI,p0)],none⟩ ⟨847,17,847,25⟩ [(873,ab ns m),(874,d14w w t (rf 873) (t+1) (rf 879) (t+2) (rf 880)),(875,ah (rf 878)),(878,ab #[] 0),(879,ab #[] 0),(880,ab #[] 0),(882,av 0 3)] (874+9) (t+6) [(795,#[])] [] fun b1 t1 ak =>
rC dy (bw 4) ⟨847,17,847,25⟩ [(873,ab ns m),(874,jg w (ak.n 0) (rf 873) (ak.n 1) (rf 879) (ak.n 2) (rf 880) (ak.n 3) (ak.v 0) (ak.n 4) (ak.v 1) (ak.n 5) (ak.v 2) (ak.n 6) (ak.v 3) (ak.n 7) (ak.v 4)),(875,ah (rf 878)),(876,aE none),(877,aE none),(878,ab #[rf (ak.n 20),rf (ak.n 40),rf (ak.n 60)] (ak.n 10)),(879,ab #[ak.v 10,ak.v 11,ak.v 12] (ak.n 11)),(880,ab #[rf (ak.n 22),rf (ak.n 42),rf (ak.n 62)] (ak.n 12)),(ak.n 8,aB (ak.a 0)),(ak.n 20,ab (ak.a 1) (ak.n 21)),(ak.n 22,af (ak.n 23)),(ak.n 23,ac w (ak.n 28) (ak.n 29) (ak.n 30) (ak.n 31) (ak.n 24) (ak.n 25) (ak.v 10)),(ak.n 24,ab (ak.a 2) (ak.n 26)),(ak.n 25,ab #[] (ak.n 27)),(ak.n 40,ab (ak.a 3) (ak.n 41)),(ak.n 42,af (ak.n 43)),(ak.n 43,ac w (ak.n 48) (ak.n 49) (ak.n 50) (ak.n 51) (ak.n 44) (ak.n 45) (ak.v 11)),(ak.n 44,ab (ak.a 4) (ak.n 46)),(ak.n 45,ab #[] (ak.n 47)),(ak.n 60,ab (ak.a 5) (ak.n 61)),(ak.n 62,af (ak.n 63)),(ak.n 63,ac w (ak.n 68) (ak.n 69) (ak.n 70) (ak.n 71) (ak.n 64) (ak.n 65) (ak.v 12)),(ak.n 64,ab (ak.a 6) (ak.n 66)),(ak.n 65,ab #[] (ak.n 67))] b1 t1 [(795,#[.int 780 0,.int 20 0,rf (ak.n 8)])] ij
theorem lawA':ok w (Γ0.enter (aV 872 [rf 873]) none p0) p0 [(873,ab ns m)] 874 t [(795,#[])] [] [0,1,3,5,7,9,11,13,2,4,6,8,10,12,14,16,18,20,22,24,26,28,30,32] 8 [0x102921f01f01f11f21f01f41f11f11f01f28101181011830319101,1] [0,0] [] [9] (@lawA t m ns w):=by revert w;refine @bs _ ?_ ?_<;>intro w<;>kernel_rfl
theorem law_run {s:Shared} (hm:ns.size≤1000) (hi:AllInts ns) (hs:At (Vp w) [(873,ab ns m)] 874 t [(795,#[])] [] s):wpCode (cg (Vp w)) (Γ0.enter (aV 872 [.ref 873]) none p0) (d7 [] s) p0 s:=by
  refine qC lawA' rfl hs fun Ξ ar=>?_
  refine gH rfl (for_ok0 hm hi) fun b1 t1 ak _ _ hk1 ha1=>?_
  obtain ⟨⟨ds0,hn0,hW0,hw0,hu0,hD0⟩,⟨ds1,hn1,hW1,hw1,hu1,hD1⟩,⟨ds2,hn2,hW2,hw2,hu2,hD2⟩⟩:=hk1
  exact gC rfl ar fun s' hA hF=>Ends.use0 hs hA hF (ae (hC 874 rfl) (ae (hC 875 rfl) (ae (hC 876 rfl) (ae (hC 877 rfl) (ae (hC 878 rfl) (ae (hC 879 rfl) (ae (hC 880 rfl) (ae (bT (by show 874≤883;decide) (ha1 _ (.head _)).1) (ae (bT (by show 874≤883;decide) (ha1 _ Y1).1) (ae (bT (by show 874≤883;decide) (ha1 _ Y2).1) (ae (bT (by show 874≤883;decide) (ha1 _ Y3).1) (ae (bT (by show 874≤883;decide) (ha1 _ Y4).1) (ae (bT (by show 874≤883;decide) (ha1 _ Y5).1) (ae (bT (by show 874≤883;decide) (ha1 _ Y6).1) (ae (bT (by show 874≤883;decide) (ha1 _ Y7).1) (ae (bT (by show 874≤883;decide) (ha1 _ Y8).1) (ae (bT (by show 874≤883;decide) (ha1 _ (mI 9 rfl)).1) (ae (bT (by show 874≤883;decide) (ha1 _ (mI 10 rfl)).1) (ae (bT (by show 874≤883;decide) (ha1 _ (mI 11 rfl)).1) (ae (bT (by show 874≤883;decide) (ha1 _ (mI 12 rfl)).1) (ae (bT (by show 874≤883;decide) (ha1 _ (mI 13 rfl)).1) (ae (bT (by show 874≤883;decide) (ha1 _ (mI 14 rfl)).1) (ao (bT (by show 874≤883;decide) (ha1 _ (mI 15 rfl)).1)))))))))))))))))))))))) [0,6,9,10,11,12,14,15,16,17,19,20,21,22,1,4,8,13,18,2,5,3] rfl (by decide) (end4 (κ:=pk [(0,ak.n 0),(1,ak.n 1),(2,ak.n 2),(3,ak.n 3),(4,ak.n 4),(5,ak.n 5),(6,ak.n 6),(7,ak.n 7)] fun _=>0) (ν:=pk [(0,.ref 873),(3,ak.v 0),(4,ak.v 1),(5,ak.v 2),(7,ak.v 4)] fun _=>.none) (wv:=ak.v 3) hgF hD0 (le hW0) (jl hn0) hw0 hu0 hD1 (le hW1) (jl hn1) hw1 hu1 hD2 (le hW2) (jl hn2) hw2 hu2)
end
noncomputable def il:Sem Fin:=(callStub (aX "law") [.ref 873]).cur
noncomputable def kOf:Sem Fin→Obj→Sem Fin
  | .load _ _ k,o=>k o
  | t,_=>t
noncomputable def kC:Sem Fin→Result→Sem Fin
  | .call _ _ _ _ k,r=>k r
  | t,_=>t
theorem kB:il = .load 3 (some (.str (aX "law") 0)) (kOf il):=by kernel_rfl
theorem kD (P:Params):kOf il (o3 P) = .call (aV 872 [.ref 873]) none false [] (kC (kOf il (o3 P))):=by kernel_rfl
theorem lq (P:Params) (v:Value):kC (kOf il (o3 P)) (.ok (.ret v)) = .pure (.done (.ret v)):=by kernel_rfl
theorem jE:(default:Pos)=p0:=rfl
theorem kA {w:World} {s:Shared} (h3:s.heap.get? 3=some (o3w w)) (h:wpCode (cg (Vp w)) (Γ0.enter (aV 872 [.ref 873]) none p0) (d7 [] s) p0 s) :
    ∃ s',Runs (model pw w) Γ0 default il [] s (.ret (.ok (.ret (.bool true)))) s'∧d7 [] s (.ok (.ret (.bool true))) s':=by
  obtain ⟨r,s',hr,hΦ⟩:=h
  have e:=hΦ.res
  subst e
  refine ⟨s',?_,hΦ⟩
  rw [show model pw w=cg (Vp w) from dv (Vp w),kB,jE]
  refine .load h3 ?_
  rw [kD]
  refine .call hr ?_
  rw [lq]
  exact .done
theorem jd {c:ClaimW} {tree:List Value→Sem Fin} {w:World} {s:Shared} {free:Addr→Prop} {gens:Prop} {kept:Heap→Prop} (hz:s.asleep) (hgens:s.gens = #[])
    (hspec:∀ args,c.pre args=true→WData.layableAll args=true→∀ ord:List DictEntry→List DictEntry,(∀ l,(ord l).Perm l) →
      ∃ vs s₁,layAllW c.records (classAt s.heap) w.params ord args s=some (vs,s₁)∧∃ r s',Runs (model c.prog w) Γ0 default (tree vs) [] s₁ (.ret r) s'∧(c.Ends s args vs s₁ r s'∧s'.os=s.os∧kept s'.heap)∧leftWithCleanup s'.gens=false) :
    c.CallFrom (fun vs=>⟨tree vs,.builtin "claim.caller" {},default,[]⟩) w free gens kept s:=by
  intro args hpre hlay ord hord
  obtain ⟨vs,s₁,hlaid,hrun⟩:=hspec args hpre hlay ord hord
  have hal:=layAllW_rest _ _ _ hlaid
  obtain ⟨k,r,s'',s',hsched,hrunN,hfo,hcase,hos,hkp⟩:=wp_halts_full (M:=model c.prog w) (R:=fun r s'=>c.Ends s args vs s₁ r s'∧s'.os=s.os∧kept s'.heap) (Shared.asleep_of_life hal.2.2.2 hz)
    ((Sem.wp_iff_runs _ _ _ _ _ _).mpr hrun)
  obtain ⟨eh,_,_,eo,_⟩:=Shared.forget_eq hfo
  have hcase:=hcase.congr eh
  rw [← eh] at hkp
  rw [← eo] at hos
  have hlife:s'.heap.life=s.heap.life:=(runN_life _ _ _ hrunN).trans hal.2.2.2
  refine ⟨vs,s₁,hlaid,k,_,s',hsched,?_,(fun _ i x hx=>by rw [hgens] at hx;simp at hx),hkp,by rw [hlife],Shared.rest_eq hos⟩
  rcases hcase with ⟨v,rfl,d1,d2,d3,d4,d5⟩ | ⟨e,ob,cls,rfl,d1,d2,d3,d4,d5⟩
  · exact .inl ⟨v,rfl,d1,d2,d3,fun b o y _=>d4 b o y,d5⟩
  · exact .inr ⟨e,ob,cls,rfl,d1,d2,d3,d4,fun b o y _=>d5 b o y⟩
noncomputable abbrev lw:OpenLaw:=PySem.Challenge.rw_ik0134_01
noncomputable abbrev kb:RowW:=lw.row.toRowW
theorem i6 {R:WRecords} {cl:Str→Option Addr} {P:Params} {ord:List DictEntry→List DictEntry}:∀ (xs:List WData) (s:Shared),WShape.hasItems R xs .int=true →
    ∃ vs t,layAllW R cl P ord xs s=some (vs,{ s with toks:=t })∧(∀ v,v∈vs→∃ a t,v = .int a t)∧vs.length=xs.length
  | [],s,_=>⟨[],s.toks,rfl,(fun v h=>by simp at h),rfl⟩
  | x :: xs,s,h=>by
    have h:WShape.has R x .int=true∧WShape.hasItems R xs .int=true:=by simpa [WShape.hasItems] using h
    obtain ⟨i,rfl⟩:=hasW_int h.1
    obtain ⟨vs,t,e,hv,hl⟩:=i6 (R:=R) (cl:=cl) (P:=P) (ord:=ord) xs { s with toks:=s.toks+1 } h.2
    refine ⟨.int i s.toks :: vs,t,?_,?_,by simp [hl]⟩
    · simp only [layAllW,layW,e]
    · intro v hv'
      rcases List.mem_cons.mp hv' with rfl | hv'
      · exact ⟨_,_,rfl⟩
      · exact hv v hv'
theorem lw_pre:lw.pre = .and (.not (.lt (.lit (.int 63)) (.len (.arg 0)))) (.lit (.bool true)):=rfl
theorem pre_len {xs:List WData} (h:lw.pre.holds [] { args:=[.list xs] } = true):xs.length≤63:=by
  rw [lw_pre] at h
  have e1:WTm.value [] (.lt (.lit (.int 63)) (.len (.arg 0))) { args:=[.list xs] } = some (.bool (decide ((63:Int) < xs.length))):=by
    simp only [WTm.value,less?]
    rfl
  by_cases q:(63:Int) < xs.length
  · exfalso
    have e2:WTm.value [] (.and (.not (.lt (.lit (.int 63)) (.len (.arg 0)))) (.lit (.bool true))) { args:=[.list xs] } = some (.bool false):=by
      simp only [WTm.value] at e1 ⊢
      rw [e1];simp [q]
    unfold WTm.holds at h
    rw [e2] at h
    cases h
  · omega
theorem Vp_top (w:World):kh w=(Vp w).kt:=by kernel_rfl
theorem kt3 (w:World):(Vp w).kt.get 3=some (o3w w):=by kernel_rfl
theorem kt795 (w:World):(Vp w).kt.get 795=some (tableObj #[]):=by kernel_rfl
theorem kt799 (w:World):(Vp w).kt.get 799=some (o799w w):=by kernel_rfl
theorem kt_KA (w:World) {a:Nat} {o:Obj} (h:(Vp w).kt.get a=some o):a∈KA:=by
  rw [Vp_kt] at h
  rcases ga _ _ _ _ h with e | e
  · rw [KA_eq] at e;exact e
  · simp [KT.get] at e
theorem at_gen {V:Vw} {K:List Addr} {s:Shared} (hK:∀ a o,V.kt.get a=some o→a∈K) (hk:∀ a,a∈K→s.heap.get? a=V.kt.get a) (h1:795∈K) (h2:V.kt.get 795=some (tableObj #[])) (hn:V.n₁=873) (hs:s.heap.objs.size=873) (hg:s.gens = #[]) (o:Obj) (ho:o.isFreed=false) (t:Nat) :
    At V [(873,o)] 874 t [(795,#[])] [] { s with toks:=t,heap:=s.heap.push o }:=by
  have hp:∀ a x,s.heap.get? a=some x→(s.heap.push o).get? a=some x:=fun a x h=>Heap.get?_push_of_some _ h
  refine ⟨fun a x h _=>hp _ _ ?_,fun a us h=>?_,fun x hx=>?_,by simp,fun x hx=>?_,?_,rfl,hg,?_⟩
  · rw [hk a (hK a x h)];exact h
  · by_cases e:a=795
    · subst e
      have e2:us = #[]:=by
        have:some (#[]:Array Value)=some us:=h
        cases this;rfl
      subst e2
      refine ⟨by rw [hn];decide,hp _ _ ?_⟩
      rw [hk 795 h1,h2]
    · rw [gp e] at h;cases h
  · rcases List.mem_singleton.mp hx with rfl
    show (s.heap.push o).get? 873=some o
    refine Heap.get?_some_iff.mpr ⟨?_,ho⟩
    rw [Heap.objs_push,← hs]
    simp
  · rcases List.mem_singleton.mp hx with rfl
    exact ⟨by rw [hn];exact Nat.le_refl _,by show 873 < 874;decide⟩
  · show (s.heap.objs.push _).size=874
    rw [Array.size_push,hs]
  · rw [hn];decide
theorem iB {w:World} {s:Shared} (y:YfL s=YaL w):s.heap.objs.size=873∧∀ a,a∈KA→s.heap.get? a=(Vp w).kt.get a:=by
  unfold YfL YaL at y
  rw [Vp_top w] at y
  obtain ⟨y1,y2⟩:=Prod.mk.inj y
  obtain ⟨_,y3⟩:=Prod.mk.inj y2
  exact ⟨y1,fun a ha=>List.map_inj_left.mp y3 a ha⟩
theorem mem795:795∈KA:=by decide
theorem mem3:3∈KA:=by decide
theorem mem799:799∈KA:=by decide
theorem no {w:World} {s:Shared} (y:YfL s=YaL w) (hg:s.gens = #[]) (vs:List Value) (t:Nat) :
    At (Vp w) [(873,ab vs.toArray 0)] 874 t [(795,#[])] [] { s with toks:=t,heap:=s.heap.push (ab vs.toArray 0) } :=
  at_gen (V:=Vp w) (fun a o=>kt_KA w) (iB y).2 mem795 (kt795 w) (Vp_n w) (iB y).1 hg (ab vs.toArray 0) rfl t
theorem old_ok {s₁ s':Shared} {r:Result} {o9:Obj} {F:Array Value} (h:d7 [] s₁ r s') (h1:s₁.heap.get? 795=some (tableObj #[])) (h2:s₁.heap.get? 799=some o9) (h3:o9.cls = .type "code") (h4:o9.data = .fields F) (h5:F[11]?=some (.ref 795)):OldK s₁.heap s'.heap:=by
  obtain ⟨vs,hv⟩:=h.tab
  refine ⟨fun b o e=>?_,fun b o e=>?_⟩
  · by_cases hb:b=795
    · subst hb
      rw [h1] at e
      cases e
      exact .inr (.inl ⟨⟨799,o9,F,h2,h3,h4,h5⟩,rfl,#[],vs,rfl,by rw [hv];simp [tableObj]⟩)
    · exact .inl (h.keep b o e (by simp) hb)
  · by_cases hb:b=795
    · subst hb
      exact ⟨_,hv⟩
    · exact ⟨o,h.keep b o e (by simp) hb⟩
theorem bare_ok {s₁ s':Shared} {r:Result} {A:List Addr} (h:d7 A s₁ r s'):AllBare s'.gens:=fun g hg=>by
  rw [h.gens g hg];rfl
noncomputable abbrev Lw:PySem.Str:=aX "law"
theorem m7:(frees kb && kb.within.isEmpty)=true:=by decide +kernel
theorem ix:chainsOk qw=true:=by decide +kernel
theorem mn:opensWell pw=true:=by decide +kernel
theorem k9:pw.bare:=⟨rfl,rfl,rfl,rfl,rfl,by decide +kernel⟩
theorem gy:kb.promised:=⟨[.list []],by decide +kernel,by decide +kernel⟩
theorem post_ok (args ds:List WData):kb.claim.post args (.bool true) ds=true:=by
  show (WShape.has [] (.bool true) .bool && WTm.holds [] (.eq .res (.lit (.bool true))) { args:=args,res:=some (.bool true),after:=ds })=true
  kernel_rfl
theorem call_ok {w:World} {s:Shared} (y:YfL s=YaL w) (hg:s.gens = #[]) (args:List WData) (hpre:kb.claim.pre args=true) (hlay:WData.layableAll args=true) (ord:List DictEntry→List DictEntry) (hord:∀ l,(ord l).Perm l) :
    ∃ vs s₁,layAllW kb.claim.records (classAt s.heap) w.params ord args s=some (vs,s₁)∧∃ r s',Runs (model kb.claim.prog w) Γ0 default (callStub Lw vs).cur [] s₁ (.ret r) s'∧(kb.claim.Ends s args vs s₁ r s'∧s'.os=s.os∧True)∧leftWithCleanup s'.gens=false:=by
  obtain ⟨h1,h2⟩:=pre_splitW (r:=kb) hpre
  have h1:WShape.hasAll [] args [.list .int]=true:=h1
  obtain ⟨d,r,rfl,hd,hr⟩:=hasAllW_cons h1
  obtain rfl:=hasAllW_nil hr
  obtain ⟨xs,rfl,hxs⟩:=hasW_list hd
  have hlen:=pre_len h2
  obtain ⟨vs,t,e,hv,hl⟩:=i6 (R:=[]) (cl:=classAt s.heap) (P:=w.params) (ord:=ord) xs s hxs
  obtain ⟨y1,y2⟩:=iB y
  have hlaid:layAllW [] (classAt s.heap) w.params ord [.list xs] s=some ([.ref 873],{ s with toks:=t,heap:=s.heap.push (ab vs.toArray 0) }):=by
    simp only [layAllW,layW,e]
    rw [y1]
  have hA:=no y hg vs t
  have h3:=hA.base 3 (o3w w) (kt3 w) (gp (by decide))
  have h9:=hA.base 799 (o799w w) (kt799 w) (gp (by decide))
  have h7:=(hA.tab 795 #[] rfl).2
  obtain ⟨s'',hr,hΦ⟩:=kA h3 (law_run (by rw [List.size_toArray];omega) (fun v hv'=>hv v (List.mem_toArray.mp hv')) hA)
  have hal:=layAllW_rest _ _ _ hlaid
  obtain ⟨as,hrd,hin,hold⟩:=reads_layAllW hord _ _ _ hlaid hlay _ (fun _ _ e=>e)
  have L:Laid [] w s _ [.list xs] [.ref 873] as:=⟨⟨ord,hord,hlaid⟩,hrd,hin,hold,layAllW_keeps _ _ _ hlaid,hal.1.trans hg,hal.2.2.1⟩
  obtain ⟨k5,k6⟩:=Bool.and_eq_true_iff.mp m7
  obtain ⟨hsame,hu,ha,hap,hm⟩:=frees_parts k5
  have hi:=ident_freeW hu ha hap
  have hwi:kb.claim.within=[]:=List.isEmpty_iff.mp k6
  have hgood:GoodWG kb.claim (classAt s.heap) (ExcName.means s.heap) [.list xs] _ (.ok (.ret (.bool true))) s'' :=
    ⟨.inl ⟨.bool true,.bool true,[],rfl,fun cls=>rfl,.bool true,post_ok _ _,fun _=>⟨.nil,fun a h=>(nomatch h)⟩⟩,old_ok hΦ h7 h9 rfl rfl rfl,hΦ.os,bare_ok hΦ⟩
  obtain ⟨z1,z2,z3⟩:=hgood.laid (c:=kb.claim) hsame hwi hi L
  exact ⟨[.ref 873],_,hlaid,_,s'',hr,⟨z1,z2,trivial⟩,leftWithCleanup_false_of_bare z3⟩
theorem kv:(defOf qw Lw).isSome=true:=by decide +kernel
noncomputable def dl:DefRec×List (Str×Expr):=(defOf qw Lw).get kv
theorem dl_def:defOf qw Lw=some (dl.1,dl.2):=(Option.some_get kv).symm
theorem dl_the:pw.theDef Lw=some (dl.1.params,dl.1.body,dl.1.scope):=by kernel_rfl
theorem dl_kw:kwWritten? dl.1.params.kwonlyargs dl.1.params.kw_defaults=some dl.2:=by kernel_rfl
theorem open_ok:kb.claim.HoldsOpenBy (callStub Lw) [Lw] lw.own false:=by
  refine ⟨⟨k9,mn,rfl⟩,gy.witness,fun w=>⟨(left.behind (XP:=fun _ _=>True) (fun _ _=>trivial) ix w).1,fun s' hs'=>?_⟩⟩
  obtain ⟨s₀,hf,hg0,s,hT,hz,hgens,hg,G,y⟩:=(left.behind (XP:=fun _ _=>True) (fun _ _=>trivial) ix w).2 s' hs'
  have hgens:s.gens = #[]:=Array.eq_empty_of_size_eq_zero (beq_iff_eq.mp hgens)
  refine ⟨s₀,hf,hg0,s,hT,fun n hn=>?_,fun x hx=>(nomatch hx),fun x hx=>(nomatch hx),?_⟩
  · rcases List.mem_singleton.mp hn with rfl
    exact pinned_of_view hg G dl_def dl_the dl_kw
  · refine jd (c:=kb.claim) (tree:=fun vs=>(callStub Lw vs).cur) hz hgens fun args hpre hlay ord hord=>?_
    obtain ⟨vs,s₁,hl,r,s'',hr,⟨h1,h2,_⟩,h3⟩:=call_ok y hgens args hpre hlay ord hord
    exact ⟨vs,s₁,hl,r,s'',hr,⟨h1,h2,fun q=>(nomatch q)⟩,h3⟩
theorem kR (said:lw.row.wellSaid=true):lw.row.Holds:=⟨said,gy,open_ok⟩
theorem law_holds:PySem.Challenge.rw_ik0134_01.Holds:=⟨ka,kR (row_said ka)⟩
end
end Mine
theorem PySem.Challenge.cw_ik0134_01_holds : PySem.Challenge.rw_ik0134_01.Holds := by
  exact Mine.law_holds
