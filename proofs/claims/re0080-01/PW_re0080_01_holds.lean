import PyProof.Rows.All
import PyProof.StrLawsLast
import PyProof.StrLawsIn
import Wide.All
import OpenK.ZGo
import OpenK.AllK
import Wide.FinOn
import PySem.Challenge.RW_re0080_01
set_option Elab.async false
set_option maxRecDepth 100000
set_option linter.all false
set_option genSizeOf false
set_option maxHeartbeats 0
open PySem PySem.W PySem.W.X PyProof.Rows
noncomputable section
namespace Mine
noncomputable abbrev Y0:Str:=⟨#[46,60,108,111,99,97,108,115,62,46]⟩
noncomputable abbrev Y1:Str:=⟨#[115,121,115,46,114,101,99,117,114,115,105,111,110,108,105,109,105,116]⟩
noncomputable abbrev Y2:Str:=⟨#[]⟩
noncomputable abbrev Y3:Str:=⟨#[34]⟩
noncomputable abbrev Y4:Str:=⟨#[10,9,13,32]⟩
noncomputable abbrev Y5:Str:=⟨#[108,105,110,101,110,111]⟩
noncomputable abbrev Y6:Str:=⟨#[105,110,115,116,114,101,97,109]⟩
noncomputable abbrev Y7:Str:=⟨#[119,104,105,116,101,115,112,97,99,101]⟩
noncomputable abbrev Y8:Str:=⟨#[112,117,115,104,98,97,99,107]⟩
noncomputable abbrev Y9:Str:=⟨#[95,108,97,119,95,108,101,120,101,114,46,60,108,111,99,97,108,115,62,46,95,108,97,119,95,114,101,97,100,95,111,110]⟩
noncomputable abbrev Y10:Str:=⟨#[116,101,120,116]⟩
noncomputable abbrev Y11:Str:=⟨#[97,116]⟩
noncomputable abbrev Y12:Str:=⟨#[108,97,119,95,114,101,48,48,56,48,95,48,49]⟩
noncomputable abbrev Y13:Str:=⟨#[114,101,97,100]⟩
noncomputable abbrev Y14:Str:=⟨#[10]⟩
noncomputable abbrev Y15:Str:=⟨#[115,101,108,102]⟩
noncomputable abbrev Y16:Str:=⟨#[116,111,107,101,110]⟩
noncomputable abbrev Y17:Str:=⟨#[102,105,116,101,114]⟩
noncomputable abbrev Y18:Str:=⟨#[99,104]⟩
noncomputable abbrev Y19:Str:=⟨#[92]⟩
noncomputable abbrev Y20:Str:=⟨#[115,116,97,114,116]⟩
noncomputable abbrev Y21:Str:=⟨#[110,97,109,101,115]⟩
noncomputable abbrev Y22:Str:=⟨#[115,116,101,112,115]⟩
noncomputable abbrev Y23:Str:=⟨#[119,97,121,115]⟩
noncomputable abbrev Y24:Str:=⟨#[100,117,101]⟩
noncomputable abbrev Y25:Str:=⟨#[102,97,114]⟩
noncomputable abbrev Y26:Str:=⟨#[115,105,100,101]⟩
noncomputable abbrev Y27:Str:=⟨#[110,117,109,98,101,114]⟩
noncomputable abbrev Y28:Str:=⟨#[103,114,101,97,116,101,114]⟩
noncomputable abbrev Y29:Str:=⟨#[114,105,110,103]⟩
noncomputable abbrev Y30:Str:=⟨#[46]⟩
noncomputable abbrev Y31:Str:=⟨#[115,116,97,110,100]⟩
noncomputable abbrev Y32:Str:=⟨#[98,101,110,100,115]⟩
noncomputable abbrev Y33:Str:=⟨#[115,104,111,119,110]⟩
noncomputable abbrev Y34:Str:=⟨#[107]⟩
noncomputable abbrev Y35:Str:=⟨#[46,46,46]⟩
noncomputable abbrev Y36:Str:=⟨#[58]⟩
noncomputable abbrev Y37:Str:=⟨#[108,101,120,101,114]⟩
noncomputable abbrev Y38:Str:=⟨#[104,105,110,103,101,115]⟩
noncomputable abbrev Y39:Str:=⟨#[116,111,108,100]⟩
noncomputable abbrev Y40:Str:=⟨#[116,117,114,110]⟩
noncomputable abbrev Y41:Str:=⟨#[112,97,114,116,115]⟩
noncomputable abbrev Y42:Str:=⟨#[108,97,115,116]⟩
noncomputable abbrev Y43:Str:=⟨#[60,108,97,109,98,100,97,62]⟩
noncomputable abbrev Y44:Str:=⟨#[95,108,97,119,95,108,101,120,101,114,46,60,108,111,99,97,108,115,62,46,60,108,97,109,98,100,97,62]⟩
noncomputable abbrev Y45:Str:=⟨#[95,108,97,119,95,114,101,97,100,95,111,110]⟩
noncomputable abbrev Y46:Str:=⟨#[47,99,108,97,105,109,47,99,117,116,46,112,121]⟩
noncomputable abbrev Y47:Str:=⟨#[99,101,108,108,115]⟩
noncomputable abbrev Y48:Str:=⟨#[115,99,114,105,112,116]⟩
noncomputable abbrev Y49:Str:=⟨#[99,111,117,110,116]⟩
noncomputable abbrev Y50:Str:=⟨#[97,35,32,40,98,9,41,45]⟩
noncomputable abbrev Y51:Str:=⟨#[102,105,114,115,116]⟩
noncomputable abbrev Y52:Str:=⟨#[119,111,114,100,115]⟩
noncomputable abbrev Y53:Str:=⟨#[97,100,100,114]⟩
noncomputable abbrev Y54:Str:=⟨#[112,111,115]⟩
noncomputable abbrev Y55:Str:=⟨#[101,115,99,97,112,101]⟩
noncomputable abbrev Y56:Str:=⟨#[111,112,101,110,95,112,111,115]⟩
noncomputable abbrev Y57:Str:=⟨#[114,101,115,117,108,116]⟩
theorem cps {p:Prop}(h:∀G:Prop,(p->G)->G):p:=h p id
noncomputable abbrev FD:Code->Sem Fin:=PySem.W.Fast.tw11892475500146522536 PySem.W.Fast.tw14364793385576792824
theorem FD_eq:denote table=FD:=by
  show _=PySem.W.Fast.tw11892475500146522536 PySem.W.Fast.tw14364793385576792824
  rw [table_eq_tree,PySem.W.Fast.te11892475500146522536,PySem.W.Fast.te14364793385576792824]
noncomputable abbrev qt:Code->Bool:=PySem.W.ZFast.zw17772548960776305114
theorem qt_eq:Code.quiet=qt:=PySem.W.ZFast.ze17772548960776305114
noncomputable abbrev cl:Code->Bool:=PySem.W.ZFast.zw2167841511373827401
theorem cl_eq:Code.isCaller=cl:=PySem.W.ZFast.ze2167841511373827401
abbrev Led:=List (Addr×Obj)
structure Sp where
  n:Nat
  c:Code
  L:Led
  res:Result
  L':List Obj
  new:Led
  da:Nat
  dt:Nat
  gn:Nat:=0
inductive Hint where
  | top
  | own (d:Nat)
  | go
  | fn
  | ctr (ds:List Nat) (sp:Nat->Nat->Code->Led->Sp)
inductive Ob where
  | n (a:Nat)
  | c (c:Code)
  | l (p:Led)
noncomputable def lget:Led->Nat->Option (Addr×Obj)
  | [],_=>none
  | p::_,0=>some p
  | _::r,n+1=>lget r n
noncomputable def lmod (f:Obj->Obj):Led->Nat->Led
  | [],_=>[]
  | p::r,0=>(p.1,f p.2)::r
  | p::r,n+1=>p::lmod f r n
noncomputable def gets (L:Led):List Nat->Option Led
  | []=>some []
  | d::ds=>match lget L d with
    | none=>none
    | some p=>match gets L ds with
      | none=>none
      | some l=>some (p::l)
noncomputable def puts:Led->List Nat->List Obj->Option Led
  | L,[],[]=>some L
  | L,d::ds,o::os=>puts (lmod (fun _=>o) L d) ds os
  | _,_,_=>none
noncomputable def memB (a:Nat):List Nat->Bool
  | []=>false
  | b::r=>match Nat.beq a b with
    | true=>true
    | false=>memB a r
noncomputable def nodupB:List Nat->Bool
  | []=>true
  | a::r=>match memB a r with
    | true=>false
    | false=>nodupB r
noncomputable def allAlive:List Obj->Bool
  | []=>true
  | o::r=>match o.isFreed with
    | true=>false
    | false=>allAlive r
structure Out where
  res:Except Value Fin
  L:Led
  off:Nat
  toff:Nat
  g:Nat
  xs:List Ob
  ys:List Ob
noncomputable def fnNE (self:Addr)(fd:FuncData)(args:Args):Sem Fin:=
  PySem.W.R.bindR (match fd.code with
    | .none=>.pure fd.qualname
    | c=>PySem.W.R.bindR (PySem.W.Fast.tw6609576154772507232 c 1) fun v=>match v with
      | .str q _=>.pure q
      | _=>.pure fd.qualname) fun compiled=>
  PySem.W.R.bindR (PySem.W.Fast.tw9782568553167038054 fd args) fun bs=>
  PySem.W.R.bindR (PySem.W.Fast.tw11113344188204177931 fd.scope fd.globals fd.closure bs (compiled++Y0) (some self) fd.code none fd.builtins) fun env=>
  PySem.W.R.bindR (PySem.W.Fast.tw13143150168775219229 cStatics Y1) fun r=>match r with
    | none=>.pure (.again (match fd.body with
      | .stmts b=>.func b env
      | .expr e=>.expr e env))
    | some _=>.unsupported ""
noncomputable def TF (c:Code):Sem Fin:=match c with
  | .call (.ref a) args=>.load a none fun o=>match o.data with
    | .func fd=>match fd.scope.isGenerator||fd.scope.isCoroutine with
      | true=>.unsupported ""
      | false=>fnNE a fd args
    | _=>.unsupported ""
  | _=>.unsupported ""
noncomputable def isCallB:Code->Bool
  | .call ..=>true
  | _=>false
abbrev Kf:=Code×(Result->Sem Fin)
abbrev RT:=List Hint->List Kf->Nat->Code->Sem Fin->Led->Nat->Nat->Nat->List Ob->List Ob->Option Out
noncomputable def topB (a:Nat):Bool:=match Nat.beq a 86 with
  | true=>false
  | false=>Nat.blt a 137
noncomputable def retE (ih:RT)(r:Result)(f:Except Value Fin)(H:List Hint)(κ:List Kf)(n:Nat)(L:Led)(i j g:Nat)(xs ys:List Ob):Option Out:=match κ with
  | []=>some ⟨f,L,i,j,g,xs,ys⟩
  | q::κ=>ih H κ (n+1) q.1 (q.2 r) L i j g xs ys
noncomputable def againE (ih:RT)(c':Code)(H:List Hint)(κ:List Kf)(n:Nat)(L:Led)(i j g:Nat)(xs ys:List Ob):Option Out:=match qt c' with
  | false=>none
  | true=>match κ with
    | []=>match H with
      | .go::H=>ih H [] n c' (FD c') L i j g xs ys
      | .fn::H=>ih H [] n c' (TF c') L i j g xs ys
      | _=>some ⟨.ok (.again c'),L,i,j,g,xs,ys⟩
    | _::_=>match isCallB c' with
      | false=>ih H κ n c' (FD c') L i j g xs ys
      | true=>match H with
        | .go::H=>ih H κ n c' (FD c') L i j g xs ys
        | .fn::H=>ih H κ n c' (TF c') L i j g xs ys
        | _=>none
noncomputable def ctrE (ih:RT)(c':Code)(k:Result->Sem Fin)(ds:List Nat)(l:Led)(p:Sp)(H:List Hint)(κ:List Kf)(n:Nat)(c:Code)(L:Led)(i j g:Nat)(xs ys:List Ob):Option Out:=match Nat.ble p.n n with
  | false=>none
  | true=>match puts L ds p.L' with
    | none=>none
    | some L2=>ih H κ (n+1) c (k p.res) (p.new++L2) (i+p.da) (j+p.dt) (g+p.gn) (.c c'::.l l::xs) (.c p.c::.l p.L::ys)
noncomputable def ctrE' (b tb:Nat)(ih:RT)(c':Code)(k:Result->Sem Fin)(ds:List Nat)(sp:Nat->Nat->Code->Led->Sp)(H:List Hint)(κ:List Kf)(n:Nat)(c:Code)(L:Led)(i j g:Nat)(xs ys:List Ob):Option Out:=match nodupB ds with
  | false=>none
  | true=>match gets L ds with
    | none=>none
    | some l=>ctrE ih c' k ds l (sp (b+i) (tb+j) c' l) H κ n c L i j g xs ys
noncomputable def stepE (kt:KT)(P:Params)(prog:Program)(b tb:Nat)(ih:RT):RT:=fun H κ n c t L i j g xs ys=>match t with
  | .pure fin=>match fin with
    | .done f=>retE ih (.ok f) (.ok (.done f)) H κ n L i j g xs ys
    | .again c'=>againE ih c' H κ n L i j g xs ys
  | .raise e=>retE ih (.error e) (.error e) H κ n L i j g xs ys
  | .rule _ k=>ih H κ n c (k ()) L i j g xs ys
  | .at _ k=>ih H κ n c (k ()) L i j g xs ys
  | .point _ k=>ih H κ n c (k ()) L i j g xs ys
  | .ask k=>ih H κ n c (k ⟨prog,P⟩) L i j g xs ys
  | .load a _ k=>match H with
    | .top::H=>match topB a with
      | false=>none
      | true=>match kt.get a with
        | some o=>ih H κ n c (k o) L i j g xs ys
        | none=>none
    | .own d::H=>match lget L d with
      | some p=>ih H κ n c (k p.2) L i j g (.n a::xs) (.n p.1::ys)
      | none=>none
    | _=>none
  | .alloc o k=>match o.isFreed with
    | true=>none
    | false=>ih H κ n c (k (b+i)) ((b+i,o)::L) (i+1) j g xs ys
  | .update a _ f k=>match H with
    | .own d::H=>match lget L d with
      | some p=>match (f p.2).isFreed with
        | true=>none
        | false=>ih H κ n c (k ()) (lmod f L d) i j g (.n a::xs) (.n p.1::ys)
      | none=>none
    | _=>none
  | .fresh k=>ih H κ n c (k (tb+j)) L i (j+1) g xs ys
  | .handled own k=>match own with
    | false=>ih H κ n c (k none) L i j g xs ys
    | true=>none
  | .call c' hd _ _ k=>match hd with
    | some _=>none
    | none=>match cl c with
      | true=>none
      | false=>match n with
        | 0=>none
        | n+1=>match H with
          | .go::H=>ih H ((c,k)::κ) n c' (FD c') L i j g xs ys
          | .fn::H=>ih H ((c,k)::κ) n c' (TF c') L i j g xs ys
          | .ctr ds sp::H=>ctrE' b tb ih c' k ds sp H κ n c L i j g xs ys
          | _=>none
  | _=>none
noncomputable def runE (kt:KT)(P:Params)(prog:Program)(b tb:Nat)(m:Nat):RT:=Nat.rec (fun _ _ _ _ _ _ _ _ _ _ _=>none) (fun _ ih=>stepE kt P prog b tb ih) m
structure Room (n:Nat)(A:Around):Prop where
  handled:A.handled=none
  depth:A.depth+6*n<1000
  units:A.units+11*n<9900
noncomputable def finN (G:Array GenState):Nat->Array GenState
  | 0=>G
  | n+1=>(finN G n).push .finished
theorem finN_add (G:Array GenState)(a:Nat):∀b,finN (finN G a) b=finN G (a+b)
  | 0=>rfl
  | b+1=>by show (finN (finN G a) b).push _=(finN G (a+b)).push _;rw [finN_add G a b]
structure Inv (kt:KT)(s:Shared)(L:Led)(sz tk:Nat)(G:Array GenState):Prop where
  base:∀a o,topB a=true->kt.get a=some o->s.heap.get? a=some o
  gens:s.gens=G
  has:∀p∈L,s.heap.get? p.1=some p.2
  nd:(L.map (·.1)).Nodup
  off:∀p∈L,topB p.1=false
  size:s.heap.objs.size=sz
  toks:s.toks=tk
  big:138<=sz
structure Step (X:List Addr)(s s':Shared):Prop where
  keep:∀a o,a ∉ X->s.heap.get? a=some o->s'.heap.get? a=some o
  os:s'.os=s.os
  grow:s.heap.objs.size<=s'.heap.objs.size
def Own (X:List Addr)(b:Nat)(L:Led):Prop:=∃ns:List Addr,L.map (·.1)=ns++X/\∀a∈ns,b<=a
noncomputable def rezip:Led->List Obj->Led
  | p::L,o::os=>(p.1,o)::rezip L os
  | _,_=>[]
section
variable (kt:KT)(prog:Program)(w:World)
def SpOk (sp:Sp)(b t:Nat):Prop:=sp.L.length=sp.L'.length/\∀G A R s,Room sp.n A->Inv kt s sp.L b t G ->
  (∀s',Inv kt s' (sp.new++rezip sp.L sp.L') (b+sp.da) (t+sp.dt) (finN G sp.gn)->Step (sp.L.map (·.1)) s s'->(∀q∈sp.new,b<=q.1)->R sp.res s')->codeAny (model prog w) A sp.c R s
noncomputable def around (A:Around):List Kf->Around
  | []=>A
  | q::κ=>((around A κ).under q.1).mark none
def postT (A:Around)(R:Result->Shared->Prop)(fin:Fin)(s:Shared):Prop:=match fin with
  | .done f=>R (.ok f) s
  | .again c'=>c'.quiet=true/\codeAny (model prog w) A c' R s
noncomputable def endOf (A:Around)(R:Result->Shared->Prop):List Kf->Result->Shared->Prop
  | []=>R
  | q::κ=>fun r s=>wpAny (model prog w) ((around A κ).under q.1) (q.2 r) (postT prog w (around A κ) (endOf A R κ)) (fun e s'=>endOf A R κ (.error e) s') s
def FinR (A:Around)(R:Result->Shared->Prop)(r:Except Value Fin)(s:Shared):Prop:=match r with
  | .ok (.done f)=>R (.ok f) s
  | .ok (.again c)=>codeAny (model prog w) A c R s
  | .error e=>R (.error e) s
end
theorem run_zero (kt P prog b tb H κ n c t L i j g xs ys):runE kt P prog b tb 0 H κ n c t L i j g xs ys=none:=rfl
theorem run_succ (kt P prog b tb m H κ n c t L i j g xs ys):runE kt P prog b tb (m+1) H κ n c t L i j g xs ys=stepE kt P prog b tb (runE kt P prog b tb m) H κ n c t L i j g xs ys:=rfl
def Acc (o:Out)(xs ys:List Ob):Prop:=∃xs' ys',o.xs=xs'++xs/\o.ys=ys'++ys/\xs'.length=ys'.length
theorem Acc.refl (f L i j g xs ys):Acc ⟨f,L,i,j,g,xs,ys⟩ xs ys:=⟨[],[],rfl,rfl,rfl⟩
theorem Acc.cons {o x y xs ys}(h:Acc o (x::xs) (y::ys)):Acc o xs ys:=by
  obtain ⟨a,b,h1,h2,h3⟩:=h
  exact ⟨a++[x],b++[y],by simp [h1],by simp [h2],by simp [h3]⟩
theorem Acc.eq {o xs ys}(h:Acc o xs ys)(e:o.xs=o.ys):xs=ys:=by
  obtain ⟨a,b,h1,h2,h3⟩:=h
  rw [h1,h2] at e
  exact (List.append_inj e h3).2
theorem lget_mem:∀{L:Led}{d:Nat}{p:Addr×Obj},lget L d=some p->p∈L
  | [],_,_,h=>by cases h
  | q::L,0,p,h=>by cases h;exact List.mem_cons_self
  | q::L,d+1,p,h=>List.mem_cons_of_mem _ (lget_mem (L:=L) (d:=d) h)
theorem lmod_map (f:Obj->Obj):∀(L:Led)(d:Nat),(lmod f L d).map (·.1)=L.map (·.1)
  | [],_=>rfl
  | p::L,0=>rfl
  | p::L,d+1=>by show p.1::(lmod f L d).map (·.1)=_;rw [lmod_map f L d];rfl
theorem lmod_mem {f:Obj->Obj}:∀{L:Led}{d:Nat}{p q:Addr×Obj},lget L d=some p->(L.map (·.1)).Nodup->q∈lmod f L d->(q∈L/\q.1≠p.1)∨q=(p.1,f p.2)
  | [],_,_,_,h,_,_=>by cases h
  | x::L,0,p,q,h,nd,hq=>by
    cases h
    rcases List.mem_cons.mp hq with e | e
    · exact .inr e
    · refine .inl ⟨List.mem_cons_of_mem _ e,fun z=>?_⟩
      have:=(List.nodup_cons.mp nd).1
      exact this (List.mem_map.mpr ⟨q,e,z⟩)
  | x::L,d+1,p,q,h,nd,hq=>by
    have h':lget L d=some p:=h
    rcases List.mem_cons.mp hq with e | e
    · subst e
      refine .inl ⟨List.mem_cons_self,fun z=>?_⟩
      have:=(List.nodup_cons.mp nd).1
      exact this (List.mem_map.mpr ⟨p,lget_mem h',z.symm⟩)
    · rcases lmod_mem h' (List.nodup_cons.mp nd).2 e with ⟨m,ne⟩ | r
      · exact .inl ⟨List.mem_cons_of_mem _ m,ne⟩
      · exact .inr r
theorem topB_big {a:Nat}(h:138<=a):topB a=false:=by
  unfold topB
  split
  · rfl
  · cases q:Nat.blt a 137 with
    | false=>rfl
    | true=>have:=Nat.le_of_ble_eq_true q;omega
section
variable {kt:KT}{s:Shared}{L:Led}{sz tk:Nat}{G:Array GenState}
theorem Inv.alloc (I:Inv kt s L sz tk G){o:Obj}(hf:o.isFreed=false):Inv kt { s with heap:=s.heap.push o } ((sz,o)::L) (sz+1) tk G where
  base:=fun a o' h1 h2=>Heap.get?_push_of_some _ (I.base a o' h1 h2)
  gens:=I.gens
  has:=fun p hp=>by
    rcases List.mem_cons.mp hp with rfl | hp
    · rw [<- I.size];exact Heap.get?_push_size _ hf
    · exact Heap.get?_push_of_some _ (I.has p hp)
  nd:=by
    rw [List.map_cons]
    refine List.nodup_cons.mpr ⟨fun hm=>?_,I.nd⟩
    obtain ⟨q,hq,e⟩:=List.mem_map.mp hm
    have:=Heap.lt_size (I.has q hq)
    rw [I.size,e] at this
    exact Nat.lt_irrefl _ this
  off:=fun p hp=>by
    rcases List.mem_cons.mp hp with rfl | hp
    · exact topB_big I.big
    · exact I.off p hp
  size:=by rw [Heap.size_push,I.size]
  toks:=I.toks
  big:=Nat.le_succ_of_le I.big
theorem Inv.update (I:Inv kt s L sz tk G){d:Nat}{p:Addr×Obj}{f:Obj->Obj}(h:lget L d=some p)(hf:(f p.2).isFreed=false):Inv kt { s with heap:=s.heap.update p.1 f } (lmod f L d) sz tk G:=by
  have hs:Heap.SameBut p.1 s.heap (s.heap.update p.1 f):=Heap.SameBut.update ..
  have hp:=I.has p (lget_mem h)
  have ho:=I.off p (lget_mem h)
  refine ⟨fun a o' h1 h2=>?_,I.gens,fun q hq=>?_,by rw [lmod_map];exact I.nd,fun q hq=>?_,by rw [<- I.size];exact hs.1,I.toks,I.big⟩
  · refine (hs.2 a fun e=>?_).trans (I.base a o' h1 h2)
    rw [e,ho] at h1;cases h1
  · rcases lmod_mem h I.nd hq with ⟨m,ne⟩ | r
    · exact (hs.2 q.1 ne).trans (I.has q m)
    · subst r
      first | exact Heap.get?_update_self f hp hf | exact Heap.get?_update_self _ hp hf
  · rcases lmod_mem h I.nd hq with ⟨m,ne⟩ | r
    · exact I.off q m
    · subst r;exact ho
theorem Inv.fresh (I:Inv kt s L sz tk G):Inv kt { s with toks:=tk+1 } L sz (tk+1) G:=⟨I.base,I.gens,I.has,I.nd,I.off,I.size,rfl,I.big⟩
theorem Own.alloc {X:List Addr}{b:Nat}(h:Own X b L)(o:Obj)(hb:b<=sz):Own X b ((sz,o)::L):=by
  obtain ⟨ns,e,g⟩:=h
  exact ⟨sz::ns,by rw [List.map_cons,e];rfl,fun a ha=>by rcases List.mem_cons.mp ha with rfl | ha;exact hb;exact g a ha⟩
theorem Own.mod {X:List Addr}{b:Nat}(h:Own X b L)(f:Obj->Obj)(d:Nat):Own X b (lmod f L d):=by
  obtain ⟨ns,e,g⟩:=h
  exact ⟨ns,by rw [lmod_map,e],g⟩
theorem Step.alloc {X:List Addr}{s0:Shared}(h:Step X s0 s)(o:Obj):Step X s0 { s with heap:=s.heap.push o }:=
  ⟨fun a o' h1 h2=>Heap.get?_push_of_some _ (h.keep a o' h1 h2),h.os,by rw [Heap.size_push];exact Nat.le_succ_of_le h.grow⟩
theorem Step.update {X:List Addr}{s0:Shared}{b:Nat}(h:Step X s0 s)(O:Own X b L)(hb:s0.heap.objs.size=b){d:Nat}{p:Addr×Obj}(e:lget L d=some p)(f:Obj->Obj):Step X s0 { s with heap:=s.heap.update p.1 f }:=by
  have hs:Heap.SameBut p.1 s.heap (s.heap.update p.1 f):=Heap.SameBut.update ..
  refine ⟨fun a o' h1 h2=>?_,h.os,by show _<=(s.heap.update p.1 f).objs.size;rw [hs.1];exact h.grow⟩
  refine (hs.2 a fun z=>?_).trans (h.keep a o' h1 h2)
  obtain ⟨ns,e1,g⟩:=O
  have hm:p.1∈ns++X:=e1▸List.mem_map_of_mem (lget_mem e)
  rcases List.mem_append.mp hm with m | m
  · have:=g _ m
    have lt:=Heap.lt_size h2
    rw [hb] at lt
    exact absurd (Nat.lt_of_lt_of_le lt this) (z▸Nat.lt_irrefl _)
  · exact h1 (z▸m)
theorem Step.refl (X:List Addr)(s:Shared):Step X s s:=⟨fun _ _ _ h=>h,rfl,Nat.le_refl _⟩
theorem Step.toks {X:List Addr}{s0:Shared}(h:Step X s0 s)(t:Nat):Step X s0 { s with toks:=t }:=⟨h.keep,h.os,h.grow⟩
end
theorem frames_le (c:Code):c.frames<=3:=by
  unfold Code.frames
  split<;>first | omega | (split<;>omega)
theorem weight_le {c:Code}(h:c.isCaller=false):c.weight<=5:=by
  have:=frames_le c
  unfold Code.weight
  rw [h]
  split<;>split<;>simp<;>omega
theorem units_le (c:Code):c.cUnits<=10:=by
  have:=frames_le c
  unfold Code.cUnits
  split<;>omega
theorem Room.call {n:Nat}{A:Around}{c:Code}(h:Room (n+1) A)(hc:cl c=false):Room n ((A.under c).mark none):=by
  have w:=weight_le (c:=c) (by rw [cl_eq];exact hc)
  have u:=units_le c
  refine ⟨h.handled,?_,?_⟩
  · show A.depth+c.weight+6*n<1000
    have:=h.depth
    omega
  · show A.units+c.cUnits+11*n<9900
    have:=h.units
    omega
theorem Room.mono {n m:Nat}{A:Around}(h:Room n A)(hm:m<=n):Room m A:=⟨h.handled,by have:=h.depth;omega,by have:=h.units;omega⟩
section
variable {M:Model}{Γ:Ctx}{α β:Type}{E:Value->Pos->Shared->Prop}{p:Pos}{s:Shared}
theorem wp_bmono {m:Sem α}{f g:α->Sem β}{Q:β->Pos->Shared->Prop}(hfg:∀a p s,Sem.wp M Γ (f a) Q E p s->Sem.wp M Γ (g a) Q E p s)(h:Sem.wp M Γ (m >>= f) Q E p s):Sem.wp M Γ (m >>= g) Q E p s:=by
  rw [Sem.wp_bind'] at h ⊢
  exact Sem.wp_mono M Γ m (fun a p' s' h'=>hfg a p' s' h') (fun _ _ _ h'=>h') p s h
end
theorem fnNE_is (self:Addr)(fd:FuncData)(args:Args):fnNE self fd args=(match fd.code with
    | .none=>pure fd.qualname
    | c=>(field c 1) >>= fun v=>match v with
      | .str q _=>pure q
      | _=>pure fd.qualname) >>= fun compiled=>bindArgs fd args >>= fun bs=>
        newFunctionEnv fd.scope fd.globals fd.closure bs (compiled++".<locals>.") (some self) fd.code none fd.builtins >>= fun env=>
        nsGet cStatics "sys.recursionlimit" >>= fun r=>match r with
          | none=>.pure (.again (match fd.body with
            | .stmts b=>.func b env
            | .expr e=>.expr e env))
          | some _=>.unsupported "":=by
  unfold fnNE
  rw [<- PySem.W.R.bindR_eq,<- PySem.W.Fast.te6609576154772507232,<- PySem.W.Fast.te9782568553167038054,<- PySem.W.Fast.te11113344188204177931,<- PySem.W.Fast.te13143150168775219229]
  rfl
theorem callFn_is (self:Addr)(fd:FuncData)(args:Args)(hg:fd.scope.isGenerator=false)(hk:fd.scope.isCoroutine=false):callFunction self fd args=(match fd.code with
    | .none=>pure fd.qualname
    | c=>(field c 1) >>= fun v=>match v with
      | .str q _=>pure q
      | _=>pure fd.qualname) >>= fun compiled=>bindArgs fd args >>= fun bs=>
        newFunctionEnv fd.scope fd.globals fd.closure bs (compiled++".<locals>.") (some self) fd.code none fd.builtins >>= fun env=>
        enterFrame >>= fun _=>again (match fd.body with
            | .stmts b=>.func b env
            | .expr e=>.expr e env):=by
  unfold callFunction
  rw [hg,hk]
  cases fd.code<;>first | rfl | (simp only [bind_assoc];congr 1;funext v;cases v<;>rfl)
theorem enter_wp {M:Model}{Γ:Ctx}{A:Around}{β:Type}{E:Value->Pos->Shared->Prop}{Q:β->Pos->Shared->Prop}(hΓ:Γ.In A)(hd:A.depth<recursionLimit){f:Sem β}{g:Option Value->Sem β}(hn:∀p s,Sem.wp M Γ (g none) Q E p s->Sem.wp M Γ f Q E p s)(hs:∀v p s,¬ Sem.wp M Γ (g (some v)) Q E p s){p:Pos}{s:Shared}
    (h:Sem.wp M Γ (nsGet cStatics "sys.recursionlimit" >>= g) Q E p s):Sem.wp M Γ (enterFrame >>= fun _=>f) Q E p s:=by
  have l:Lies A ((Γ.code,p)::Γ.below):=lies_of hΓ
  rw [Sem.wp_bind',enterQ_eq]
  unfold enterQ
  rw [Sem.wp_bind']
  show Sem.wp M Γ (currentRecursionLimit >>= fun limit=>_) _ E p s
  rw [Sem.wp_bind']
  unfold currentRecursionLimit
  rw [Sem.wp_bind'] at h ⊢
  refine Sem.wp_mono M Γ _ (fun r p' s' h'=>?_) (fun _ _ _ h'=>h') p s h
  cases r with
  | some v=>exact absurd h' (hs v p' s')
  | none=>
    show Sem.wp M Γ (cond (nearF ((Γ.code,p)::Γ.below) 0 recursionLimit) _ (cond (overF ((Γ.code,p)::Γ.below) 0 recursionLimit) _ (cond (warmF ((Γ.code,p)::Γ.below) 0 recursionLimit) _ (pure ())))) _ E p' s'
    have e1:nearF ((Γ.code,p)::Γ.below) 0 recursionLimit=false:=l.near' hd 0
    have e2:overF ((Γ.code,p)::Γ.below) 0 recursionLimit=false:=l.over hd 0
    have e3:warmF ((Γ.code,p)::Γ.below) 0 recursionLimit=false:=l.warm hd 0
    rw [e1,e2,e3]
    exact hn p' s' h'
theorem TF_wp {prog:Program}{w:World}{Γ:Ctx}{A:Around}{E:Value->Pos->Shared->Prop}{Q:Fin->Pos->Shared->Prop}{c:Code}(hi:Γ.In A)(hd:A.depth<recursionLimit){p:Pos}{s:Shared}
    (h:Sem.wp (model prog w) Γ (TF c) Q E p s):Sem.wp (model prog w) Γ (denote table c) Q E p s:=by
  unfold TF at h
  split at h
  · rename_i a args
    rw [Sem.wp_load] at h
    obtain ⟨o,ho,h⟩:=h
    show Sem.wp (model prog w) Γ (load a >>= fun o=>_) Q E p s
    rw [Sem.wp_bind',Sem.wp_load_of _ _ _ _ _ ho]
    split at h
    · rename_i fd hfd
      rw [hfd]
      show Sem.wp (model prog w) Γ (callFunction a fd args) Q E p s
      split at h
      · cases h
      · rename_i hg
        have hg':=Bool.or_eq_false_iff.mp hg
        rw [callFn_is a fd args hg'.1 hg'.2]
        rw [fnNE_is] at h
        refine wp_bmono (fun compiled p s h=>?_) h
        refine wp_bmono (fun bs p s h=>?_) h
        refine wp_bmono (fun env p s h=>?_) h
        exact enter_wp hi hd (fun p s h=>h) (fun v p s h=>by cases h) h
    · cases h
  · cases h
theorem TF_ok {prog:Program}{w:World}{A:Around}{E:Value->Shared->Prop}{Q:Fin->Shared->Prop}{c:Code}(hd:A.depth<recursionLimit){s:Shared}
    (h:wpAny (model prog w) A (TF c) Q E s):wpAny (model prog w) A (denote table c) Q E s:=fun Γ p hΓ=>TF_wp hΓ hd (h Γ p hΓ)
theorem memB_mem:∀{a:Nat}{l:List Nat},memB a l=false->a ∉ l
  | _,[],_=>List.not_mem_nil
  | a,b::r,h=>by
    unfold memB at h
    split at h
    · cases h
    · rename_i e
      intro m
      rcases List.mem_cons.mp m with rfl | m
      · rw [Nat.beq_refl] at e;cases e
      · exact memB_mem h m
theorem nodupB_nodup:∀{l:List Nat},nodupB l=true->l.Nodup
  | [],_=>List.nodup_nil
  | a::r,h=>by
    unfold nodupB at h
    split at h
    · cases h
    · rename_i e
      exact List.nodup_cons.mpr ⟨memB_mem e,nodupB_nodup h⟩
theorem lget_inj:∀{L:Led}{d e:Nat}{p q:Addr×Obj},(L.map (·.1)).Nodup->lget L d=some p->lget L e=some q->p.1=q.1->d=e
  | [],_,_,_,_,_,h,_,_=>by cases h
  | x::L,0,0,_,_,_,_,_,_=>rfl
  | x::L,0,e+1,p,q,nd,h1,h2,z=>by
    cases h1
    exact absurd (List.mem_map.mpr ⟨q,lget_mem (L:=L) (d:=e) h2,z.symm⟩) (List.nodup_cons.mp nd).1
  | x::L,d+1,0,p,q,nd,h1,h2,z=>by
    cases h2
    exact absurd (List.mem_map.mpr ⟨p,lget_mem (L:=L) (d:=d) h1,z⟩) (List.nodup_cons.mp nd).1
  | x::L,d+1,e+1,p,q,nd,h1,h2,z=>congrArg (·+1) (lget_inj (L:=L) (List.nodup_cons.mp nd).2 h1 h2 z)
theorem gets_mem {L:Led}:∀{ds:List Nat}{l:Led},gets L ds=some l->∀p∈l,∃d∈ds,lget L d=some p
  | [],l,h,p,hp=>by cases h;cases hp
  | d::ds,l,h,p,hp=>by
    unfold gets at h
    split at h
    · cases h
    · rename_i q e
      split at h
      · cases h
      · rename_i l' e'
        cases h
        rcases List.mem_cons.mp hp with rfl | hp
        · exact ⟨d,List.mem_cons_self,e⟩
        · obtain ⟨d',h1,h2⟩:=gets_mem e' p hp
          exact ⟨d',List.mem_cons_of_mem _ h1,h2⟩
theorem gets_nodup {L:Led}(nd:(L.map (·.1)).Nodup):∀{ds:List Nat}{l:Led},ds.Nodup->gets L ds=some l->(l.map (·.1)).Nodup
  | [],l,_,h=>by cases h;exact List.nodup_nil
  | d::ds,l,hn,h=>by
    unfold gets at h
    split at h
    · cases h
    · rename_i q e
      split at h
      · cases h
      · rename_i l' e'
        cases h
        have hn':=List.nodup_cons.mp hn
        rw [List.map_cons]
        refine List.nodup_cons.mpr ⟨fun m=>?_,gets_nodup nd hn'.2 e'⟩
        obtain ⟨p,hp,z⟩:=List.mem_map.mp m
        obtain ⟨d',h1,h2⟩:=gets_mem e' p hp
        have:=lget_inj nd h2 e z
        exact hn'.1 (this▸h1)
theorem lget_lmod_ne {f:Obj->Obj}:∀{L:Led}{d e:Nat},d≠e->lget (lmod f L d) e=lget L e
  | [],_,_,_=>rfl
  | x::L,0,0,h=>absurd rfl h
  | x::L,0,e+1,_=>rfl
  | x::L,d+1,0,_=>rfl
  | x::L,d+1,e+1,h=>lget_lmod_ne (L:=L) (fun z=>h (congrArg (·+1) z))
theorem puts_map:∀{ds:List Nat}{L L2:Led}{os:List Obj},puts L ds os=some L2->L2.map (·.1)=L.map (·.1)
  | [],L,L2,[],h=>by cases h;rfl
  | [],L,L2,_::_,h=>by cases h
  | d::ds,L,L2,[],h=>by cases h
  | d::ds,L,L2,o::os,h=>by
    have:=puts_map (ds:=ds) (os:=os) (L:=lmod (fun _=>o) L d) h
    rw [this,lmod_map]
theorem puts_mem:∀{ds:List Nat}{L L2 l:Led}{os:List Obj},(L.map (·.1)).Nodup->ds.Nodup->gets L ds=some l->puts L ds os=some L2->∀q∈L2,(q∈L/\q.1 ∉ l.map (·.1))∨q∈rezip l os
  | [],L,L2,l,[],nd,_,hg,h,q,hq=>by
    cases h;cases hg
    exact .inl ⟨hq,List.not_mem_nil⟩
  | [],L,L2,l,_::_,_,_,_,h,_,_=>by cases h
  | d::ds,L,L2,l,[],_,_,_,h,_,_=>by cases h
  | d::ds,L,L2,l,o::os,nd,hn,hg,h,q,hq=>by
    have hn':=List.nodup_cons.mp hn
    unfold gets at hg
    split at hg
    · cases hg
    · rename_i p e
      split at hg
      · cases hg
      · rename_i l' e'
        cases hg
        have e2:gets (lmod (fun _=>o) L d) ds=some l':=by
          clear h hq
          have:∀{es:List Nat}{m:Led},d ∉ es->gets L es=some m->gets (lmod (fun _=>o) L d) es=some m:=by
            intro es
            induction es with
            | nil=>intro m _ h;exact h
            | cons x es ih=>
              intro m hx h
              unfold gets at h ⊢
              rw [lget_lmod_ne (fun (z:d=x)=>hx (by rw [z];exact List.mem_cons_self))]
              split at h
              · cases h
              · rename_i y ey
                split at h
                · cases h
                · rename_i m' em
                  rw [ih (fun z=>hx (List.mem_cons_of_mem _ z)) em]
                  exact h
          exact this hn'.1 e'
        have nd2:((lmod (fun _=>o) L d).map (·.1)).Nodup:=by rw [lmod_map];exact nd
        rcases puts_mem nd2 hn'.2 e2 h q hq with ⟨m,ne⟩ | r
        · rcases lmod_mem e nd m with ⟨m',ne'⟩ | r'
          · refine .inl ⟨m',fun z=>?_⟩
            rw [List.map_cons] at z
            rcases List.mem_cons.mp z with z | z
            · exact ne' z
            · exact ne z
          · refine .inr ?_
            subst r'
            exact List.mem_cons_self
        · exact .inr (List.mem_cons_of_mem _ r)
section
variable {kt:KT}{s s':Shared}{L l L2 new:Led}{sz tk sz' tk':Nat}{G G':Array GenState}{ds:List Nat}{os:List Obj}
theorem Inv.part (I:Inv kt s L sz tk G)(hd:nodupB ds=true)(hg:gets L ds=some l):Inv kt s l sz tk G where
  base:=I.base
  gens:=I.gens
  has:=fun p hp=>by obtain ⟨d,_,e⟩:=gets_mem hg p hp;exact I.has p (lget_mem e)
  nd:=gets_nodup I.nd (nodupB_nodup hd) hg
  off:=fun p hp=>by obtain ⟨d,_,e⟩:=gets_mem hg p hp;exact I.off p (lget_mem e)
  size:=I.size
  toks:=I.toks
  big:=I.big
theorem Inv.whole (I:Inv kt s L sz tk G)(hd:nodupB ds=true)(hg:gets L ds=some l)(hp:puts L ds os=some L2)(J:Inv kt s' (new++rezip l os) sz' tk' G')(S:Step (l.map (·.1)) s s')(hn:∀q∈new,sz<=q.1):Inv kt s' (new++L2) sz' tk' G' where
  base:=J.base
  gens:=J.gens
  has:=fun q hq=>by
    rcases List.mem_append.mp hq with m | m
    · exact J.has q (List.mem_append_left _ m)
    · rcases puts_mem I.nd (nodupB_nodup hd) hg hp q m with ⟨m',ne⟩ | r
      · exact S.keep _ _ ne (I.has q m')
      · exact J.has q (List.mem_append_right _ r)
  nd:=by
    rw [List.map_append]
    refine List.nodup_append.mpr ⟨?_,by rw [puts_map hp];exact I.nd,fun a ha b hb z=>?_⟩
    · have:=J.nd
      rw [List.map_append] at this
      exact (List.nodup_append.mp this).1
    · obtain ⟨q,hq,e⟩:=List.mem_map.mp ha
      rw [puts_map hp] at hb
      obtain ⟨r,hr,e'⟩:=List.mem_map.mp hb
      have h1:=Heap.lt_size (I.has r hr)
      have h2:=hn q hq
      rw [I.size] at h1
      have:q.1=r.1:=by rw [show q.1=a from e,show r.1=b from e',z]
      rw [this] at h2
      exact absurd h1 (Nat.not_lt.mpr h2)
  off:=fun q hq=>by
    rcases List.mem_append.mp hq with m | m
    · exact J.off q (List.mem_append_left _ m)
    · rcases puts_mem I.nd (nodupB_nodup hd) hg hp q m with ⟨m',ne⟩ | r
      · exact I.off q m'
      · exact J.off q (List.mem_append_right _ r)
  size:=J.size
  toks:=J.toks
  big:=J.big
theorem Own.whole {X:List Addr}{b:Nat}(O:Own X b L)(hp:puts L ds os=some L2)(hb:b<=sz)(hn:∀q∈new,sz<=q.1):Own X b (new++L2):=by
  obtain ⟨ns,e,g⟩:=O
  refine ⟨new.map (·.1)++ns,by rw [List.map_append,puts_map hp,e,List.append_assoc],fun a ha=>?_⟩
  rcases List.mem_append.mp ha with m | m
  · obtain ⟨q,hq,z⟩:=List.mem_map.mp m
    rw [<- z]
    exact Nat.le_trans hb (hn q hq)
  · exact g a m
theorem Step.whole {X:List Addr}{s0:Shared}{b:Nat}(S0:Step X s0 s)(O:Own X b L)(hb:s0.heap.objs.size=b)(hg:gets L ds=some l)(S:Step (l.map (·.1)) s s'):Step X s0 s':=by
  refine ⟨fun a o h1 h2=>?_,S.os.trans S0.os,Nat.le_trans S0.grow S.grow⟩
  refine S.keep a o (fun m=>?_) (S0.keep a o h1 h2)
  obtain ⟨p,hp,z⟩:=List.mem_map.mp m
  obtain ⟨d,_,e⟩:=gets_mem hg p hp
  obtain ⟨ns,e1,g⟩:=O
  have hm:p.1∈ns++X:=e1▸List.mem_map_of_mem (lget_mem e)
  rcases List.mem_append.mp hm with m | m
  · have h3:=g _ m
    have lt:=Heap.lt_size h2
    rw [hb,<- show p.1=a from z] at lt
    exact absurd lt (Nat.not_lt.mpr h3)
  · exact h1 ((show p.1=a from z)▸m)
end
noncomputable def Rm (A:Around):List Kf->Nat->Prop
  | [],n=>Room n A
  | q::κ,n=>cl q.1=false/\Rm A κ (n+1)
theorem Rm.room {A:Around}:∀{κ:List Kf}{n:Nat},Rm A κ n->Room n (around A κ)
  | [],_,h=>h
  | q::κ,n,h=>(Rm.room (κ:=κ) h.2).call h.1
theorem call_light (f:Value)(args:Args):(Code.call f args).weight=0:=rfl
theorem TF_any {prog:Program}{w:World}{A:Around}{κ:List Kf}{n:Nat}{E:Value->Shared->Prop}{Q:Fin->Shared->Prop}{c:Code}(hr:Rm A κ n){s:Shared}
    (h:wpAny (model prog w) ((around A κ).under c) (TF c) Q E s):wpAny (model prog w) ((around A κ).under c) (denote table c) Q E s:=by
  cases c with
  | call f args=>
    refine TF_ok ?_ h
    have:=hr.room.depth
    show (around A κ).depth+(Code.call f args).weight<1000
    rw [call_light]
    omega
  | _=>exact fun Γ p hΓ=>absurd (h Γ p hΓ) (fun x=>x)
theorem Room.under {n:Nat}{A:Around}{c:Code}(h:Room (n+1) A)(hc:cl c=false):(A.under c).depth<recursionLimit:=by
  have w:=weight_le (c:=c) (by rw [cl_eq];exact hc)
  have:=h.depth
  show A.depth+c.weight<1000
  omega
theorem fdT {prog:Program}{w:World}{A:Around}{c:Code}{Q:Fin->Shared->Prop}{E:Value->Shared->Prop}{s:Shared}(h:wpAny (model prog w) A (FD c) Q E s):wpAny (model prog w) A ((model prog w).den c) Q E s:=by
  rw [show (model prog w).den=denote table from rfl,FD_eq];exact h
abbrev RunOk (kt:KT)(prog:Program)(w:World)(b tb:Nat)(s0:Shared)(X:List Addr)(G:Array GenState)(H:List Hint)(κ:List Kf)(n:Nat)(c:Code)(t:Sem Fin)(L:Led)(i j g:Nat)(o:Out):Prop:=
  (∀ds sp,Hint.ctr ds sp∈H->∀b' t' c' l',b<=b'->tb<=t'->SpOk kt prog w (sp b' t' c' l') b' t') ->
      ∀A R s,Rm A κ n->Inv kt s L (b+i) (tb+j) (finN G g)->Step X s0 s->Own X b L ->
        (∀s',Inv kt s' o.L (b+o.off) (tb+o.toff) (finN G o.g)->Step X s0 s'->Own X b o.L->FinR prog w A R o.res s') ->
        wpAny (model prog w) ((around A κ).under c) t (postT prog w (around A κ) (endOf prog w A R κ)) (fun e s'=>endOf prog w A R κ (.error e) s') s
theorem tl {x:Hint}{H:List Hint}{P:List Nat->(Nat->Nat->Code->Led->Sp)->Prop}(h:∀ds sp,Hint.ctr ds sp∈x::H->P ds sp):∀ds sp,Hint.ctr ds sp∈H->P ds sp:=fun ds sp hm=>h ds sp (List.mem_cons_of_mem _ hm)
theorem run_sound' {kt:KT}{prog:Program}{w:World}{b tb:Nat}{s0:Shared}{X:List Addr}{G:Array GenState}(hs0:s0.heap.objs.size=b):
    ∀m H κ n c t L i j g xs ys o,runE kt w.params prog b tb m H κ n c t L i j g xs ys=some o->Acc o xs ys/\(o.xs=o.ys->RunOk kt prog w b tb s0 X G H κ n c t L i j g o):=by
  intro m
  induction m with
  | zero=>intro H κ n c t L i j g xs ys o h;cases h
  | succ m ih=>
    intro H κ n c t L i j g xs ys o h
    rw [run_succ] at h
    unfold stepE at h
    split at h
    · split at h
      ·
        unfold retE at h
        split at h
        · cases h
          exact ⟨Acc.refl ..,fun _ _ A R s hr hi hst hown hfin=>wpAny_pure (hfin s hi hst hown)⟩
        · have q:=ih _ _ _ _ _ _ _ _ _ _ _ _ h
          exact ⟨q.1,fun hob hsp A R s hr hi hst hown hfin=>wpAny_pure (q.2 hob hsp A R s hr.2 hi hst hown hfin)⟩
      ·
        rename_i c'
        unfold againE at h
        split at h
        · cases h
        · rename_i hq
          have hq':c'.quiet=true:=by rw [qt_eq];exact hq
          split at h
          · split at h
            · have q:=ih _ _ _ _ _ _ _ _ _ _ _ _ h
              exact ⟨q.1,fun hob hsp A R s hr hi hst hown hfin=>wpAny_pure ⟨hq',codeAny_of_tree (fdT<|q.2 hob (tl hsp) A R s hr hi hst hown hfin)⟩⟩
            · have q:=ih _ _ _ _ _ _ _ _ _ _ _ _ h
              exact ⟨q.1,fun hob hsp A R s hr hi hst hown hfin=>wpAny_pure ⟨hq',codeAny_of_tree (TF_any hr (q.2 hob (tl hsp) A R s hr hi hst hown hfin))⟩⟩
            · cases h
              exact ⟨Acc.refl ..,fun _ _ A R s hr hi hst hown hfin=>wpAny_pure ⟨hq',hfin s hi hst hown⟩⟩
          · split at h
            · have q:=ih _ _ _ _ _ _ _ _ _ _ _ _ h
              exact ⟨q.1,fun hob hsp A R s hr hi hst hown hfin=>wpAny_pure ⟨hq',codeAny_of_tree (fdT<|q.2 hob hsp A R s hr hi hst hown hfin)⟩⟩
            · split at h
              · have q:=ih _ _ _ _ _ _ _ _ _ _ _ _ h
                exact ⟨q.1,fun hob hsp A R s hr hi hst hown hfin=>wpAny_pure ⟨hq',codeAny_of_tree (fdT<|q.2 hob (tl hsp) A R s hr hi hst hown hfin)⟩⟩
              · have q:=ih _ _ _ _ _ _ _ _ _ _ _ _ h
                exact ⟨q.1,fun hob hsp A R s hr hi hst hown hfin=>wpAny_pure ⟨hq',codeAny_of_tree (TF_any hr (q.2 hob (tl hsp) A R s hr hi hst hown hfin))⟩⟩
              · cases h
    ·
      unfold retE at h
      split at h
      · cases h
        exact ⟨Acc.refl ..,fun _ _ A R s hr hi hst hown hfin=>wpAny_throw (hfin s hi hst hown)⟩
      · have q:=ih _ _ _ _ _ _ _ _ _ _ _ _ h
        exact ⟨q.1,fun hob hsp A R s hr hi hst hown hfin=>wpAny_throw (q.2 hob hsp A R s hr.2 hi hst hown hfin)⟩
    · have q:=ih _ _ _ _ _ _ _ _ _ _ _ _ h
      exact ⟨q.1,fun hob hsp A R s hr hi hst hown hfin Γ p hΓ=>q.2 hob hsp A R s hr hi hst hown hfin Γ p hΓ⟩
    · have q:=ih _ _ _ _ _ _ _ _ _ _ _ _ h
      exact ⟨q.1,fun hob hsp A R s hr hi hst hown hfin Γ p hΓ=>q.2 hob hsp A R s hr hi hst hown hfin Γ _ hΓ⟩
    · have q:=ih _ _ _ _ _ _ _ _ _ _ _ _ h
      exact ⟨q.1,fun hob hsp A R s hr hi hst hown hfin Γ p hΓ=>q.2 hob hsp A R s hr hi hst hown hfin Γ p hΓ⟩
    · have q:=ih _ _ _ _ _ _ _ _ _ _ _ _ h
      exact ⟨q.1,fun hob hsp A R s hr hi hst hown hfin Γ p hΓ=>q.2 hob hsp A R s hr hi hst hown hfin Γ p hΓ⟩
    ·
      rename_i a q k
      split at h
      · split at h
        · cases h
        · rename_i ht
          split at h
          · rename_i o' ho
            have q':=ih _ _ _ _ _ _ _ _ _ _ _ _ h
            exact ⟨q'.1,fun hob hsp A R s hr hi hst hown hfin=>wpAny_bind (m:=loadPart a q) (f:=k) (wpAny_loadPart (hi.base a o' ht ho) (q'.2 hob (tl hsp) A R s hr hi hst hown hfin))⟩
          · cases h
      · split at h
        · rename_i p hp
          have q':=ih _ _ _ _ _ _ _ _ _ _ _ _ h
          refine ⟨q'.1.cons,fun hob hsp A R s hr hi hst hown hfin=>?_⟩
          have ea:a=p.1:=by have e:=q'.1.eq hob;injection e with e1 e2;injection e1
          rw [ea]
          exact wpAny_bind (m:=loadPart p.1 q) (f:=k) (wpAny_loadPart (hi.has p (lget_mem hp)) (q'.2 hob (tl hsp) A R s hr hi hst hown hfin))
        · cases h
      · cases h
    ·
      rename_i o' k
      split at h
      · cases h
      · rename_i hf
        have q:=ih _ _ _ _ _ _ _ _ _ _ _ _ h
        exact ⟨q.1,fun hob hsp A R s hr hi hst hown hfin=>wpAny_bind (m:=alloc o') (f:=k) (wpAny_alloc (by rw [hi.size];exact q.2 hob hsp A R { s with heap:=s.heap.push o' } hr (hi.alloc hf) (hst.alloc o') (hown.alloc o' (Nat.le_add_right ..)) hfin))⟩
    ·
      rename_i a q f k
      split at h
      · split at h
        · rename_i p hp
          split at h
          · cases h
          · rename_i hf
            have q':=ih _ _ _ _ _ _ _ _ _ _ _ _ h
            refine ⟨q'.1.cons,fun hob hsp A R s hr hi hst hown hfin=>?_⟩
            have ea:a=p.1:=by have e:=q'.1.eq hob;injection e with e1 e2;injection e1
            rw [ea]
            exact wpAny_bind (m:=updatePart p.1 q f) (f:=k) (wpAny_updatePart (hi.has p (lget_mem hp)) (q'.2 hob (tl hsp) A R { s with heap:=s.heap.update p.1 f } hr (hi.update hp hf) (hst.update hown hs0 hp f) (hown.mod f _) hfin))
        · cases h
      · cases h
    ·
      rename_i k
      have q:=ih _ _ _ _ _ _ _ _ _ _ _ _ h
      refine ⟨q.1,fun hob hsp A R s hr hi hst hown hfin=>wpAny_bind (m:=fresh) (f:=k) (wpAny_fresh ?_)⟩
      rw [hi.toks]
      exact q.2 hob hsp A R { s with toks:=tb+j+1 } hr hi.fresh (hst.toks _) hown hfin
    ·
      split at h
      · have q:=ih _ _ _ _ _ _ _ _ _ _ _ _ h
        rename_i k _
        refine ⟨q.1,fun hob hsp A R s hr hi hst hown hfin=>wpAny_bind (m:=handled) (f:=k) (wpAny_handled ?_)⟩
        rw [show ((around A κ).under c).handled=none from hr.room.handled]
        exact q.2 hob hsp A R s hr hi hst hown hfin
      · cases h
    ·
      rename_i c' hd gd l k
      split at h
      · cases h
      · split at h
        · cases h
        · rename_i hcl
          split at h
          · cases h
          · rename_i n
            split at h
            · have q:=ih _ _ _ _ _ _ _ _ _ _ _ _ h
              exact ⟨q.1,fun hob hsp A R s hr hi hst hown hfin=>y_start _ _ _ _ _ _ s c' none gd l k (by intro e;cases e) (codeAny_of_tree (fdT<|q.2 hob (tl hsp) A R s ⟨hcl,hr⟩ hi hst hown hfin))⟩
            · have q:=ih _ _ _ _ _ _ _ _ _ _ _ _ h
              exact ⟨q.1,fun hob hsp A R s hr hi hst hown hfin=>y_start _ _ _ _ _ _ s c' none gd l k (by intro e;cases e) (codeAny_of_tree (TF_any (A:=A) (κ:=(c,k)::κ) ⟨hcl,hr⟩ (q.2 hob (tl hsp) A R s ⟨hcl,hr⟩ hi hst hown hfin)))⟩
            · rename_i ds sp H'
              unfold ctrE' at h
              split at h
              · cases h
              · rename_i hd
                split at h
                · cases h
                · rename_i l' hg
                  generalize hP:sp (b+i) (tb+j) c' l'=P at h
                  unfold ctrE at h
                  split at h
                  · cases h
                  · rename_i hn
                    split at h
                    · cases h
                    · rename_i L2 hp
                      have q:=ih _ _ _ _ _ _ _ _ _ _ _ _ h
                      refine ⟨q.1.cons.cons,fun hob hsp A R s hr hi hst hown hfin=>?_⟩
                      have hok:=hsp ds sp List.mem_cons_self (b+i) (tb+j) c' l' (Nat.le_add_right ..) (Nat.le_add_right ..)
                      rw [hP] at hok
                      have e:=q.1.eq hob
                      have e1:c'=P.c:=by injection e with e1 e2;injection e1
                      have e2:l'=P.L:=by injection e with e1 e2;injection e2 with e3 e4;injection e3
                      rw [e1]
                      rw [e2] at hg
                      refine y_start _ _ _ _ _ _ s _ none gd l k (by intro e;cases e) (hok.2 _ _ _ s ((hr.room.call hcl).mono (Nat.le_of_ble_eq_true hn)) (hi.part hd hg) fun s' J S hnew=>?_)
                      refine q.2 hob (tl hsp) A R s' hr ?_ (hst.whole hown hs0 hg S) (hown.whole hp (Nat.le_add_right ..) hnew) hfin
                      rw [<- Nat.add_assoc,<- Nat.add_assoc,<- finN_add]
                      exact hi.whole hd hg hp J S hnew
            · cases h
    · cases h
theorem run_sound {kt:KT}{prog:Program}{w:World}{b tb:Nat}{s0:Shared}{X:List Addr}{G:Array GenState}(hs0:s0.heap.objs.size=b)(m H κ n c t L i j g xs ys o)(h:runE kt w.params prog b tb m H κ n c t L i j g xs ys=some o)(hob:o.xs=o.ys):RunOk kt prog w b tb s0 X G H κ n c t L i j g o:=(run_sound' hs0 m H κ n c t L i j g xs ys o h).2 hob
theorem rezip_map:∀{L:Led}{os:List Obj},L.length=os.length->(rezip L os).map (·.1)=L.map (·.1)
  | [],[],_=>rfl
  | [],_::_,h=>by cases h
  | _::_,[],h=>by cases h
  | p::L,o::os,h=>by
    show p.1::(rezip L os).map (·.1)=_
    rw [rezip_map (by simpa using h)];rfl
section
variable {kt:KT}{prog:Program}{w:World}
theorem Inv.sub {s:Shared}{L L':Led}{sz tk:Nat}{G:Array GenState}(I:Inv kt s L sz tk G)(hs:∀p∈L',p∈L)(nd:(L'.map (·.1)).Nodup):Inv kt s L' sz tk G:=
  ⟨I.base,I.gens,fun p hp=>I.has p (hs p hp),nd,fun p hp=>I.off p (hs p hp),I.size,I.toks,I.big⟩
theorem seg {b t m n:Nat}{H:List Hint}{c:Code}{tr:Sem Fin}{L:Led}{o:Out}(htr:tr=FD c∨tr=TF c)
    (hrun:runE kt w.params prog b t m H [] n c tr L 0 0 0 [] []=some o) (hob:o.xs=o.ys)
    (hsp:∀ds sp,Hint.ctr ds sp∈H->∀b' t' c' l',b<=b'->t<=t'->SpOk kt prog w (sp b' t' c' l') b' t')
    {k:Nat} {ks:List Nat} {new:Led} {os:List Obj} (hT:o.L.drop k=rezip L os) (hlen:L.length=os.length) (hks:nodupB ks=true) (hN:gets (o.L.take k) ks=some new)
    {A:Around} {R:Result->Shared->Prop} {s:Shared} {G:Array GenState} (hr:Room n A) (hi:Inv kt s L b t G)
    (hfin:∀s',Inv kt s' (new++rezip L os) (b+o.off) (t+o.toff) (finN G o.g)->Step (L.map (·.1)) s s'->(∀q∈new,b<=q.1)->FinR prog w A R o.res s'):codeAny (model prog w) A c R s:=by
  have z:=run_sound (X:=L.map (·.1)) (s0:=s) (G:=G) hi.size m H [] n c tr L 0 0 0 [] [] o hrun hob hsp A R s hr hi (Step.refl _ _) ⟨[],rfl,fun _ h=>by cases h⟩ (fun s' I S O=>by
    obtain ⟨ns,e,g⟩:=O
    have esplit:o.L=o.L.take k++o.L.drop k:=(List.take_append_drop k o.L).symm
    have e2:(o.L.take k).map (·.1)++L.map (·.1)=ns++L.map (·.1):=by
      rw [<- e,<- rezip_map hlen,<- hT,<- List.map_append,<- esplit]
    have e3:(o.L.take k).map (·.1)=ns:=List.append_cancel_right e2
    have nd:=I.nd
    rw [esplit,List.map_append] at nd
    have nd':=List.nodup_append.mp nd
    have mem_new:∀p∈new,p∈o.L.take k:=fun p hp=>by
      obtain ⟨d,_,h⟩:=gets_mem hN p hp
      exact lget_mem h
    refine hfin s' (I.sub (fun p hp=>?_) ?_) S (fun q hq=>?_)
    · rw [esplit]
      rcases List.mem_append.mp hp with m | m
      · exact List.mem_append_left _ (mem_new p m)
      · exact List.mem_append_right _ (hT▸m)
    · rw [List.map_append]
      refine List.nodup_append.mpr ⟨gets_nodup nd'.1 (nodupB_nodup hks) hN,by rw [<- hT];exact nd'.2.1,fun a ha b hb=>?_⟩
      obtain ⟨p,hp,z⟩:=List.mem_map.mp ha
      refine nd'.2.2 a (z▸List.mem_map_of_mem (mem_new p hp)) b ?_
      rw [hT];exact hb
    · exact g _ (e3▸List.mem_map_of_mem (mem_new q hq)))
  refine codeAny_of_tree ?_
  rcases htr with rfl | rfl
  · rw [show (model prog w).den=denote table from rfl,FD_eq];exact z
  · exact TF_any (κ:=[]) hr z
noncomputable def finOf:Result->Except Value Fin
  | .ok f=>.ok (.done f)
  | .error e=>.error e
theorem spOk_run {sp:Sp}{b t m:Nat}{H:List Hint}{tr:Sem Fin}{k:Nat}{ks:List Nat}(htr:tr=FD sp.c∨tr=TF sp.c)
    (hrun:(runE kt w.params prog b t m H [] sp.n sp.c tr sp.L 0 0 0 [] []).map (fun o=>(o.xs,o.res,o.L.drop k,gets (o.L.take k) ks,o.off,o.toff,o.g)) =
      (runE kt w.params prog b t m H [] sp.n sp.c tr sp.L 0 0 0 [] []).map (fun o=>(o.ys,finOf sp.res,rezip sp.L sp.L',some sp.new,sp.da,sp.dt,sp.gn)))
    (hsome:(runE kt w.params prog b t m H [] sp.n sp.c tr sp.L 0 0 0 [] []).isSome=true)
    (hlen:sp.L.length=sp.L'.length) (hks:nodupB ks=true)
    (hsp:∀ds q,Hint.ctr ds q∈H->∀b' t' c' l',b<=b'->t<=t'->SpOk kt prog w (q b' t' c' l') b' t'):SpOk kt prog w sp b t:=by
  obtain ⟨o,ho⟩:=Option.isSome_iff_exists.mp hsome
  rw [ho] at hrun
  simp only [Option.map_some,Option.some.injEq,Prod.mk.injEq] at hrun
  obtain ⟨h1,h2,h3,h4,h5,h6,h7⟩:=hrun
  refine ⟨hlen,fun G A R s hr hi hfin=>seg htr ho h1 hsp h3 hlen hks h4 hr hi fun s' I S g=>?_⟩
  rw [h2]
  rw [h5,h6,h7] at I
  have:=hfin s' I S g
  revert this
  cases sp.res<;>exact id
end
section
open Builtin Builtin.Str
noncomputable def PR (P:Params)(b1 b2:Bool):Params:={ P with followText:=fun r=>match PySem.W.S.eqLit 10139888712337904147300001983332972444938612 r with
  | true=>b1
  | false=>match PySem.W.S.eqLit 2510650655181157320538776789020469319833841985448949215332 r with
    | true=>b2
    | false=>P.followText r }
theorem lit_is (n:Nat)(s r:String)(hs:PySem.code s=n)(h:PySem.W.S.eqLit n r=true):r=s:=by
  have h1:PySem.W.S.codeS r=n:=Nat.eq_of_beq_eq_true h
  exact PySem.code_inj _ _ (by rw [PySem.W.S.code_S,h1,hs])
theorem PR_eq (P:Params):PR P (P.followText "special-get-raises") (P.followText "comprehension-iter-twice")=P:=by
  have:(fun r=>match PySem.W.S.eqLit 10139888712337904147300001983332972444938612 r with
    | true=>P.followText "special-get-raises"
    | false=>match PySem.W.S.eqLit 2510650655181157320538776789020469319833841985448949215332 r with
      | true=>P.followText "comprehension-iter-twice"
      | false=>P.followText r)=P.followText:=by
    funext r
    split
    · rename_i e;rw [lit_is _ "special-get-raises" r (by decide +kernel) e]
    · split
      · rename_i e;rw [lit_is _ "comprehension-iter-twice" r (by decide +kernel) e]
      · rfl
  unfold PR
  rw [this]
theorem rows {C:Params->Prop}(h:∀Q b1 b2,C (PR Q b1 b2))(P:Params):C P:=by
  rw [<- PR_eq P]
  exact h P _ _
noncomputable abbrev prim (id:String)(args:List Value)(v:Value)(dt:Nat):Sp:=⟨0,.call (.builtin id) ⟨args,[]⟩,[],.ok (.ret v),[],[],0,dt,0⟩
section
variable {kt:KT}{prog:Program}{w:World}{T:String}{name:Str}{id:String}{B:Builtin}{self:Value}{rest:List Value}
theorem Inv.toks' {s:Shared}{L:Led}{sz tk:Nat}{G:Array GenState}(I:Inv kt s L sz tk G)(k:Nat):Inv kt { s with toks:=k } L sz k G:=⟨I.base,I.gens,I.has,I.nd,I.off,I.size,rfl,I.big⟩
theorem prim_val {v:Value}(slot:Slot T name id)(hT:∀s:Shared,s.TypeIs self T)(entry:entryFor table id=some B)(args:argsOk id ⟨self::rest,[]⟩)(g:Gives (B ⟨self::rest,[]⟩) (.val v))(b t:Nat):
    SpOk kt prog w (prim id (self::rest) v 0) b t:=⟨rfl,fun G A R s hr hi hfin=>
  codeAny_call_builtin slot.plain entry (slot.check _ _ _ _ _ _ _ _ (hT s) args (g prog w A R s (hfin s hi (Step.refl _ _) (fun _ h=>by cases h))))⟩
theorem prim_int {i:Int}(slot:Slot T name id)(hT:∀s:Shared,s.TypeIs self T)(entry:entryFor table id=some B)(args:argsOk id ⟨self::rest,[]⟩)(g:Gives (B ⟨self::rest,[]⟩) (.int i))(b t:Nat):
    SpOk kt prog w (prim id (self::rest) (.int i t) 1) b t:=⟨rfl,fun G A R s hr hi hfin=>
  codeAny_call_builtin slot.plain entry (slot.check _ _ _ _ _ _ _ _ (hT s) args (g prog w A R s (by
    show R (.ok (.ret (.int i s.toks))) { s with toks:=s.toks+1 }
    rw [hi.toks]
    exact hfin _ (hi.toks' _) ((Step.refl _ _).toks _) (fun _ h=>by cases h))))⟩
theorem prim_str {x:Str}(hx:x.length<=sizeLine)(slot:Slot T name id)(hT:∀s:Shared,s.TypeIs self T)(entry:entryFor table id=some B)(args:argsOk id ⟨self::rest,[]⟩)(g:Gives (B ⟨self::rest,[]⟩) (.str x))(b t:Nat):
    SpOk kt prog w (prim id (self::rest) (.str x t) 1) b t:=⟨rfl,fun G A R s hr hi hfin=>
  codeAny_call_builtin slot.plain entry (slot.check _ _ _ _ _ _ _ _ (hT s) args (g prog w A R s (by
    refine ⟨hx,?_⟩
    show R (.ok (.ret (.str x s.toks))) { s with toks:=s.toks+1 }
    rw [hi.toks]
    exact hfin _ (hi.toks' _) ((Step.refl _ _).toks _) (fun _ h=>by cases h))))⟩
end
section
variable {kt:KT}{prog:Program}{w:World}
theorem p_contains (x y:Str)(t u:Tok){v:Bool}(h:(!(occurrences x y 0 x.length 1).isEmpty)=v)(b t':Nat):SpOk kt prog w (prim "str.__contains__" [.str x t,.str y u] (.bool v) 0) b t':=by
  subst h
  exact prim_val F.slot_str_contains (fun _=>typeIs_str _ _ _) F.entry_str_contains (F.args_str_contains_2 _ _) (gives_str_contains x y t u) b t'
theorem p_add (x y:Str)(t u:Tok)(hx:x.length≠0)(hy:y.length≠0)(hl:(x++y).length<=sizeLine)(b t':Nat):SpOk kt prog w (prim "str.__add__" [.str x t,.str y u] (.str (x++y) t') 1) b t':=by
  have g:=gives_str_add x y t u
  rw [if_neg (by simpa using hx),if_neg (by simpa using hy)] at g
  exact prim_str hl F.slot_str_add (fun _=>typeIs_str _ _ _) F.entry_str_add (F.args_str_add_2 _ _) g b t'
end
end
def Eqn (kt:KT)(P:Params)(prog:Program)(sp:Sp)(b t:Nat)(m:Nat)(H:List Hint)(tr:Sem Fin)(k:Nat)(ks:List Nat):Prop:=
  (runE kt P prog b t m H [] sp.n sp.c tr sp.L 0 0 0 [] []).map (fun o=>(o.xs,o.res,o.L.drop k,gets (o.L.take k) ks,o.off,o.toff,o.g)) =
  (runE kt P prog b t m H [] sp.n sp.c tr sp.L 0 0 0 [] []).map (fun o=>(o.ys,finOf sp.res,rezip sp.L sp.L',some sp.new,sp.da,sp.dt,sp.gn))
def Ends (kt:KT)(P:Params)(prog:Program)(sp:Sp)(b t:Nat)(m:Nat)(H:List Hint)(tr:Sem Fin):Prop:=
  (runE kt P prog b t m H [] sp.n sp.c tr sp.L 0 0 0 [] []).isSome=true
def Runs (T:Params->KT)(prog:Program)(sp:Sp)(b t:Nat)(H:List Hint)(tr:Sem Fin)(k:Nat)(ks:List Nat):Prop:=
  ∀(Q:Params)(b1 b2:Bool),Eqn (T (PR Q b1 b2)) (PR Q b1 b2) prog sp b t 100000 H tr k ks/\Ends (T (PR Q b1 b2)) (PR Q b1 b2) prog sp b t 100000 H tr
theorem Runs.ok {T:Params->KT}{prog:Program}{w:World}{sp:Sp}{b t:Nat}{H:List Hint}{tr:Sem Fin}{k:Nat}{ks:List Nat}(h:Runs T prog sp b t H tr k ks)(htr:tr=FD sp.c∨tr=TF sp.c)
    (hlen:sp.L.length=sp.L'.length) (hks:nodupB ks=true)
    (hsp:∀ds q,Hint.ctr ds q∈H->∀b' t' c' l',b<=b'->t<=t'->SpOk (T w.params) prog w (q b' t' c' l') b' t'):SpOk (T w.params) prog w sp b t:=by
  have h':=h w.params (w.params.followText "special-get-raises") (w.params.followText "comprehension-iter-twice")
  rw [PR_eq] at h'
  exact spOk_run htr h'.1 h'.2 hlen hks hsp
noncomputable def argV:Code->Nat->Value
  | .call _ a,n=>a.pos.getD n .none
  | .builtin _ a,n=>a.pos.getD n .none
  | _,_=>.none
noncomputable def vT:Value->Tok
  | .int _ t=>t
  | .str _ t=>t
  | _=>0
noncomputable def vI:Value->Int
  | .int i _=>i
  | _=>0
noncomputable def vS:Value->Str
  | .str x _=>x
  | _=>Str.empty
noncomputable def vR:Value->Addr
  | .ref a=>a
  | _=>0
noncomputable abbrev aT (c:Code)(n:Nat):Tok:=vT (argV c n)
section
variable (kt:KT)(prog:Program)(w:World)(b t:Nat)
def COk (q:Nat->Nat->Code->Led->Sp):Prop:=∀b' t' c' l',b<=b'->t<=t'->SpOk kt prog w (q b' t' c' l') b' t'
noncomputable def HOk:List Hint->Prop
  | []=>True
  | .ctr _ q::H=>COk kt prog w b t q/\HOk H
  | .top::H=>HOk H
  | .own _::H=>HOk H
  | .go::H=>HOk H
  | .fn::H=>HOk H
end
theorem HOk.all {kt:KT}{prog:Program}{w:World}{b t:Nat}:∀{H:List Hint},HOk kt prog w b t H->∀ds q,Hint.ctr ds q∈H->COk kt prog w b t q
  | [],_,_,_,h=>by cases h
  | .ctr d q'::H,h,ds,q,hm=>by
    rcases List.mem_cons.mp hm with e | e
    · cases e;exact h.1
    · exact HOk.all h.2 ds q e
  | .top::H,h,ds,q,hm=>by rcases List.mem_cons.mp hm with e | e;cases e;exact HOk.all (H:=H) h ds q e
  | .own _::H,h,ds,q,hm=>by rcases List.mem_cons.mp hm with e | e;cases e;exact HOk.all (H:=H) h ds q e
  | .go::H,h,ds,q,hm=>by rcases List.mem_cons.mp hm with e | e;cases e;exact HOk.all (H:=H) h ds q e
  | .fn::H,h,ds,q,hm=>by rcases List.mem_cons.mp hm with e | e;cases e;exact HOk.all (H:=H) h ds q e
theorem HOk.app {kt:KT}{prog:Program}{w:World}{b t:Nat}:∀{H H':List Hint},HOk kt prog w b t H->HOk kt prog w b t H'->HOk kt prog w b t (H++H')
  | [],_,_,h=>h
  | .ctr d q'::H,H',h,h'=>⟨h.1,HOk.app h.2 h'⟩
  | .top::H,H',h,h'=>HOk.app (H:=H) h h'
  | .own _::H,H',h,h'=>HOk.app (H:=H) h h'
  | .go::H,H',h,h'=>HOk.app (H:=H) h h'
  | .fn::H,H',h,h'=>HOk.app (H:=H) h h'
noncomputable def hs:List Nat->List Hint->List Hint
  | [],_=>[]
  | 0::r,C=>.top::hs r C
  | 1::r,C=>.go::hs r C
  | 2::r,C=>.fn::hs r C
  | 3::r,c::C=>c::hs r C
  | 3::r,[]=>hs r []
  | (d+4)::r,C=>.own d::hs r C
theorem hs_ok {kt:KT}{prog:Program}{w:World}{b t:Nat}:∀(l:List Nat){C:List Hint},HOk kt prog w b t C->HOk kt prog w b t (hs l C)
  | [],_,_=>trivial
  | 0::r,C,h=>hs_ok r h
  | 1::r,C,h=>hs_ok r h
  | 2::r,C,h=>hs_ok r h
  | 3::r,[],h=>hs_ok r h
  | 3::r,.ctr _ q::C,h=>⟨h.1,hs_ok r h.2⟩
  | 3::r,.top::C,h=>hs_ok r (C:=C) h
  | 3::r,.own _::C,h=>hs_ok r (C:=C) h
  | 3::r,.go::C,h=>hs_ok r (C:=C) h
  | 3::r,.fn::C,h=>hs_ok r (C:=C) h
  | (d+4)::r,C,h=>hs_ok r (C:=C) h
theorem Runs.ok' {T:Params->KT}{prog:Program}{w:World}{sp:Sp}{b t:Nat}{l:List Nat}{C:List Hint}{tr:Sem Fin}{k:Nat}{ks:List Nat}(h:Runs T prog sp b t (hs l C) tr k ks)(htr:tr=FD sp.c∨tr=TF sp.c)
    (hlen:sp.L.length=sp.L'.length) (hks:nodupB ks=true) (hC:HOk (T w.params) prog w b t C):SpOk (T w.params) prog w sp b t:=
  h.ok htr hlen hks (fun ds q hm=>(hs_ok l hC).all ds q hm)
section
open Builtin Builtin.Str
noncomputable def replS (x y z:Str):Str:=glued z (partsBetween x (occurrences x y 0 x.length (x.length+1)) y.length)
noncomputable def inS (x y:Str):Bool:=!(occurrences x y 0 x.length 1).isEmpty
section
variable {kt:KT}{prog:Program}{w:World}{b t:Nat}
noncomputable abbrev cAdd (x y:Str):Hint:=.ctr [] fun _ t c _=>prim "str.__add__" [.str x (aT c 0),.str y (aT c 1)] (.str (x++y) t) 1
theorem cAdd_ok {x y:Str}(hx:x.length≠0)(hy:y.length≠0)(hl:(x++y).length<=sizeLine):COk kt prog w b t fun _ t c _=>prim "str.__add__" [.str x (aT c 0),.str y (aT c 1)] (.str (x++y) t) 1:=
  fun _ _ _ _ _ _=>p_add _ _ _ _ hx hy hl _ _
noncomputable abbrev cIn (x y:Str)(v:Bool):Hint:=.ctr [] fun _ t c _=>prim "str.__contains__" [.str x (aT c 0),.str y (aT c 1)] (.bool v) 0
theorem cIn_ok {x y:Str}{v:Bool}(h:inS x y=v):COk kt prog w b t fun _ t c _=>prim "str.__contains__" [.str x (aT c 0),.str y (aT c 1)] (.bool v) 0:=
  fun _ _ _ _ _ _=>p_contains _ _ _ _ h _ _
noncomputable abbrev cRepl (x y z:Str)(u v:Tok):Hint:=.ctr [] fun _ t c _=>prim "str.replace" [.str x (aT c 0),.str y u,.str z v] (.str (replS x y z) t) 1
theorem cRepl_ok {x y z:Str}{u v:Tok}(hz:(occurrences x y 0 x.length (x.length+1)).isEmpty=false)(hu:u≠0)(hv:v≠0)(huv:u≠v)(hyz:y≠z)(hy:y.length≠0)(hl:x.length+(x.length+1)*z.length<=1048576):
    COk kt prog w b t fun _ t c _=>prim "str.replace" [.str x (aT c 0),.str y u,.str z v] (.str (replS x y z) t) 1:=fun _ _ c _ _ _=>by
  have hl2:tooLong (x.length+(occurrences x y 0 x.length (x.length+1)).length*z.length)=false:=by
    have h1:=StrLaws.occ_length_le x y 0 x.length (x.length+1)
    have h2:(occurrences x y 0 x.length (x.length+1)).length*z.length<=(x.length+1)*z.length:=Nat.mul_le_mul_right _ h1
    unfold tooLong sizeLine
    exact decide_eq_false (by omega)
  have g:=gives_str_replace x y z (aT c 0) u v (fun _=>⟨by simp [hu,hv],by simp [huv],by simpa using hyz,hl2⟩)
  rw [hz] at g
  simp only [Bool.false_or] at g
  rw [if_neg (by simp [hy])] at g
  exact prim_str (fits_replaced y (by omega)) F.slot_str_replace (fun _=>typeIs_str _ _ _) F.entry_str_replace (F.args_str_replace_3 _ _ _) g _ _
end
end
def Tr (kt:KT)(prog:Program)(w:World)(n:Nat)(c:Code)(L:Led)(b t:Nat)(res:Except Value Fin)(M:Led)(da dt g:Nat):Prop:=
  ∀G A R s,Room n A->Inv kt s L b t G ->
    (∀s',Inv kt s' M (b+da) (t+dt) (finN G g)->Step (L.map (·.1)) s s'->(∀q∈M,q.1∈L.map (·.1)∨b<=q.1)->FinR prog w A R res s')->codeAny (model prog w) A c R s
section
variable {kt:KT}{prog:Program}{w:World}{n:Nat}{c c2:Code}{L M M2 N:Led}{b t da dt g da2 dt2 g2:Nat}{res:Except Value Fin}
noncomputable def AllIn (Y:List Addr)(b:Nat):List Addr->Prop
  | []=>True
  | a::X=>(a∈Y∨b<=a)/\AllIn Y b X
theorem AllIn.mem {Y:List Addr}{b:Nat}:∀{X:List Addr},AllIn Y b X->∀a∈X,a∈Y∨b<=a
  | _::_,h,a,ha=>(List.mem_cons.mp ha).elim (fun e=>e▸h.1) (AllIn.mem h.2 a)
theorem AllIn.led {Y:List Addr}{b:Nat}{L:List (Addr×Obj)}(h:AllIn Y b (L.map (·.1))):∀q∈L,q.1∈Y∨b<=q.1:=fun q hq=>h.mem q.1 (List.mem_map_of_mem hq)
theorem Step.trans {X Y:List Addr}{s s1 s2:Shared}{b:Nat}(h1:Step X s s1)(h2:Step Y s1 s2)(hb:s.heap.objs.size=b)(hY:∀a∈Y,a∈X∨b<=a):Step X s s2:=
  ⟨fun a o ha ho=>h2.keep a o (fun m=>by
    rcases hY a m with h | h
    · exact ha h
    · have lt:a<s.heap.objs.size:=Heap.lt_size ho
      rw [hb] at lt
      exact absurd h (Nat.not_le.mpr lt)) (h1.keep a o ha ho),h2.os.trans h1.os,Nat.le_trans h1.grow h2.grow⟩
theorem Tr.trans (h1:Tr kt prog w n c L b t (.ok (.again c2)) M da dt g)(h2:Tr kt prog w n c2 M (b+da) (t+dt) res M2 da2 dt2 g2):Tr kt prog w n c L b t res M2 (da+da2) (dt+dt2) (g+g2):=by
  intro G A R s hr hi hfin
  refine h1 G A R s hr hi fun s1 I1 S1 N1=>?_
  have hle:b<=b+da:=Nat.le_add_right ..
  refine h2 (finN G g) A R s1 hr I1 fun s2 I2 S2 N2=>hfin s2 ?_ (S1.trans S2 hi.size fun a ha=>?_) fun q hq=>?_
  · rw [<- Nat.add_assoc,<- Nat.add_assoc,<- finN_add];exact I2
  · obtain ⟨q,hq,e⟩:=List.mem_map.mp ha
    exact e▸N1 q hq
  · rcases N2 q hq with m | m
    · obtain ⟨q',hq',e⟩:=List.mem_map.mp m
      exact e▸N1 q' hq'
    · exact .inr (Nat.le_trans hle m)
theorem Tr.less (h:Tr kt prog w n c L b t res M da dt g)(hs:∀p∈M2,p∈M)(nd:(M.map (·.1)).Nodup->(M2.map (·.1)).Nodup):Tr kt prog w n c L b t res M2 da dt g:=fun G A R s hr hi hfin=>
  h G A R s hr hi fun s1 I S N=>hfin s1 (I.sub hs (nd I.nd)) S fun q hq=>N q (hs q hq)
theorem Tr.frame (h:Tr kt prog w n c L b t res M da dt g):Tr kt prog w n c (L++N) b t res (M++N) da dt g:=by
  intro G A R s hr hi hfin
  have nd:=hi.nd
  rw [List.map_append] at nd
  have nd':=List.nodup_append.mp nd
  refine h G A R s hr (hi.sub (fun p hp=>List.mem_append_left _ hp) nd'.1) fun s1 I S Nw=>?_
  have keep:∀p∈N,s1.heap.get? p.1=some p.2:=fun p hp=>S.keep _ _ (fun m=>nd'.2.2 _ m _ (List.mem_map_of_mem hp) rfl) (hi.has p (List.mem_append_right _ hp))
  refine hfin s1 ⟨I.base,I.gens,fun p hp=>?_,?_,fun p hp=>?_,I.size,I.toks,I.big⟩ ⟨fun a o ha ho=>S.keep a o (fun m=>ha ?_) ho,S.os,S.grow⟩ fun q hq=>?_
  · rcases List.mem_append.mp hp with m | m
    · exact I.has p m
    · exact keep p m
  · rw [List.map_append]
    refine List.nodup_append.mpr ⟨I.nd,nd'.2.1,fun a ha b' hb z=>?_⟩
    obtain ⟨p,hp,e⟩:=List.mem_map.mp ha
    obtain ⟨q,hq,e'⟩:=List.mem_map.mp hb
    rcases Nw p hp with m | m
    · exact nd'.2.2 _ m _ (List.mem_map_of_mem hq) (by rw [show p.1=a from e,show q.1=b' from e',z])
    · have lt:q.1<s.heap.objs.size:=Heap.lt_size (hi.has q (List.mem_append_right _ hq))
      rw [hi.size] at lt
      have e1:p.1=q.1:=by rw [show p.1=a from e,show q.1=b' from e',z]
      rw [e1] at m
      exact absurd m (Nat.not_le.mpr lt)
  · rcases List.mem_append.mp hp with m | m
    · exact I.off p m
    · exact hi.off p (List.mem_append_right _ m)
  · rw [List.map_append];exact List.mem_append_left _ m
  · rw [List.map_append]
    rcases List.mem_append.mp hq with m | m
    · rcases Nw q m with h | h
      · exact .inl (List.mem_append_left _ h)
      · exact .inr h
    · exact .inl (List.mem_append_right _ (List.mem_map_of_mem m))
theorem Tr.sp {sp:Sp}(h:Tr kt prog w sp.n sp.c sp.L b t (finOf sp.res) (sp.new++rezip sp.L sp.L') sp.da sp.dt sp.gn)(hlen:sp.L.length=sp.L'.length):SpOk kt prog w sp b t:=by
  refine ⟨hlen,fun G A R s hr hi hfin=>h G A R s hr hi fun s' I S N=>?_⟩
  have:=hfin s' I S fun q hq=>by
    rcases N q (List.mem_append_left _ hq) with m | m
    · have nd:=I.nd
      rw [List.map_append,rezip_map hlen] at nd
      exact absurd rfl ((List.nodup_append.mp nd).2.2 _ (List.mem_map_of_mem hq) _ m)
    · exact m
  revert this
  cases sp.res<;>exact id
theorem Tr.of_sp {sp:Sp}(h:SpOk kt prog w sp b t):Tr kt prog w sp.n sp.c sp.L b t (finOf sp.res) (sp.new++rezip sp.L sp.L') sp.da sp.dt sp.gn:=by
  intro G A R s hr hi hfin
  refine h.2 G A R s hr hi fun s' I S N=>?_
  have:=hfin s' I S fun q hq=>by
    rcases List.mem_append.mp hq with m | m
    · exact .inr (N q m)
    · refine .inl ?_
      rw [<- rezip_map h.1]
      exact List.mem_map_of_mem m
  revert this
  cases sp.res<;>exact id
theorem Tr.mono {n':Nat}(h:Tr kt prog w n c L b t res M da dt g)(hn:n<=n'):Tr kt prog w n' c L b t res M da dt g:=fun G A R s hr=>h G A R s (hr.mono hn)
end
structure Job where
  n:Nat
  c:Code
  tr:Sem Fin
  L:Led
  H:List Hint
  ks:List Nat
  res:Except Value Fin
  M:Led
  da:Nat
  dt:Nat
  g:Nat
noncomputable def Job.run (J:Job)(kt:KT)(P:Params)(prog:Program)(b t:Nat):Option Out:=runE kt P prog b t 100000 J.H [] J.n J.c J.tr J.L 0 0 0 [] []
noncomputable def outL (ks:List Nat):Option Out->Option (List Ob×Except Value Fin×Option Led×Nat×Nat×Nat)
  | some o=>some (o.xs,o.res,gets o.L ks,o.off,o.toff,o.g)
  | none=>none
noncomputable def outR (J:Job):Option Out->Option (List Ob×Except Value Fin×Option Led×Nat×Nat×Nat)
  | some o=>some (o.ys,J.res,some J.M,J.da,J.dt,J.g)
  | none=>some ([],.error .none,none,0,0,0)
def Job.Eqn (J:Job)(kt:KT)(P:Params)(prog:Program)(b t:Nat):Prop:=outL J.ks (J.run kt P prog b t)=outR J (J.run kt P prog b t)
def JobOk (T:Params->KT)(prog:Program)(J:KT->Params->Job)(b t:Nat):Prop:=∀(Q:Params)(b1 b2:Bool),(J (T (PR Q b1 b2)) (PR Q b1 b2)).Eqn (T (PR Q b1 b2)) (PR Q b1 b2) prog b t
theorem run_tr {kt:KT}{prog:Program}{w:World}{b t:Nat}{J:Job}(h:J.Eqn kt w.params prog b t)(htr:J.tr=FD J.c∨J.tr=TF J.c)(hks:nodupB J.ks=true)
    (hsp:∀ds q,Hint.ctr ds q∈J.H->COk kt prog w b t q):Tr kt prog w J.n J.c J.L b t J.res J.M J.da J.dt J.g:=by
  unfold Job.Eqn at h
  generalize ho:J.run kt w.params prog b t=x at h
  cases x with
  | none=>cases h
  | some o=>
    simp only [outL,outR,Option.some.injEq,Prod.mk.injEq] at h
    obtain ⟨h1,h2,h3,h4,h5,h6⟩:=h
    intro G A R s hr hi hfin
    have z:=run_sound (X:=J.L.map (·.1)) (s0:=s) (G:=G) hi.size 100000 J.H [] J.n J.c J.tr J.L 0 0 0 [] [] o ho h1 hsp A R s hr hi (Step.refl _ _) ⟨[],rfl,fun _ h=>by cases h⟩ (fun s' I S O=>by
      rw [h2]
      rw [h4,h5,h6] at I
      refine hfin s' (I.part hks h3) S fun q hq=>?_
      obtain ⟨d,_,e⟩:=gets_mem h3 q hq
      obtain ⟨ns,e1,g1⟩:=O
      have hm:q.1∈ns++J.L.map (·.1):=e1▸List.mem_map_of_mem (lget_mem e)
      rcases List.mem_append.mp hm with m | m
      · exact .inr (g1 _ m)
      · exact .inl m)
    refine codeAny_of_tree ?_
    rcases htr with e | e
    · rw [show (model prog w).den=denote table from rfl,FD_eq,<- e];exact z
    · rw [e] at z;exact TF_any (κ:=[]) hr z
theorem JobOk.tr {T:Params->KT}{prog:Program}{w:World}{b t:Nat}{J:KT->Params->Job}(h:JobOk T prog J b t)(htr:(J (T w.params) w.params).tr=FD (J (T w.params) w.params).c∨(J (T w.params) w.params).tr=TF (J (T w.params) w.params).c)(hks:nodupB (J (T w.params) w.params).ks=true)
    {l:List Nat} {C:List Hint} (hH:(J (T w.params) w.params).H=hs l C) (hC:HOk (T w.params) prog w b t C) :
    Tr (T w.params) prog w (J (T w.params) w.params).n (J (T w.params) w.params).c (J (T w.params) w.params).L b t (J (T w.params) w.params).res (J (T w.params) w.params).M (J (T w.params) w.params).da (J (T w.params) w.params).dt (J (T w.params) w.params).g:=by
  have h':=h w.params (w.params.followText "special-get-raises") (w.params.followText "comprehension-iter-twice")
  rw [PR_eq] at h'
  exact run_tr h' htr hks fun ds q hm=>(hs_ok l hC).all ds q (hH▸hm)
noncomputable def fdOf (K:KT)(a:Nat):FuncData:=match K.get a with
  | some o=>match o.data with
    | .func fd=>fd
    | _=>default
  | none=>default
noncomputable def qualOf (K:KT)(fd:FuncData):Str:=match fd.code with
  | .ref c=>match K.get c with
    | some o=>match o.data with
      | .fields xs=>match xs.toList with
        | _::.str q _::_=>q
        | _=>fd.qualname
      | _=>fd.qualname
    | none=>fd.qualname
  | _=>fd.qualname
noncomputable def envOf (K:KT)(fn:Nat)(fr:Nat)(cells:List (Str×Addr)):Env:=
  ⟨(fdOf K fn).scope,fr,(fdOf K fn).globals,cells,qualOf K (fdOf K fn)++Y0,some fn,(fdOf K fn).code,some fr,(fdOf K fn).builtins⟩
noncomputable def bodyOf (K:KT)(fn:Nat):List Stmt:=match (fdOf K fn).body with
  | .stmts b=>b
  | _=>[]
noncomputable def nth:List Stmt->Nat->Option Stmt
  | [],_=>none
  | s::_,0=>some s
  | _::r,n+1=>nth r n
noncomputable def inner:List Stmt->List Nat->List Stmt
  | b,[]=>b
  | b,i::r=>match nth b i with
    | some (.For _ _ b' _ _)=>inner b' r
    | some (.While _ b' _ _)=>inner b' r
    | some (.If _ b' _ _)=>inner b' r
    | _=>[]
noncomputable def elsed:List Stmt->Nat->List Stmt
  | b,i=>match nth b i with
    | some (.If _ _ b' _)=>b'
    | _=>[]
noncomputable def forOf (b:List Stmt)(i:Nat)(it:Value)(env:Env):Code:=match nth b i with
  | some (.For tg _ b' e _)=>.forLoop tg it b' e env
  | some (.While te b' e _)=>.whileLoop te b' e env
  | _=>.block [] env
noncomputable def ent (P:Params)(x:Str)(tk:Nat)(v:Value):DictEntry:=⟨reduceHash (P.strHash x.cps),.str x tk,v⟩
noncomputable abbrev frO (es:Array DictEntry)(n:Nat):Obj:=⟨.type "frame",none,.dict es n,#[]⟩
noncomputable abbrev liO (xs:Array Value)(n:Nat):Obj:=⟨.type "list",none,.seq xs n,#[]⟩
noncomputable abbrev tuO (xs:Array Value):Obj:=⟨.type "tuple",none,.seq xs 0,#[]⟩
noncomputable abbrev riO (i n:Int):Obj:=⟨.type "range_iterator",none,.fields #[.int i 0,.int n 0,.int 1 0],#[]⟩
noncomputable abbrev tiO (a:Value)(i:Int):Obj:=⟨.type "tuple_iterator",none,.fields #[a,.int i 0],#[]⟩
abbrev KJ:=KT->Params->Job
abbrev RP:=(Params->KT)->Program->Prop
abbrev JTr (T:Params->KT)(prog:Program)(w:World)(J:KJ)(b t:Nat):Prop:=Tr (T w.params) prog w (J (T w.params) w.params).n (J (T w.params) w.params).c (J (T w.params) w.params).L b t (J (T w.params) w.params).res (J (T w.params) w.params).M (J (T w.params) w.params).da (J (T w.params) w.params).dt (J (T w.params) w.params).g
abbrev JH (T:Params->KT)(prog:Program)(w:World)(J:KJ)(b t:Nat):Prop:=∀ds q,Hint.ctr ds q∈(J (T w.params) w.params).H->COk (T w.params) prog w b t q
abbrev JSp (T:Params->KT)(prog:Program)(w:World)(sp:KT->Params->Sp)(b t:Nat):Prop:=SpOk (T w.params) prog w (sp (T w.params) w.params) b t
section
variable {T:Params->KT}{prog:Program}{w:World}{b t:Nat}{J:KJ}{l:List Nat}{C:List Hint}
theorem jobQ (h:JobOk T prog J b t):(J (T w.params) w.params).Eqn (T w.params) w.params prog b t:=by
  have h':=h w.params (w.params.followText "special-get-raises") (w.params.followText "comprehension-iter-twice")
  rw [PR_eq] at h'
  exact h'
theorem jtr (h:JobOk T prog J b t)(hH:(J (T w.params) w.params).H=hs l C)(hC:HOk (T w.params) prog w b t C)(htr:(J (T w.params) w.params).tr=FD (J (T w.params) w.params).c:=by rfl)(hks:nodupB (J (T w.params) w.params).ks=true:=by rfl):JTr T prog w J b t:=
  JobOk.tr h (.inl htr) hks hH hC
theorem jh (hH:(J (T w.params) w.params).H=hs l C)(hC:HOk (T w.params) prog w b t C):JH T prog w J b t:=fun ds q hm=>(hs_ok l hC).all ds q (hH▸hm)
end
noncomputable def jobOf (sp:Sp)(tr:Sem Fin)(l:List Nat)(C:List Hint)(ks:List Nat):Job:=⟨sp.n,sp.c,tr,sp.L,hs l C,ks,finOf sp.res,sp.new++rezip sp.L sp.L',sp.da,sp.dt,sp.gn⟩
noncomputable abbrev jobTF (sp:Sp):=jobOf sp (TF sp.c)
noncomputable abbrev jobFD (sp:Sp):=jobOf sp (FD sp.c)
theorem jobOf_ok {T:Params->KT}{prog:Program}{w:World}{b t:Nat}{sp:KT->Params->Sp}{tr:KT->Params->Sem Fin}{l:Params->List Nat}{C:KT->Params->List Hint}{ks:List Nat}
    (h:JobOk T prog (fun K P=>jobOf (sp K P) (tr K P) (l P) (C K P) ks) b t) (htr:tr (T w.params) w.params=FD (sp (T w.params) w.params).c∨tr (T w.params) w.params=TF (sp (T w.params) w.params).c)
    (hlen:(sp (T w.params) w.params).L.length=(sp (T w.params) w.params).L'.length) (hks:nodupB ks=true) (hC:HOk (T w.params) prog w b t (C (T w.params) w.params)):SpOk (T w.params) prog w (sp (T w.params) w.params) b t:=
  Tr.sp (JobOk.tr h htr hks rfl hC) hlen
theorem run_tree {α:Type}{kt:KT}{prog:Program}{w:World}{b t:Nat}{J:Job}{m:Sem α}{enc:α->Fin}(h:J.Eqn kt w.params prog b t)(htr:J.tr=m >>= fun a=>Sem.pure (enc a))(hks:nodupB J.ks=true)
    (hsp:∀ds q,Hint.ctr ds q∈J.H->COk kt prog w b t q) {G:Array GenState} {A:Around} {Q:α->Shared->Prop} {E:Value->Shared->Prop} {s:Shared} (hr:Room J.n A) (hi:Inv kt s J.L b t G)
    (hfin:∀s',Inv kt s' J.M (b+J.da) (t+J.dt) (finN G J.g)->Step (J.L.map (·.1)) s s'->(∀q∈J.M,q.1∈J.L.map (·.1)∨b<=q.1)->match J.res with
      | .ok f=>∀a,enc a=f->Q a s'
      | .error e=>E e s') (hq:∀c,J.res≠.ok (.again c)) (hq2:∀a c,enc a≠.again c):wpAny (model prog w) (A.under J.c) m Q E s:=by
  unfold Job.Eqn at h
  generalize ho:J.run kt w.params prog b t=x at h
  cases x with
  | none=>cases h
  | some o=>
    simp only [outL,outR,Option.some.injEq,Prod.mk.injEq] at h
    obtain ⟨h1,h2,h3,h4,h5,h6⟩:=h
    have z:=run_sound (X:=J.L.map (·.1)) (s0:=s) (G:=G) hi.size 100000 J.H [] J.n J.c J.tr J.L 0 0 0 [] [] o ho h1 hsp A
      (fun r s'=>match r with | .ok f=>∀a,enc a=.done f->Q a s' | .error e=>E e s') s hr hi (Step.refl _ _) ⟨[],rfl,fun _ h=>by cases h⟩ (fun s' I S O=>by
      rw [h2]
      rw [h4,h5,h6] at I
      have:=hfin s' (I.part hks h3) S fun q hq=>by
        obtain ⟨d,_,e⟩:=gets_mem h3 q hq
        obtain ⟨ns,e1,g1⟩:=O
        have hm:q.1∈ns++J.L.map (·.1):=e1▸List.mem_map_of_mem (lget_mem e)
        rcases List.mem_append.mp hm with m | m
        · exact .inr (g1 _ m)
        · exact .inl m
      revert this
      cases hres:J.res with
      | error e=>exact id
      | ok f=>
        cases f with
        | done f=>exact id
        | again c=>exact absurd hres (hq c))
    rw [htr] at z
    intro Γ p hΓ
    have z':=z Γ p hΓ
    rw [Sem.wp_bind'] at z'
    refine Sem.wp_mono _ Γ _ (fun a p' s' h'=>?_) (fun _ _ _ h'=>h') p s z'
    have h'':postT prog w (around A []) (endOf prog w A (fun r s'=>match r with | .ok f=>∀a,enc a=.done f->Q a s' | .error e=>E e s') []) (enc a) s':=h'
    cases he:enc a with
    | again c=>exact absurd he (hq2 a c)
    | done f=>
      rw [he] at h''
      exact h'' a he
section
open Builtin Builtin.Str
noncomputable def findS (x y:Str)(lo hi:Nat):Int:=match occurrences x y lo hi 1 with | i::_=>(i:Int) | []=>-1
noncomputable def rfindS (x y:Str)(lo hi:Nat):Int:=match lastOccurrence x y lo hi with | some i=>(i:Int) | none=>-1
noncomputable def endsS (x y:Str):Bool:=0+y.length<=x.length&&subAt x y (x.length-y.length)
noncomputable def eqS (x y:Str):Bool:=x.cps.toList==y.cps.toList
noncomputable def hiOf (x:Str)(j:Int):Nat:=min (fromIndex x.length j) x.length
noncomputable abbrev slO (lo hi:Value):Obj:=⟨.type "slice",none,.fields #[lo,hi,.none],#[]⟩
noncomputable def sliceS (x:Str)(lo hi:Option Int):Str:=⟨((strSliceIndices lo hi 1 x.length).filterMap (x.cps[·]?)).toArray⟩
section
variable {kt:KT}{prog:Program}{w:World}{b t:Nat}
noncomputable abbrev prE (id:String)(args:List Value)(v:Value)(dt:Nat)(L:Led)(L':List Obj)(new:Led)(da:Nat):Sp:=⟨0,.call (.builtin id) ⟨args,[]⟩,L,.ok (.ret v),L',new,da,dt,0⟩
theorem gives_find4 (x y:Str)(i j:Int)(t u v z:Tok):Gives («str.find» ⟨[.str x t,.str y u,.int i v,.int j z],[]⟩) (.int (findS x y (fromIndex x.length i) (hiOf x j))):=by
  show Gives (match occurrences x y (fromIndex x.length i) (min (fromIndex x.length j) x.length) 1 with | k::_=>retInt k | []=>(do rule "str.find.not-found";retInt (-1))) _
  unfold findS hiOf
  cases occurrences x y (fromIndex x.length i) (min (fromIndex x.length j) x.length) 1 with
  | nil=>exact .rule (.of_eq rfl)
  | cons k r=>exact .of_eq rfl
theorem gives_rfind4 (x y:Str)(i j:Int)(t u v z:Tok):Gives («str.rfind» ⟨[.str x t,.str y u,.int i v,.int j z],[]⟩) (.int (rfindS x y (fromIndex x.length i) (hiOf x j))):=by
  show Gives (match lastOccurrence x y (fromIndex x.length i) (min (fromIndex x.length j) x.length) with | some k=>retInt k | none=>(do rule "str.rfind.not-found";retInt (-1))) _
  unfold rfindS hiOf
  cases lastOccurrence x y (fromIndex x.length i) (min (fromIndex x.length j) x.length) with
  | none=>exact .rule (.of_eq rfl)
  | some k=>exact .of_eq rfl
noncomputable abbrev cEq (x y:Str)(v:Bool):Hint:=.ctr [] fun _ t c _=>prim "str.__eq__" [.str x (aT c 0),.str y (aT c 1)] (.bool v) 0
theorem cEq_ok {x y:Str}{v:Bool}(h:eqS x y=v):COk kt prog w b t fun _ t c _=>prim "str.__eq__" [.str x (aT c 0),.str y (aT c 1)] (.bool v) 0:=
  fun _ _ _ _ _ _=>by subst h;exact prim_val F.slot_str_eq (fun _=>typeIs_str _ _ _) F.entry_str_eq (F.args_str_eq_2 _ _) (gives_str_eq _ _ _ _) _ _
noncomputable abbrev cNe (x y:Str)(v:Bool):Hint:=.ctr [] fun _ t c _=>prim "str.__ne__" [.str x (aT c 0),.str y (aT c 1)] (.bool v) 0
theorem cNe_ok {x y:Str}{v:Bool}(h:(!eqS x y)=v):COk kt prog w b t fun _ t c _=>prim "str.__ne__" [.str x (aT c 0),.str y (aT c 1)] (.bool v) 0:=
  fun _ _ _ _ _ _=>by subst h;exact prim_val F.slot_str_ne (fun _=>typeIs_str _ _ _) F.entry_str_ne (F.args_str_ne_2 _ _) (gives_str_ne _ _ _ _) _ _
noncomputable abbrev cLen (x:Str):Hint:=.ctr [] fun _ t c _=>prim "str.__len__" [.str x (aT c 0)] (.int x.length t) 1
theorem cLen_ok {x:Str}:COk kt prog w b t fun _ t c _=>prim "str.__len__" [.str x (aT c 0)] (.int x.length t) 1:=
  fun _ _ _ _ _ _=>prim_int F.slot_str_len (fun _=>typeIs_str _ _ _) F.entry_str_len (F.args_str_len_1 _) (gives_str_len _ _) _ _
noncomputable abbrev cFind (x y:Str)(i:Int):Hint:=.ctr [] fun _ t c _=>prim "str.find" [.str x (aT c 0),.str y (aT c 1)] (.int i t) 1
theorem cFind_ok {x y:Str}{i:Int}(h:findS x y 0 x.length=i):COk kt prog w b t fun _ t c _=>prim "str.find" [.str x (aT c 0),.str y (aT c 1)] (.int i t) 1:=
  fun _ _ _ _ _ _=>by subst h;exact prim_int F.slot_str_find (fun _=>typeIs_str _ _ _) F.entry_str_find (F.args_str_find_2 _ _) (gives_str_find _ _ _ _) _ _
noncomputable abbrev cFind4 (x y:Str)(lo hi i:Int):Hint:=.ctr [] fun _ t c _=>prim "str.find" [.str x (aT c 0),.str y (aT c 1),.int lo (aT c 2),.int hi (aT c 3)] (.int i t) 1
theorem cFind4_ok {x y:Str}{lo hi i:Int}(h:findS x y (fromIndex x.length lo) (hiOf x hi)=i):COk kt prog w b t fun _ t c _=>prim "str.find" [.str x (aT c 0),.str y (aT c 1),.int lo (aT c 2),.int hi (aT c 3)] (.int i t) 1:=
  fun _ _ _ _ _ _=>by subst h;exact prim_int F.slot_str_find (fun _=>typeIs_str _ _ _) F.entry_str_find (F.args_str_find_4 _ _ _ _) (gives_find4 _ _ _ _ _ _ _ _) _ _
noncomputable abbrev cRfind4 (x y:Str)(lo hi i:Int):Hint:=.ctr [] fun _ t c _=>prim "str.rfind" [.str x (aT c 0),.str y (aT c 1),.int lo (aT c 2),.int hi (aT c 3)] (.int i t) 1
theorem cRfind4_ok {x y:Str}{lo hi i:Int}(h:rfindS x y (fromIndex x.length lo) (hiOf x hi)=i):COk kt prog w b t fun _ t c _=>prim "str.rfind" [.str x (aT c 0),.str y (aT c 1),.int lo (aT c 2),.int hi (aT c 3)] (.int i t) 1:=
  fun _ _ _ _ _ _=>by subst h;exact prim_int F.slot_str_rfind (fun _=>typeIs_str _ _ _) F.entry_str_rfind (F.args_str_rfind_4 _ _ _ _) (gives_rfind4 _ _ _ _ _ _ _ _) _ _
noncomputable abbrev cEnds (x y:Str)(v:Bool):Hint:=.ctr [] fun _ t c _=>prim "str.endswith" [.str x (aT c 0),.str y (aT c 1)] (.bool v) 0
theorem cEnds_ok {x y:Str}{v:Bool}(h:endsS x y=v):COk kt prog w b t fun _ t c _=>prim "str.endswith" [.str x (aT c 0),.str y (aT c 1)] (.bool v) 0:=
  fun _ _ _ _ _ _=>by subst h;exact prim_val F.slot_str_endswith (fun _=>typeIs_str _ _ _) F.entry_str_endswith (F.args_str_endswith_2 _ _) (gives_str_endswith _ _ _ _) _ _
abbrev cAddL (y:Str):Hint:=.ctr [] fun _ t c _=>prim "str.__add__" [.str Y2 (aT c 0),.str y (aT c 1)] (.str y (aT c 1)) 0
theorem cAddL_ok {y:Str}:COk kt prog w b t fun _ t c _=>prim "str.__add__" [.str Y2 (aT c 0),.str y (aT c 1)] (.str y (aT c 1)) 0:=fun _ _ c _ _ _=>by
  have g:=gives_str_add Y2 y (aT c 0) (aT c 1)
  rw [if_pos (by rfl)] at g
  exact prim_val F.slot_str_add (fun _=>typeIs_str _ _ _) F.entry_str_add (F.args_str_add_2 _ _) g _ _
abbrev cAddR (x:Str):Hint:=.ctr [] fun _ t c _=>prim "str.__add__" [.str x (aT c 0),.str Y2 (aT c 1)] (.str x (aT c 0)) 0
theorem cAddR_ok {x:Str}(hx:x.length≠0):COk kt prog w b t fun _ t c _=>prim "str.__add__" [.str x (aT c 0),.str Y2 (aT c 1)] (.str x (aT c 0)) 0:=fun _ _ c _ _ _=>by
  have g:=gives_str_add x Y2 (aT c 0) (aT c 1)
  rw [if_neg (by simpa using hx),if_pos (by rfl)] at g
  exact prim_val F.slot_str_add (fun _=>typeIs_str _ _ _) F.entry_str_add (F.args_str_add_2 _ _) g _ _
noncomputable abbrev cLt (x y:Int)(v:Bool):Hint:=.ctr [] fun _ t c _=>prim "int.__lt__" [.int x (aT c 0),.int y (aT c 1)] (.bool v) 0
theorem cLt_ok {x y:Int}{v:Bool}(h:decide (x<y)=v):COk kt prog w b t fun _ t c _=>prim "int.__lt__" [.int x (aT c 0),.int y (aT c 1)] (.bool v) 0:=
  fun _ _ _ _ _ _=>by subst h;exact prim_val F.slot_int_lt (fun _=>typeIs_int _ _ _) F.entry_int_lt (F.args_int_lt_2 _ _) (gives_int_lt _ _ _ _) _ _
noncomputable abbrev cLe (x y:Int)(v:Bool):Hint:=.ctr [] fun _ t c _=>prim "int.__le__" [.int x (aT c 0),.int y (aT c 1)] (.bool v) 0
theorem cLe_ok {x y:Int}{v:Bool}(h:decide (x<=y)=v):COk kt prog w b t fun _ t c _=>prim "int.__le__" [.int x (aT c 0),.int y (aT c 1)] (.bool v) 0:=
  fun _ _ _ _ _ _=>by subst h;exact prim_val F.slot_int_le (fun _=>typeIs_int _ _ _) F.entry_int_le (F.args_int_le_2 _ _) (gives_int_le _ _ _ _) _ _
noncomputable abbrev cGt (x y:Int)(v:Bool):Hint:=.ctr [] fun _ t c _=>prim "int.__gt__" [.int x (aT c 0),.int y (aT c 1)] (.bool v) 0
theorem cGt_ok {x y:Int}{v:Bool}(h:decide (x > y)=v):COk kt prog w b t fun _ t c _=>prim "int.__gt__" [.int x (aT c 0),.int y (aT c 1)] (.bool v) 0:=
  fun _ _ _ _ _ _=>by subst h;exact prim_val F.slot_int_gt (fun _=>typeIs_int _ _ _) F.entry_int_gt (F.args_int_gt_2 _ _) (gives_int_gt _ _ _ _) _ _
noncomputable abbrev cGe (x y:Int)(v:Bool):Hint:=.ctr [] fun _ t c _=>prim "int.__ge__" [.int x (aT c 0),.int y (aT c 1)] (.bool v) 0
theorem cGe_ok {x y:Int}{v:Bool}(h:decide (x≥y)=v):COk kt prog w b t fun _ t c _=>prim "int.__ge__" [.int x (aT c 0),.int y (aT c 1)] (.bool v) 0:=
  fun _ _ _ _ _ _=>by subst h;exact prim_val F.slot_int_ge (fun _=>typeIs_int _ _ _) F.entry_int_ge (F.args_int_ge_2 _ _) (gives_int_ge _ _ _ _) _ _
noncomputable abbrev cIeq (x y:Int)(v:Bool):Hint:=.ctr [] fun _ t c _=>prim "int.__eq__" [.int x (aT c 0),.int y (aT c 1)] (.bool v) 0
theorem cIeq_ok {x y:Int}{v:Bool}(h:(x==y)=v):COk kt prog w b t fun _ t c _=>prim "int.__eq__" [.int x (aT c 0),.int y (aT c 1)] (.bool v) 0:=
  fun _ _ _ _ _ _=>by subst h;exact prim_val F.slot_int_eq (fun _=>typeIs_int _ _ _) F.entry_int_eq (F.args_int_eq_2 _ _) (gives_int_eq _ _ _ _) _ _
noncomputable abbrev cIne (x y:Int)(v:Bool):Hint:=.ctr [] fun _ t c _=>prim "int.__ne__" [.int x (aT c 0),.int y (aT c 1)] (.bool v) 0
theorem cIne_ok {x y:Int}{v:Bool}(h:(x != y)=v):COk kt prog w b t fun _ t c _=>prim "int.__ne__" [.int x (aT c 0),.int y (aT c 1)] (.bool v) 0:=
  fun _ _ _ _ _ _=>by subst h;exact prim_val F.slot_int_ne (fun _=>typeIs_int _ _ _) F.entry_int_ne (F.args_int_ne_2 _ _) (gives_int_ne _ _ _ _) _ _
theorem prim_meets {T:String}{name:Str}{id:String}{B:Builtin}{self v:Value}{rest:List Value}{dt da:Nat}{L:Led}{L':List Obj}{new:Led}(hlen:L.length=L'.length){S:PySem.Spec}(slot:Slot T name id)(hT:∀s:Shared,s.TypeIs self T)(entry:entryFor table id=some B)(args:argsOk id ⟨self::rest,[]⟩)
    (g:Meets (B ⟨self::rest,[]⟩) S) (h:∀G A R s,Inv kt s L b t G->(∀s',Inv kt s' (new++rezip L L') (b+da) (t+dt) G->Step (L.map (·.1)) s s'->(∀q∈new,b<=q.1)->R (.ok (.ret v)) s')->S A R s) :
    SpOk kt prog w (prE id (self::rest) v dt L L' new da) b t:=⟨hlen,fun G A R s hr hi hfin=>
  codeAny_call_builtin slot.plain entry (slot.check _ _ _ _ _ _ _ _ (hT s) args (g prog w A R s (h G A R s hi hfin)))⟩
noncomputable abbrev cSlice (x:Str)(a:Addr)(lo hi:Option (Int×Tok))(d:Nat):Hint:=.ctr [d] fun _ t c l=>prE "str.__getitem__" [.str x (aT c 0),.ref a] (.str (sliceS x (lo.map (·.1)) (hi.map (·.1))) t) 1 [(a,slO (partValue lo) (partValue hi))] [slO (partValue lo) (partValue hi)] [] 0
theorem slice_le (x:Str)(lo hi:Option Int):(sliceS x lo hi).length<=x.length:=by
  unfold sliceS Str.length
  refine Nat.le_trans (by rw [List.size_toArray];exact List.length_filterMap_le ..) (sliceIndices_le lo hi x.length)
theorem cSlice_ok {x:Str}{a:Addr}{lo hi:Option (Int×Tok)}(hx:x.length<=sizeLine)(h:(strSliceIndices (lo.map (·.1)) (hi.map (·.1)) 1 x.length).length≠x.length):COk kt prog w b t fun _ t c l=>prE "str.__getitem__" [.str x (aT c 0),.ref a] (.str (sliceS x (lo.map (·.1)) (hi.map (·.1))) t) 1 [(a,slO (partValue lo) (partValue hi))] [slO (partValue lo) (partValue hi)] [] 0:=
  fun b' t' c l _ _=>by
    refine prim_meets rfl F.slot_str_getitem (fun _=>typeIs_str _ _ _) F.entry_str_getitem (F.args_str_getitem_2 _ _) (meets_str_getitem_slice x (aT c 0) a lo hi none rfl) fun G A R s hi' hfin=>?_
    refine ⟨⟨_,hi'.has _ List.mem_cons_self,rfl,rfl⟩,?_⟩
    unfold sliceMade
    have hne:¬ ((((none:Option (Int×Tok)).map (·.1)).getD 1==1)&&(slicePicked x lo hi none).length==x.length)=true:=fun e=>
      h (eq_of_beq (Bool.and_eq_true_iff.mp e).2)
    rw [if_neg hne]
    refine ⟨Nat.le_trans (slice_le x _ _) hx,?_⟩
    have:=hfin { s with toks:=s.toks+1 } (by rw [hi'.toks];exact hi'.toks' _) ((Step.refl _ _).toks _) (fun _ h=>by cases h)
    show R (.ok (.ret (.str (sliceS x (lo.map (·.1)) (hi.map (·.1))) s.toks))) _
    rw [hi'.toks] at this ⊢
    exact this
noncomputable abbrev cIdx (x:Str)(i:Int)(k:Nat):Hint:=.ctr [] fun _ t c _=>prim "str.__getitem__" [.str x (aT c 0),.int i (aT c 1)] (.str ⟨#[k]⟩ t) 1
theorem cIdx_ok {x:Str}{i:Int}{k:Nat}(hr:(decide (i < -(2 ^ 63:Int))||decide (i≥2 ^ 63))=false)(h:(seqIndex? i x.length).bind (x.cps[·]?)=some k):COk kt prog w b t fun _ t c _=>prim "str.__getitem__" [.str x (aT c 0),.int i (aT c 1)] (.str ⟨#[k]⟩ t) 1:=
  fun _ _ _ _ _ _=>prim_str (by show 1<=sizeLine;decide) F.slot_str_getitem (fun _=>typeIs_str _ _ _) F.entry_str_getitem (F.args_str_getitem_2 _ _) (gives_str_getitem _ _ _ _ _ hr h) _ _
abbrev cMul0 (x:Str):Hint:=.ctr [] fun _ t c _=>prim "str.__mul__" [.str x (aT c 0),.int 0 (aT c 1)] (.str Y2 t) 1
theorem cMul0_ok {x:Str}:COk kt prog w b t fun _ t c _=>prim "str.__mul__" [.str x (aT c 0),.int 0 (aT c 1)] (.str Y2 t) 1:=fun _ _ c _ _ _=>by
  have g:=gives_str_mul x 0 (aT c 0) (aT c 1) (by decide) (fun h=>absurd (by decide) h) (fun h=>absurd (by decide) h)
  rw [if_pos (by decide)] at g
  exact prim_str (by show 0<=sizeLine;decide) F.slot_str_mul (fun _=>typeIs_str _ _ _) F.entry_str_mul (F.args_str_mul_2 _ _) g _ _
noncomputable def cutS (x y:Str):List Str:=partsBetween x (occurrences x y 0 x.length (x.length+1)) y.length
noncomputable abbrev cSplit (x y:Str)(p:List Str):Hint:=.ctr [] fun b t c _=>prE "str.split" [.str x (aT c 0),.str y (aT c 1)] (.ref b) p.length [] [] [(b,liO (strsFrom t p).toArray 0)] 1
theorem cSplit_ok {x y:Str}{p:List Str}(h1:(decide (x.length<y.length)||decide (strKind x<strKind y))=false)(hy:(y.length==0)=false)
    (hf:(occurrences x y 0 x.length (x.length+1)).isEmpty=false) (hx:x.length<=sizeLine) (hp:cutS x y=p) (hn:p.length<=sizeLine):COk kt prog w b t fun b t c _=>prE "str.split" [.str x (aT c 0),.str y (aT c 1)] (.ref b) p.length [] [] [(b,liO (strsFrom t p).toArray 0)] 1:=
  fun b' t' c l _ _=>by
    subst hp
    refine prim_meets rfl F.slot_str_split (fun _=>typeIs_str _ _ _) F.entry_str_split (F.args_str_split_2 _ _) (meets_str_split_sep x y _ _ h1 hy hf hx hn) fun G A R s hi' hfin=>?_
    rw [hi'.toks,hi'.size]
    have a:=hi'.alloc (o:=liO (strsFrom t' (cutS x y)).toArray 0) rfl
    have:=hfin { s with toks:=t'+(cutS x y).length,heap:=s.heap.push (liO (strsFrom t' (cutS x y)).toArray 0) } (a.toks' _) (((Step.refl _ _).alloc _).toks _) (fun q hq=>by
      rcases List.mem_cons.mp hq with rfl | hq
      · exact Nat.le_refl _
      · cases hq)
    exact this
noncomputable abbrev cJoin (sep:Str)(a:Addr)(p:List (Str×Tok))(e:Nat)(d:Nat):Hint:=.ctr [d] fun _ t c l=>prE "str.join" [.str sep (aT c 0),.ref a] (.str (glued sep (p.map (·.1))) t) 1 [(a,liO (strValues p).toArray e)] [liO (strValues p).toArray e] [] 0
theorem cJoin_ok {sep:Str}{a:Addr}{p:List (Str×Tok)}{e:Nat}(hp:p.length≠1)(hl:tooLong ((p.map (·.1)).toArray.foldl (·+·.length+sep.length) 0)=false)(hl2:(glued sep (p.map (·.1))).length<=sizeLine):
    COk kt prog w b t fun _ t c l=>prE "str.join" [.str sep (aT c 0),.ref a] (.str (glued sep (p.map (·.1))) t) 1 [(a,liO (strValues p).toArray e)] [liO (strValues p).toArray e] [] 0:=
  fun b' t' c l _ _=>by
    refine prim_meets rfl F.slot_str_join (fun _=>typeIs_str _ _ _) F.entry_str_join (F.args_str_join_2 _ _) (meets_str_join_list sep (aT c 0) a p hl) fun G A R s hi' hfin=>?_
    refine ⟨⟨_,hi'.has _ List.mem_cons_self,rfl,_,rfl⟩,?_⟩
    have ej:joinMade sep p=.str (glued sep (p.map (·.1))):=by
      match p,hp with
      | [],_=>rfl
      | [_],h=>exact absurd rfl h
      | _::_::_,_=>rfl
    rw [ej]
    refine ⟨hl2,?_⟩
    have:=hfin { s with toks:=s.toks+1 } (by rw [hi'.toks];exact hi'.toks' _) ((Step.refl _ _).toks _) (fun _ h=>by cases h)
    show R (.ok (.ret (.str (glued sep (p.map (·.1))) s.toks))) _
    rw [hi'.toks] at this ⊢
    exact this
end
section
variable {kt:KT}{prog:Program}{w:World}{b t:Nat}
theorem check_fn {M:Model}{A:Around}{E:Value->Shared->Prop}{s:Shared}{id:String}{args:Args}{Q:Unit->Shared->Prop}(hk:builtinKind id=none)(ha:argsOk id args)(h:Q () s):wpAny M A (checkBuiltinCall id args) Q E s:=by
  unfold checkBuiltinCall
  rw [hk]
  unfold argsOk at ha
  cases e:Manifest.signature? id with
  | none=>exact wpAny_pure h
  | some sig=>
    rw [e] at ha
    have h2:Bind.checkArgs id sig args=pure ():=ha
    show wpAny M A (Bind.checkArgs id sig args) _ _ s
    rw [h2];exact wpAny_pure h
theorem fn_ok {id:String}{args:List Value}{v:Value}{B:Builtin}{dt da:Nat}{L:Led}{L':List Obj}{new:Led}(hlen:L.length=L'.length)(hk:builtinKind id=none)(hp:plainId id=true)(hb:entryFor table id=some B)(ha:argsOk id ⟨args,[]⟩)
    (h:∀(G:Array GenState)(A:Around)(R:Result->Shared->Prop)(s:Shared),Inv kt s L b t G->(∀s',Inv kt s' (new++rezip L L') (b+da) (t+dt) G->Step (L.map (·.1)) s s'->(∀q∈new,b<=q.1)->R (.ok (.ret v)) s')->wpAny (model prog w) A (B ⟨args,[]⟩) (fun fin s'=>∃r,fin=.done (.ret r)/\R (.ok (.ret r)) s') (fun e s'=>R (.error e) s') s) :
    SpOk kt prog w (prE id args v dt L L' new da) b t:=⟨hlen,fun G A R s hr hi hfin=>
  codeAny_call_builtin hp hb (check_fn hk ha (wpAny_mono (h G A.in1 R s hi hfin) (fun fin s' h'=>by obtain ⟨r,rfl,hv⟩:=h';exact hv) fun _ _ h'=>h'))⟩
noncomputable abbrev cLenT (x:Str):Hint:=.ctr [] fun _ t c _=>prE "len" [.str x (aT c 0)] (.int x.length (t+1)) 2 [] [] [] 0
theorem cLenT_ok {x:Str}(hx:x.length<=sizeLine):COk kt prog w b t fun _ t c _=>prE "len" [.str x (aT c 0)] (.int x.length (t+1)) 2 [] [] [] 0:=fun b' t' c l _ _=>
  fn_ok rfl kind_len plain_len entry_len (args_len1 _) fun G A R s hi hfin=>by
    refine wpAny_len_body (T:="str") (typeIs_str _ _ _) F.slot_str_len F.entry_str_len (F.args_str_len_1 _) (gives_str_len x _) (by omega) (by rw [sizeLine_eq] at hx;omega) ?_
    have:=hfin { s with toks:=s.toks+1+1 } (by rw [hi.toks];exact hi.toks' _) ((Step.refl _ _).toks _) (fun _ h=>by cases h)
    rw [hi.toks] at this ⊢
    exact this
noncomputable abbrev cLenL (a:Addr)(xs:Array Value)(e n:Nat)(d:Nat):Hint:=.ctr [d] fun _ t c _=>prE "len" [.ref a] (.int n (t+1)) 2 [(a,liO xs e)] [liO xs e] [] 0
theorem cLenL_ok {a:Addr}{xs:Array Value}{e n:Nat}(hn:xs.size=n)(hx:n<=sizeLine):COk kt prog w b t fun _ t c _=>prE "len" [.ref a] (.int n (t+1)) 2 [(a,liO xs e)] [liO xs e] [] 0:=fun b' t' c l _ _=>
  fn_ok rfl kind_len plain_len entry_len (args_len1 _) fun G A R s hi hfin=>by
    subst hn
    refine wpAny_len_body_list ⟨_,hi.has _ List.mem_cons_self,rfl,_,rfl⟩ (by rw [sizeLine_eq] at hx;omega) ?_
    have:=hfin { s with toks:=s.toks+1+1 } (by rw [hi.toks];exact hi.toks' _) ((Step.refl _ _).toks _) (fun _ h=>by cases h)
    rw [hi.toks] at this ⊢
    exact this
noncomputable abbrev cTru (x:Str)(m:Nat):Hint:=.ctr [] fun _ t c _=>⟨0,.builtin "len" ⟨[.str x (aT c 0)],[]⟩,[],.ok (.ret (.int (m+1:Nat) (t+1))),[],[],0,2,0⟩
theorem cTru_ok {x:Str}{m:Nat}(hm:x.length=m+1)(hx:x.length<=sizeLine):COk kt prog w b t fun _ t c _=>⟨0,.builtin "len" ⟨[.str x (aT c 0)],[]⟩,[],.ok (.ret (.int (m+1:Nat) (t+1))),[],[],0,2,0⟩:=fun b' t' c l _ _=>by
  refine ⟨rfl,fun G A R s hr hi hfin=>codeAny_builtin entry_len ?_⟩
  rw [Around.under_plainId plain_len _]
  refine wpAny_mono (wpAny_len_body (T:="str") (Q:=fun r s'=>R (.ok (.ret r)) s') (typeIs_str _ _ _) F.slot_str_len F.entry_str_len (F.args_str_len_1 _) (gives_str_len x _) (by omega) (by rw [sizeLine_eq] at hx;omega) ?_)
      (fun fin s' h'=>by obtain ⟨r,rfl,hq⟩:=h';exact hq) fun _ _ e=>e
  rw [hm]
  have:=hfin { s with toks:=s.toks+1+1 } (by rw [hi.toks];exact hi.toks' _) ((Step.refl _ _).toks _) (fun _ h=>by cases h)
  rw [hi.toks] at this ⊢
  exact this
end
section
variable {kt:KT}{prog:Program}{w:World}{b t:Nat}
theorem Inv.put {s:Shared}{sz tk:Nat}{G:Array GenState}{a:Addr}{o o':Obj}{f:Obj->Obj}(I:Inv kt s [(a,o)] sz tk G)(e:f o=o')(hf:o'.isFreed=false):Inv kt { s with heap:=s.heap.update a f } [(a,o')] sz tk G:=by
  subst e
  exact I.update (d:=0) (p:=(a,o)) (f:=f) rfl hf
theorem Step.put {s0 s:Shared}{a:Addr}(h:Step [a] s0 s)(f:Obj->Obj):Step [a] s0 { s with heap:=s.heap.update a f }:=by
  have hs:Heap.SameBut a s.heap (s.heap.update a f):=Heap.SameBut.update ..
  refine ⟨fun x o h1 h2=>?_,h.os,by show _<=(s.heap.update a f).objs.size;rw [hs.1];exact h.grow⟩
  refine (hs.2 x fun z=>h1 ?_).trans (h.keep x o h1 h2)
  rw [z];exact List.mem_singleton.mpr rfl
noncomputable abbrev cApp (a:Addr)(xs:Array Value)(e:Nat)(d:Nat):Hint:=.ctr [d] fun _ t c _=>prE "list.append" [.ref a,argV c 1] .none 0 [(a,liO xs e)] [liO (xs.push (argV c 1)) (e+1)] [] 0
theorem app_obj (xs:Array Value)(e:Nat)(v:Value):Obj.mapSeq (fun x=>x.push v) (liO xs e)=liO (xs.push v) (e+1):=by
  show (⟨_,_,.seq (xs.push v) (if ((xs.push v).size==xs.size)=true then e else e+1),_⟩:Obj)=_
  rw [if_neg (by rw [Array.size_push];simp)]
theorem cApp_ok {a:Addr}{xs:Array Value}{e:Nat}(hx:xs.size<=sizeLine):COk kt prog w b t fun _ t c _=>prE "list.append" [.ref a,argV c 1] .none 0 [(a,liO xs e)] [liO (xs.push (argV c 1)) (e+1)] [] 0:=fun b' t' c l _ _=>by
  refine ⟨rfl,fun G A R s hr hi hfin=>?_⟩
  have ho:=hi.has _ List.mem_cons_self
  refine codeAny_call_builtin F.slot_list_append.plain F.entry_list_append (F.slot_list_append.check _ _ _ _ _ _ _ _ ⟨_,ho,rfl⟩ (F.args_list_append_2 _ _) (AutoListH.list_append_list_val_0 a xs e (argV c 1) hx prog w A R s ⟨ho,?_⟩))
  have:=hfin { s with heap:=s.heap.update a (Obj.mapSeq fun x=>x.push (argV c 1)) } (hi.put (app_obj xs e _) rfl) ((Step.refl _ _).put _) (fun _ h=>by cases h)
  exact this
noncomputable abbrev cGetL (a:Addr)(xs:Array Value)(e:Nat)(k:Int)(v:Value)(d:Nat):Hint:=.ctr [d] fun _ t c _=>prE "list.__getitem__" [.ref a,.int k (aT c 1)] v 0 [(a,liO xs e)] [liO xs e] [] 0
theorem cGetL_ok {a:Addr}{xs:Array Value}{e:Nat}{k:Int}{v:Value}(h0:0<=k)(hf:k<2 ^ 63)(hx:xs[k.toNat]?=some v):COk kt prog w b t fun _ t c _=>prE "list.__getitem__" [.ref a,.int k (aT c 1)] v 0 [(a,liO xs e)] [liO xs e] [] 0:=fun b' t' c l _ _=>by
  refine ⟨rfl,fun G A R s hr hi hfin=>?_⟩
  have ho:=hi.has _ List.mem_cons_self
  refine codeAny_call_builtin F.slot_list_getitem.plain F.entry_list_getitem (F.slot_list_getitem.check _ _ _ _ _ _ _ _ ⟨_,ho,rfl⟩ (F.args_list_getitem_2 _ _) ?_)
  have:=hfin s hi (Step.refl _ _) (fun _ h=>by cases h)
  show wpAny _ _ (Builtin.List.listSubscript? (.int k (aT c 1)) >>= _) _ _ s
  refine wpAny_bind (wpAny_listSubscript_int (fitsIndex_of h0 hf) ?_)
  obtain ⟨j,rfl⟩:=Int.eq_ofNat_of_zero_le h0
  have hx':xs[j]?=some v:=hx
  show wpAny _ _ ((seqItemAt a j >>= fun r=>pure (r.map (j,·))) >>= _) _ _ s
  refine wpAny_bind (wpAny_bind (wpAny_seqItemAt ho rfl (wpAny_pure ?_)))
  rw [hx']
  first
    | exact wpAny_bind (wpAny_pure (wpAny_pure this))
    | exact wpAny_pure this
noncomputable abbrev cNextR (a:Addr)(k r:Int)(d:Nat):Hint:=.ctr [d] fun _ t c _=>prE "range_iterator.__next__" [.ref a] (.int k t) 1 [(a,riO k r)] [riO (k+1) (r-1)] [] 0
theorem Inv.put2 {s:Shared}{sz tk:Nat}{G:Array GenState}{a:Addr}{o o1 o':Obj}{f f2:Obj->Obj}(I:Inv kt s [(a,o)] sz tk G)(e:f o=o1)(hf:o1.isFreed=false)(e2:f2 o1=o')(hf2:o'.isFreed=false):Inv kt { s with heap:=(s.heap.update a f).update a f2 } [(a,o')] sz tk G:=
  (I.put e hf).put e2 hf2
theorem cNextR_ok {a:Addr}{k r:Int}(hr0:¬ r<=0):COk kt prog w b t fun _ t c _=>prE "range_iterator.__next__" [.ref a] (.int k t) 1 [(a,riO k r)] [riO (k+1) (r-1)] [] 0:=fun b' t' c l _ _=>by
  refine ⟨rfl,fun G A R s hr hi hfin=>?_⟩
  have ho:=hi.has _ List.mem_cons_self
  refine codeAny_call_builtin F.slot_range_iterator_next.plain F.entry_range_iterator_next (F.slot_range_iterator_next.check _ _ _ _ _ _ _ _ ⟨_,ho,rfl⟩ (F.args_range_iterator_next_1 _) (AutoRange.range_iterator___next___range_iterator_1 a k r 1 hr0 prog w A R s ⟨ho,?_⟩))
  have J:=hi.put2 (f:=Obj.mapFields fun x_1=>x_1.setIfInBounds 0 (rawInt (k+1))) (o1:=riO (k+1) r) rfl rfl (f2:=Obj.mapFields fun x=>x.setIfInBounds 1 (rawInt (r-1))) (o':=riO (k+1) (r-1)) rfl rfl
  have:=hfin { s with heap:=(s.heap.update a (Obj.mapFields fun x_1=>x_1.setIfInBounds 0 (rawInt (k+1)))).update a (Obj.mapFields fun x=>x.setIfInBounds 1 (rawInt (r-1))),toks:=s.toks+1 } (by rw [hi.toks];exact J.toks' _) ((((Step.refl _ _).put _).put _).toks _) (fun _ h=>by cases h)
  rw [hi.toks] at this ⊢
  exact this
end
end
abbrev qm:Str:=Y3
abbrev wsS:Str:=Y4
structure Lx where
  i:Addr
  d:Addr
  p:Addr
  s:Addr
  k1:Tok
  k2:Tok
  k3:Tok
  k4:Tok
  tw:Tok
noncomputable abbrev Lx.iO (X:Lx):Obj:=⟨.ref 80,some X.d,.plain,#[]⟩
abbrev Lx.dO (X:Lx)(P:Params)(ln:Value):Obj:=⟨.type "dict",none,.dict #[ent P Y5 X.k1 ln,ent P Y6 X.k2 (.ref X.s),ent P Y7 X.k3 (.str wsS X.tw),ent P Y8 X.k4 (.ref X.p)] 4,#[]⟩
section
open Builtin Builtin.Str
section
variable {kt:KT}{prog:Program}{w:World}{b t:Nat}
noncomputable abbrev cPow (x y z:Int):Hint:=.ctr [] fun _ t c _=>prim "int.__pow__" [.int x (aT c 0),.int y (aT c 1)] (.int z t) 1
theorem cPow_ok {x y z:Int}(h:∀t u,Builtin.«int.__pow__» ⟨[.int x t,.int y u],[]⟩=(Made.int z).tree):COk kt prog w b t fun _ t c _=>prim "int.__pow__" [.int x (aT c 0),.int y (aT c 1)] (.int z t) 1:=
  fun _ _ c _ _ _=>prim_int F.slot_int_pow (fun _=>typeIs_int _ _ _) F.entry_int_pow (F.args_int_pow_2 _ _) (.of_eq (h _ _)) _ _
noncomputable abbrev cFdiv (x y z:Int):Hint:=.ctr [] fun _ t c _=>prim "int.__floordiv__" [.int x (aT c 0),.int y (aT c 1)] (.int z t) 1
theorem cFdiv_ok {x y z:Int}(h:∀t u,Builtin.«int.__floordiv__» ⟨[.int x t,.int y u],[]⟩=(Made.int z).tree):COk kt prog w b t fun _ t c _=>prim "int.__floordiv__" [.int x (aT c 0),.int y (aT c 1)] (.int z t) 1:=
  fun _ _ c _ _ _=>prim_int F.slot_int_floordiv (fun _=>typeIs_int _ _ _) F.entry_int_floordiv (F.args_int_floordiv_2 _ _) (.of_eq (h _ _)) _ _
noncomputable abbrev cMul (x y z:Int):Hint:=.ctr [] fun _ t c _=>prim "int.__mul__" [.int x (aT c 0),.int y (aT c 1)] (.int z t) 1
theorem cMul_ok {x y z:Int}(h:∀t u,Builtin.«int.__mul__» ⟨[.int x t,.int y u],[]⟩=(Made.int z).tree):COk kt prog w b t fun _ t c _=>prim "int.__mul__" [.int x (aT c 0),.int y (aT c 1)] (.int z t) 1:=
  fun _ _ c _ _ _=>prim_int F.slot_int_mul (fun _=>typeIs_int _ _ _) F.entry_int_mul (F.args_int_mul_2 _ _) (.of_eq (h _ _)) _ _
noncomputable abbrev cMod (x y z:Int):Hint:=.ctr [] fun _ t c _=>prim "int.__mod__" [.int x (aT c 0),.int y (aT c 1)] (.int z t) 1
theorem cMod_ok {x y z:Int}(h:∀t u,Builtin.«int.__mod__» ⟨[.int x t,.int y u],[]⟩=(Made.int z).tree):COk kt prog w b t fun _ t c _=>prim "int.__mod__" [.int x (aT c 0),.int y (aT c 1)] (.int z t) 1:=
  fun _ _ c _ _ _=>prim_int F.slot_int_mod (fun _=>typeIs_int _ _ _) F.entry_int_mod (F.args_int_mod_2 _ _) (.of_eq (h _ _)) _ _
noncomputable abbrev cIadd (x y z:Int):Hint:=.ctr [] fun _ t c _=>prim "int.__add__" [.int x (aT c 0),.int y (aT c 1)] (.int z t) 1
theorem cIadd_ok {x y z:Int}(h:x+y=z):COk kt prog w b t fun _ t c _=>prim "int.__add__" [.int x (aT c 0),.int y (aT c 1)] (.int z t) 1:=
  fun _ _ c _ _ _=>by subst h;exact prim_int F.slot_int_add (fun _=>typeIs_int _ _ _) F.entry_int_add (F.args_int_add_2 _ _) (gives_int_add _ _ _ _) _ _
noncomputable abbrev cIsub (x y z:Int):Hint:=.ctr [] fun _ t c _=>prim "int.__sub__" [.int x (aT c 0),.int y (aT c 1)] (.int z t) 1
theorem cIsub_ok {x y z:Int}(h:x-y=z):COk kt prog w b t fun _ t c _=>prim "int.__sub__" [.int x (aT c 0),.int y (aT c 1)] (.int z t) 1:=
  fun _ _ c _ _ _=>by subst h;exact prim_int F.slot_int_sub (fun _=>typeIs_int _ _ _) F.entry_int_sub (F.args_int_sub_2 _ _) (gives_int_sub _ _ _ _) _ _
end
section
variable {kt:KT}{prog:Program}{w:World}{b t:Nat}
noncomputable abbrev cBeq (x y r:Bool):Hint:=.ctr [] fun _ t c _=>prim "int.__eq__" [.bool x,.bool y] (.bool r) 0
theorem cBeq_ok {x y r:Bool}(h:(x==y)=r):COk kt prog w b t fun _ t c _=>prim "int.__eq__" [.bool x,.bool y] (.bool r) 0:=fun _ _ c _ _ _=>by
  subst h
  refine prim_val (T:="bool") (self:=.bool x) F.slot_bool_eq (fun _=>rfl) F.entry_int_eq (F.args_int_eq_2 _ _) ?_ _ _
  cases x<;>cases y<;>exact .of_eq rfl
end
structure Sm where
  sd:Addr
  rf:Addr
  rc:Addr
  ct:Addr
  ca:Addr
  al:Addr
  cp:Addr
  tk:Tok
  f0:Value
  qn:Str
  tq:Tok
  rest:List Value
  lf:FuncData
noncomputable def rdF (K:KT)(S:Sm):FuncData:=match nth (bodyOf K 91) 1 with
  | some (.FunctionDef name args body _ _ _ scope _ _ _)=>⟨name,Y9,args,.stmts body,scope,3,[(Y10,S.ct),(Y11,S.ca)],.none,.none,.none,.str Y12 297,none,.ref S.rc,.ref S.cp,0⟩
  | _=>default
noncomputable abbrev Sm.sO (S:Sm):Obj:=⟨.type "function",some S.sd,.func S.lf,#[]⟩
abbrev Sm.dO (S:Sm)(P:Params):Obj:=⟨.type "dict",none,.dict #[ent P Y13 S.tk (.ref S.rf)] 1,#[]⟩
noncomputable abbrev Sm.fO (S:Sm)(K:KT):Obj:=⟨.type "function",none,.func (rdF K S),#[]⟩
noncomputable abbrev Sm.cO (S:Sm):Obj:=⟨.type "code",none,.fields ⟨S.f0::.str S.qn S.tq::S.rest⟩,#[]⟩
noncomputable abbrev Sm.tO (x:Str)(tx:Tok):Obj:=⟨.type "cell",none,.cell (some (.str x tx)),#[]⟩
noncomputable abbrev Sm.aO (S:Sm):Obj:=⟨.type "cell",none,.cell (some (.ref S.al)),#[]⟩
section
variable {kt:KT}{prog:Program}{w:World}{b t:Nat}
noncomputable abbrev cSliceE (x:Str)(a:Addr)(lo hi:Option (Int×Tok))(c:Str)(d:Nat):Hint:=.ctr [d] fun _ t cd l=>prE "str.__getitem__" [.str x (aT cd 0),.ref a] (.str c t) 1 [(a,slO (partValue lo) (partValue hi))] [slO (partValue lo) (partValue hi)] [] 0
theorem cSliceE_ok {x:Str}{a:Addr}{lo hi:Option (Int×Tok)}{c:Str}(hx:x.length<=sizeLine)(h:(strSliceIndices (lo.map (·.1)) (hi.map (·.1)) 1 x.length).length≠x.length)(hc:sliceS x (lo.map (·.1)) (hi.map (·.1))=c):COk kt prog w b t fun _ t cd l=>prE "str.__getitem__" [.str x (aT cd 0),.ref a] (.str c t) 1 [(a,slO (partValue lo) (partValue hi))] [slO (partValue lo) (partValue hi)] [] 0:=by
  subst hc
  exact cSlice_ok hx h
end
noncomputable def rBSp (X:Lx)(S:Sm)(bm:Addr)(x:Str)(tx:Tok)(p:Int)(tp:Tok)(ea:Nat)(c:Str)(ln:Value)(b t:Nat)(K:KT)(P:Params):Sp:=⟨20,.call (.ref bm) ⟨[],[]⟩,[(X.i,X.iO),(X.d,X.dO P ln),(X.s,S.sO),(S.sd,S.dO P),(S.rf,S.fO K),(S.rc,S.cO),(S.ct,Sm.tO x tx),(S.ca,S.aO),(S.al,liO #[.int p tp] ea),(bm,⟨.type "method",none,.fields #[.ref 63,.ref X.i],#[]⟩)],.ok (.ret (.str c (t+8))),[X.iO,X.dO P ln,S.sO,S.dO P,S.fO K,S.cO,Sm.tO x tx,S.aO,liO #[.int (p+(c.length:Int)) (t+13)] ea,⟨.type "method",none,.fields #[.ref 63,.ref X.i],#[]⟩],[],3,17,0⟩
def rBRun:RP:=fun T pg=>∀X S bm x tx p tp ea c ln b t,JobOk T pg (fun K P=>jobFD (rBSp X S bm x tx p tp ea c ln b t K P) [13,2,0,0,4,4,0,1,4,5,0,0,0,1,5,0,0,0,5,5,0,6,7,7,7,7,1,7,7,7,7,8,9,2,9,10,4,4,0,12,13,14,14,14,1,14,14,13,14,14,14,1,14,14,4,1,3,5,5,14,15,15,15,1,15,15,0,0,5,3,1,14,15,15,1,15,15,15,15,5,6,6,6,3,6] [cSliceE x (b+2) (some (p,tp)) (some ((p+1),(t+7))) c 0,cLenT c,cEq c Y14 false] [3,4,5,6,7,8,9,10,11,12]) b t
theorem rB_ok {T:Params->KT}{prog:Program}{w:World}(H:rBRun T prog)(X:Lx)(S:Sm)(bm:Addr)(x:Str)(tx:Tok)(p:Int)(tp:Tok)(ea:Nat)(c:Str)(ln:Value)(b t:Nat)(h0:x.length<=sizeLine)(h1:(Builtin.Str.strSliceIndices (some p) (some (p+1)) 1 x.length).length≠x.length)(h2:(sliceS x (some p) (some (p+1)))=c)(h3:c.length<=sizeLine)(h4:eqS c Y14=false):JSp T prog w (rBSp X S bm x tx p tp ea c ln b t) b t:=jobOf_ok (H X S bm x tx p tp ea c ln b t) (.inl rfl) rfl (by decide) ⟨cSliceE_ok h0 h1 h2,cLenT_ok h3,cEq_ok h4,trivial⟩
noncomputable def rASp (X:Lx)(S:Sm)(bm:Addr)(x:Str)(tx:Tok)(p:Int)(tp:Tok)(ea:Nat)(c:Str)(ln:Int)(tln:Tok)(b t:Nat)(K:KT)(P:Params):Sp:=⟨20,.call (.ref bm) ⟨[],[]⟩,[(X.i,X.iO),(X.d,X.dO P (.int ln tln)),(X.s,S.sO),(S.sd,S.dO P),(S.rf,S.fO K),(S.rc,S.cO),(S.ct,Sm.tO x tx),(S.ca,S.aO),(S.al,liO #[.int p tp] ea),(bm,⟨.type "method",none,.fields #[.ref 63,.ref X.i],#[]⟩)],.ok (.ret (.str c (t+8))),[X.iO,X.dO P (.int (ln+1) (t+19)),S.sO,S.dO P,S.fO K,S.cO,Sm.tO x tx,S.aO,liO #[.int (p+(c.length:Int)) (t+13)] ea,⟨.type "method",none,.fields #[.ref 63,.ref X.i],#[]⟩],[],3,22,0⟩
def rARun:RP:=fun T pg=>∀X S bm x tx p tp ea c ln tln b t,JobOk T pg (fun K P=>jobFD (rASp X S bm x tx p tp ea c ln tln b t K P) [13,2,0,0,4,4,0,1,4,5,0,0,0,1,5,0,0,0,5,5,0,6,7,7,7,7,1,7,7,7,7,8,9,2,9,10,4,4,0,12,13,14,14,14,1,14,14,13,14,14,14,1,14,14,4,1,3,5,5,14,15,15,15,1,15,15,0,0,5,3,1,14,15,15,1,15,15,15,15,5,6,6,6,3,6,7,0,0,0,1,7,0,0,0,7,7,0,8,1,7,0,0,0,1,7,0,7,0,7,0,0,0,7,0,8,8,8,6] [cSliceE x (b+2) (some (p,tp)) (some ((p+1),(t+7))) c 0,cLenT c,cEq c Y14 true] [3,4,5,6,7,8,9,10,11,12]) b t
theorem rA_ok {T:Params->KT}{prog:Program}{w:World}(H:rARun T prog)(X:Lx)(S:Sm)(bm:Addr)(x:Str)(tx:Tok)(p:Int)(tp:Tok)(ea:Nat)(c:Str)(ln:Int)(tln:Tok)(b t:Nat)(h0:x.length<=sizeLine)(h1:(Builtin.Str.strSliceIndices (some p) (some (p+1)) 1 x.length).length≠x.length)(h2:(sliceS x (some p) (some (p+1)))=c)(h3:c.length<=sizeLine)(h4:eqS c Y14=true):JSp T prog w (rASp X S bm x tx p tp ea c ln tln b t) b t:=jobOf_ok (H X S bm x tx p tp ea c ln tln b t) (.inl rfl) rfl (by decide) ⟨cSliceE_ok h0 h1 h2,cLenT_ok h3,cEq_ok h4,trivial⟩
noncomputable def rDSp (X:Lx)(S:Sm)(x:Str)(tx:Tok)(p:Int)(tp:Tok)(ea:Nat)(c:Str)(ln:Value)(b t:Nat)(K:KT)(P:Params):Sp:=⟨20,.call (.ref 63) ⟨[.ref X.i],[]⟩,[(X.i,X.iO),(X.d,X.dO P ln),(X.s,S.sO),(S.sd,S.dO P),(S.rf,S.fO K),(S.rc,S.cO),(S.ct,Sm.tO x tx),(S.ca,S.aO),(S.al,liO #[.int p tp] ea)],.ok (.ret (.str c (t+8))),[X.iO,X.dO P ln,S.sO,S.dO P,S.fO K,S.cO,Sm.tO x tx,S.aO,liO #[.int (p+(c.length:Int)) (t+13)] ea],[],3,17,0⟩
def rDRun:RP:=fun T pg=>∀X S x tx p tp ea c ln b t,JobOk T pg (fun K P=>jobTF (rDSp X S x tx p tp ea c ln b t K P) [0,0,4,4,0,1,4,5,0,0,0,1,5,0,0,0,5,5,0,6,7,7,7,7,1,7,7,7,7,8,9,2,9,10,4,4,0,12,13,14,14,14,1,14,14,13,14,14,14,1,14,14,4,1,3,5,5,14,15,15,15,1,15,15,0,0,5,3,1,14,15,15,1,15,15,15,15,5,6,6,6,3,6] [cSliceE x (b+2) (some (p,tp)) (some ((p+1),(t+7))) c 0,cLenT c,cEq c Y14 false] [3,4,5,6,7,8,9,10,11]) b t
theorem rD_ok {T:Params->KT}{prog:Program}{w:World}(H:rDRun T prog)(X:Lx)(S:Sm)(x:Str)(tx:Tok)(p:Int)(tp:Tok)(ea:Nat)(c:Str)(ln:Value)(b t:Nat)(h0:x.length<=sizeLine)(h1:(Builtin.Str.strSliceIndices (some p) (some (p+1)) 1 x.length).length≠x.length)(h2:(sliceS x (some p) (some (p+1)))=c)(h3:c.length<=sizeLine)(h4:eqS c Y14=false):JSp T prog w (rDSp X S x tx p tp ea c ln b t) b t:=jobOf_ok (H X S x tx p tp ea c ln b t) (.inr rfl) rfl (by decide) ⟨cSliceE_ok h0 h1 h2,cLenT_ok h3,cEq_ok h4,trivial⟩
noncomputable abbrev bmO (X:Lx):Obj:=⟨.type "method",none,.fields #[.ref 63,.ref X.i],#[]⟩
abbrev ciO (bm:Addr)(ts:Tok):Obj:=⟨.type "callable_iterator",none,.fields #[.ref bm,.str Y2 ts,.bool false],#[]⟩
noncomputable abbrev tkL (X:Lx)(S:Sm)(K:KT)(P:Params)(x:Str)(tx:Tok)(ln:Value)(p:Int)(tp:Tok)(ea:Nat):Led:=[(X.i,X.iO),(X.d,X.dO P ln),(X.s,S.sO),(S.sd,S.dO P),(S.rf,S.fO K),(S.rc,S.cO),(S.ct,Sm.tO x tx),(S.ca,S.aO),(S.al,liO #[.int p tp] ea)]
noncomputable abbrev endSp (X:Lx)(S:Sm)(K:KT)(P:Params)(ci bm:Addr)(ts:Tok)(x:Str)(tx:Tok)(ln:Value)(p:Int)(tp:Tok)(ea:Nat)(b t:Nat):Sp:=⟨30,.call (.builtin "callable_iterator.__next__") ⟨[.ref ci],[]⟩,(ci,ciO bm ts)::(bm,bmO X)::tkL X S K P x tx ln p tp ea,.error (.ref (b+4)),⟨.type "callable_iterator",none,.fields #[.none,.none,.bool true],#[]⟩::bmO X::(tkL X S K P x tx ln p (t+13) ea).map (·.2),[(b+4,⟨.type "StopIteration",none,.fields #[.ref (b+3),.none,.none,.none,.bool false,.none],#[]⟩)],5,17,0⟩
noncomputable abbrev lpSp (n:Nat)(c:Code)(fr ci bm:Addr)(F F' C C':Obj)(X:Lx)(S:Sm)(K:KT)(P:Params)(x:Str)(tx:Tok)(ln ln':Value)(p p':Int)(tp tp':Tok)(ea:Nat)(r:Result)(da dt:Nat):Sp:=⟨n,c,(fr,F)::(ci,C)::(bm,bmO X)::tkL X S K P x tx ln p tp ea,r,F'::C'::bmO X::(tkL X S K P x tx ln' p' tp' ea).map (·.2),[],da,dt,0⟩
noncomputable def t_q1J (X:Lx)(S:Sm)(x:Str)(tx:Tok)(p:Int)(tp:Tok)(ea:Nat)(ln:Value)(fr ci bm:Addr)(k:Nat->Tok)(u:Nat->Value)(ttk ts:Tok)(tk:Str)(z1:Nat)(b t:Nat):KJ:=fun K P=>⟨40,forOf (inner (bodyOf K 70) [3,1]) 0 (.ref ci) (envOf K 70 fr []),FD (forOf (inner (bodyOf K 70) [3,1]) 0 (.ref ci) (envOf K 70 fr [])),[(fr,frO #[ent P Y15 (k 0) (.ref X.i),ent P Y16 (k 1) (.str tk ttk),ent P Y17 (k 2) (.ref ci),ent P Y18 (k 3) (u 3)] 4),(ci,ciO bm ts),(bm,bmO X),(X.i,X.iO),(X.d,X.dO P ln),(X.s,S.sO),(S.sd,S.dO P),(S.rf,S.fO K),(S.rc,S.cO),(S.ct,Sm.tO x tx),(S.ca,S.aO),(S.al,liO #[.int p tp] ea)],hs [5,1,5,5,5,6,0,3,5,5,3,4,4,4,3,4] [.ctr [3,4,5,6,7,8,9,10,11,2] (fun b' t' _ _=>rBSp X S bm x tx p tp ea (⟨#[z1+1]⟩:Str) ln b' t' K P),cEq Y2 (⟨#[z1+1]⟩:Str) false,cEq (⟨#[z1+1]⟩:Str) Y3 true],[0,1,2,3,4,5,6,7,8,9,10,11],.ok (.done (.ret (.str tk ttk))),[(fr,frO #[ent P Y15 (k 0) (.ref X.i),ent P Y16 (k 1) (.str tk ttk),ent P Y17 (k 2) (.ref ci),ent P Y18 (k 3) (.str (⟨#[z1+1]⟩:Str) (t+8))] 4),(ci,⟨.type "callable_iterator",none,.fields #[(.ref bm),(.str Y2 ts),(.bool false)],#[]⟩),(bm,bmO X),(X.i,X.iO),(X.d,X.dO P ln),(X.s,S.sO),(S.sd,S.dO P),(S.rf,S.fO K),(S.rc,S.cO),(S.ct,Sm.tO x tx),(S.ca,S.aO),(S.al,liO #[.int (p+((⟨#[z1+1]⟩:Str).length:Int)) (t+13)] ea)],3,19,0⟩
def t_q1Run:RP:=fun T pg=>∀X S x tx p tp ea ln fr ci bm k u ttk ts tk z1 b t,JobOk T pg (t_q1J X S x tx p tp ea ln fr ci bm k u ttk ts tk z1 b t) b t
noncomputable def t_q2J (X:Lx)(S:Sm)(x:Str)(tx:Tok)(p:Int)(tp:Tok)(ea:Nat)(ln:Value)(fr ci bm:Addr)(k:Nat->Tok)(u:Nat->Value)(ttk ts:Tok)(tk:Str)(z1 z2:Nat)(b t:Nat):KJ:=fun K P=>⟨40,forOf (inner (bodyOf K 70) [3,1]) 0 (.ref ci) (envOf K 70 fr []),FD (forOf (inner (bodyOf K 70) [3,1]) 0 (.ref ci) (envOf K 70 fr [])),[(fr,frO #[ent P Y15 (k 0) (.ref X.i),ent P Y16 (k 1) (.str tk ttk),ent P Y17 (k 2) (.ref ci),ent P Y18 (k 3) (u 3)] 4),(ci,ciO bm ts),(bm,bmO X),(X.i,X.iO),(X.d,X.dO P ln),(X.s,S.sO),(S.sd,S.dO P),(S.rf,S.fO K),(S.rc,S.cO),(S.ct,Sm.tO x tx),(S.ca,S.aO),(S.al,liO #[.int p tp] ea)],hs [5,1,5,5,5,6,0,3,5,5,3,4,4,4,3,4,3,4,7,0,0,0,7,0,0,0,7,0,0,0,0,7,8,0,3,4,4,4,4,3,4,4] [.ctr [3,4,5,6,7,8,9,10,11,2] (fun b' t' _ _=>rBSp X S bm x tx p tp ea (⟨#[z1+1]⟩:Str) ln b' t' K P),cEq Y2 (⟨#[z1+1]⟩:Str) false,cEq (⟨#[z1+1]⟩:Str) Y3 false,cEq (⟨#[z1+1]⟩:Str) Y19 true,.ctr [3,4,5,6,7,8,9,10,11] (fun b' t' _ _=>rDSp X S x tx (p+((⟨#[z1+1]⟩:Str).length:Int)) (t+13) ea (⟨#[z2+1]⟩:Str) ln b' t' K P),cAdd tk (⟨#[z2+1]⟩:Str)],[0,1,2,3,4,5,6,7,8,9,10,11],.ok (.again (forOf (inner (bodyOf K 70) [3,1]) 0 (.ref ci) (envOf K 70 fr []))),[(fr,frO #[ent P Y15 (k 0) (.ref X.i),ent P Y16 (k 1) (.str (tk++(⟨#[z2+1]⟩:Str)) (t+38)),ent P Y17 (k 2) (.ref ci),ent P Y18 (k 3) (.str (⟨#[z2+1]⟩:Str) (t+28))] 4),(ci,⟨.type "callable_iterator",none,.fields #[(.ref bm),(.str Y2 ts),(.bool false)],#[]⟩),(bm,bmO X),(X.i,X.iO),(X.d,X.dO P ln),(X.s,S.sO),(S.sd,S.dO P),(S.rf,S.fO K),(S.rc,S.cO),(S.ct,Sm.tO x tx),(S.ca,S.aO),(S.al,liO #[.int ((p+((⟨#[z1+1]⟩:Str).length:Int))+((⟨#[z2+1]⟩:Str).length:Int)) (t+33)] ea)],6,40,0⟩
def t_q2Run:RP:=fun T pg=>∀X S x tx p tp ea ln fr ci bm k u ttk ts tk z1 z2 b t,JobOk T pg (t_q2J X S x tx p tp ea ln fr ci bm k u ttk ts tk z1 z2 b t) b t
noncomputable def t_q2eJ (X:Lx)(S:Sm)(x:Str)(tx:Tok)(p:Int)(tp:Tok)(ea:Nat)(ln:Value)(fr ci bm:Addr)(k:Nat->Tok)(u:Nat->Value)(ttk ts:Tok)(z1 z2:Nat)(b t:Nat):KJ:=fun K P=>⟨40,forOf (inner (bodyOf K 70) [3,1]) 0 (.ref ci) (envOf K 70 fr []),FD (forOf (inner (bodyOf K 70) [3,1]) 0 (.ref ci) (envOf K 70 fr [])),[(fr,frO #[ent P Y15 (k 0) (.ref X.i),ent P Y16 (k 1) (.str Y2 ttk),ent P Y17 (k 2) (.ref ci),ent P Y18 (k 3) (u 3)] 4),(ci,ciO bm ts),(bm,bmO X),(X.i,X.iO),(X.d,X.dO P ln),(X.s,S.sO),(S.sd,S.dO P),(S.rf,S.fO K),(S.rc,S.cO),(S.ct,Sm.tO x tx),(S.ca,S.aO),(S.al,liO #[.int p tp] ea)],hs [5,1,5,5,5,6,0,3,5,5,3,4,4,4,3,4,3,4,7,0,0,0,7,0,0,0,7,0,0,0,0,7,8,0,3,4,4,4,4,3,4,4] [.ctr [3,4,5,6,7,8,9,10,11,2] (fun b' t' _ _=>rBSp X S bm x tx p tp ea (⟨#[z1+1]⟩:Str) ln b' t' K P),cEq Y2 (⟨#[z1+1]⟩:Str) false,cEq (⟨#[z1+1]⟩:Str) Y3 false,cEq (⟨#[z1+1]⟩:Str) Y19 true,.ctr [3,4,5,6,7,8,9,10,11] (fun b' t' _ _=>rDSp X S x tx (p+((⟨#[z1+1]⟩:Str).length:Int)) (t+13) ea (⟨#[z2+1]⟩:Str) ln b' t' K P),cAddL (⟨#[z2+1]⟩:Str)],[0,1,2,3,4,5,6,7,8,9,10,11],.ok (.again (forOf (inner (bodyOf K 70) [3,1]) 0 (.ref ci) (envOf K 70 fr []))),[(fr,frO #[ent P Y15 (k 0) (.ref X.i),ent P Y16 (k 1) (.str (⟨#[z2+1]⟩:Str) (t+28)),ent P Y17 (k 2) (.ref ci),ent P Y18 (k 3) (.str (⟨#[z2+1]⟩:Str) (t+28))] 4),(ci,⟨.type "callable_iterator",none,.fields #[(.ref bm),(.str Y2 ts),(.bool false)],#[]⟩),(bm,bmO X),(X.i,X.iO),(X.d,X.dO P ln),(X.s,S.sO),(S.sd,S.dO P),(S.rf,S.fO K),(S.rc,S.cO),(S.ct,Sm.tO x tx),(S.ca,S.aO),(S.al,liO #[.int ((p+((⟨#[z1+1]⟩:Str).length:Int))+((⟨#[z2+1]⟩:Str).length:Int)) (t+33)] ea)],6,39,0⟩
def t_q2eRun:RP:=fun T pg=>∀X S x tx p tp ea ln fr ci bm k u ttk ts z1 z2 b t,JobOk T pg (t_q2eJ X S x tx p tp ea ln fr ci bm k u ttk ts z1 z2 b t) b t
noncomputable def t_q3J (X:Lx)(S:Sm)(x:Str)(tx:Tok)(p:Int)(tp:Tok)(ea:Nat)(ln:Value)(fr ci bm:Addr)(k:Nat->Tok)(u:Nat->Value)(ttk ts:Tok)(tk:Str)(z1:Nat)(b t:Nat):KJ:=fun K P=>⟨40,forOf (inner (bodyOf K 70) [3,1]) 0 (.ref ci) (envOf K 70 fr []),FD (forOf (inner (bodyOf K 70) [3,1]) 0 (.ref ci) (envOf K 70 fr [])),[(fr,frO #[ent P Y15 (k 0) (.ref X.i),ent P Y16 (k 1) (.str tk ttk),ent P Y17 (k 2) (.ref ci),ent P Y18 (k 3) (u 3)] 4),(ci,ciO bm ts),(bm,bmO X),(X.i,X.iO),(X.d,X.dO P ln),(X.s,S.sO),(S.sd,S.dO P),(S.rf,S.fO K),(S.rc,S.cO),(S.ct,Sm.tO x tx),(S.ca,S.aO),(S.al,liO #[.int p tp] ea)],hs [5,1,5,5,5,6,0,3,5,5,3,4,4,4,3,4,3,4,4,3,4,4] [.ctr [3,4,5,6,7,8,9,10,11,2] (fun b' t' _ _=>rBSp X S bm x tx p tp ea (⟨#[z1+1]⟩:Str) ln b' t' K P),cEq Y2 (⟨#[z1+1]⟩:Str) false,cEq (⟨#[z1+1]⟩:Str) Y3 false,cEq (⟨#[z1+1]⟩:Str) Y19 false,cAdd tk (⟨#[z1+1]⟩:Str)],[0,1,2,3,4,5,6,7,8,9,10,11],.ok (.again (forOf (inner (bodyOf K 70) [3,1]) 0 (.ref ci) (envOf K 70 fr []))),[(fr,frO #[ent P Y15 (k 0) (.ref X.i),ent P Y16 (k 1) (.str (tk++(⟨#[z1+1]⟩:Str)) (t+20)),ent P Y17 (k 2) (.ref ci),ent P Y18 (k 3) (.str (⟨#[z1+1]⟩:Str) (t+8))] 4),(ci,⟨.type "callable_iterator",none,.fields #[(.ref bm),(.str Y2 ts),(.bool false)],#[]⟩),(bm,bmO X),(X.i,X.iO),(X.d,X.dO P ln),(X.s,S.sO),(S.sd,S.dO P),(S.rf,S.fO K),(S.rc,S.cO),(S.ct,Sm.tO x tx),(S.ca,S.aO),(S.al,liO #[.int (p+((⟨#[z1+1]⟩:Str).length:Int)) (t+13)] ea)],3,22,0⟩
def t_q3Run:RP:=fun T pg=>∀X S x tx p tp ea ln fr ci bm k u ttk ts tk z1 b t,JobOk T pg (t_q3J X S x tx p tp ea ln fr ci bm k u ttk ts tk z1 b t) b t
noncomputable def t_q3eJ (X:Lx)(S:Sm)(x:Str)(tx:Tok)(p:Int)(tp:Tok)(ea:Nat)(ln:Value)(fr ci bm:Addr)(k:Nat->Tok)(u:Nat->Value)(ttk ts:Tok)(z1:Nat)(b t:Nat):KJ:=fun K P=>⟨40,forOf (inner (bodyOf K 70) [3,1]) 0 (.ref ci) (envOf K 70 fr []),FD (forOf (inner (bodyOf K 70) [3,1]) 0 (.ref ci) (envOf K 70 fr [])),[(fr,frO #[ent P Y15 (k 0) (.ref X.i),ent P Y16 (k 1) (.str Y2 ttk),ent P Y17 (k 2) (.ref ci),ent P Y18 (k 3) (u 3)] 4),(ci,ciO bm ts),(bm,bmO X),(X.i,X.iO),(X.d,X.dO P ln),(X.s,S.sO),(S.sd,S.dO P),(S.rf,S.fO K),(S.rc,S.cO),(S.ct,Sm.tO x tx),(S.ca,S.aO),(S.al,liO #[.int p tp] ea)],hs [5,1,5,5,5,6,0,3,5,5,3,4,4,4,3,4,3,4,4,3,4,4] [.ctr [3,4,5,6,7,8,9,10,11,2] (fun b' t' _ _=>rBSp X S bm x tx p tp ea (⟨#[z1+1]⟩:Str) ln b' t' K P),cEq Y2 (⟨#[z1+1]⟩:Str) false,cEq (⟨#[z1+1]⟩:Str) Y3 false,cEq (⟨#[z1+1]⟩:Str) Y19 false,cAddL (⟨#[z1+1]⟩:Str)],[0,1,2,3,4,5,6,7,8,9,10,11],.ok (.again (forOf (inner (bodyOf K 70) [3,1]) 0 (.ref ci) (envOf K 70 fr []))),[(fr,frO #[ent P Y15 (k 0) (.ref X.i),ent P Y16 (k 1) (.str (⟨#[z1+1]⟩:Str) (t+8)),ent P Y17 (k 2) (.ref ci),ent P Y18 (k 3) (.str (⟨#[z1+1]⟩:Str) (t+8))] 4),(ci,⟨.type "callable_iterator",none,.fields #[(.ref bm),(.str Y2 ts),(.bool false)],#[]⟩),(bm,bmO X),(X.i,X.iO),(X.d,X.dO P ln),(X.s,S.sO),(S.sd,S.dO P),(S.rf,S.fO K),(S.rc,S.cO),(S.ct,Sm.tO x tx),(S.ca,S.aO),(S.al,liO #[.int (p+((⟨#[z1+1]⟩:Str).length:Int)) (t+13)] ea)],3,21,0⟩
def t_q3eRun:RP:=fun T pg=>∀X S x tx p tp ea ln fr ci bm k u ttk ts z1 b t,JobOk T pg (t_q3eJ X S x tx p tp ea ln fr ci bm k u ttk ts z1 b t) b t
noncomputable def t_b1J (X:Lx)(S:Sm)(x:Str)(tx:Tok)(p:Int)(tp:Tok)(ea:Nat)(ln:Int)(tln:Tok)(fr ci bm:Addr)(k:Nat->Tok)(u:Nat->Value)(ttk ts:Tok)(tk:Str)(z1:Nat)(b t:Nat):KJ:=fun K P=>⟨40,forOf (elsed (inner (bodyOf K 70) [3]) 1) 2 (.ref ci) (envOf K 70 fr []),FD (forOf (elsed (inner (bodyOf K 70) [3]) 1) 2 (.ref ci) (envOf K 70 fr [])),[(fr,frO #[ent P Y15 (k 0) (.ref X.i),ent P Y16 (k 1) (.str tk ttk),ent P Y17 (k 2) (.ref ci),ent P Y18 (k 3) (u 3)] 4),(ci,ciO bm ts),(bm,bmO X),(X.i,X.iO),(X.d,X.dO P (.int ln tln)),(X.s,S.sO),(S.sd,S.dO P),(S.rf,S.fO K),(S.rc,S.cO),(S.ct,Sm.tO x tx),(S.ca,S.aO),(S.al,liO #[.int p tp] ea)],hs [5,1,5,5,5,6,0,3,5,5,3,4,4,4,4,7,0,0,0,1,7,0,0,0,7,7,0,8,3,4] [.ctr [3,4,5,6,7,8,9,10,11,2] (fun b' t' _ _=>rASp X S bm x tx p tp ea (⟨#[z1+1]⟩:Str) ln tln b' t' K P),cEq Y2 (⟨#[z1+1]⟩:Str) false,cIn Y4 (⟨#[z1+1]⟩:Str) true],[0,1,2,3,4,5,6,7,8,9,10,11],.ok (.done (.ret (.str tk ttk))),[(fr,frO #[ent P Y15 (k 0) (.ref X.i),ent P Y16 (k 1) (.str tk ttk),ent P Y17 (k 2) (.ref ci),ent P Y18 (k 3) (.str (⟨#[z1+1]⟩:Str) (t+8))] 4),(ci,⟨.type "callable_iterator",none,.fields #[(.ref bm),(.str Y2 ts),(.bool false)],#[]⟩),(bm,bmO X),(X.i,X.iO),(X.d,X.dO P (.int (ln+1) (t+19))),(X.s,S.sO),(S.sd,S.dO P),(S.rf,S.fO K),(S.rc,S.cO),(S.ct,Sm.tO x tx),(S.ca,S.aO),(S.al,liO #[.int (p+((⟨#[z1+1]⟩:Str).length:Int)) (t+13)] ea)],3,24,0⟩
def t_b1Run:RP:=fun T pg=>∀X S x tx p tp ea ln tln fr ci bm k u ttk ts tk z1 b t,JobOk T pg (t_b1J X S x tx p tp ea ln tln fr ci bm k u ttk ts tk z1 b t) b t
noncomputable def t_b2J (X:Lx)(S:Sm)(x:Str)(tx:Tok)(p:Int)(tp:Tok)(ea:Nat)(ln:Value)(fr ci bm:Addr)(k:Nat->Tok)(u:Nat->Value)(ttk ts:Tok)(tk:Str)(z1 z2:Nat)(b t:Nat):KJ:=fun K P=>⟨40,forOf (elsed (inner (bodyOf K 70) [3]) 1) 2 (.ref ci) (envOf K 70 fr []),FD (forOf (elsed (inner (bodyOf K 70) [3]) 1) 2 (.ref ci) (envOf K 70 fr [])),[(fr,frO #[ent P Y15 (k 0) (.ref X.i),ent P Y16 (k 1) (.str tk ttk),ent P Y17 (k 2) (.ref ci),ent P Y18 (k 3) (u 3)] 4),(ci,ciO bm ts),(bm,bmO X),(X.i,X.iO),(X.d,X.dO P ln),(X.s,S.sO),(S.sd,S.dO P),(S.rf,S.fO K),(S.rc,S.cO),(S.ct,Sm.tO x tx),(S.ca,S.aO),(S.al,liO #[.int p tp] ea)],hs [5,1,5,5,5,6,0,3,5,5,3,4,4,4,4,7,0,0,0,1,7,0,0,0,7,7,0,8,3,4,3,4,7,0,0,0,7,0,0,0,7,0,0,0,0,7,8,0,3,4,4,4,4,3,4,4] [.ctr [3,4,5,6,7,8,9,10,11,2] (fun b' t' _ _=>rBSp X S bm x tx p tp ea (⟨#[z1+1]⟩:Str) ln b' t' K P),cEq Y2 (⟨#[z1+1]⟩:Str) false,cIn Y4 (⟨#[z1+1]⟩:Str) false,cEq (⟨#[z1+1]⟩:Str) Y19 true,.ctr [3,4,5,6,7,8,9,10,11] (fun b' t' _ _=>rDSp X S x tx (p+((⟨#[z1+1]⟩:Str).length:Int)) (t+13) ea (⟨#[z2+1]⟩:Str) ln b' t' K P),cAdd tk (⟨#[z2+1]⟩:Str)],[0,1,2,3,4,5,6,7,8,9,10,11],.ok (.again (forOf (elsed (inner (bodyOf K 70) [3]) 1) 2 (.ref ci) (envOf K 70 fr []))),[(fr,frO #[ent P Y15 (k 0) (.ref X.i),ent P Y16 (k 1) (.str (tk++(⟨#[z2+1]⟩:Str)) (t+38)),ent P Y17 (k 2) (.ref ci),ent P Y18 (k 3) (.str (⟨#[z2+1]⟩:Str) (t+28))] 4),(ci,⟨.type "callable_iterator",none,.fields #[(.ref bm),(.str Y2 ts),(.bool false)],#[]⟩),(bm,bmO X),(X.i,X.iO),(X.d,X.dO P ln),(X.s,S.sO),(S.sd,S.dO P),(S.rf,S.fO K),(S.rc,S.cO),(S.ct,Sm.tO x tx),(S.ca,S.aO),(S.al,liO #[.int ((p+((⟨#[z1+1]⟩:Str).length:Int))+((⟨#[z2+1]⟩:Str).length:Int)) (t+33)] ea)],6,40,0⟩
def t_b2Run:RP:=fun T pg=>∀X S x tx p tp ea ln fr ci bm k u ttk ts tk z1 z2 b t,JobOk T pg (t_b2J X S x tx p tp ea ln fr ci bm k u ttk ts tk z1 z2 b t) b t
noncomputable def t_b3J (X:Lx)(S:Sm)(x:Str)(tx:Tok)(p:Int)(tp:Tok)(ea:Nat)(ln:Value)(fr ci bm:Addr)(k:Nat->Tok)(u:Nat->Value)(ttk ts:Tok)(tk:Str)(b t:Nat):KJ:=fun K P=>⟨40,forOf (elsed (inner (bodyOf K 70) [3]) 1) 2 (.ref ci) (envOf K 70 fr []),FD (forOf (elsed (inner (bodyOf K 70) [3]) 1) 2 (.ref ci) (envOf K 70 fr [])),[(fr,frO #[ent P Y15 (k 0) (.ref X.i),ent P Y16 (k 1) (.str tk ttk),ent P Y17 (k 2) (.ref ci),ent P Y18 (k 3) (u 3)] 4),(ci,ciO bm ts),(bm,bmO X),(X.i,X.iO),(X.d,X.dO P ln),(X.s,S.sO),(S.sd,S.dO P),(S.rf,S.fO K),(S.rc,S.cO),(S.ct,Sm.tO x tx),(S.ca,S.aO),(S.al,liO #[.int p tp] ea)],hs [5,3,4,1] [.ctr [1,2,3,4,5,6,7,8,9,10,11] (fun b' t' _ _=>endSp X S K P ci bm ts x tx ln p tp ea b' t')],[1,2,3,4,5,6,7,8,9,10,11,12],.ok (.done .next),[(fr,frO #[ent P Y15 (k 0) (.ref X.i),ent P Y16 (k 1) (.str tk ttk),ent P Y17 (k 2) (.ref ci),ent P Y18 (k 3) (u 3)] 4),(ci,⟨.type "callable_iterator",none,.fields #[.none,.none,(.bool true)],#[]⟩),(bm,bmO X),(X.i,X.iO),(X.d,X.dO P ln),(X.s,S.sO),(S.sd,S.dO P),(S.rf,S.fO K),(S.rc,S.cO),(S.ct,Sm.tO x tx),(S.ca,S.aO),(S.al,liO #[.int p (t+13)] ea)],5,17,0⟩
def t_b3Run:RP:=fun T pg=>∀X S x tx p tp ea ln fr ci bm k u ttk ts tk b t,JobOk T pg (t_b3J X S x tx p tp ea ln fr ci bm k u ttk ts tk b t) b t
noncomputable def t_oNJ (X:Lx)(S:Sm)(x:Str)(tx:Tok)(p:Int)(tp:Tok)(ea:Nat)(ln:Int)(tln:Tok)(fr ci bm:Addr)(k:Nat->Tok)(ttk ts:Tok)(z1:Nat)(b t:Nat):KJ:=fun K P=>⟨60,forOf (bodyOf K 70) 3 (.ref ci) (envOf K 70 fr []),FD (forOf (bodyOf K 70) 3 (.ref ci) (envOf K 70 fr [])),[(fr,frO #[ent P Y15 (k 0) (.ref X.i),ent P Y16 (k 1) (.str Y2 ttk),ent P Y17 (k 2) (.ref ci)] 3),(ci,ciO bm ts),(bm,bmO X),(X.i,X.iO),(X.d,X.dO P (.int ln tln)),(X.s,S.sO),(S.sd,S.dO P),(S.rf,S.fO K),(S.rc,S.cO),(S.ct,Sm.tO x tx),(S.ca,S.aO),(S.al,liO #[.int p tp] ea)],hs [5,1,5,5,5,6,0,3,5,5,3,4,4,4,4,7,0,0,0,1,7,0,0,0,7,7,0,8,3] [.ctr [3,4,5,6,7,8,9,10,11,2] (fun b' t' _ _=>rASp X S bm x tx p tp ea (⟨#[z1+1]⟩:Str) ln tln b' t' K P),cEq Y2 (⟨#[z1+1]⟩:Str) false,cIn Y4 (⟨#[z1+1]⟩:Str) true],[0,1,2,3,4,5,6,7,8,9,10,11],.ok (.again (forOf (bodyOf K 70) 3 (.ref ci) (envOf K 70 fr []))),[(fr,frO #[ent P Y15 (k 0) (.ref X.i),ent P Y16 (k 1) (.str Y2 ttk),ent P Y17 (k 2) (.ref ci),ent P Y18 (t+22) (.str (⟨#[z1+1]⟩:Str) (t+8))] 4),(ci,⟨.type "callable_iterator",none,.fields #[(.ref bm),(.str Y2 ts),(.bool false)],#[]⟩),(bm,bmO X),(X.i,X.iO),(X.d,X.dO P (.int (ln+1) (t+19))),(X.s,S.sO),(S.sd,S.dO P),(S.rf,S.fO K),(S.rc,S.cO),(S.ct,Sm.tO x tx),(S.ca,S.aO),(S.al,liO #[.int (p+((⟨#[z1+1]⟩:Str).length:Int)) (t+13)] ea)],3,24,0⟩
def t_oNRun:RP:=fun T pg=>∀X S x tx p tp ea ln tln fr ci bm k ttk ts z1 b t,JobOk T pg (t_oNJ X S x tx p tp ea ln tln fr ci bm k ttk ts z1 b t) b t
noncomputable def t_oQ3rJ (X:Lx)(S:Sm)(x:Str)(tx:Tok)(p:Int)(tp:Tok)(ea:Nat)(ln:Value)(fr ci bm:Addr)(k:Nat->Tok)(ttk ts:Tok)(z1:Nat)(wd:Str)(TW DA D TP:Nat->Nat->Nat)(LN:Nat->Nat->Value)(PQ:Nat->Nat->Int)(CI:Nat->Nat->Obj)(VC:Nat->Nat->Value)(b t:Nat):KJ:=fun K P=>⟨60,forOf (bodyOf K 70) 3 (.ref ci) (envOf K 70 fr []),FD (forOf (bodyOf K 70) 3 (.ref ci) (envOf K 70 fr [])),[(fr,frO #[ent P Y15 (k 0) (.ref X.i),ent P Y16 (k 1) (.str Y2 ttk),ent P Y17 (k 2) (.ref ci)] 3),(ci,ciO bm ts),(bm,bmO X),(X.i,X.iO),(X.d,X.dO P ln),(X.s,S.sO),(S.sd,S.dO P),(S.rf,S.fO K),(S.rc,S.cO),(S.ct,Sm.tO x tx),(S.ca,S.aO),(S.al,liO #[.int p tp] ea)],hs [5,1,5,5,5,6,0,3,5,5,3,4,4,4,4,7,0,0,0,1,7,0,0,0,7,7,0,8,3,4,3,4,5,5,1,5,5,3] [.ctr [3,4,5,6,7,8,9,10,11,2] (fun b' t' _ _=>rBSp X S bm x tx p tp ea (⟨#[z1+1]⟩:Str) ln b' t' K P),cEq Y2 (⟨#[z1+1]⟩:Str) false,cIn Y4 (⟨#[z1+1]⟩:Str) false,cEq (⟨#[z1+1]⟩:Str) Y3 true,.ctr [0,1,2,3,4,5,6,7,8,9,10,11] (fun b' t' _ _=>lpSp 40 (forOf (inner (bodyOf K 70) [3,1]) 0 (.ref ci) (envOf K 70 fr [])) fr ci bm (frO #[ent P Y15 (k 0) (.ref X.i),ent P Y16 (k 1) (.str Y2 ttk),ent P Y17 (k 2) (.ref ci),ent P Y18 (t+17) (.str (⟨#[z1+1]⟩:Str) (t+8))] 4) (frO #[ent P Y15 (k 0) (.ref X.i),ent P Y16 (k 1) (.str wd (TW b' t')),ent P Y17 (k 2) (.ref ci),ent P Y18 (t+17) (VC b' t')] 4) (ciO bm ts) (CI b' t') X S K P x tx ln (LN b' t') (p+((⟨#[z1+1]⟩:Str).length:Int)) (PQ b' t') (t+13) (TP b' t') ea (.ok (.ret (.str wd (TW b' t')))) (DA b' t') (D b' t'))],[0,1,2,3,4,5,6,7,8,9,10,11],.ok (.done (.ret (.str wd (TW (b+3) (t+20))))),[(fr,frO #[ent P Y15 (k 0) (.ref X.i),ent P Y16 (k 1) (.str wd (TW (b+3) (t+20))),ent P Y17 (k 2) (.ref ci),ent P Y18 (t+17) (VC (b+3) (t+20))] 4),(ci,(CI (b+3) (t+20))),(bm,bmO X),(X.i,X.iO),(X.d,X.dO P (LN (b+3) (t+20))),(X.s,S.sO),(S.sd,S.dO P),(S.rf,S.fO K),(S.rc,S.cO),(S.ct,Sm.tO x tx),(S.ca,S.aO),(S.al,liO #[.int (PQ (b+3) (t+20)) (TP (b+3) (t+20))] ea)],((3+DA (b+3) (t+20))+0),((20+D (b+3) (t+20))+0),0⟩
def t_oQ3rRun:RP:=fun T pg=>∀X S x tx p tp ea ln fr ci bm k ttk ts z1 wd TW DA D TP LN PQ CI VC b t,JobOk T pg (t_oQ3rJ X S x tx p tp ea ln fr ci bm k ttk ts z1 wd TW DA D TP LN PQ CI VC b t) b t
noncomputable def t_oQ4rJ (X:Lx)(S:Sm)(x:Str)(tx:Tok)(p:Int)(tp:Tok)(ea:Nat)(ln:Value)(fr ci bm:Addr)(k:Nat->Tok)(u:Nat->Value)(ttk ts:Tok)(z1:Nat)(wd:Str)(TW DA D TP:Nat->Nat->Nat)(LN:Nat->Nat->Value)(PQ:Nat->Nat->Int)(CI:Nat->Nat->Obj)(VC:Nat->Nat->Value)(b t:Nat):KJ:=fun K P=>⟨60,forOf (bodyOf K 70) 3 (.ref ci) (envOf K 70 fr []),FD (forOf (bodyOf K 70) 3 (.ref ci) (envOf K 70 fr [])),[(fr,frO #[ent P Y15 (k 0) (.ref X.i),ent P Y16 (k 1) (.str Y2 ttk),ent P Y17 (k 2) (.ref ci),ent P Y18 (k 3) (u 3)] 4),(ci,ciO bm ts),(bm,bmO X),(X.i,X.iO),(X.d,X.dO P ln),(X.s,S.sO),(S.sd,S.dO P),(S.rf,S.fO K),(S.rc,S.cO),(S.ct,Sm.tO x tx),(S.ca,S.aO),(S.al,liO #[.int p tp] ea)],hs [5,1,5,5,5,6,0,3,5,5,3,4,4,4,4,7,0,0,0,1,7,0,0,0,7,7,0,8,3,4,3,4,5,5,1,5,5,3] [.ctr [3,4,5,6,7,8,9,10,11,2] (fun b' t' _ _=>rBSp X S bm x tx p tp ea (⟨#[z1+1]⟩:Str) ln b' t' K P),cEq Y2 (⟨#[z1+1]⟩:Str) false,cIn Y4 (⟨#[z1+1]⟩:Str) false,cEq (⟨#[z1+1]⟩:Str) Y3 true,.ctr [0,1,2,3,4,5,6,7,8,9,10,11] (fun b' t' _ _=>lpSp 40 (forOf (inner (bodyOf K 70) [3,1]) 0 (.ref ci) (envOf K 70 fr [])) fr ci bm (frO #[ent P Y15 (k 0) (.ref X.i),ent P Y16 (k 1) (.str Y2 ttk),ent P Y17 (k 2) (.ref ci),ent P Y18 (k 3) (.str (⟨#[z1+1]⟩:Str) (t+8))] 4) (frO #[ent P Y15 (k 0) (.ref X.i),ent P Y16 (k 1) (.str wd (TW b' t')),ent P Y17 (k 2) (.ref ci),ent P Y18 (k 3) (VC b' t')] 4) (ciO bm ts) (CI b' t') X S K P x tx ln (LN b' t') (p+((⟨#[z1+1]⟩:Str).length:Int)) (PQ b' t') (t+13) (TP b' t') ea (.ok (.ret (.str wd (TW b' t')))) (DA b' t') (D b' t'))],[0,1,2,3,4,5,6,7,8,9,10,11],.ok (.done (.ret (.str wd (TW (b+3) (t+20))))),[(fr,frO #[ent P Y15 (k 0) (.ref X.i),ent P Y16 (k 1) (.str wd (TW (b+3) (t+20))),ent P Y17 (k 2) (.ref ci),ent P Y18 (k 3) (VC (b+3) (t+20))] 4),(ci,(CI (b+3) (t+20))),(bm,bmO X),(X.i,X.iO),(X.d,X.dO P (LN (b+3) (t+20))),(X.s,S.sO),(S.sd,S.dO P),(S.rf,S.fO K),(S.rc,S.cO),(S.ct,Sm.tO x tx),(S.ca,S.aO),(S.al,liO #[.int (PQ (b+3) (t+20)) (TP (b+3) (t+20))] ea)],((3+DA (b+3) (t+20))+0),((20+D (b+3) (t+20))+0),0⟩
def t_oQ4rRun:RP:=fun T pg=>∀X S x tx p tp ea ln fr ci bm k u ttk ts z1 wd TW DA D TP LN PQ CI VC b t,JobOk T pg (t_oQ4rJ X S x tx p tp ea ln fr ci bm k u ttk ts z1 wd TW DA D TP LN PQ CI VC b t) b t
noncomputable def t_oB3rJ (X:Lx)(S:Sm)(x:Str)(tx:Tok)(p:Int)(tp:Tok)(ea:Nat)(ln:Value)(fr ci bm:Addr)(k:Nat->Tok)(ttk ts:Tok)(z1 z2:Nat)(wd:Str)(TW DA D TP:Nat->Nat->Nat)(LN:Nat->Nat->Value)(PQ:Nat->Nat->Int)(CI:Nat->Nat->Obj)(VC:Nat->Nat->Value)(b t:Nat):KJ:=fun K P=>⟨60,forOf (bodyOf K 70) 3 (.ref ci) (envOf K 70 fr []),FD (forOf (bodyOf K 70) 3 (.ref ci) (envOf K 70 fr [])),[(fr,frO #[ent P Y15 (k 0) (.ref X.i),ent P Y16 (k 1) (.str Y2 ttk),ent P Y17 (k 2) (.ref ci)] 3),(ci,ciO bm ts),(bm,bmO X),(X.i,X.iO),(X.d,X.dO P ln),(X.s,S.sO),(S.sd,S.dO P),(S.rf,S.fO K),(S.rc,S.cO),(S.ct,Sm.tO x tx),(S.ca,S.aO),(S.al,liO #[.int p tp] ea)],hs [5,1,5,5,5,6,0,3,5,5,3,4,4,4,4,7,0,0,0,1,7,0,0,0,7,7,0,8,3,4,3,4,3,4,7,0,0,0,7,0,0,0,7,0,0,0,0,7,8,0,3,4,4,4,4,3,4,4,4,5,5,1,5,5,3] [.ctr [3,4,5,6,7,8,9,10,11,2] (fun b' t' _ _=>rBSp X S bm x tx p tp ea (⟨#[z1+1]⟩:Str) ln b' t' K P),cEq Y2 (⟨#[z1+1]⟩:Str) false,cIn Y4 (⟨#[z1+1]⟩:Str) false,cEq (⟨#[z1+1]⟩:Str) Y3 false,cEq (⟨#[z1+1]⟩:Str) Y19 true,.ctr [3,4,5,6,7,8,9,10,11] (fun b' t' _ _=>rDSp X S x tx (p+((⟨#[z1+1]⟩:Str).length:Int)) (t+13) ea (⟨#[z2+1]⟩:Str) ln b' t' K P),cAddL (⟨#[z2+1]⟩:Str),.ctr [0,1,2,3,4,5,6,7,8,9,10,11] (fun b' t' _ _=>lpSp 40 (forOf (elsed (inner (bodyOf K 70) [3]) 1) 2 (.ref ci) (envOf K 70 fr [])) fr ci bm (frO #[ent P Y15 (k 0) (.ref X.i),ent P Y16 (k 1) (.str (⟨#[z2+1]⟩:Str) (t+29)),ent P Y17 (k 2) (.ref ci),ent P Y18 (t+17) (.str (⟨#[z2+1]⟩:Str) (t+29))] 4) (frO #[ent P Y15 (k 0) (.ref X.i),ent P Y16 (k 1) (.str wd (TW b' t')),ent P Y17 (k 2) (.ref ci),ent P Y18 (t+17) (VC b' t')] 4) (ciO bm ts) (CI b' t') X S K P x tx ln (LN b' t') ((p+((⟨#[z1+1]⟩:Str).length:Int))+((⟨#[z2+1]⟩:Str).length:Int)) (PQ b' t') (t+34) (TP b' t') ea (.ok (.ret (.str wd (TW b' t')))) (DA b' t') (D b' t'))],[0,1,2,3,4,5,6,7,8,9,10,11],.ok (.done (.ret (.str wd (TW (b+6) (t+40))))),[(fr,frO #[ent P Y15 (k 0) (.ref X.i),ent P Y16 (k 1) (.str wd (TW (b+6) (t+40))),ent P Y17 (k 2) (.ref ci),ent P Y18 (t+17) (VC (b+6) (t+40))] 4),(ci,(CI (b+6) (t+40))),(bm,bmO X),(X.i,X.iO),(X.d,X.dO P (LN (b+6) (t+40))),(X.s,S.sO),(S.sd,S.dO P),(S.rf,S.fO K),(S.rc,S.cO),(S.ct,Sm.tO x tx),(S.ca,S.aO),(S.al,liO #[.int (PQ (b+6) (t+40)) (TP (b+6) (t+40))] ea)],((6+DA (b+6) (t+40))+0),((40+D (b+6) (t+40))+0),0⟩
def t_oB3rRun:RP:=fun T pg=>∀X S x tx p tp ea ln fr ci bm k ttk ts z1 z2 wd TW DA D TP LN PQ CI VC b t,JobOk T pg (t_oB3rJ X S x tx p tp ea ln fr ci bm k ttk ts z1 z2 wd TW DA D TP LN PQ CI VC b t) b t
noncomputable def t_oB3nJ (X:Lx)(S:Sm)(x:Str)(tx:Tok)(p:Int)(tp:Tok)(ea:Nat)(ln:Value)(fr ci bm:Addr)(k:Nat->Tok)(ttk ts:Tok)(z1 z2:Nat)(wd:Str)(TW DA D TP:Nat->Nat->Nat)(LN:Nat->Nat->Value)(PQ:Nat->Nat->Int)(CI:Nat->Nat->Obj)(VC:Nat->Nat->Value)(b t:Nat):KJ:=fun K P=>⟨60,forOf (bodyOf K 70) 3 (.ref ci) (envOf K 70 fr []),FD (forOf (bodyOf K 70) 3 (.ref ci) (envOf K 70 fr [])),[(fr,frO #[ent P Y15 (k 0) (.ref X.i),ent P Y16 (k 1) (.str Y2 ttk),ent P Y17 (k 2) (.ref ci)] 3),(ci,ciO bm ts),(bm,bmO X),(X.i,X.iO),(X.d,X.dO P ln),(X.s,S.sO),(S.sd,S.dO P),(S.rf,S.fO K),(S.rc,S.cO),(S.ct,Sm.tO x tx),(S.ca,S.aO),(S.al,liO #[.int p tp] ea)],hs [5,1,5,5,5,6,0,3,5,5,3,4,4,4,4,7,0,0,0,1,7,0,0,0,7,7,0,8,3,4,3,4,3,4,7,0,0,0,7,0,0,0,7,0,0,0,0,7,8,0,3,4,4,4,4,3,4,4,4,5,5,1,5,5,3] [.ctr [3,4,5,6,7,8,9,10,11,2] (fun b' t' _ _=>rBSp X S bm x tx p tp ea (⟨#[z1+1]⟩:Str) ln b' t' K P),cEq Y2 (⟨#[z1+1]⟩:Str) false,cIn Y4 (⟨#[z1+1]⟩:Str) false,cEq (⟨#[z1+1]⟩:Str) Y3 false,cEq (⟨#[z1+1]⟩:Str) Y19 true,.ctr [3,4,5,6,7,8,9,10,11] (fun b' t' _ _=>rDSp X S x tx (p+((⟨#[z1+1]⟩:Str).length:Int)) (t+13) ea (⟨#[z2+1]⟩:Str) ln b' t' K P),cAddL (⟨#[z2+1]⟩:Str),.ctr [0,1,2,3,4,5,6,7,8,9,10,11] (fun b' t' _ _=>lpSp 40 (forOf (elsed (inner (bodyOf K 70) [3]) 1) 2 (.ref ci) (envOf K 70 fr [])) fr ci bm (frO #[ent P Y15 (k 0) (.ref X.i),ent P Y16 (k 1) (.str (⟨#[z2+1]⟩:Str) (t+29)),ent P Y17 (k 2) (.ref ci),ent P Y18 (t+17) (.str (⟨#[z2+1]⟩:Str) (t+29))] 4) (frO #[ent P Y15 (k 0) (.ref X.i),ent P Y16 (k 1) (.str wd (TW b' t')),ent P Y17 (k 2) (.ref ci),ent P Y18 (t+17) (VC b' t')] 4) (ciO bm ts) (CI b' t') X S K P x tx ln (LN b' t') ((p+((⟨#[z1+1]⟩:Str).length:Int))+((⟨#[z2+1]⟩:Str).length:Int)) (PQ b' t') (t+34) (TP b' t') ea (.ok .next) (DA b' t') (D b' t'))],[0,1,2,3,4,5,6,7,8,9,10,11],.ok (.again (forOf (bodyOf K 70) 3 (.ref ci) (envOf K 70 fr []))),[(fr,frO #[ent P Y15 (k 0) (.ref X.i),ent P Y16 (k 1) (.str wd (TW (b+6) (t+40))),ent P Y17 (k 2) (.ref ci),ent P Y18 (t+17) (VC (b+6) (t+40))] 4),(ci,(CI (b+6) (t+40))),(bm,bmO X),(X.i,X.iO),(X.d,X.dO P (LN (b+6) (t+40))),(X.s,S.sO),(S.sd,S.dO P),(S.rf,S.fO K),(S.rc,S.cO),(S.ct,Sm.tO x tx),(S.ca,S.aO),(S.al,liO #[.int (PQ (b+6) (t+40)) (TP (b+6) (t+40))] ea)],((6+DA (b+6) (t+40))+0),((40+D (b+6) (t+40))+0),0⟩
def t_oB3nRun:RP:=fun T pg=>∀X S x tx p tp ea ln fr ci bm k ttk ts z1 z2 wd TW DA D TP LN PQ CI VC b t,JobOk T pg (t_oB3nJ X S x tx p tp ea ln fr ci bm k ttk ts z1 z2 wd TW DA D TP LN PQ CI VC b t) b t
noncomputable def t_oE3J (X:Lx)(S:Sm)(x:Str)(tx:Tok)(p:Int)(tp:Tok)(ea:Nat)(ln:Value)(fr ci bm:Addr)(k:Nat->Tok)(ttk ts:Tok)(b t:Nat):KJ:=fun K P=>⟨60,forOf (bodyOf K 70) 3 (.ref ci) (envOf K 70 fr []),FD (forOf (bodyOf K 70) 3 (.ref ci) (envOf K 70 fr [])),[(fr,frO #[ent P Y15 (k 0) (.ref X.i),ent P Y16 (k 1) (.str Y2 ttk),ent P Y17 (k 2) (.ref ci)] 3),(ci,ciO bm ts),(bm,bmO X),(X.i,X.iO),(X.d,X.dO P ln),(X.s,S.sO),(S.sd,S.dO P),(S.rf,S.fO K),(S.rc,S.cO),(S.ct,Sm.tO x tx),(S.ca,S.aO),(S.al,liO #[.int p tp] ea)],hs [5,3,4,1] [.ctr [1,2,3,4,5,6,7,8,9,10,11] (fun b' t' _ _=>endSp X S K P ci bm ts x tx ln p tp ea b' t')],[1,2,3,4,5,6,7,8,9,10,11,12],.ok (.done .next),[(fr,frO #[ent P Y15 (k 0) (.ref X.i),ent P Y16 (k 1) (.str Y2 ttk),ent P Y17 (k 2) (.ref ci)] 3),(ci,⟨.type "callable_iterator",none,.fields #[.none,.none,(.bool true)],#[]⟩),(bm,bmO X),(X.i,X.iO),(X.d,X.dO P ln),(X.s,S.sO),(S.sd,S.dO P),(S.rf,S.fO K),(S.rc,S.cO),(S.ct,Sm.tO x tx),(S.ca,S.aO),(S.al,liO #[.int p (t+13)] ea)],5,17,0⟩
def t_oE3Run:RP:=fun T pg=>∀X S x tx p tp ea ln fr ci bm k ttk ts b t,JobOk T pg (t_oE3J X S x tx p tp ea ln fr ci bm k ttk ts b t) b t
noncomputable def t_oE4J (X:Lx)(S:Sm)(x:Str)(tx:Tok)(p:Int)(tp:Tok)(ea:Nat)(ln:Value)(fr ci bm:Addr)(k:Nat->Tok)(u:Nat->Value)(ttk ts:Tok)(tk:Str)(b t:Nat):KJ:=fun K P=>⟨60,forOf (bodyOf K 70) 3 (.ref ci) (envOf K 70 fr []),FD (forOf (bodyOf K 70) 3 (.ref ci) (envOf K 70 fr [])),[(fr,frO #[ent P Y15 (k 0) (.ref X.i),ent P Y16 (k 1) (.str tk ttk),ent P Y17 (k 2) (.ref ci),ent P Y18 (k 3) (u 3)] 4),(ci,⟨.type "callable_iterator",none,.fields #[.none,.none,(.bool true)],#[]⟩),(bm,bmO X),(X.i,X.iO),(X.d,X.dO P ln),(X.s,S.sO),(S.sd,S.dO P),(S.rf,S.fO K),(S.rc,S.cO),(S.ct,Sm.tO x tx),(S.ca,S.aO),(S.al,liO #[.int p tp] ea)],hs [5,1,5,5,4,1] [],[2,3,4,5,6,7,8,9,10,11,12,13],.ok (.done .next),[(fr,frO #[ent P Y15 (k 0) (.ref X.i),ent P Y16 (k 1) (.str tk ttk),ent P Y17 (k 2) (.ref ci),ent P Y18 (k 3) (u 3)] 4),(ci,⟨.type "callable_iterator",none,.fields #[.none,.none,(.bool true)],#[]⟩),(bm,bmO X),(X.i,X.iO),(X.d,X.dO P ln),(X.s,S.sO),(S.sd,S.dO P),(S.rf,S.fO K),(S.rc,S.cO),(S.ct,Sm.tO x tx),(S.ca,S.aO),(S.al,liO #[.int p tp] ea)],2,0,0⟩
def t_oE4Run:RP:=fun T pg=>∀X S x tx p tp ea ln fr ci bm k u ttk ts tk b t,JobOk T pg (t_oE4J X S x tx p tp ea ln fr ci bm k u ttk ts tk b t) b t
noncomputable def t_GrSp (X:Lx)(S:Sm)(x:Str)(tx:Tok)(p:Int)(tp:Tok)(ea:Nat)(ln:Value)(ep:Nat)(wd:Str)(TW DA D TP:Nat->Nat->Nat)(LN:Nat->Nat->Value)(PQ:Nat->Nat->Int)(CI:Nat->Nat->Obj)(FF:Nat->Nat->Obj)(b t:Nat)(K:KT)(P:Params):Sp:=⟨80,.call (.ref 70) ⟨[.ref X.i],[]⟩,[(X.i,X.iO),(X.d,X.dO P ln),(X.s,S.sO),(S.sd,S.dO P),(S.rf,S.fO K),(S.rc,S.cO),(S.ct,Sm.tO x tx),(S.ca,S.aO),(S.al,liO #[.int p tp] ea),(X.p,liO #[] ep)],.ok (.ret (.str wd (TW (b+3) (t+9)))),[X.iO,X.dO P (LN (b+3) (t+9)),S.sO,S.dO P,S.fO K,S.cO,Sm.tO x tx,S.aO,liO #[.int (PQ (b+3) (t+9)) (TP (b+3) (t+9))] ea,liO #[] ep],[],((3+DA (b+3) (t+9))+0),((9+D (b+3) (t+9))+0),0⟩
def t_GrRun:RP:=fun T pg=>∀X S x tx p tp ea ln ep wd TW DA D TP LN PQ CI FF b t,JobOk T pg (fun K P=>jobTF (t_GrSp X S x tx p tp ea ln ep wd TW DA D TP LN PQ CI FF b t K P) [0,0,4,4,0,1,4,5,0,0,0,1,5,0,0,0,5,5,0,6,14,14,1,14,1,14,14,4,4,0,0,4,5,0,0,0,1,5,0,0,0,0,0,0,5,5,0,6,0,0,0,1,0,1,4,6,6,6,4,4,1,4,4,3] [.ctr [2,0,1,3,4,5,6,7,8,9,10,11] (fun b' t' _ _=>lpSp 60 (forOf (bodyOf K 70) 3 (.ref (b+2)) (envOf K 70 (b+0) [])) (b+0) (b+2) (b+1) (frO #[ent P Y15 (t+0) (.ref X.i),ent P Y16 (t+5) (.str Y2 (t+4)),ent P Y17 (t+8) (.ref (b+2))] 3) ((FF b' t')) (ciO (b+1) (t+7)) (CI b' t') X S K P x tx ln (LN b' t') p (PQ b' t') tp (TP b' t') ea (.ok (.ret (.str wd (TW b' t')))) (DA b' t') (D b' t'))] [3,4,5,6,7,8,9,10,11,12]) b t
theorem t_Gr_ok {T:Params->KT}{prog:Program}{w:World}(H:t_GrRun T prog)(X:Lx)(S:Sm)(x:Str)(tx:Tok)(p:Int)(tp:Tok)(ea:Nat)(ln:Value)(ep:Nat)(wd:Str)(TW DA D TP:Nat->Nat->Nat)(LN:Nat->Nat->Value)(PQ:Nat->Nat->Int)(CI:Nat->Nat->Obj)(FF:Nat->Nat->Obj)(b t:Nat)(hl:COk (T w.params) prog w b t (fun b' t' _ _=>lpSp 60 (forOf (bodyOf (T w.params) 70) 3 (.ref (b+2)) (envOf (T w.params) 70 (b+0) [])) (b+0) (b+2) (b+1) (frO #[ent w.params Y15 (t+0) (.ref X.i),ent w.params Y16 (t+5) (.str Y2 (t+4)),ent w.params Y17 (t+8) (.ref (b+2))] 3) ((FF b' t')) (ciO (b+1) (t+7)) (CI b' t') X S (T w.params) w.params x tx ln (LN b' t') p (PQ b' t') tp (TP b' t') ea (.ok (.ret (.str wd (TW b' t')))) (DA b' t') (D b' t'))):JSp T prog w (t_GrSp X S x tx p tp ea ln ep wd TW DA D TP LN PQ CI FF b t) b t:=jobOf_ok (H X S x tx p tp ea ln ep wd TW DA D TP LN PQ CI FF b t) (.inr rfl) rfl (by decide) ⟨hl,trivial⟩
noncomputable def t_GnSp (X:Lx)(S:Sm)(x:Str)(tx:Tok)(p:Int)(tp:Tok)(ea:Nat)(ln:Value)(ep:Nat)(wd:Str)(TW DA D TP:Nat->Nat->Nat)(LN:Nat->Nat->Value)(PQ:Nat->Nat->Int)(CI:Nat->Nat->Obj)(TK:Nat->Nat->Tok)(VC:Nat->Nat->Value)(b t:Nat)(K:KT)(P:Params):Sp:=⟨80,.call (.ref 70) ⟨[.ref X.i],[]⟩,[(X.i,X.iO),(X.d,X.dO P ln),(X.s,S.sO),(S.sd,S.dO P),(S.rf,S.fO K),(S.rc,S.cO),(S.ct,Sm.tO x tx),(S.ca,S.aO),(S.al,liO #[.int p tp] ea),(X.p,liO #[] ep)],.ok (.ret (.str wd (TW (b+3) (t+9)))),[X.iO,X.dO P (LN (b+3) (t+9)),S.sO,S.dO P,S.fO K,S.cO,Sm.tO x tx,S.aO,liO #[.int (PQ (b+3) (t+9)) (TP (b+3) (t+9))] ea,liO #[] ep],[],((3+DA (b+3) (t+9))+0),((9+D (b+3) (t+9))+0),0⟩
def t_GnRun:RP:=fun T pg=>∀X S x tx p tp ea ln ep wd TW DA D TP LN PQ CI TK VC b t,JobOk T pg (fun K P=>jobTF (t_GnSp X S x tx p tp ea ln ep wd TW DA D TP LN PQ CI TK VC b t K P) [0,0,4,4,0,1,4,5,0,0,0,1,5,0,0,0,5,5,0,6,14,14,1,14,1,14,14,4,4,0,0,4,5,0,0,0,1,5,0,0,0,0,0,0,5,5,0,6,0,0,0,1,0,1,4,6,6,6,4,4,1,4,4,3,6] [.ctr [2,0,1,3,4,5,6,7,8,9,10,11] (fun b' t' _ _=>lpSp 60 (forOf (bodyOf K 70) 3 (.ref (b+2)) (envOf K 70 (b+0) [])) (b+0) (b+2) (b+1) (frO #[ent P Y15 (t+0) (.ref X.i),ent P Y16 (t+5) (.str Y2 (t+4)),ent P Y17 (t+8) (.ref (b+2))] 3) (frO #[ent P Y15 (t+0) (.ref X.i),ent P Y16 (t+5) (.str wd (TW b' t')),ent P Y17 (t+8) (.ref (b+2)),ent P Y18 (TK b' t') (VC b' t')] 4) (ciO (b+1) (t+7)) (CI b' t') X S K P x tx ln (LN b' t') p (PQ b' t') tp (TP b' t') ea (.ok .next) (DA b' t') (D b' t'))] [3,4,5,6,7,8,9,10,11,12]) b t
theorem t_Gn_ok {T:Params->KT}{prog:Program}{w:World}(H:t_GnRun T prog)(X:Lx)(S:Sm)(x:Str)(tx:Tok)(p:Int)(tp:Tok)(ea:Nat)(ln:Value)(ep:Nat)(wd:Str)(TW DA D TP:Nat->Nat->Nat)(LN:Nat->Nat->Value)(PQ:Nat->Nat->Int)(CI:Nat->Nat->Obj)(TK:Nat->Nat->Tok)(VC:Nat->Nat->Value)(b t:Nat)(hl:COk (T w.params) prog w b t (fun b' t' _ _=>lpSp 60 (forOf (bodyOf (T w.params) 70) 3 (.ref (b+2)) (envOf (T w.params) 70 (b+0) [])) (b+0) (b+2) (b+1) (frO #[ent w.params Y15 (t+0) (.ref X.i),ent w.params Y16 (t+5) (.str Y2 (t+4)),ent w.params Y17 (t+8) (.ref (b+2))] 3) (frO #[ent w.params Y15 (t+0) (.ref X.i),ent w.params Y16 (t+5) (.str wd (TW b' t')),ent w.params Y17 (t+8) (.ref (b+2)),ent w.params Y18 (TK b' t') (VC b' t')] 4) (ciO (b+1) (t+7)) (CI b' t') X S (T w.params) w.params x tx ln (LN b' t') p (PQ b' t') tp (TP b' t') ea (.ok .next) (DA b' t') (D b' t'))):JSp T prog w (t_GnSp X S x tx p tp ea ln ep wd TW DA D TP LN PQ CI TK VC b t) b t:=jobOf_ok (H X S x tx p tp ea ln ep wd TW DA D TP LN PQ CI TK VC b t) (.inr rfl) rfl (by decide) ⟨hl,trivial⟩
noncomputable def t_GzSp (X:Lx)(S:Sm)(x:Str)(tx:Tok)(p:Int)(tp:Tok)(ea:Nat)(ln:Value)(ep:Nat)(wd:Str)(TW DA D TP:Nat->Nat->Nat)(LN:Nat->Nat->Value)(PQ:Nat->Nat->Int)(CI:Nat->Nat->Obj)(b t:Nat)(K:KT)(P:Params):Sp:=⟨80,.call (.ref 70) ⟨[.ref X.i],[]⟩,[(X.i,X.iO),(X.d,X.dO P ln),(X.s,S.sO),(S.sd,S.dO P),(S.rf,S.fO K),(S.rc,S.cO),(S.ct,Sm.tO x tx),(S.ca,S.aO),(S.al,liO #[.int p tp] ea),(X.p,liO #[] ep)],.ok (.ret (.str wd (TW (b+3) (t+9)))),[X.iO,X.dO P (LN (b+3) (t+9)),S.sO,S.dO P,S.fO K,S.cO,Sm.tO x tx,S.aO,liO #[.int (PQ (b+3) (t+9)) (TP (b+3) (t+9))] ea,liO #[] ep],[],((3+DA (b+3) (t+9))+0),((9+D (b+3) (t+9))+0),0⟩
def t_GzRun:RP:=fun T pg=>∀X S x tx p tp ea ln ep wd TW DA D TP LN PQ CI b t,JobOk T pg (fun K P=>jobTF (t_GzSp X S x tx p tp ea ln ep wd TW DA D TP LN PQ CI b t K P) [0,0,4,4,0,1,4,5,0,0,0,1,5,0,0,0,5,5,0,6,14,14,1,14,1,14,14,4,4,0,0,4,5,0,0,0,1,5,0,0,0,0,0,0,5,5,0,6,0,0,0,1,0,1,4,6,6,6,4,4,1,4,4,3,6] [.ctr [2,0,1,3,4,5,6,7,8,9,10,11] (fun b' t' _ _=>lpSp 60 (forOf (bodyOf K 70) 3 (.ref (b+2)) (envOf K 70 (b+0) [])) (b+0) (b+2) (b+1) (frO #[ent P Y15 (t+0) (.ref X.i),ent P Y16 (t+5) (.str Y2 (t+4)),ent P Y17 (t+8) (.ref (b+2))] 3) (frO #[ent P Y15 (t+0) (.ref X.i),ent P Y16 (t+5) (.str wd (TW b' t')),ent P Y17 (t+8) (.ref (b+2))] 3) (ciO (b+1) (t+7)) (CI b' t') X S K P x tx ln (LN b' t') p (PQ b' t') tp (TP b' t') ea (.ok .next) (DA b' t') (D b' t'))] [3,4,5,6,7,8,9,10,11,12]) b t
theorem t_Gz_ok {T:Params->KT}{prog:Program}{w:World}(H:t_GzRun T prog)(X:Lx)(S:Sm)(x:Str)(tx:Tok)(p:Int)(tp:Tok)(ea:Nat)(ln:Value)(ep:Nat)(wd:Str)(TW DA D TP:Nat->Nat->Nat)(LN:Nat->Nat->Value)(PQ:Nat->Nat->Int)(CI:Nat->Nat->Obj)(b t:Nat)(hl:COk (T w.params) prog w b t (fun b' t' _ _=>lpSp 60 (forOf (bodyOf (T w.params) 70) 3 (.ref (b+2)) (envOf (T w.params) 70 (b+0) [])) (b+0) (b+2) (b+1) (frO #[ent w.params Y15 (t+0) (.ref X.i),ent w.params Y16 (t+5) (.str Y2 (t+4)),ent w.params Y17 (t+8) (.ref (b+2))] 3) (frO #[ent w.params Y15 (t+0) (.ref X.i),ent w.params Y16 (t+5) (.str wd (TW b' t')),ent w.params Y17 (t+8) (.ref (b+2))] 3) (ciO (b+1) (t+7)) (CI b' t') X S (T w.params) w.params x tx ln (LN b' t') p (PQ b' t') tp (TP b' t') ea (.ok .next) (DA b' t') (D b' t'))):JSp T prog w (t_GzSp X S x tx p tp ea ln ep wd TW DA D TP LN PQ CI b t) b t:=jobOf_ok (H X S x tx p tp ea ln ep wd TW DA D TP LN PQ CI b t) (.inr rfl) rfl (by decide) ⟨hl,trivial⟩
abbrev wyF (P:Params)(k:Nat->Tok)(u:Nat->Value):Obj:=frO #[ent P Y20 (k 0) (u 0),ent P Y21 (k 1) (u 1),ent P Y22 (k 2) (u 2),ent P Y23 (k 3) (u 3),ent P Y24 (k 4) (u 4),ent P Y25 (k 5) (u 5),ent P Y26 (k 6) (u 6),ent P Y27 (k 7) (u 7),ent P Y28 (k 8) (u 8),ent P Y29 (k 9) (u 9)] 10
abbrev wyF5 (P:Params)(k:Nat->Tok)(u:Nat->Value):Obj:=frO #[ent P Y20 (k 0) (u 0),ent P Y21 (k 1) (u 1),ent P Y22 (k 2) (u 2),ent P Y23 (k 3) (u 3),ent P Y24 (k 4) (u 4)] 5
abbrev wyF6 (P:Params)(k:Nat->Tok)(u:Nat->Value):Obj:=frO #[ent P Y20 (k 0) (u 0),ent P Y21 (k 1) (u 1),ent P Y22 (k 2) (u 2),ent P Y23 (k 3) (u 3),ent P Y24 (k 4) (u 4),ent P Y25 (k 5) (u 5)] 6
noncomputable abbrev wyU (s:Int)(ts:Tok)(an st wa du:Addr)(f:Int)(tf:Tok)(u:Nat->Value):Nat->Value:=fun i=>match i with | 0=>.int s ts | 1=>.ref an | 2=>.ref st | 3=>.ref wa | 4=>.ref du | 5=>.int f tf | i=>u i
noncomputable abbrev u4 (a b c d:Value):Nat->Value:=fun i=>match i with | 6=>a | 7=>b | 8=>c | _=>d
noncomputable abbrev k4 (k:Nat->Tok)(a b c d:Tok):Nat->Tok:=fun i=>match i with | 6=>a | 7=>b | 8=>c | 9=>d | i=>k i
noncomputable abbrev k1 (k:Nat->Tok)(a:Tok):Nat->Tok:=fun i=>match i with | 5=>a | i=>k i
noncomputable def whlJ (fr:Addr)(k:Nat->Tok)(u:Nat->Value)(g r q:Int)(tg tr:Tok)(b t:Nat):KJ:=fun K P=>⟨5,forOf (inner (bodyOf K 131) [3,0,1]) 2 .none (envOf K 131 fr []),FD (forOf (inner (bodyOf K 131) [3,0,1]) 2 .none (envOf K 131 fr [])),[(fr,wyF P k (fun i=>match i with | 8=>.int g tg | 9=>.int r tr | i=>u i))],hs [4,1,3,4,3,4,4,4,1,4,4] [cIeq (Int.fmod g 2) 0 true,cFdiv g 2 q],[0],.ok (.again (forOf (inner (bodyOf K 131) [3,0,1]) 2 .none (envOf K 131 fr []))),[(fr,wyF P k (fun i=>match i with | 8=>.int q (t+4) | 9=>.int (r+1) (t+7) | i=>u i))],0,9,0⟩
def whlRun:RP:=fun T pg=>∀fr k u g r q tg tr b t,JobOk T pg (whlJ fr k u g r q tg tr b t) b t
noncomputable def whxJ (fr:Addr)(k:Nat->Tok)(u:Nat->Value)(g r:Int)(tg tr:Tok)(b t:Nat):KJ:=fun K P=>⟨5,forOf (inner (bodyOf K 131) [3,0,1]) 2 .none (envOf K 131 fr []),FD (forOf (inner (bodyOf K 131) [3,0,1]) 2 .none (envOf K 131 fr [])),[(fr,wyF P k (fun i=>match i with | 8=>.int g tg | 9=>.int r tr | i=>u i))],hs [4,1,3] [cIeq (Int.fmod g 2) 0 false],[0],.ok (.done .next),[(fr,wyF P k (fun i=>match i with | 8=>.int g tg | 9=>.int r tr | i=>u i))],0,3,0⟩
def whxRun:RP:=fun T pg=>∀fr k u g r tg tr b t,JobOk T pg (whxJ fr k u g r tg tr b t) b t
noncomputable abbrev whSp (K:KT)(fr:Addr)(o o':Obj)(D:Nat):Sp:=⟨5,forOf (inner (bodyOf K 131) [3,0,1]) 2 .none (envOf K 131 fr []),[(fr,o)],.ok .next,[o'],[],0,D,0⟩
structure WC where
  fr:Addr
  wa:Addr
  du:Addr
  st:Addr
  an:Addr
  s:Int
  ts:Tok
  ts0:Tok
  ts1:Tok
  ns:Array Value
  ew:Nat
  en:Nat
  n:Nat
  N:Int
structure WT where
  jt:Addr
  tu:Addr
  tk0:Tok
  tk1:Tok
  f:Int
  tf:Tok
structure WS where
  k:Nat->Tok
  u:Nat->Value
  w0:Str
  w1:Str
  tw0:Tok
  tw1:Tok
  xs:Array Value
  e:Nat
noncomputable abbrev pv (v:Bool):Int:=match v with | true=>-1 | false=>1
noncomputable abbrev si (i:Bool):Int:=match i with | true=>1 | false=>0
noncomputable abbrev WC.so (c:WC)(o:Bool):Obj:=tuO #[.int (pv o) c.ts0,.int (pv (!o)) c.ts1]
noncomputable abbrev WC.fu (c:WC)(q:WT)(u:Nat->Value):Nat->Value:=wyU c.s c.ts c.an c.st c.wa c.du q.f q.tf u
abbrev WC.F (c:WC)(P:Params)(q:WT)(σ:WS):Obj:=wyF P σ.k (c.fu q σ.u)
noncomputable abbrev WC.L (c:WC)(o:Bool)(q:WT)(F:Obj)(σ:WS)(jv:Value)(i:Int):Led:=[(c.fr,F),(c.wa,liO #[.str σ.w0 σ.tw0,.str σ.w1 σ.tw1] c.ew),(c.du,liO σ.xs σ.e),(q.jt,tiO jv i),(q.tu,tuO #[.int 0 q.tk0,.int 1 q.tk1]),(c.st,c.so o),(c.an,liO c.ns c.en)]
noncomputable abbrev WC.IC (c:WC)(K:KT)(q:WT):Code:=forOf (inner (bodyOf K 131) [3]) 0 (.ref q.jt) (envOf K 131 c.fr [])
noncomputable abbrev WS.w (σ:WS)(i:Bool):Str:=match i with | true=>σ.w1 | false=>σ.w0
abbrev WS.z (σ:WS)(i:Bool):WS:=match i with | true=>⟨σ.k,σ.u,σ.w0,Y2,σ.tw0,σ.tw1,σ.xs,σ.e⟩ | false=>⟨σ.k,σ.u,Y2,σ.w1,σ.tw0,σ.tw1,σ.xs,σ.e⟩
noncomputable abbrev WT.tk (q:WT)(i:Bool):Tok:=match i with | true=>q.tk1 | false=>q.tk0
noncomputable abbrev WS.put (σ:WS)(i:Bool)(k:Nat->Tok)(u:Nat->Value)(w:Str)(tw:Tok)(a:Addr):WS:=match i with
  | true=>⟨k,u,σ.w0,w,σ.tw0,tw,σ.xs.push (.ref a),σ.e+1⟩
  | false=>⟨k,u,w,σ.w1,tw,σ.tw1,σ.xs.push (.ref a),σ.e+1⟩
noncomputable abbrev WS.go (σ:WS)(u:Nat->Value):WS:=⟨σ.k,u,σ.w0,σ.w1,σ.tw0,σ.tw1,σ.xs,σ.e⟩
noncomputable abbrev gv (v:Bool)(a:Int):Int:=match v with | true=>a-(-1) | false=>a
noncomputable abbrev gt (v:Bool)(t:Nat):Tok:=match v with | true=>t+9 | false=>t+2
abbrev dot (x:Str):Str:=Y30++x
noncomputable abbrev sideU (q:WT)(i:Bool)(a:Int)(t:Nat)(g r:Value):Nat->Value:=u4 (.int (si i) (q.tk i)) (.int a (t+2)) g r
noncomputable def wiH (v:Bool):List Nat:=match v with | false=>[7,1,7,7,7,8,7,7,4,4,4,4,4,4,9,9,9,1,9,9,3,3,4,4,4,3,0,0,4,3,3,3,0,0,4,4,4,4,9,9,9,1,9,9,1,1,4,4,1,4,4,4,5,1,5,5,5,6,5,5,4,4,4,4,5,1,5,5,5,6,5,5,3,4,5,1,5,5,5,6,5,5,4,6,6,6,9,9,9,9,3,9,9,10,10,1,10,10,9,9,15,15,15,3,3,3,10,10,1,10,10,10,10,9,11,11,11,11,9,9,10,10,10,1,10,10,9,3] | true=>[7,1,7,7,7,8,7,7,4,4,4,4,4,4,9,9,9,1,9,9,3,3,4,4,4,3,0,0,4,3,3,3,0,0,4,4,4,4,9,9,9,1,9,9,1,1,4,4,1,4,4,4,5,1,5,5,5,6,5,5,4,4,4,4,5,1,5,5,5,6,5,5,3,4,4,4,4,5,1,5,5,5,6,5,5,4,6,6,6,9,9,9,9,3,9,9,10,10,1,10,10,9,9,15,15,15,3,3,3,10,10,1,10,10,10,10,9,11,11,11,11,9,9,10,10,10,1,10,10,9,3]
noncomputable def waH (v:Bool):List Nat:=match v with | false=>[7,1,7,7,7,8,7,7,4,4,4,4,4,4,9,9,9,1,9,9,3,3,4,4,4,3,0,0,4,3,3,3,0,0,4,4,4,4,9,9,9,1,9,9,1,1,4,4,1,4,4,4,5,1,5,5,5,6,5,5,4,4,4,4,5,1,5,5,5,6,5,5,3,4,5,1,5,5,5,6,5,5,4,6,6,6,9,9,9,9,3,9,9,10,10,1,10,10,9,9,15,15,15,3,3,3,10,10,1,10,10,10,10,9,11,11,11,11,9,9,10,10,10,1,10,10,9,3] | true=>[7,1,7,7,7,8,7,7,4,4,4,4,4,4,9,9,9,1,9,9,3,3,4,4,4,3,0,0,4,3,3,3,0,0,4,4,4,4,9,9,9,1,9,9,1,1,4,4,1,4,4,4,5,1,5,5,5,6,5,5,4,4,4,4,5,1,5,5,5,6,5,5,3,4,4,4,4,5,1,5,5,5,6,5,5,4,6,6,6,9,9,9,9,3,9,9,10,10,1,10,10,9,9,15,15,15,3,3,3,10,10,1,10,10,10,10,9,11,11,11,11,9,9,10,10,10,1,10,10,9,3]
theorem mul_tree {a b:Int}(hm:IntMulOk a b):∀t u,Builtin.«int.__mul__» ⟨[.int a t,.int b u],[]⟩=(Made.int (a*b)).tree:=by
  intro t u
  show (ite _ _ _:Sem Fin)=_
  rw [if_neg hm];rfl
theorem pvMul {f:Int}:∀v,∀t u,Builtin.«int.__mul__» ⟨[.int f t,.int (pv v) u],[]⟩=(Made.int (f*pv v)).tree
  | true=>mul_tree (IntMulOk.of_right (by decide))
  | false=>mul_tree (IntMulOk.of_right (by decide))
theorem pvGt {a:Int}:∀v,decide (a-pv v > a)=v
  | true=>decide_eq_true (by show a-(-1) > a;omega)
  | false=>decide_eq_false (by show ¬ a-1 > a;omega)
theorem fitA {x:Str}(h:x.length=1):(Y30++x).length<=sizeLine:=by
  rw [Str.length_append,h,sizeLine_eq];decide
theorem fitB {x:Str}(h:x.length=1):(Y30++x).length≠0:=by
  rw [Str.length_append,h];decide
theorem fitC {w x:Str}(h:x.length=1)(hw:w.length<=100):(w++(Y30++x)).length<=sizeLine:=by
  rw [Str.length_append,Str.length_append,h,sizeLine_eq]
  have:Y30.length=1:=rfl
  omega
theorem fitX {xs:Array Value}(h:xs.size<=100):xs.size<=sizeLine:=by rw [sizeLine_eq];omega
theorem fitN {n:Nat}(h:n<=10):n<=sizeLine:=by rw [sizeLine_eq];omega
section
variable {T:Params->KT}{prog:Program}{w:World}
noncomputable def wiJ (o i v:Bool)(c:WC)(q:WT)(σ:WS)(a o1 m1:Int)(x:Str)(tx:Tok)(TG TR D:Nat->Nat)(b t:Nat):KJ:=fun K P=>⟨10,c.IC K q,FD (c.IC K q),(c.L o q (c.F P q σ) σ (.ref q.tu) (si i)),hs (wiH v) [cMul q.f (pv v) (q.f*pv v),cIadd c.s (q.f*pv v) a,cLe 0 a true,cLenL c.an c.ns c.en c.n 6,cPow 2 (c.n:Int) c.N,cLt a c.N true,cGt (a-pv v) a v,.ctr [5] fun _ t' _ _=>whSp K c.fr (wyF P σ.k (c.fu q (sideU q i a t (.int (gv v a) (gt v t)) (.int 0 (t+11))))) (wyF P σ.k (c.fu q (sideU q i a t (.int o1 (TG t')) (.int m1 (TR t'))))) (D t'),cGetL c.an c.ns c.en m1 (.str x tx) 11,cAdd Y30 x,cAdd (σ.w i) (dot x),cApp c.du σ.xs σ.e 8],[0,6,7,8,9,10,11,12],.ok (.again (c.IC K q)),((b+5,tuO #[.str (σ.w i++dot x) (t+((13+D (t+13))+2)),.int a (t+2)])::c.L o q (c.F P q (σ.put i σ.k (sideU q i a t (.int o1 (TG (t+13))) (.int m1 (TR (t+13)))) (σ.w i++dot x) (t+((13+D (t+13))+2)) (b+5))) (σ.put i σ.k (sideU q i a t (.int o1 (TG (t+13))) (.int m1 (TR (t+13)))) (σ.w i++dot x) (t+((13+D (t+13))+2)) (b+5)) (.ref q.tu) (si i+1)),6,((13+D (t+13))+3),0⟩
def wiRun (o i v:Bool):RP:=fun T pg=>∀c q σ a o1 m1 x tx TG TR D b t,JobOk T pg (wiJ o i v c q σ a o1 m1 x tx TG TR D b t) b t
theorem wi_tr {o i v:Bool}(H:wiRun o i v T prog)(c:WC)(q:WT)(σ:WS)(a o1 m1:Int)(x:Str)(tx:Tok)(TG TR D:Nat->Nat)(b t:Nat)(h1:c.s+q.f*pv v=a)(h2:decide (0<=a)=true)(h3:c.ns.size=c.n)(h4:c.n<=10)(h5:∀t u,Builtin.«int.__pow__» ⟨[.int 2 t,.int (c.n:Int) u],[]⟩=(Made.int c.N).tree)(h6:decide (a<c.N)=true)(h8:0<=m1)(h9:m1<2 ^ 63)(h10:c.ns[m1.toNat]?=some (.str x tx))(h11:x.length=1)(h12:(σ.w i).length≠0)(h13:(σ.w i).length<=100)(h15:σ.xs.size<=100)(hw:COk (T w.params) prog w b t (fun _ t' _ _=>whSp (T w.params) c.fr (wyF w.params σ.k (c.fu q (sideU q i a t (.int (gv v a) (gt v t)) (.int 0 (t+11))))) (wyF w.params σ.k (c.fu q (sideU q i a t (.int o1 (TG t')) (.int m1 (TR t'))))) (D t'))):JTr T prog w (wiJ o i v c q σ a o1 m1 x tx TG TR D b t) b t:=
  jtr (by apply H) rfl ⟨cMul_ok (pvMul v),cIadd_ok h1,cLe_ok h2,cLenL_ok h3 (fitN h4),cPow_ok h5,cLt_ok h6,cGt_ok (pvGt v),hw,cGetL_ok h8 h9 h10,cAdd_ok (by decide) (by rw [h11];decide) (fitA h11),cAdd_ok h12 (fitB h11) (fitC h11 h13),cApp_ok (fitX h15),trivial⟩
noncomputable def wcJ (o i v:Bool)(c:WC)(q:WT)(σ:WS)(a o1 m1:Int)(x:Str)(tx:Tok)(TG TR D:Nat->Nat)(b t:Nat):KJ:=fun K P=>⟨10,c.IC K q,FD (c.IC K q),(c.L o q (c.F P q σ) (σ.z i) (.ref q.tu) (si i)),hs (waH v) [cMul q.f (pv v) (q.f*pv v),cIadd c.s (q.f*pv v) a,cLe 0 a true,cLenL c.an c.ns c.en c.n 6,cPow 2 (c.n:Int) c.N,cLt a c.N true,cGt (a-pv v) a v,.ctr [5] fun _ t' _ _=>whSp K c.fr (wyF P σ.k (c.fu q (sideU q i a t (.int (gv v a) (gt v t)) (.int 0 (t+11))))) (wyF P σ.k (c.fu q (sideU q i a t (.int o1 (TG t')) (.int m1 (TR t'))))) (D t'),cGetL c.an c.ns c.en m1 (.str x tx) 11,cAdd Y30 x,cAddL (dot x),cApp c.du σ.xs σ.e 8],[0,6,7,8,9,10,11,12],.ok (.again (c.IC K q)),((b+5,tuO #[.str (dot x) (t+((13+D (t+13))+1)),.int a (t+2)])::c.L o q (c.F P q ((σ.z i).put i σ.k (sideU q i a t (.int o1 (TG (t+13))) (.int m1 (TR (t+13)))) (dot x) (t+((13+D (t+13))+1)) (b+5))) ((σ.z i).put i σ.k (sideU q i a t (.int o1 (TG (t+13))) (.int m1 (TR (t+13)))) (dot x) (t+((13+D (t+13))+1)) (b+5)) (.ref q.tu) (si i+1)),6,((13+D (t+13))+2),0⟩
def wcRun (o i v:Bool):RP:=fun T pg=>∀c q σ a o1 m1 x tx TG TR D b t,JobOk T pg (wcJ o i v c q σ a o1 m1 x tx TG TR D b t) b t
theorem wc_tr {o i v:Bool}(H:wcRun o i v T prog)(c:WC)(q:WT)(σ:WS)(a o1 m1:Int)(x:Str)(tx:Tok)(TG TR D:Nat->Nat)(b t:Nat)(h1:c.s+q.f*pv v=a)(h2:decide (0<=a)=true)(h3:c.ns.size=c.n)(h4:c.n<=10)(h5:∀t u,Builtin.«int.__pow__» ⟨[.int 2 t,.int (c.n:Int) u],[]⟩=(Made.int c.N).tree)(h6:decide (a<c.N)=true)(h8:0<=m1)(h9:m1<2 ^ 63)(h10:c.ns[m1.toNat]?=some (.str x tx))(h11:x.length=1)(h15:σ.xs.size<=100)(hw:COk (T w.params) prog w b t (fun _ t' _ _=>whSp (T w.params) c.fr (wyF w.params σ.k (c.fu q (sideU q i a t (.int (gv v a) (gt v t)) (.int 0 (t+11))))) (wyF w.params σ.k (c.fu q (sideU q i a t (.int o1 (TG t')) (.int m1 (TR t'))))) (D t'))):JTr T prog w (wcJ o i v c q σ a o1 m1 x tx TG TR D b t) b t:=
  jtr (by apply H) rfl ⟨cMul_ok (pvMul v),cIadd_ok h1,cLe_ok h2,cLenL_ok h3 (fitN h4),cPow_ok h5,cLt_ok h6,cGt_ok (pvGt v),hw,cGetL_ok h8 h9 h10,cAdd_ok (by decide) (by rw [h11];decide) (fitA h11),cAddL_ok,cApp_ok (fitX h15),trivial⟩
noncomputable def waJ (o i v:Bool)(c:WC)(q:WT)(σ:WS)(a o1 m1:Int)(x:Str)(tx:Tok)(TG TR D:Nat->Nat)(b t:Nat):KJ:=fun K P=>⟨10,c.IC K q,FD (c.IC K q),(c.L o q (wyF6 P σ.k (c.fu q σ.u)) (σ.z i) (.ref q.tu) (si i)),hs (waH v) [cMul q.f (pv v) (q.f*pv v),cIadd c.s (q.f*pv v) a,cLe 0 a true,cLenL c.an c.ns c.en c.n 6,cPow 2 (c.n:Int) c.N,cLt a c.N true,cGt (a-pv v) a v,.ctr [5] fun _ t' _ _=>whSp K c.fr (wyF P (k4 σ.k (t+0) (t+3) (t+10) (t+12)) (c.fu q (sideU q i a t (.int (gv v a) (gt v t)) (.int 0 (t+11))))) (wyF P (k4 σ.k (t+0) (t+3) (t+10) (t+12)) (c.fu q (sideU q i a t (.int o1 (TG t')) (.int m1 (TR t'))))) (D t'),cGetL c.an c.ns c.en m1 (.str x tx) 11,cAdd Y30 x,cAddL (dot x),cApp c.du σ.xs σ.e 8],[0,6,7,8,9,10,11,12],.ok (.again (c.IC K q)),((b+5,tuO #[.str (dot x) (t+((13+D (t+13))+1)),.int a (t+2)])::c.L o q (c.F P q ((σ.z i).put i (k4 σ.k (t+0) (t+3) (t+10) (t+12)) (sideU q i a t (.int o1 (TG (t+13))) (.int m1 (TR (t+13)))) (dot x) (t+((13+D (t+13))+1)) (b+5))) ((σ.z i).put i (k4 σ.k (t+0) (t+3) (t+10) (t+12)) (sideU q i a t (.int o1 (TG (t+13))) (.int m1 (TR (t+13)))) (dot x) (t+((13+D (t+13))+1)) (b+5)) (.ref q.tu) (si i+1)),6,((13+D (t+13))+2),0⟩
def waRun (o i v:Bool):RP:=fun T pg=>∀c q σ a o1 m1 x tx TG TR D b t,JobOk T pg (waJ o i v c q σ a o1 m1 x tx TG TR D b t) b t
theorem wa_tr {o i v:Bool}(H:waRun o i v T prog)(c:WC)(q:WT)(σ:WS)(a o1 m1:Int)(x:Str)(tx:Tok)(TG TR D:Nat->Nat)(b t:Nat)(h1:c.s+q.f*pv v=a)(h2:decide (0<=a)=true)(h3:c.ns.size=c.n)(h4:c.n<=10)(h5:∀t u,Builtin.«int.__pow__» ⟨[.int 2 t,.int (c.n:Int) u],[]⟩=(Made.int c.N).tree)(h6:decide (a<c.N)=true)(h8:0<=m1)(h9:m1<2 ^ 63)(h10:c.ns[m1.toNat]?=some (.str x tx))(h11:x.length=1)(h15:σ.xs.size<=100)(hw:COk (T w.params) prog w b t (fun _ t' _ _=>whSp (T w.params) c.fr (wyF w.params (k4 σ.k (t+0) (t+3) (t+10) (t+12)) (c.fu q (sideU q i a t (.int (gv v a) (gt v t)) (.int 0 (t+11))))) (wyF w.params (k4 σ.k (t+0) (t+3) (t+10) (t+12)) (c.fu q (sideU q i a t (.int o1 (TG t')) (.int m1 (TR t'))))) (D t'))):JTr T prog w (waJ o i v c q σ a o1 m1 x tx TG TR D b t) b t:=
  jtr (by apply H) rfl ⟨cMul_ok (pvMul v),cIadd_ok h1,cLe_ok h2,cLenL_ok h3 (fitN h4),cPow_ok h5,cLt_ok h6,cGt_ok (pvGt v),hw,cGetL_ok h8 h9 h10,cAdd_ok (by decide) (by rw [h11];decide) (fitA h11),cAddL_ok,cApp_ok (fitX h15),trivial⟩
noncomputable def whJ (o i v:Bool)(c:WC)(q:WT)(σ:WS)(a:Int)(b t:Nat):KJ:=fun K P=>⟨10,c.IC K q,FD (c.IC K q),(c.L o q (c.F P q σ) σ (.ref q.tu) (si i)),hs [7,1,7,7,7,8,7,7,4,4,4,4,4,4,9,9,9,1,9,9,3,3,4,4,4,3,0,0,4,3,3,3] [cMul q.f (pv v) (q.f*pv v),cIadd c.s (q.f*pv v) a,cLe 0 a true,cLenL c.an c.ns c.en c.n 6,cPow 2 (c.n:Int) c.N,cLt a c.N false],[0,1,2,3,4,5,6],.ok (.again (c.IC K q)),(c.L o q (c.F P q (σ.go (sideU q i a t (σ.u 8) (σ.u 9)))) (σ.go (sideU q i a t (σ.u 8) (σ.u 9))) (.ref q.tu) (si i+1)),0,9,0⟩
def whRun (o i v:Bool):RP:=fun T pg=>∀c q σ a b t,JobOk T pg (whJ o i v c q σ a b t) b t
theorem wh_tr {o i v:Bool}(H:whRun o i v T prog)(c:WC)(q:WT)(σ:WS)(a:Int)(b t:Nat)(h1:c.s+q.f*pv v=a)(h2:decide (0<=a)=true)(h3:c.ns.size=c.n)(h4:c.n<=10)(h5:∀t u,Builtin.«int.__pow__» ⟨[.int 2 t,.int (c.n:Int) u],[]⟩=(Made.int c.N).tree)(h6:decide (a<c.N)=false):JTr T prog w (whJ o i v c q σ a b t) b t:=
  jtr (by apply H) rfl ⟨cMul_ok (pvMul v),cIadd_ok h1,cLe_ok h2,cLenL_ok h3 (fitN h4),cPow_ok h5,cLt_ok h6,trivial⟩
noncomputable def wlJ (o i v:Bool)(c:WC)(q:WT)(σ:WS)(a:Int)(b t:Nat):KJ:=fun K P=>⟨10,c.IC K q,FD (c.IC K q),(c.L o q (c.F P q σ) σ (.ref q.tu) (si i)),hs [7,1,7,7,7,8,7,7,4,4,4,4,4,4,9,9,9,1,9,9,3,3,4,4,4,3] [cMul q.f (pv v) (q.f*pv v),cIadd c.s (q.f*pv v) a,cLe 0 a false],[0,1,2,3,4,5,6],.ok (.again (c.IC K q)),(c.L o q (c.F P q (σ.go (sideU q i a t (σ.u 8) (σ.u 9)))) (σ.go (sideU q i a t (σ.u 8) (σ.u 9))) (.ref q.tu) (si i+1)),0,5,0⟩
def wlRun (o i v:Bool):RP:=fun T pg=>∀c q σ a b t,JobOk T pg (wlJ o i v c q σ a b t) b t
theorem wl_tr {o i v:Bool}(H:wlRun o i v T prog)(c:WC)(q:WT)(σ:WS)(a:Int)(b t:Nat)(h1:c.s+q.f*pv v=a)(h2:decide (0<=a)=false):JTr T prog w (wlJ o i v c q σ a b t) b t:=
  jtr (by apply H) rfl ⟨cMul_ok (pvMul v),cIadd_ok h1,cLe_ok h2,trivial⟩
end
noncomputable abbrev WC.FC (c:WC)(K:KT)(it:Addr):Code:=forOf (bodyOf K 131) 3 (.ref it) (envOf K 131 c.fr [])
noncomputable abbrev WC.LO (c:WC)(o:Bool)(F:Obj)(σ:WS)(it:Addr)(f r:Int):Led:=[(c.fr,F),(c.wa,liO #[.str σ.w0 σ.tw0,.str σ.w1 σ.tw1] c.ew),(c.du,liO σ.xs σ.e),(it,riO f r),(c.st,c.so o),(c.an,liO c.ns c.en)]
abbrev WC.G (c:WC)(P:Params)(fi:Bool)(q:WT)(σ:WS):Obj:=match fi with | true=>wyF5 P σ.k (c.fu q σ.u) | false=>c.F P q σ
abbrev WC.G2 (c:WC)(P:Params)(fi:Bool)(q:WT)(σ:WS)(tk:Tok):Obj:=match fi with | true=>wyF6 P (k1 σ.k tk) (c.fu q σ.u) | false=>c.F P q σ
noncomputable abbrev WC.inSp (c:WC)(K:KT)(P:Params)(o fi:Bool)(q:WT)(σ:WS)(tk:Tok)(σ':WS)(nq:Led)(da dt:Nat):Sp:=⟨10,c.IC K q,c.L o q (c.G2 P fi q σ tk) σ (.ref q.tu) 0,.ok .next,(c.L o q (c.F P q σ') σ' .none 2).map (·.2),nq,da,dt,0⟩
noncomputable def wzJ (o:Bool)(c:WC)(q:WT)(F:Obj)(σ:WS)(b t:Nat):KJ:=fun K P=>⟨10,c.IC K q,FD (c.IC K q),c.L o q F σ (.ref q.tu) 2,hs [7,1,7,7,7,8,7,7,4,1] [],[2,3,4,5,6,7,8],.ok (.done .next),c.L o q F σ .none 2,2,0,0⟩
def wzRun:RP:=fun T pg=>∀o c q F σ b t,JobOk T pg (wzJ o c q F σ b t) b t
noncomputable def wEJ (o:Bool)(c:WC)(it:Addr)(F:Obj)(σ:WS)(f:Int)(b t:Nat):KJ:=fun K P=>⟨12,c.FC K it,FD (c.FC K it),c.LO o F σ it f 0,hs [7,1,7,7,7,7,4,1] [],[2,3,4,5,6,7],.ok (.done .next),c.LO o F σ it f 0,2,0,0⟩
def wERun:RP:=fun T pg=>∀o c it F σ f b t,JobOk T pg (wEJ o c it F σ f b t) b t
noncomputable def wOJ (fi o:Bool)(ks:List Nat)(c:WC)(it:Addr)(q:WT)(σ:WS)(f r:Int)(σ':Nat->Nat->WS)(nq:Nat->Nat->Led)(A D:Nat->Nat->Nat)(b t:Nat):KJ:=fun K P=>⟨12,c.FC K it,FD (c.FC K it),c.LO o (c.G P fi q σ) σ it f r,hs [7,3,4,4,4,4,1,4,4,3] [cNextR it f r 3,.ctr [2,3,4,0,1,6,7] fun b' t' _ _=>c.inSp K P o fi ⟨b+1,b+0,t+2,t+3,f,t+0⟩ σ (t+1) (σ' b' t') (nq b' t') (A b' t') (D b' t')],ks,.ok (.again (c.FC K it)),nq (b+2) (t+4)++c.LO o (c.F P ⟨b+1,b+0,t+2,t+3,f,t+0⟩ (σ' (b+2) (t+4))) (σ' (b+2) (t+4)) it (f+1) (r-1),((2+A (b+2) (t+4))+0),((4+D (b+2) (t+4))+0),0⟩
def w0Run (fi o:Bool):RP:=fun T pg=>∀c it q σ f r σ' A D b t,JobOk T pg (wOJ fi o [2,3,4,5,6,7] c it q σ f r σ' (fun _ _=>[]) A D b t) b t
def w1Run (fi o:Bool):RP:=fun T pg=>∀c it q σ f r σ' (Q:Nat->Nat->Addr) (O:Nat->Nat->Obj) A D b t,JobOk T pg (wOJ fi o [0,3,4,5,6,7,8] c it q σ f r σ' (fun b t=>[(Q b t,O b t)]) A D b t) b t
def w2Run (fi o:Bool):RP:=fun T pg=>∀c it q σ f r σ' (Q:Nat->Nat->Addr) (O:Nat->Nat->Obj) (Q2:Nat->Nat->Addr) (O2:Nat->Nat->Obj) A D b t,JobOk T pg (wOJ fi o [0,1,4,5,6,7,8,9] c it q σ f r σ' (fun b t=>[(Q b t,O b t),(Q2 b t,O2 b t)]) A D b t) b t
section
variable {T:Params->KT}{prog:Program}{w:World}
theorem wO_tr {fi o:Bool}{ks:List Nat}{c:WC}{it:Addr}{q:WT}{σ:WS}{f r:Int}{σ':Nat->Nat->WS}{nq:Nat->Nat->Led}{A D:Nat->Nat->Nat}{b t:Nat}(H:JobOk T prog (wOJ fi o ks c it q σ f r σ' nq A D b t) b t)(h0:¬ r<=0)(hks:nodupB ks=true)(hw:COk (T w.params) prog w b t fun b' t' _ _=>c.inSp (T w.params) w.params o fi ⟨b+1,b+0,t+2,t+3,f,t+0⟩ σ (t+1) (σ' b' t') (nq b' t') (A b' t') (D b' t')):JTr T prog w (wOJ fi o ks c it q σ f r σ' nq A D b t) b t:=
  jtr H rfl ⟨cNextR_ok h0,hw,trivial⟩ rfl hks
end
noncomputable abbrev suSp1 (la:Addr)(z0:Int)(t0:Tok)(su:Int)(t:Nat):Sp:=⟨5,.call (.builtin "sum") ⟨[.ref la],[]⟩,[(la,liO #[.int z0 t0] 0)],.ok (.ret (.int su (t+1))),[liO #[.int z0 t0] 0],[],4,2,0⟩
noncomputable abbrev suSp2 (la:Addr)(z0 z1:Int)(t0 t1:Tok)(su:Int)(t:Nat):Sp:=⟨5,.call (.builtin "sum") ⟨[.ref la],[]⟩,[(la,liO #[.int z0 t0,.int z1 t1] 0)],.ok (.ret (.int su (t+2))),[liO #[.int z0 t0,.int z1 t1] 0],[],4,3,0⟩
noncomputable abbrev suSp3 (la:Addr)(z0 z1 z2:Int)(t0 t1 t2:Tok)(su:Int)(t:Nat):Sp:=⟨5,.call (.builtin "sum") ⟨[.ref la],[]⟩,[(la,liO #[.int z0 t0,.int z1 t1,.int z2 t2] 0)],.ok (.ret (.int su (t+3))),[liO #[.int z0 t0,.int z1 t1,.int z2 t2] 0],[],4,4,0⟩
noncomputable def nt4_0nJ (fr it ab an:Addr)(k:Nat->Tok)(u:Nat->Value)(eb en:Nat)(z0 z1 z2 z3:Int)(tz0 tz1 tz2 tz3:Tok)(n0 n1 n2 n3:Str)(tn0 tn1 tn2 tn3:Tok)(sh:Str)(nu:Int)(tsh tnu:Tok)(c1 c2:Bool)(su:Int)(b t:Nat):KJ:=fun K P=>⟨20,forOf (bodyOf K 110) 2 (.ref it) (envOf K 110 fr []),FD (forOf (bodyOf K 110) 2 (.ref it) (envOf K 110 fr [])),[(fr,frO #[ent P Y31 (k 0) (u 0),ent P Y32 (k 1) (.ref ab),ent P Y21 (k 2) (.ref an),ent P Y33 (k 3) (.str sh tsh),ent P Y27 (k 4) (.int nu tnu)] 5),(it,riO 0 4),(ab,liO #[.int z0 tz0,.int z1 tz1,.int z2 tz2,.int z3 tz3] eb),(an,liO #[.str n0 tn0,.str n1 tn1,.str n2 tn2,.str n3 tn3] en)],hs [5,1,5,5,5,5,5,5,5,5,4,4,4,4,7,7,7,1,7,7,4,3,0,0,4,4,1,7,7,7,1,7,4,4,4,4,4,7,3,1,3,3] [cIn sh n0 c1,.ctr [0] (fun b' t' c _=>suSp3 (b+1) z1 z2 z3 tz1 tz2 tz3 su t'),cIeq (Int.fmod su 2) 1 c2,cBeq c1 c2 false],[2,3,4,5],.ok (.again (forOf (bodyOf K 110) 2 (.ref it) (envOf K 110 fr []))),[(fr,frO #[ent P Y31 (k 0) (u 0),ent P Y32 (k 1) (.ref ab),ent P Y21 (k 2) (.ref an),ent P Y33 (k 3) (.str sh tsh),ent P Y27 (k 4) (.int nu tnu),ent P Y34 (t+1) (.int 0 (t+0))] 6),(it,riO 1 3),(ab,liO #[.int z0 tz0,.int z1 tz1,.int z2 tz2,.int z3 tz3] eb),(an,liO #[.str n0 tn0,.str n1 tn1,.str n2 tn2,.str n3 tn3] en)],6,11,0⟩
def nt4_0nRun:RP:=fun T pg=>∀fr it ab an k u eb en z0 z1 z2 z3 tz0 tz1 tz2 tz3 n0 n1 n2 n3 tn0 tn1 tn2 tn3 sh nu tsh tnu c1 c2 su b t,JobOk T pg (nt4_0nJ fr it ab an k u eb en z0 z1 z2 z3 tz0 tz1 tz2 tz3 n0 n1 n2 n3 tn0 tn1 tn2 tn3 sh nu tsh tnu c1 c2 su b t) b t
noncomputable def nt4_1aJ (fr it ab an:Addr)(k:Nat->Tok)(u:Nat->Value)(eb en:Nat)(z0 z1 z2 z3:Int)(tz0 tz1 tz2 tz3:Tok)(n0 n1 n2 n3:Str)(tn0 tn1 tn2 tn3:Tok)(sh:Str)(nu:Int)(tsh tnu:Tok)(c1 c2:Bool)(su:Int)(b t:Nat):KJ:=fun K P=>⟨20,forOf (bodyOf K 110) 2 (.ref it) (envOf K 110 fr []),FD (forOf (bodyOf K 110) 2 (.ref it) (envOf K 110 fr [])),[(fr,frO #[ent P Y31 (k 0) (u 0),ent P Y32 (k 1) (.ref ab),ent P Y21 (k 2) (.ref an),ent P Y33 (k 3) (.str sh tsh),ent P Y27 (k 4) (.int nu tnu),ent P Y34 (k 5) (u 5)] 6),(it,riO 1 3),(ab,liO #[.int z0 tz0,.int z1 tz1,.int z2 tz2,.int z3 tz3] eb),(an,liO #[.str n0 tn0,.str n1 tn1,.str n2 tn2,.str n3 tn3] en)],hs [5,1,5,5,5,5,5,5,5,5,4,4,4,4,7,7,7,1,7,7,4,3,0,0,4,4,1,7,7,7,1,7,4,4,4,4,4,7,3,1,3,3,6,6,1,1,6,6] [cIn sh n1 c1,.ctr [0] (fun b' t' c _=>suSp2 (b+1) z2 z3 tz2 tz3 su t'),cIeq (Int.fmod su 2) 1 c2,cBeq c1 c2 true],[2,3,4,5],.ok (.again (forOf (bodyOf K 110) 2 (.ref it) (envOf K 110 fr []))),[(fr,frO #[ent P Y31 (k 0) (u 0),ent P Y32 (k 1) (.ref ab),ent P Y21 (k 2) (.ref an),ent P Y33 (k 3) (.str sh tsh),ent P Y27 (k 4) (.int (nu+2) (t+12)),ent P Y34 (k 5) (.int 1 (t+0))] 6),(it,riO 2 2),(ab,liO #[.int z0 tz0,.int z1 tz1,.int z2 tz2,.int z3 tz3] eb),(an,liO #[.str n0 tn0,.str n1 tn1,.str n2 tn2,.str n3 tn3] en)],6,14,0⟩
def nt4_1aRun:RP:=fun T pg=>∀fr it ab an k u eb en z0 z1 z2 z3 tz0 tz1 tz2 tz3 n0 n1 n2 n3 tn0 tn1 tn2 tn3 sh nu tsh tnu c1 c2 su b t,JobOk T pg (nt4_1aJ fr it ab an k u eb en z0 z1 z2 z3 tz0 tz1 tz2 tz3 n0 n1 n2 n3 tn0 tn1 tn2 tn3 sh nu tsh tnu c1 c2 su b t) b t
noncomputable def nt4_2aJ (fr it ab an:Addr)(k:Nat->Tok)(u:Nat->Value)(eb en:Nat)(z0 z1 z2 z3:Int)(tz0 tz1 tz2 tz3:Tok)(n0 n1 n2 n3:Str)(tn0 tn1 tn2 tn3:Tok)(sh:Str)(nu:Int)(tsh tnu:Tok)(c1 c2:Bool)(su:Int)(b t:Nat):KJ:=fun K P=>⟨20,forOf (bodyOf K 110) 2 (.ref it) (envOf K 110 fr []),FD (forOf (bodyOf K 110) 2 (.ref it) (envOf K 110 fr [])),[(fr,frO #[ent P Y31 (k 0) (u 0),ent P Y32 (k 1) (.ref ab),ent P Y21 (k 2) (.ref an),ent P Y33 (k 3) (.str sh tsh),ent P Y27 (k 4) (.int nu tnu),ent P Y34 (k 5) (u 5)] 6),(it,riO 2 2),(ab,liO #[.int z0 tz0,.int z1 tz1,.int z2 tz2,.int z3 tz3] eb),(an,liO #[.str n0 tn0,.str n1 tn1,.str n2 tn2,.str n3 tn3] en)],hs [5,1,5,5,5,5,5,5,5,5,4,4,4,4,7,7,7,1,7,7,4,3,0,0,4,4,1,7,7,7,1,7,4,4,4,4,4,7,3,1,3,3,6,6,1,1,6,6] [cIn sh n2 c1,.ctr [0] (fun b' t' c _=>suSp1 (b+1) z3 tz3 su t'),cIeq (Int.fmod su 2) 1 c2,cBeq c1 c2 true],[2,3,4,5],.ok (.again (forOf (bodyOf K 110) 2 (.ref it) (envOf K 110 fr []))),[(fr,frO #[ent P Y31 (k 0) (u 0),ent P Y32 (k 1) (.ref ab),ent P Y21 (k 2) (.ref an),ent P Y33 (k 3) (.str sh tsh),ent P Y27 (k 4) (.int (nu+4) (t+11)),ent P Y34 (k 5) (.int 2 (t+0))] 6),(it,riO 3 1),(ab,liO #[.int z0 tz0,.int z1 tz1,.int z2 tz2,.int z3 tz3] eb),(an,liO #[.str n0 tn0,.str n1 tn1,.str n2 tn2,.str n3 tn3] en)],6,13,0⟩
def nt4_2aRun:RP:=fun T pg=>∀fr it ab an k u eb en z0 z1 z2 z3 tz0 tz1 tz2 tz3 n0 n1 n2 n3 tn0 tn1 tn2 tn3 sh nu tsh tnu c1 c2 su b t,JobOk T pg (nt4_2aJ fr it ab an k u eb en z0 z1 z2 z3 tz0 tz1 tz2 tz3 n0 n1 n2 n3 tn0 tn1 tn2 tn3 sh nu tsh tnu c1 c2 su b t) b t
noncomputable def nt4_3nJ (fr it ab an:Addr)(k:Nat->Tok)(u:Nat->Value)(eb en:Nat)(z0 z1 z2 z3:Int)(tz0 tz1 tz2 tz3:Tok)(n0 n1 n2 n3:Str)(tn0 tn1 tn2 tn3:Tok)(sh:Str)(nu:Int)(tsh tnu:Tok)(c1:Bool)(b t:Nat):KJ:=fun K P=>⟨20,forOf (bodyOf K 110) 2 (.ref it) (envOf K 110 fr []),FD (forOf (bodyOf K 110) 2 (.ref it) (envOf K 110 fr [])),[(fr,frO #[ent P Y31 (k 0) (u 0),ent P Y32 (k 1) (.ref ab),ent P Y21 (k 2) (.ref an),ent P Y33 (k 3) (.str sh tsh),ent P Y27 (k 4) (.int nu tnu),ent P Y34 (k 5) (u 5)] 6),(it,riO 3 1),(ab,liO #[.int z0 tz0,.int z1 tz1,.int z2 tz2,.int z3 tz3] eb),(an,liO #[.str n0 tn0,.str n1 tn1,.str n2 tn2,.str n3 tn3] en)],hs [5,1,5,5,5,5,5,5,5,5,4,4,4,4,7,7,7,1,7,7,4,3,0,0,4,4,1,7,7,7,1,7,4,4,4,4,4,7,1,4,4,1,4,4,4,5,1,5,5,5,6,5,5,4,1,1,3] [cIn sh n3 c1,cBeq c1 false false],[6,7,8,9],.ok (.again (forOf (bodyOf K 110) 2 (.ref it) (envOf K 110 fr []))),[(fr,frO #[ent P Y31 (k 0) (u 0),ent P Y32 (k 1) (.ref ab),ent P Y21 (k 2) (.ref an),ent P Y33 (k 3) (.str sh tsh),ent P Y27 (k 4) (.int nu tnu),ent P Y34 (k 5) (.int 3 (t+0))] 6),(it,riO 4 0),(ab,liO #[.int z0 tz0,.int z1 tz1,.int z2 tz2,.int z3 tz3] eb),(an,liO #[.str n0 tn0,.str n1 tn1,.str n2 tn2,.str n3 tn3] en)],6,8,0⟩
def nt4_3nRun:RP:=fun T pg=>∀fr it ab an k u eb en z0 z1 z2 z3 tz0 tz1 tz2 tz3 n0 n1 n2 n3 tn0 tn1 tn2 tn3 sh nu tsh tnu c1 b t,JobOk T pg (nt4_3nJ fr it ab an k u eb en z0 z1 z2 z3 tz0 tz1 tz2 tz3 n0 n1 n2 n3 tn0 tn1 tn2 tn3 sh nu tsh tnu c1 b t) b t
noncomputable def nt4_0aJ (fr it ab an:Addr)(k:Nat->Tok)(u:Nat->Value)(eb en:Nat)(z0 z1 z2 z3:Int)(tz0 tz1 tz2 tz3:Tok)(n0 n1 n2 n3:Str)(tn0 tn1 tn2 tn3:Tok)(sh:Str)(nu:Int)(tsh tnu:Tok)(c1 c2:Bool)(su:Int)(b t:Nat):KJ:=fun K P=>⟨20,forOf (bodyOf K 110) 2 (.ref it) (envOf K 110 fr []),FD (forOf (bodyOf K 110) 2 (.ref it) (envOf K 110 fr [])),[(fr,frO #[ent P Y31 (k 0) (u 0),ent P Y32 (k 1) (.ref ab),ent P Y21 (k 2) (.ref an),ent P Y33 (k 3) (.str sh tsh),ent P Y27 (k 4) (.int nu tnu)] 5),(it,riO 0 4),(ab,liO #[.int z0 tz0,.int z1 tz1,.int z2 tz2,.int z3 tz3] eb),(an,liO #[.str n0 tn0,.str n1 tn1,.str n2 tn2,.str n3 tn3] en)],hs [5,1,5,5,5,5,5,5,5,5,4,4,4,4,7,7,7,1,7,7,4,3,0,0,4,4,1,7,7,7,1,7,4,4,4,4,4,7,3,1,3,3,6,6,1,1,6,6] [cIn sh n0 c1,.ctr [0] (fun b' t' c _=>suSp3 (b+1) z1 z2 z3 tz1 tz2 tz3 su t'),cIeq (Int.fmod su 2) 1 c2,cBeq c1 c2 true],[2,3,4,5],.ok (.again (forOf (bodyOf K 110) 2 (.ref it) (envOf K 110 fr []))),[(fr,frO #[ent P Y31 (k 0) (u 0),ent P Y32 (k 1) (.ref ab),ent P Y21 (k 2) (.ref an),ent P Y33 (k 3) (.str sh tsh),ent P Y27 (k 4) (.int (nu+1) (t+13)),ent P Y34 (t+1) (.int 0 (t+0))] 6),(it,riO 1 3),(ab,liO #[.int z0 tz0,.int z1 tz1,.int z2 tz2,.int z3 tz3] eb),(an,liO #[.str n0 tn0,.str n1 tn1,.str n2 tn2,.str n3 tn3] en)],6,15,0⟩
def nt4_0aRun:RP:=fun T pg=>∀fr it ab an k u eb en z0 z1 z2 z3 tz0 tz1 tz2 tz3 n0 n1 n2 n3 tn0 tn1 tn2 tn3 sh nu tsh tnu c1 c2 su b t,JobOk T pg (nt4_0aJ fr it ab an k u eb en z0 z1 z2 z3 tz0 tz1 tz2 tz3 n0 n1 n2 n3 tn0 tn1 tn2 tn3 sh nu tsh tnu c1 c2 su b t) b t
noncomputable def nt4_1nJ (fr it ab an:Addr)(k:Nat->Tok)(u:Nat->Value)(eb en:Nat)(z0 z1 z2 z3:Int)(tz0 tz1 tz2 tz3:Tok)(n0 n1 n2 n3:Str)(tn0 tn1 tn2 tn3:Tok)(sh:Str)(nu:Int)(tsh tnu:Tok)(c1 c2:Bool)(su:Int)(b t:Nat):KJ:=fun K P=>⟨20,forOf (bodyOf K 110) 2 (.ref it) (envOf K 110 fr []),FD (forOf (bodyOf K 110) 2 (.ref it) (envOf K 110 fr [])),[(fr,frO #[ent P Y31 (k 0) (u 0),ent P Y32 (k 1) (.ref ab),ent P Y21 (k 2) (.ref an),ent P Y33 (k 3) (.str sh tsh),ent P Y27 (k 4) (.int nu tnu),ent P Y34 (k 5) (u 5)] 6),(it,riO 1 3),(ab,liO #[.int z0 tz0,.int z1 tz1,.int z2 tz2,.int z3 tz3] eb),(an,liO #[.str n0 tn0,.str n1 tn1,.str n2 tn2,.str n3 tn3] en)],hs [5,1,5,5,5,5,5,5,5,5,4,4,4,4,7,7,7,1,7,7,4,3,0,0,4,4,1,7,7,7,1,7,4,4,4,4,4,7,3,1,3,3] [cIn sh n1 c1,.ctr [0] (fun b' t' c _=>suSp2 (b+1) z2 z3 tz2 tz3 su t'),cIeq (Int.fmod su 2) 1 c2,cBeq c1 c2 false],[2,3,4,5],.ok (.again (forOf (bodyOf K 110) 2 (.ref it) (envOf K 110 fr []))),[(fr,frO #[ent P Y31 (k 0) (u 0),ent P Y32 (k 1) (.ref ab),ent P Y21 (k 2) (.ref an),ent P Y33 (k 3) (.str sh tsh),ent P Y27 (k 4) (.int nu tnu),ent P Y34 (k 5) (.int 1 (t+0))] 6),(it,riO 2 2),(ab,liO #[.int z0 tz0,.int z1 tz1,.int z2 tz2,.int z3 tz3] eb),(an,liO #[.str n0 tn0,.str n1 tn1,.str n2 tn2,.str n3 tn3] en)],6,10,0⟩
def nt4_1nRun:RP:=fun T pg=>∀fr it ab an k u eb en z0 z1 z2 z3 tz0 tz1 tz2 tz3 n0 n1 n2 n3 tn0 tn1 tn2 tn3 sh nu tsh tnu c1 c2 su b t,JobOk T pg (nt4_1nJ fr it ab an k u eb en z0 z1 z2 z3 tz0 tz1 tz2 tz3 n0 n1 n2 n3 tn0 tn1 tn2 tn3 sh nu tsh tnu c1 c2 su b t) b t
noncomputable def nt4_2nJ (fr it ab an:Addr)(k:Nat->Tok)(u:Nat->Value)(eb en:Nat)(z0 z1 z2 z3:Int)(tz0 tz1 tz2 tz3:Tok)(n0 n1 n2 n3:Str)(tn0 tn1 tn2 tn3:Tok)(sh:Str)(nu:Int)(tsh tnu:Tok)(c1 c2:Bool)(su:Int)(b t:Nat):KJ:=fun K P=>⟨20,forOf (bodyOf K 110) 2 (.ref it) (envOf K 110 fr []),FD (forOf (bodyOf K 110) 2 (.ref it) (envOf K 110 fr [])),[(fr,frO #[ent P Y31 (k 0) (u 0),ent P Y32 (k 1) (.ref ab),ent P Y21 (k 2) (.ref an),ent P Y33 (k 3) (.str sh tsh),ent P Y27 (k 4) (.int nu tnu),ent P Y34 (k 5) (u 5)] 6),(it,riO 2 2),(ab,liO #[.int z0 tz0,.int z1 tz1,.int z2 tz2,.int z3 tz3] eb),(an,liO #[.str n0 tn0,.str n1 tn1,.str n2 tn2,.str n3 tn3] en)],hs [5,1,5,5,5,5,5,5,5,5,4,4,4,4,7,7,7,1,7,7,4,3,0,0,4,4,1,7,7,7,1,7,4,4,4,4,4,7,3,1,3,3] [cIn sh n2 c1,.ctr [0] (fun b' t' c _=>suSp1 (b+1) z3 tz3 su t'),cIeq (Int.fmod su 2) 1 c2,cBeq c1 c2 false],[2,3,4,5],.ok (.again (forOf (bodyOf K 110) 2 (.ref it) (envOf K 110 fr []))),[(fr,frO #[ent P Y31 (k 0) (u 0),ent P Y32 (k 1) (.ref ab),ent P Y21 (k 2) (.ref an),ent P Y33 (k 3) (.str sh tsh),ent P Y27 (k 4) (.int nu tnu),ent P Y34 (k 5) (.int 2 (t+0))] 6),(it,riO 3 1),(ab,liO #[.int z0 tz0,.int z1 tz1,.int z2 tz2,.int z3 tz3] eb),(an,liO #[.str n0 tn0,.str n1 tn1,.str n2 tn2,.str n3 tn3] en)],6,9,0⟩
def nt4_2nRun:RP:=fun T pg=>∀fr it ab an k u eb en z0 z1 z2 z3 tz0 tz1 tz2 tz3 n0 n1 n2 n3 tn0 tn1 tn2 tn3 sh nu tsh tnu c1 c2 su b t,JobOk T pg (nt4_2nJ fr it ab an k u eb en z0 z1 z2 z3 tz0 tz1 tz2 tz3 n0 n1 n2 n3 tn0 tn1 tn2 tn3 sh nu tsh tnu c1 c2 su b t) b t
noncomputable def nt4_3aJ (fr it ab an:Addr)(k:Nat->Tok)(u:Nat->Value)(eb en:Nat)(z0 z1 z2 z3:Int)(tz0 tz1 tz2 tz3:Tok)(n0 n1 n2 n3:Str)(tn0 tn1 tn2 tn3:Tok)(sh:Str)(nu:Int)(tsh tnu:Tok)(c1:Bool)(b t:Nat):KJ:=fun K P=>⟨20,forOf (bodyOf K 110) 2 (.ref it) (envOf K 110 fr []),FD (forOf (bodyOf K 110) 2 (.ref it) (envOf K 110 fr [])),[(fr,frO #[ent P Y31 (k 0) (u 0),ent P Y32 (k 1) (.ref ab),ent P Y21 (k 2) (.ref an),ent P Y33 (k 3) (.str sh tsh),ent P Y27 (k 4) (.int nu tnu),ent P Y34 (k 5) (u 5)] 6),(it,riO 3 1),(ab,liO #[.int z0 tz0,.int z1 tz1,.int z2 tz2,.int z3 tz3] eb),(an,liO #[.str n0 tn0,.str n1 tn1,.str n2 tn2,.str n3 tn3] en)],hs [5,1,5,5,5,5,5,5,5,5,4,4,4,4,7,7,7,1,7,7,4,3,0,0,4,4,1,7,7,7,1,7,4,4,4,4,4,7,1,4,4,1,4,4,4,5,1,5,5,5,6,5,5,4,1,1,3,10,10,1,1,10,10] [cIn sh n3 c1,cBeq c1 false true],[6,7,8,9],.ok (.again (forOf (bodyOf K 110) 2 (.ref it) (envOf K 110 fr []))),[(fr,frO #[ent P Y31 (k 0) (u 0),ent P Y32 (k 1) (.ref ab),ent P Y21 (k 2) (.ref an),ent P Y33 (k 3) (.str sh tsh),ent P Y27 (k 4) (.int (nu+8) (t+10)),ent P Y34 (k 5) (.int 3 (t+0))] 6),(it,riO 4 0),(ab,liO #[.int z0 tz0,.int z1 tz1,.int z2 tz2,.int z3 tz3] eb),(an,liO #[.str n0 tn0,.str n1 tn1,.str n2 tn2,.str n3 tn3] en)],6,12,0⟩
def nt4_3aRun:RP:=fun T pg=>∀fr it ab an k u eb en z0 z1 z2 z3 tz0 tz1 tz2 tz3 n0 n1 n2 n3 tn0 tn1 tn2 tn3 sh nu tsh tnu c1 b t,JobOk T pg (nt4_3aJ fr it ab an k u eb en z0 z1 z2 z3 tz0 tz1 tz2 tz3 n0 n1 n2 n3 tn0 tn1 tn2 tn3 sh nu tsh tnu c1 b t) b t
noncomputable def nt3_0nJ (fr it ab an:Addr)(k:Nat->Tok)(u:Nat->Value)(eb en:Nat)(z0 z1 z2:Int)(tz0 tz1 tz2:Tok)(n0 n1 n2:Str)(tn0 tn1 tn2:Tok)(sh:Str)(nu:Int)(tsh tnu:Tok)(c1 c2:Bool)(su:Int)(b t:Nat):KJ:=fun K P=>⟨20,forOf (bodyOf K 110) 2 (.ref it) (envOf K 110 fr []),FD (forOf (bodyOf K 110) 2 (.ref it) (envOf K 110 fr [])),[(fr,frO #[ent P Y31 (k 0) (u 0),ent P Y32 (k 1) (.ref ab),ent P Y21 (k 2) (.ref an),ent P Y33 (k 3) (.str sh tsh),ent P Y27 (k 4) (.int nu tnu)] 5),(it,riO 0 3),(ab,liO #[.int z0 tz0,.int z1 tz1,.int z2 tz2] eb),(an,liO #[.str n0 tn0,.str n1 tn1,.str n2 tn2] en)],hs [5,1,5,5,5,5,5,5,5,5,4,4,4,4,7,7,7,1,7,7,4,3,0,0,4,4,1,7,7,7,1,7,4,4,4,4,4,7,3,1,3,3] [cIn sh n0 c1,.ctr [0] (fun b' t' c _=>suSp2 (b+1) z1 z2 tz1 tz2 su t'),cIeq (Int.fmod su 2) 1 c2,cBeq c1 c2 false],[2,3,4,5],.ok (.again (forOf (bodyOf K 110) 2 (.ref it) (envOf K 110 fr []))),[(fr,frO #[ent P Y31 (k 0) (u 0),ent P Y32 (k 1) (.ref ab),ent P Y21 (k 2) (.ref an),ent P Y33 (k 3) (.str sh tsh),ent P Y27 (k 4) (.int nu tnu),ent P Y34 (t+1) (.int 0 (t+0))] 6),(it,riO 1 2),(ab,liO #[.int z0 tz0,.int z1 tz1,.int z2 tz2] eb),(an,liO #[.str n0 tn0,.str n1 tn1,.str n2 tn2] en)],6,10,0⟩
def nt3_0nRun:RP:=fun T pg=>∀fr it ab an k u eb en z0 z1 z2 tz0 tz1 tz2 n0 n1 n2 tn0 tn1 tn2 sh nu tsh tnu c1 c2 su b t,JobOk T pg (nt3_0nJ fr it ab an k u eb en z0 z1 z2 tz0 tz1 tz2 n0 n1 n2 tn0 tn1 tn2 sh nu tsh tnu c1 c2 su b t) b t
noncomputable def nt3_1nJ (fr it ab an:Addr)(k:Nat->Tok)(u:Nat->Value)(eb en:Nat)(z0 z1 z2:Int)(tz0 tz1 tz2:Tok)(n0 n1 n2:Str)(tn0 tn1 tn2:Tok)(sh:Str)(nu:Int)(tsh tnu:Tok)(c1 c2:Bool)(su:Int)(b t:Nat):KJ:=fun K P=>⟨20,forOf (bodyOf K 110) 2 (.ref it) (envOf K 110 fr []),FD (forOf (bodyOf K 110) 2 (.ref it) (envOf K 110 fr [])),[(fr,frO #[ent P Y31 (k 0) (u 0),ent P Y32 (k 1) (.ref ab),ent P Y21 (k 2) (.ref an),ent P Y33 (k 3) (.str sh tsh),ent P Y27 (k 4) (.int nu tnu),ent P Y34 (k 5) (u 5)] 6),(it,riO 1 2),(ab,liO #[.int z0 tz0,.int z1 tz1,.int z2 tz2] eb),(an,liO #[.str n0 tn0,.str n1 tn1,.str n2 tn2] en)],hs [5,1,5,5,5,5,5,5,5,5,4,4,4,4,7,7,7,1,7,7,4,3,0,0,4,4,1,7,7,7,1,7,4,4,4,4,4,7,3,1,3,3] [cIn sh n1 c1,.ctr [0] (fun b' t' c _=>suSp1 (b+1) z2 tz2 su t'),cIeq (Int.fmod su 2) 1 c2,cBeq c1 c2 false],[2,3,4,5],.ok (.again (forOf (bodyOf K 110) 2 (.ref it) (envOf K 110 fr []))),[(fr,frO #[ent P Y31 (k 0) (u 0),ent P Y32 (k 1) (.ref ab),ent P Y21 (k 2) (.ref an),ent P Y33 (k 3) (.str sh tsh),ent P Y27 (k 4) (.int nu tnu),ent P Y34 (k 5) (.int 1 (t+0))] 6),(it,riO 2 1),(ab,liO #[.int z0 tz0,.int z1 tz1,.int z2 tz2] eb),(an,liO #[.str n0 tn0,.str n1 tn1,.str n2 tn2] en)],6,9,0⟩
def nt3_1nRun:RP:=fun T pg=>∀fr it ab an k u eb en z0 z1 z2 tz0 tz1 tz2 n0 n1 n2 tn0 tn1 tn2 sh nu tsh tnu c1 c2 su b t,JobOk T pg (nt3_1nJ fr it ab an k u eb en z0 z1 z2 tz0 tz1 tz2 n0 n1 n2 tn0 tn1 tn2 sh nu tsh tnu c1 c2 su b t) b t
noncomputable def nt3_2aJ (fr it ab an:Addr)(k:Nat->Tok)(u:Nat->Value)(eb en:Nat)(z0 z1 z2:Int)(tz0 tz1 tz2:Tok)(n0 n1 n2:Str)(tn0 tn1 tn2:Tok)(sh:Str)(nu:Int)(tsh tnu:Tok)(c1:Bool)(b t:Nat):KJ:=fun K P=>⟨20,forOf (bodyOf K 110) 2 (.ref it) (envOf K 110 fr []),FD (forOf (bodyOf K 110) 2 (.ref it) (envOf K 110 fr [])),[(fr,frO #[ent P Y31 (k 0) (u 0),ent P Y32 (k 1) (.ref ab),ent P Y21 (k 2) (.ref an),ent P Y33 (k 3) (.str sh tsh),ent P Y27 (k 4) (.int nu tnu),ent P Y34 (k 5) (u 5)] 6),(it,riO 2 1),(ab,liO #[.int z0 tz0,.int z1 tz1,.int z2 tz2] eb),(an,liO #[.str n0 tn0,.str n1 tn1,.str n2 tn2] en)],hs [5,1,5,5,5,5,5,5,5,5,4,4,4,4,7,7,7,1,7,7,4,3,0,0,4,4,1,7,7,7,1,7,4,4,4,4,4,7,1,4,4,1,4,4,4,5,1,5,5,5,6,5,5,4,1,1,3,10,10,1,1,10,10] [cIn sh n2 c1,cBeq c1 false true],[6,7,8,9],.ok (.again (forOf (bodyOf K 110) 2 (.ref it) (envOf K 110 fr []))),[(fr,frO #[ent P Y31 (k 0) (u 0),ent P Y32 (k 1) (.ref ab),ent P Y21 (k 2) (.ref an),ent P Y33 (k 3) (.str sh tsh),ent P Y27 (k 4) (.int (nu+4) (t+10)),ent P Y34 (k 5) (.int 2 (t+0))] 6),(it,riO 3 0),(ab,liO #[.int z0 tz0,.int z1 tz1,.int z2 tz2] eb),(an,liO #[.str n0 tn0,.str n1 tn1,.str n2 tn2] en)],6,12,0⟩
def nt3_2aRun:RP:=fun T pg=>∀fr it ab an k u eb en z0 z1 z2 tz0 tz1 tz2 n0 n1 n2 tn0 tn1 tn2 sh nu tsh tnu c1 b t,JobOk T pg (nt3_2aJ fr it ab an k u eb en z0 z1 z2 tz0 tz1 tz2 n0 n1 n2 tn0 tn1 tn2 sh nu tsh tnu c1 b t) b t
noncomputable def nt3_0aJ (fr it ab an:Addr)(k:Nat->Tok)(u:Nat->Value)(eb en:Nat)(z0 z1 z2:Int)(tz0 tz1 tz2:Tok)(n0 n1 n2:Str)(tn0 tn1 tn2:Tok)(sh:Str)(nu:Int)(tsh tnu:Tok)(c1 c2:Bool)(su:Int)(b t:Nat):KJ:=fun K P=>⟨20,forOf (bodyOf K 110) 2 (.ref it) (envOf K 110 fr []),FD (forOf (bodyOf K 110) 2 (.ref it) (envOf K 110 fr [])),[(fr,frO #[ent P Y31 (k 0) (u 0),ent P Y32 (k 1) (.ref ab),ent P Y21 (k 2) (.ref an),ent P Y33 (k 3) (.str sh tsh),ent P Y27 (k 4) (.int nu tnu)] 5),(it,riO 0 3),(ab,liO #[.int z0 tz0,.int z1 tz1,.int z2 tz2] eb),(an,liO #[.str n0 tn0,.str n1 tn1,.str n2 tn2] en)],hs [5,1,5,5,5,5,5,5,5,5,4,4,4,4,7,7,7,1,7,7,4,3,0,0,4,4,1,7,7,7,1,7,4,4,4,4,4,7,3,1,3,3,6,6,1,1,6,6] [cIn sh n0 c1,.ctr [0] (fun b' t' c _=>suSp2 (b+1) z1 z2 tz1 tz2 su t'),cIeq (Int.fmod su 2) 1 c2,cBeq c1 c2 true],[2,3,4,5],.ok (.again (forOf (bodyOf K 110) 2 (.ref it) (envOf K 110 fr []))),[(fr,frO #[ent P Y31 (k 0) (u 0),ent P Y32 (k 1) (.ref ab),ent P Y21 (k 2) (.ref an),ent P Y33 (k 3) (.str sh tsh),ent P Y27 (k 4) (.int (nu+1) (t+12)),ent P Y34 (t+1) (.int 0 (t+0))] 6),(it,riO 1 2),(ab,liO #[.int z0 tz0,.int z1 tz1,.int z2 tz2] eb),(an,liO #[.str n0 tn0,.str n1 tn1,.str n2 tn2] en)],6,14,0⟩
def nt3_0aRun:RP:=fun T pg=>∀fr it ab an k u eb en z0 z1 z2 tz0 tz1 tz2 n0 n1 n2 tn0 tn1 tn2 sh nu tsh tnu c1 c2 su b t,JobOk T pg (nt3_0aJ fr it ab an k u eb en z0 z1 z2 tz0 tz1 tz2 n0 n1 n2 tn0 tn1 tn2 sh nu tsh tnu c1 c2 su b t) b t
noncomputable def nt3_1aJ (fr it ab an:Addr)(k:Nat->Tok)(u:Nat->Value)(eb en:Nat)(z0 z1 z2:Int)(tz0 tz1 tz2:Tok)(n0 n1 n2:Str)(tn0 tn1 tn2:Tok)(sh:Str)(nu:Int)(tsh tnu:Tok)(c1 c2:Bool)(su:Int)(b t:Nat):KJ:=fun K P=>⟨20,forOf (bodyOf K 110) 2 (.ref it) (envOf K 110 fr []),FD (forOf (bodyOf K 110) 2 (.ref it) (envOf K 110 fr [])),[(fr,frO #[ent P Y31 (k 0) (u 0),ent P Y32 (k 1) (.ref ab),ent P Y21 (k 2) (.ref an),ent P Y33 (k 3) (.str sh tsh),ent P Y27 (k 4) (.int nu tnu),ent P Y34 (k 5) (u 5)] 6),(it,riO 1 2),(ab,liO #[.int z0 tz0,.int z1 tz1,.int z2 tz2] eb),(an,liO #[.str n0 tn0,.str n1 tn1,.str n2 tn2] en)],hs [5,1,5,5,5,5,5,5,5,5,4,4,4,4,7,7,7,1,7,7,4,3,0,0,4,4,1,7,7,7,1,7,4,4,4,4,4,7,3,1,3,3,6,6,1,1,6,6] [cIn sh n1 c1,.ctr [0] (fun b' t' c _=>suSp1 (b+1) z2 tz2 su t'),cIeq (Int.fmod su 2) 1 c2,cBeq c1 c2 true],[2,3,4,5],.ok (.again (forOf (bodyOf K 110) 2 (.ref it) (envOf K 110 fr []))),[(fr,frO #[ent P Y31 (k 0) (u 0),ent P Y32 (k 1) (.ref ab),ent P Y21 (k 2) (.ref an),ent P Y33 (k 3) (.str sh tsh),ent P Y27 (k 4) (.int (nu+2) (t+11)),ent P Y34 (k 5) (.int 1 (t+0))] 6),(it,riO 2 1),(ab,liO #[.int z0 tz0,.int z1 tz1,.int z2 tz2] eb),(an,liO #[.str n0 tn0,.str n1 tn1,.str n2 tn2] en)],6,13,0⟩
def nt3_1aRun:RP:=fun T pg=>∀fr it ab an k u eb en z0 z1 z2 tz0 tz1 tz2 n0 n1 n2 tn0 tn1 tn2 sh nu tsh tnu c1 c2 su b t,JobOk T pg (nt3_1aJ fr it ab an k u eb en z0 z1 z2 tz0 tz1 tz2 n0 n1 n2 tn0 tn1 tn2 sh nu tsh tnu c1 c2 su b t) b t
noncomputable def nt3_2nJ (fr it ab an:Addr)(k:Nat->Tok)(u:Nat->Value)(eb en:Nat)(z0 z1 z2:Int)(tz0 tz1 tz2:Tok)(n0 n1 n2:Str)(tn0 tn1 tn2:Tok)(sh:Str)(nu:Int)(tsh tnu:Tok)(c1:Bool)(b t:Nat):KJ:=fun K P=>⟨20,forOf (bodyOf K 110) 2 (.ref it) (envOf K 110 fr []),FD (forOf (bodyOf K 110) 2 (.ref it) (envOf K 110 fr [])),[(fr,frO #[ent P Y31 (k 0) (u 0),ent P Y32 (k 1) (.ref ab),ent P Y21 (k 2) (.ref an),ent P Y33 (k 3) (.str sh tsh),ent P Y27 (k 4) (.int nu tnu),ent P Y34 (k 5) (u 5)] 6),(it,riO 2 1),(ab,liO #[.int z0 tz0,.int z1 tz1,.int z2 tz2] eb),(an,liO #[.str n0 tn0,.str n1 tn1,.str n2 tn2] en)],hs [5,1,5,5,5,5,5,5,5,5,4,4,4,4,7,7,7,1,7,7,4,3,0,0,4,4,1,7,7,7,1,7,4,4,4,4,4,7,1,4,4,1,4,4,4,5,1,5,5,5,6,5,5,4,1,1,3] [cIn sh n2 c1,cBeq c1 false false],[6,7,8,9],.ok (.again (forOf (bodyOf K 110) 2 (.ref it) (envOf K 110 fr []))),[(fr,frO #[ent P Y31 (k 0) (u 0),ent P Y32 (k 1) (.ref ab),ent P Y21 (k 2) (.ref an),ent P Y33 (k 3) (.str sh tsh),ent P Y27 (k 4) (.int nu tnu),ent P Y34 (k 5) (.int 2 (t+0))] 6),(it,riO 3 0),(ab,liO #[.int z0 tz0,.int z1 tz1,.int z2 tz2] eb),(an,liO #[.str n0 tn0,.str n1 tn1,.str n2 tn2] en)],6,8,0⟩
def nt3_2nRun:RP:=fun T pg=>∀fr it ab an k u eb en z0 z1 z2 tz0 tz1 tz2 n0 n1 n2 tn0 tn1 tn2 sh nu tsh tnu c1 b t,JobOk T pg (nt3_2nJ fr it ab an k u eb en z0 z1 z2 tz0 tz1 tz2 n0 n1 n2 tn0 tn1 tn2 sh nu tsh tnu c1 b t) b t
noncomputable def nEJ (fr it:Addr)(k:Nat->Tok)(u:Nat->Value)(f:Int)(b t:Nat):KJ:=fun K P=>⟨20,forOf (bodyOf K 110) 2 (.ref it) (envOf K 110 fr []),FD (forOf (bodyOf K 110) 2 (.ref it) (envOf K 110 fr [])),[(fr,frO #[ent P Y31 (k 0) (u 0),ent P Y32 (k 1) (u 1),ent P Y21 (k 2) (u 2),ent P Y33 (k 3) (u 3),ent P Y27 (k 4) (u 4),ent P Y34 (k 5) (u 5)] 6),(it,riO f 0)],hs [5,1,5,5,5,5,4,1] [],[2,3],.ok (.done .next),[(fr,frO #[ent P Y31 (k 0) (u 0),ent P Y32 (k 1) (u 1),ent P Y21 (k 2) (u 2),ent P Y33 (k 3) (u 3),ent P Y27 (k 4) (u 4),ent P Y34 (k 5) (u 5)] 6),(it,riO f 0)],2,0,0⟩
def nERun:RP:=fun T pg=>∀fr it k u f b t,JobOk T pg (nEJ fr it k u f b t) b t
theorem nE_tr {T:Params->KT}{prog:Program}{w:World}(H:nERun T prog)(fr it:Addr)(k:Nat->Tok)(u:Nat->Value)(f:Int)(b t:Nat):JTr T prog w (nEJ fr it k u f b t) b t:=jtr (by apply H) rfl trivial
noncomputable def su1_0Sp (la:Addr)(t0:Tok)(b t:Nat):Sp:=suSp1 la 0 t0 0 t
def su1_0Run:RP:=fun T pg=>∀la t0 b t,JobOk T pg (fun K P=>jobFD (su1_0Sp la t0 b t) [1,4,4,1,4,4,1,4,5,1,5,5,5,6,5,5,4,4,4,1,4,5,1,5,5,5,6,5,5,4] [] [4]) b t
theorem su1_0_ok {T:Params->KT}{prog:Program}{w:World}(H:su1_0Run T prog)(la:Addr)(t0:Tok)(b t:Nat):SpOk (T w.params) prog w (su1_0Sp la t0 b t) b t:=jobOf_ok (sp:=fun _ _=>su1_0Sp la t0 b t) (H la t0 b t) (.inl rfl) rfl (by decide) trivial
noncomputable def su1_1Sp (la:Addr)(t0:Tok)(b t:Nat):Sp:=suSp1 la 1 t0 1 t
def su1_1Run:RP:=fun T pg=>∀la t0 b t,JobOk T pg (fun K P=>jobFD (su1_1Sp la t0 b t) [1,4,4,1,4,4,1,4,5,1,5,5,5,6,5,5,4,4,4,1,4,5,1,5,5,5,6,5,5,4] [] [4]) b t
theorem su1_1_ok {T:Params->KT}{prog:Program}{w:World}(H:su1_1Run T prog)(la:Addr)(t0:Tok)(b t:Nat):SpOk (T w.params) prog w (su1_1Sp la t0 b t) b t:=jobOf_ok (sp:=fun _ _=>su1_1Sp la t0 b t) (H la t0 b t) (.inl rfl) rfl (by decide) trivial
noncomputable def su2_00Sp (la:Addr)(t0 t1:Tok)(b t:Nat):Sp:=suSp2 la 0 0 t0 t1 0 t
def su2_00Run:RP:=fun T pg=>∀la t0 t1 b t,JobOk T pg (fun K P=>jobFD (su2_00Sp la t0 t1 b t) [1,4,4,1,4,4,1,4,5,1,5,5,5,6,5,5,4,4,4,1,4,5,1,5,5,5,6,5,5,4,4,4,1,4,5,1,5,5,5,6,5,5,4] [] [4]) b t
theorem su2_00_ok {T:Params->KT}{prog:Program}{w:World}(H:su2_00Run T prog)(la:Addr)(t0 t1:Tok)(b t:Nat):SpOk (T w.params) prog w (su2_00Sp la t0 t1 b t) b t:=jobOf_ok (sp:=fun _ _=>su2_00Sp la t0 t1 b t) (H la t0 t1 b t) (.inl rfl) rfl (by decide) trivial
noncomputable def su2_01Sp (la:Addr)(t0 t1:Tok)(b t:Nat):Sp:=suSp2 la 0 1 t0 t1 1 t
def su2_01Run:RP:=fun T pg=>∀la t0 t1 b t,JobOk T pg (fun K P=>jobFD (su2_01Sp la t0 t1 b t) [1,4,4,1,4,4,1,4,5,1,5,5,5,6,5,5,4,4,4,1,4,5,1,5,5,5,6,5,5,4,4,4,1,4,5,1,5,5,5,6,5,5,4] [] [4]) b t
theorem su2_01_ok {T:Params->KT}{prog:Program}{w:World}(H:su2_01Run T prog)(la:Addr)(t0 t1:Tok)(b t:Nat):SpOk (T w.params) prog w (su2_01Sp la t0 t1 b t) b t:=jobOf_ok (sp:=fun _ _=>su2_01Sp la t0 t1 b t) (H la t0 t1 b t) (.inl rfl) rfl (by decide) trivial
noncomputable def su2_10Sp (la:Addr)(t0 t1:Tok)(b t:Nat):Sp:=suSp2 la 1 0 t0 t1 1 t
def su2_10Run:RP:=fun T pg=>∀la t0 t1 b t,JobOk T pg (fun K P=>jobFD (su2_10Sp la t0 t1 b t) [1,4,4,1,4,4,1,4,5,1,5,5,5,6,5,5,4,4,4,1,4,5,1,5,5,5,6,5,5,4,4,4,1,4,5,1,5,5,5,6,5,5,4] [] [4]) b t
theorem su2_10_ok {T:Params->KT}{prog:Program}{w:World}(H:su2_10Run T prog)(la:Addr)(t0 t1:Tok)(b t:Nat):SpOk (T w.params) prog w (su2_10Sp la t0 t1 b t) b t:=jobOf_ok (sp:=fun _ _=>su2_10Sp la t0 t1 b t) (H la t0 t1 b t) (.inl rfl) rfl (by decide) trivial
noncomputable def su2_11Sp (la:Addr)(t0 t1:Tok)(b t:Nat):Sp:=suSp2 la 1 1 t0 t1 2 t
def su2_11Run:RP:=fun T pg=>∀la t0 t1 b t,JobOk T pg (fun K P=>jobFD (su2_11Sp la t0 t1 b t) [1,4,4,1,4,4,1,4,5,1,5,5,5,6,5,5,4,4,4,1,4,5,1,5,5,5,6,5,5,4,4,4,1,4,5,1,5,5,5,6,5,5,4] [] [4]) b t
theorem su2_11_ok {T:Params->KT}{prog:Program}{w:World}(H:su2_11Run T prog)(la:Addr)(t0 t1:Tok)(b t:Nat):SpOk (T w.params) prog w (su2_11Sp la t0 t1 b t) b t:=jobOf_ok (sp:=fun _ _=>su2_11Sp la t0 t1 b t) (H la t0 t1 b t) (.inl rfl) rfl (by decide) trivial
noncomputable def su3_000Sp (la:Addr)(t0 t1 t2:Tok)(b t:Nat):Sp:=suSp3 la 0 0 0 t0 t1 t2 0 t
def su3_000Run:RP:=fun T pg=>∀la t0 t1 t2 b t,JobOk T pg (fun K P=>jobFD (su3_000Sp la t0 t1 t2 b t) [1,4,4,1,4,4,1,4,5,1,5,5,5,6,5,5,4,4,4,1,4,5,1,5,5,5,6,5,5,4,4,4,1,4,5,1,5,5,5,6,5,5,4,4,4,1,4,5,1,5,5,5,6,5,5,4] [] [4]) b t
theorem su3_000_ok {T:Params->KT}{prog:Program}{w:World}(H:su3_000Run T prog)(la:Addr)(t0 t1 t2:Tok)(b t:Nat):SpOk (T w.params) prog w (su3_000Sp la t0 t1 t2 b t) b t:=jobOf_ok (sp:=fun _ _=>su3_000Sp la t0 t1 t2 b t) (H la t0 t1 t2 b t) (.inl rfl) rfl (by decide) trivial
noncomputable def su3_001Sp (la:Addr)(t0 t1 t2:Tok)(b t:Nat):Sp:=suSp3 la 0 0 1 t0 t1 t2 1 t
def su3_001Run:RP:=fun T pg=>∀la t0 t1 t2 b t,JobOk T pg (fun K P=>jobFD (su3_001Sp la t0 t1 t2 b t) [1,4,4,1,4,4,1,4,5,1,5,5,5,6,5,5,4,4,4,1,4,5,1,5,5,5,6,5,5,4,4,4,1,4,5,1,5,5,5,6,5,5,4,4,4,1,4,5,1,5,5,5,6,5,5,4] [] [4]) b t
theorem su3_001_ok {T:Params->KT}{prog:Program}{w:World}(H:su3_001Run T prog)(la:Addr)(t0 t1 t2:Tok)(b t:Nat):SpOk (T w.params) prog w (su3_001Sp la t0 t1 t2 b t) b t:=jobOf_ok (sp:=fun _ _=>su3_001Sp la t0 t1 t2 b t) (H la t0 t1 t2 b t) (.inl rfl) rfl (by decide) trivial
noncomputable def su3_010Sp (la:Addr)(t0 t1 t2:Tok)(b t:Nat):Sp:=suSp3 la 0 1 0 t0 t1 t2 1 t
def su3_010Run:RP:=fun T pg=>∀la t0 t1 t2 b t,JobOk T pg (fun K P=>jobFD (su3_010Sp la t0 t1 t2 b t) [1,4,4,1,4,4,1,4,5,1,5,5,5,6,5,5,4,4,4,1,4,5,1,5,5,5,6,5,5,4,4,4,1,4,5,1,5,5,5,6,5,5,4,4,4,1,4,5,1,5,5,5,6,5,5,4] [] [4]) b t
theorem su3_010_ok {T:Params->KT}{prog:Program}{w:World}(H:su3_010Run T prog)(la:Addr)(t0 t1 t2:Tok)(b t:Nat):SpOk (T w.params) prog w (su3_010Sp la t0 t1 t2 b t) b t:=jobOf_ok (sp:=fun _ _=>su3_010Sp la t0 t1 t2 b t) (H la t0 t1 t2 b t) (.inl rfl) rfl (by decide) trivial
noncomputable def su3_011Sp (la:Addr)(t0 t1 t2:Tok)(b t:Nat):Sp:=suSp3 la 0 1 1 t0 t1 t2 2 t
def su3_011Run:RP:=fun T pg=>∀la t0 t1 t2 b t,JobOk T pg (fun K P=>jobFD (su3_011Sp la t0 t1 t2 b t) [1,4,4,1,4,4,1,4,5,1,5,5,5,6,5,5,4,4,4,1,4,5,1,5,5,5,6,5,5,4,4,4,1,4,5,1,5,5,5,6,5,5,4,4,4,1,4,5,1,5,5,5,6,5,5,4] [] [4]) b t
theorem su3_011_ok {T:Params->KT}{prog:Program}{w:World}(H:su3_011Run T prog)(la:Addr)(t0 t1 t2:Tok)(b t:Nat):SpOk (T w.params) prog w (su3_011Sp la t0 t1 t2 b t) b t:=jobOf_ok (sp:=fun _ _=>su3_011Sp la t0 t1 t2 b t) (H la t0 t1 t2 b t) (.inl rfl) rfl (by decide) trivial
noncomputable def su3_100Sp (la:Addr)(t0 t1 t2:Tok)(b t:Nat):Sp:=suSp3 la 1 0 0 t0 t1 t2 1 t
def su3_100Run:RP:=fun T pg=>∀la t0 t1 t2 b t,JobOk T pg (fun K P=>jobFD (su3_100Sp la t0 t1 t2 b t) [1,4,4,1,4,4,1,4,5,1,5,5,5,6,5,5,4,4,4,1,4,5,1,5,5,5,6,5,5,4,4,4,1,4,5,1,5,5,5,6,5,5,4,4,4,1,4,5,1,5,5,5,6,5,5,4] [] [4]) b t
theorem su3_100_ok {T:Params->KT}{prog:Program}{w:World}(H:su3_100Run T prog)(la:Addr)(t0 t1 t2:Tok)(b t:Nat):SpOk (T w.params) prog w (su3_100Sp la t0 t1 t2 b t) b t:=jobOf_ok (sp:=fun _ _=>su3_100Sp la t0 t1 t2 b t) (H la t0 t1 t2 b t) (.inl rfl) rfl (by decide) trivial
noncomputable def su3_101Sp (la:Addr)(t0 t1 t2:Tok)(b t:Nat):Sp:=suSp3 la 1 0 1 t0 t1 t2 2 t
def su3_101Run:RP:=fun T pg=>∀la t0 t1 t2 b t,JobOk T pg (fun K P=>jobFD (su3_101Sp la t0 t1 t2 b t) [1,4,4,1,4,4,1,4,5,1,5,5,5,6,5,5,4,4,4,1,4,5,1,5,5,5,6,5,5,4,4,4,1,4,5,1,5,5,5,6,5,5,4,4,4,1,4,5,1,5,5,5,6,5,5,4] [] [4]) b t
theorem su3_101_ok {T:Params->KT}{prog:Program}{w:World}(H:su3_101Run T prog)(la:Addr)(t0 t1 t2:Tok)(b t:Nat):SpOk (T w.params) prog w (su3_101Sp la t0 t1 t2 b t) b t:=jobOf_ok (sp:=fun _ _=>su3_101Sp la t0 t1 t2 b t) (H la t0 t1 t2 b t) (.inl rfl) rfl (by decide) trivial
noncomputable def su3_110Sp (la:Addr)(t0 t1 t2:Tok)(b t:Nat):Sp:=suSp3 la 1 1 0 t0 t1 t2 2 t
def su3_110Run:RP:=fun T pg=>∀la t0 t1 t2 b t,JobOk T pg (fun K P=>jobFD (su3_110Sp la t0 t1 t2 b t) [1,4,4,1,4,4,1,4,5,1,5,5,5,6,5,5,4,4,4,1,4,5,1,5,5,5,6,5,5,4,4,4,1,4,5,1,5,5,5,6,5,5,4,4,4,1,4,5,1,5,5,5,6,5,5,4] [] [4]) b t
theorem su3_110_ok {T:Params->KT}{prog:Program}{w:World}(H:su3_110Run T prog)(la:Addr)(t0 t1 t2:Tok)(b t:Nat):SpOk (T w.params) prog w (su3_110Sp la t0 t1 t2 b t) b t:=jobOf_ok (sp:=fun _ _=>su3_110Sp la t0 t1 t2 b t) (H la t0 t1 t2 b t) (.inl rfl) rfl (by decide) trivial
noncomputable def su3_111Sp (la:Addr)(t0 t1 t2:Tok)(b t:Nat):Sp:=suSp3 la 1 1 1 t0 t1 t2 3 t
def su3_111Run:RP:=fun T pg=>∀la t0 t1 t2 b t,JobOk T pg (fun K P=>jobFD (su3_111Sp la t0 t1 t2 b t) [1,4,4,1,4,4,1,4,5,1,5,5,5,6,5,5,4,4,4,1,4,5,1,5,5,5,6,5,5,4,4,4,1,4,5,1,5,5,5,6,5,5,4,4,4,1,4,5,1,5,5,5,6,5,5,4] [] [4]) b t
theorem su3_111_ok {T:Params->KT}{prog:Program}{w:World}(H:su3_111Run T prog)(la:Addr)(t0 t1 t2:Tok)(b t:Nat):SpOk (T w.params) prog w (su3_111Sp la t0 t1 t2 b t) b t:=jobOf_ok (sp:=fun _ _=>su3_111Sp la t0 t1 t2 b t) (H la t0 t1 t2 b t) (.inl rfl) rfl (by decide) trivial
noncomputable def turn0Sp (x n:Str)(tx tn:Tok)(b t:Nat):Sp:=⟨5,.call (.ref 117) ⟨[.str x tx,.str n tn],[]⟩,[],.ok (.ret (.str (replS x n (qm++n)) (t+5))),[],[],1,6,0⟩
def turn0Run:RP:=fun T pg=>∀x n tx tn b t,JobOk T pg (fun K P=>jobTF (turn0Sp x n tx tn b t) [0,0,4,4,4,4,0,1,4,3,4,4,4,4,3,4,4,4,3] [cAdd Y3 n,cIn x (Y3++n) false,cRepl x n (Y3++n) tn (t+3)] []) b t
theorem turn0_ok {T:Params->KT}{prog:Program}{w:World}(H:turn0Run T prog)(x n:Str)(tx tn:Tok)(b t:Nat)(h0:Y3.length≠0)(h1:n.length≠0)(h2:(Y3++n).length<=sizeLine)(h3:inS x (Y3++n)=false)(h4:(Builtin.Str.occurrences x n 0 x.length (x.length+1)).isEmpty=false)(h5:tn≠0)(h6:(t+3)≠0)(h7:tn≠(t+3))(h8:n≠(Y3++n))(h9:x.length+(x.length+1)*(Y3++n).length<=1048576):SpOk (T w.params) prog w (turn0Sp x n tx tn b t) b t:=jobOf_ok (sp:=fun _ _=>turn0Sp x n tx tn b t) (H x n tx tn b t) (.inr rfl) rfl (by decide) ⟨cAdd_ok h0 h1 h2,cIn_ok h3,cRepl_ok h4 h5 h6 h7 h8 h1 h9,trivial⟩
noncomputable def turn1Sp (x n:Str)(tx tn:Tok)(b t:Nat):Sp:=⟨5,.call (.ref 117) ⟨[.str x tx,.str n tn],[]⟩,[],.ok (.ret (.str (replS x (qm++n) n) (t+5))),[],[],1,6,0⟩
def turn1Run:RP:=fun T pg=>∀x n tx tn b t,JobOk T pg (fun K P=>jobTF (turn1Sp x n tx tn b t) [0,0,4,4,4,4,0,1,4,3,4,4,4,4,3,4,4,4,3] [cAdd Y3 n,cIn x (Y3++n) true,cRepl x (Y3++n) n (t+3) tn] []) b t
theorem turn1_ok {T:Params->KT}{prog:Program}{w:World}(H:turn1Run T prog)(x n:Str)(tx tn:Tok)(b t:Nat)(h0:Y3.length≠0)(h1:n.length≠0)(h2:(Y3++n).length<=sizeLine)(h3:inS x (Y3++n)=true)(h4:(Builtin.Str.occurrences x (Y3++n) 0 x.length (x.length+1)).isEmpty=false)(h5:(t+3)≠0)(h6:tn≠0)(h7:(t+3)≠tn)(h8:(Y3++n)≠n)(h9:(Y3++n).length≠0)(h10:x.length+(x.length+1)*n.length<=1048576):SpOk (T w.params) prog w (turn1Sp x n tx tn b t) b t:=jobOf_ok (sp:=fun _ _=>turn1Sp x n tx tn b t) (H x n tx tn b t) (.inr rfl) rfl (by decide) ⟨cAdd_ok h0 h1 h2,cIn_ok h3,cRepl_ok h4 h5 h6 h7 h8 h9 h10,trivial⟩
noncomputable def push0Sp (X:Lx)(ln:Value)(e:Nat)(x:Str)(tx:Tok)(b t:Nat)(K:KT)(P:Params):Sp:=⟨5,.call (.ref 77) ⟨[.ref X.i,.str x tx],[]⟩,[(X.i,X.iO),(X.d,X.dO P ln),(X.p,liO #[] e)],.ok (.ret .none),[X.iO,X.dO P ln,liO #[.str x tx] (e+1)],[],1,3,0⟩
def push0Run:RP:=fun T pg=>∀X ln e x tx b t,JobOk T pg (fun K P=>jobTF (push0Sp X ln e x tx b t K P) [0,0,4,4,4,4,0,1,4,5,0,0,0,1,5,0,0,0,5,5,0,6,7,7,7,7,4,1,7,7,7,7] [] [1,2,3]) b t
theorem push0_ok {T:Params->KT}{prog:Program}{w:World}(H:push0Run T prog)(X:Lx)(ln:Value)(e:Nat)(x:Str)(tx:Tok)(b t:Nat):JSp T prog w (push0Sp X ln e x tx b t) b t:=jobOf_ok (H X ln e x tx b t) (.inr rfl) rfl (by decide) trivial
noncomputable def push1Sp (X:Lx)(ln:Value)(e:Nat)(y0:Str)(u0:Tok)(x:Str)(tx:Tok)(b t:Nat)(K:KT)(P:Params):Sp:=⟨5,.call (.ref 77) ⟨[.ref X.i,.str x tx],[]⟩,[(X.i,X.iO),(X.d,X.dO P ln),(X.p,liO #[.str y0 u0] e)],.ok (.ret .none),[X.iO,X.dO P ln,liO #[.str y0 u0,.str x tx] (e+1)],[],1,3,0⟩
def push1Run:RP:=fun T pg=>∀X ln e y0 u0 x tx b t,JobOk T pg (fun K P=>jobTF (push1Sp X ln e y0 u0 x tx b t K P) [0,0,4,4,4,4,0,1,4,5,0,0,0,1,5,0,0,0,5,5,0,6,7,7,7,7,4,1,7,7,7,7] [] [1,2,3]) b t
theorem push1_ok {T:Params->KT}{prog:Program}{w:World}(H:push1Run T prog)(X:Lx)(ln:Value)(e:Nat)(y0:Str)(u0:Tok)(x:Str)(tx:Tok)(b t:Nat):JSp T prog w (push1Sp X ln e y0 u0 x tx b t) b t:=jobOf_ok (H X ln e y0 u0 x tx b t) (.inr rfl) rfl (by decide) trivial
noncomputable def pop1Sp (X:Lx)(ln:Value)(e:Nat)(x:Str)(tx:Tok)(b t:Nat)(K:KT)(P:Params):Sp:=⟨5,.call (.ref 70) ⟨[.ref X.i],[]⟩,[(X.i,X.iO),(X.d,X.dO P ln),(X.p,liO #[.str x tx] e)],.ok (.ret (.str x tx)),[X.iO,X.dO P ln,liO #[] (e+1)],[],1,6,0⟩
def pop1Run:RP:=fun T pg=>∀X ln e x tx b t,JobOk T pg (fun K P=>jobTF (pop1Sp X ln e x tx b t K P) [0,0,4,4,0,1,4,5,0,0,0,1,5,0,0,0,5,5,0,6,7,7,1,7,1,7,7,4,5,0,0,0,1,5,0,0,0,5,5,0,6,7,7,7,7,1,7,7,7,7,7] [] [1,2,3]) b t
theorem pop1_ok {T:Params->KT}{prog:Program}{w:World}(H:pop1Run T prog)(X:Lx)(ln:Value)(e:Nat)(x:Str)(tx:Tok)(b t:Nat):JSp T prog w (pop1Sp X ln e x tx b t) b t:=jobOf_ok (H X ln e x tx b t) (.inr rfl) rfl (by decide) trivial
noncomputable def pop2Sp (X:Lx)(ln:Value)(e:Nat)(x:Str)(tx:Tok)(y1:Str)(u1:Tok)(b t:Nat)(K:KT)(P:Params):Sp:=⟨5,.call (.ref 70) ⟨[.ref X.i],[]⟩,[(X.i,X.iO),(X.d,X.dO P ln),(X.p,liO #[.str x tx,.str y1 u1] e)],.ok (.ret (.str x tx)),[X.iO,X.dO P ln,liO #[.str y1 u1] (e+1)],[],1,6,0⟩
def pop2Run:RP:=fun T pg=>∀X ln e x tx y1 u1 b t,JobOk T pg (fun K P=>jobTF (pop2Sp X ln e x tx y1 u1 b t K P) [0,0,4,4,0,1,4,5,0,0,0,1,5,0,0,0,5,5,0,6,7,7,1,7,1,7,7,4,5,0,0,0,1,5,0,0,0,5,5,0,6,7,7,7,7,1,7,7,7,7,7] [] [1,2,3]) b t
theorem pop2_ok {T:Params->KT}{prog:Program}{w:World}(H:pop2Run T prog)(X:Lx)(ln:Value)(e:Nat)(x:Str)(tx:Tok)(y1:Str)(u1:Tok)(b t:Nat):JSp T prog w (pop2Sp X ln e x tx y1 u1 b t) b t:=jobOf_ok (H X ln e x tx y1 u1 b t) (.inr rfl) rfl (by decide) trivial
noncomputable def ell1Sp (x y s:Str)(tx ty:Tok)(m:Nat)(b t:Nat):Sp:=⟨8,.call (.ref 21) ⟨[.str x tx,.str y ty],[]⟩,[],.ok (.ret (.bool true)),[],[],9,36,0⟩
def ell1Run:RP:=fun T pg=>∀x y s tx ty m b t,JobOk T pg (fun K P=>jobTF (ell1Sp x y s tx ty m b t) [0,0,4,4,4,4,0,1,0,4,3,4,0,3,5,5,0,0,5,1,4,1,4,4,1,0,0,5,3,4,4,4,1,4,4,4,1,4,4,4,5,4,4,4,1,4,4,4,5,4,4,4,1,4,4,4,5,4,4,4,9,9,9,9,9,8,8,8,1,8,8,9,9,9,1,1,9,1,8,8,8,1,8,8,9,9,9,3,9,9,3,9,0,0,9,3,1,9,9,9,1,8,8,1,8,8,8,8,8,9,9,3,9,8,8,1,8,4,1,4,1,4,4,4,9,4,4,10,10,10,10,10,10,3,10,10,10,1,10,0,0,10,1,1,1,10,10,4,1,4,4,4,9,4,4,4] [cIn x Y35 true,cSplit x Y35 [Y2,s],cLenT y,cTru s m,cEnds y s true,cLenT s,cGt 0 ((y.length:Int)-(s.length:Int)) false,cFind4 y Y2 0 ((y.length:Int)-(s.length:Int)) 0] []) b t
theorem ell1_ok {T:Params->KT}{prog:Program}{w:World}(H:ell1Run T prog)(x y s:Str)(tx ty:Tok)(m:Nat)(b t:Nat)(h0:inS x Y35=true)(h1:(decide (x.length<Y35.length)||decide (Builtin.Str.strKind x<Builtin.Str.strKind Y35))=false)(h2:(Y35.length==0)=false)(h3:(Builtin.Str.occurrences x Y35 0 x.length (x.length+1)).isEmpty=false)(h4:x.length<=sizeLine)(h5:cutS x Y35=[Y2,s])(h6:([Y2,s]:List Str).length<=sizeLine)(h7:y.length<=sizeLine)(h8:s.length=m+1)(h9:s.length<=sizeLine)(h10:endsS y s=true)(h11:decide ((0:Int) > ((y.length:Int)-(s.length:Int)))=false)(h12:findS y Y2 (fromIndex y.length 0) (hiOf y ((y.length:Int)-(s.length:Int)))=0):SpOk (T w.params) prog w (ell1Sp x y s tx ty m b t) b t:=jobOf_ok (sp:=fun _ _=>ell1Sp x y s tx ty m b t) (H x y s tx ty m b t) (.inr rfl) rfl (by decide) ⟨cIn_ok h0,cSplit_ok h1 h2 h3 h4 h5 h6,cLenT_ok h7,cTru_ok h8 h9,cEnds_ok h10,cLenT_ok h9,cGt_ok h11,cFind4_ok h12,trivial⟩
noncomputable def ell0Sp (x y s:Str)(tx ty:Tok)(m:Nat)(b t:Nat):Sp:=⟨8,.call (.ref 21) ⟨[.str x tx,.str y ty],[]⟩,[],.ok (.ret (.bool false)),[],[],6,22,0⟩
def ell0Run:RP:=fun T pg=>∀x y s tx ty m b t,JobOk T pg (fun K P=>jobTF (ell0Sp x y s tx ty m b t) [0,0,4,4,4,4,0,1,0,4,3,4,0,3,5,5,0,0,5,1,4,1,4,4,1,0,0,5,3,4,4,4,1,4,4,4,1,4,4,4,5,4,4,4,1,4,4,4,5,4,4,4,1,4,4,4,5,4,4,4,9,9,9,9,9,8,8,8,1,8,8,9,9,9,1,1,9,1,8,8,8,1,8,8,9,9,9,3,9,9,3] [cIn x Y35 true,cSplit x Y35 [Y2,s],cLenT y,cTru s m,cEnds y s false] []) b t
theorem ell0_ok {T:Params->KT}{prog:Program}{w:World}(H:ell0Run T prog)(x y s:Str)(tx ty:Tok)(m:Nat)(b t:Nat)(h0:inS x Y35=true)(h1:(decide (x.length<Y35.length)||decide (Builtin.Str.strKind x<Builtin.Str.strKind Y35))=false)(h2:(Y35.length==0)=false)(h3:(Builtin.Str.occurrences x Y35 0 x.length (x.length+1)).isEmpty=false)(h4:x.length<=sizeLine)(h5:cutS x Y35=[Y2,s])(h6:([Y2,s]:List Str).length<=sizeLine)(h7:y.length<=sizeLine)(h8:s.length=m+1)(h9:s.length<=sizeLine)(h10:endsS y s=false):SpOk (T w.params) prog w (ell0Sp x y s tx ty m b t) b t:=jobOf_ok (sp:=fun _ _=>ell0Sp x y s tx ty m b t) (H x y s tx ty m b t) (.inr rfl) rfl (by decide) ⟨cIn_ok h0,cSplit_ok h1 h2 h3 h4 h5 h6,cLenT_ok h7,cTru_ok h8 h9,cEnds_ok h10,trivial⟩
noncomputable def strip1Sp (x:Str)(tx:Tok)(i j:Int)(b t:Nat):Sp:=⟨5,.call (.ref 28) ⟨[.str x tx],[]⟩,[],.ok (.ret (.str (sliceS x (some (j+1)) (some i)) (t+24))),[],[],6,25,0⟩
def strip1Run:RP:=fun T pg=>∀x tx i j b t,JobOk T pg (fun K P=>jobTF (strip1Sp x tx i j b t) [0,0,4,4,0,1,0,0,4,3,4,4,4,1,4,4,4,1,4,4,4,5,4,4,4,1,4,4,4,5,4,4,4,1,4,4,4,5,4,4,4,8,8,8,8,8,3,8,8,8,1,8,8,3,8,8,8,3,8,8,8,8,8,3,8,8,8,3,8,1,8,8,8,8,8,3] [cLenT x,cFind x Y14 (-1),cFind4 x Y36 0 (x.length:Int) i,cGe i 0 true,cRfind4 x Y30 0 i j,cGe j 0 true,cSlice x (b+5) (some ((j+1),(t+22))) (some (i,(t+12))) 0] []) b t
theorem strip1_ok {T:Params->KT}{prog:Program}{w:World}(H:strip1Run T prog)(x:Str)(tx:Tok)(i j:Int)(b t:Nat)(h0:x.length<=sizeLine)(h1:findS x Y14 0 x.length=(-1))(h2:findS x Y36 (fromIndex x.length 0) (hiOf x (x.length:Int))=i)(h3:decide ((i:Int)≥0)=true)(h4:rfindS x Y30 (fromIndex x.length 0) (hiOf x i)=j)(h5:decide ((j:Int)≥0)=true)(h6:(Builtin.Str.strSliceIndices (some (j+1)) (some i) 1 x.length).length≠x.length):SpOk (T w.params) prog w (strip1Sp x tx i j b t) b t:=jobOf_ok (sp:=fun _ _=>strip1Sp x tx i j b t) (H x tx i j b t) (.inr rfl) rfl (by decide) ⟨cLenT_ok h0,cFind_ok h1,cFind4_ok h2,cGe_ok h3,cRfind4_ok h4,cGe_ok h5,cSlice_ok h0 h6,trivial⟩
noncomputable def strip0Sp (x:Str)(tx:Tok)(b t:Nat):Sp:=⟨5,.call (.ref 28) ⟨[.str x tx],[]⟩,[],.ok (.ret (.str (sliceS x (some 0) (some 0)) (t+21))),[],[],6,22,0⟩
def strip0Run:RP:=fun T pg=>∀x tx b t,JobOk T pg (fun K P=>jobTF (strip0Sp x tx b t) [0,0,4,4,0,1,0,0,4,3,4,4,4,1,4,4,4,1,4,4,4,5,4,4,4,1,4,4,4,5,4,4,4,1,4,4,4,5,4,4,4,8,8,8,8,8,3,8,8,8,1,8,8,3,8,8,8,1,8,8,8,8,8,3,8,8,8,1,8,8,8,3] [cLenT x,cFind x Y14 (-1),cFind4 x Y36 0 (x.length:Int) 0,cRfind4 x Y30 0 0 (-1),cSlice x (b+5) (some (0,(t+1))) (some (0,(t+12))) 0] []) b t
theorem strip0_ok {T:Params->KT}{prog:Program}{w:World}(H:strip0Run T prog)(x:Str)(tx:Tok)(b t:Nat)(h0:x.length<=sizeLine)(h1:findS x Y14 0 x.length=(-1))(h2:findS x Y36 (fromIndex x.length 0) (hiOf x (x.length:Int))=0)(h3:rfindS x Y30 (fromIndex x.length 0) (hiOf x 0)=(-1))(h4:(Builtin.Str.strSliceIndices (some 0) (some 0) 1 x.length).length≠x.length):SpOk (T w.params) prog w (strip0Sp x tx b t) b t:=jobOf_ok (sp:=fun _ _=>strip0Sp x tx b t) (H x tx b t) (.inr rfl) rfl (by decide) ⟨cLenT_ok h0,cFind_ok h1,cFind4_ok h2,cRfind4_ok h3,cSlice_ok h0 h4,trivial⟩
noncomputable abbrev trSp (x n r:Str)(tx tn:Tok)(t:Nat):Sp:=⟨5,.call (.ref 117) ⟨[.str x tx,.str n tn],[]⟩,[],.ok (.ret (.str r (t+5))),[],[],1,6,0⟩
noncomputable def iEJ (X:Lx)(fr it an ah ap ab at_:Addr)(k:Nat->Tok)(u:Nat->Value)(kk:Int)(la:Str)(tl:Tok)(b t:Nat):KJ:=fun K P=>⟨20,forOf (inner (bodyOf K 124) [2]) 4 (.ref it) (envOf K 124 fr []),FD (forOf (inner (bodyOf K 124) [2]) 4 (.ref it) (envOf K 124 fr [])),[(fr,frO #[ent P Y37 (k 0) (.ref X.i),ent P Y32 (k 1) (.ref ab),ent P Y21 (k 2) (.ref an),ent P Y38 (k 3) (.ref ah),ent P Y39 (k 4) (.ref at_),ent P Y40 (k 5) (u 5),ent P Y16 (k 6) (u 6),ent P Y41 (k 7) (.ref ap),ent P Y42 (k 8) (.str la tl),ent P Y34 (k 9) (u 9)] 10),(it,riO kk 0)],hs [5,1,5,5,5,5,4,1] [],[2,3],.ok (.done .next),[(fr,frO #[ent P Y37 (k 0) (.ref X.i),ent P Y32 (k 1) (.ref ab),ent P Y21 (k 2) (.ref an),ent P Y38 (k 3) (.ref ah),ent P Y39 (k 4) (.ref at_),ent P Y40 (k 5) (u 5),ent P Y16 (k 6) (u 6),ent P Y41 (k 7) (.ref ap),ent P Y42 (k 8) (.str la tl),ent P Y34 (k 9) (u 9)] 10),(it,riO kk 0)],2,0,0⟩
def iERun:RP:=fun T pg=>∀X fr it an ah ap ab at_ k u kk la tl b t,JobOk T pg (iEJ X fr it an ah ap ab at_ k u kk la tl b t) b t
theorem iE_tr {T:Params->KT}{prog:Program}{w:World}(H:iERun T prog)(X:Lx)(fr it an ah ap ab at_:Addr)(k:Nat->Tok)(u:Nat->Value)(kk:Int)(la:Str)(tl:Tok)(b t:Nat):JTr T prog w (iEJ X fr it an ah ap ab at_ k u kk la tl b t) b t:=jtr (by apply H) rfl trivial
noncomputable def i9mJ (X:Lx)(fr it an ah ap ab at_:Addr)(k:Nat->Tok)(u:Nat->Value)(kk r:Int)(ns hv:Array Value)(en eh ep:Nat)(q la x h:Str)(tp tq tl tx th:Tok)(sf:Str)(mf:Nat)(rr:Str)(ln:Value)(e:Nat)(b t:Nat):KJ:=fun K P=>⟨20,forOf (inner (bodyOf K 124) [2]) 4 (.ref it) (envOf K 124 fr []),FD (forOf (inner (bodyOf K 124) [2]) 4 (.ref it) (envOf K 124 fr [])),[(fr,frO #[ent P Y37 (k 0) (.ref X.i),ent P Y32 (k 1) (.ref ab),ent P Y21 (k 2) (.ref an),ent P Y38 (k 3) (.ref ah),ent P Y39 (k 4) (.ref at_),ent P Y40 (k 5) (u 5),ent P Y16 (k 6) (u 6),ent P Y41 (k 7) (.ref ap),ent P Y42 (k 8) (.str la tl)] 9),(it,riO kk r),(an,liO ns en),(ah,liO hv eh),(ap,liO #[(.str Y2 tp),.str q tq] ep),(X.i,X.iO),(X.d,X.dO P ln),(X.p,liO #[] e)],hs [5,3,4,4,4,4,6,6,6,3,4,3,0,4,4,7,7,7,3,4,1,8,8,8,1,8,8,0,3,4,9,0,0,0,9,0,0,0,9,0,0,0,0,9,10,4,8,8,8,1,8,8,1,4,4,6,6,6,3,3,3,0,4,1,8,8,8,1,8,8,4,4,6,6,6,3,0,3,3,0,3] [cNextR it kk r 1,cGetL an ns en kk (.str x tx) 2,cNe x la true,cGetL ah hv eh kk (.str h th) 3,.ctr [] (fun b' t' c _=>ell1Sp h q sf (aT c 0) (aT c 1) mf b' t'),cGetL an ns en kk (.str x tx) 2,cAdd Y30 x,cAdd (Y30++x) Y36,cGetL an ns en kk (.str x tx) 2,.ctr [] (fun b' t' c _=>trSp q x rr (aT c 0) tx t'),cAdd ((Y30++x)++Y36) rr,.ctr [5,6,7] (fun b' t' c _=>push0Sp X ln e (((Y30++x)++Y36)++rr) (aT c 1) b' t' K P)],[0,1,2,3,4,5,6,7],.ok (.again (forOf (inner (bodyOf K 124) [2]) 4 (.ref it) (envOf K 124 fr []))),[(fr,frO #[ent P Y37 (k 0) (.ref X.i),ent P Y32 (k 1) (.ref ab),ent P Y21 (k 2) (.ref an),ent P Y38 (k 3) (.ref ah),ent P Y39 (k 4) (.ref at_),ent P Y40 (k 5) (u 5),ent P Y16 (k 6) (u 6),ent P Y41 (k 7) (.ref ap),ent P Y42 (k 8) (.str la tl),ent P Y34 (t+1) (.int kk (t+0))] 10),(it,riO (kk+1) (r-1)),(an,liO ns en),(ah,liO hv eh),(ap,liO #[(.str Y2 tp),.str q tq] ep),(X.i,X.iO),(X.d,X.dO P ln),(X.p,liO #[.str (((Y30++x)++Y36)++rr) (t+53)] (e+1))],11,57,0⟩
def i9mRun:RP:=fun T pg=>∀X fr it an ah ap ab at_ k u kk r ns hv en eh ep q la x h tp tq tl tx th sf mf rr ln e b t,JobOk T pg (i9mJ X fr it an ah ap ab at_ k u kk r ns hv en eh ep q la x h tp tq tl tx th sf mf rr ln e b t) b t
noncomputable def ime1J (X:Lx)(fr it an ah ap ab at_:Addr)(k:Nat->Tok)(u:Nat->Value)(kk r:Int)(ns hv:Array Value)(en eh ep:Nat)(q la x h:Str)(tp tq tl tx th:Tok)(sf:Str)(mf:Nat)(rr:Str)(ln:Value)(e:Nat)(y0:Str)(v0:Tok)(b t:Nat):KJ:=fun K P=>⟨20,forOf (inner (bodyOf K 124) [2]) 4 (.ref it) (envOf K 124 fr []),FD (forOf (inner (bodyOf K 124) [2]) 4 (.ref it) (envOf K 124 fr [])),[(fr,frO #[ent P Y37 (k 0) (.ref X.i),ent P Y32 (k 1) (.ref ab),ent P Y21 (k 2) (.ref an),ent P Y38 (k 3) (.ref ah),ent P Y39 (k 4) (.ref at_),ent P Y40 (k 5) (u 5),ent P Y16 (k 6) (u 6),ent P Y41 (k 7) (.ref ap),ent P Y42 (k 8) (.str la tl),ent P Y34 (k 9) (u 9)] 10),(it,riO kk r),(an,liO ns en),(ah,liO hv eh),(ap,liO #[(.str Y2 tp),.str q tq] ep),(X.i,X.iO),(X.d,X.dO P ln),(X.p,liO #[.str y0 v0] e)],hs [5,3,4,4,4,4,6,6,6,3,4,3,0,4,4,7,7,7,3,4,1,8,8,8,1,8,8,0,3,4,9,0,0,0,9,0,0,0,9,0,0,0,0,9,10,4,8,8,8,1,8,8,1,4,4,6,6,6,3,3,3,0,4,1,8,8,8,1,8,8,4,4,6,6,6,3,0,3,3,0,3] [cNextR it kk r 1,cGetL an ns en kk (.str x tx) 2,cNe x la true,cGetL ah hv eh kk (.str h th) 3,.ctr [] (fun b' t' c _=>ell1Sp h q sf (aT c 0) (aT c 1) mf b' t'),cGetL an ns en kk (.str x tx) 2,cAdd Y30 x,cAdd (Y30++x) Y36,cGetL an ns en kk (.str x tx) 2,.ctr [] (fun b' t' c _=>trSp q x rr (aT c 0) tx t'),cAdd ((Y30++x)++Y36) rr,.ctr [5,6,7] (fun b' t' c _=>push1Sp X ln e y0 v0 (((Y30++x)++Y36)++rr) (aT c 1) b' t' K P)],[0,1,2,3,4,5,6,7],.ok (.again (forOf (inner (bodyOf K 124) [2]) 4 (.ref it) (envOf K 124 fr []))),[(fr,frO #[ent P Y37 (k 0) (.ref X.i),ent P Y32 (k 1) (.ref ab),ent P Y21 (k 2) (.ref an),ent P Y38 (k 3) (.ref ah),ent P Y39 (k 4) (.ref at_),ent P Y40 (k 5) (u 5),ent P Y16 (k 6) (u 6),ent P Y41 (k 7) (.ref ap),ent P Y42 (k 8) (.str la tl),ent P Y34 (k 9) (.int kk (t+0))] 10),(it,riO (kk+1) (r-1)),(an,liO ns en),(ah,liO hv eh),(ap,liO #[(.str Y2 tp),.str q tq] ep),(X.i,X.iO),(X.d,X.dO P ln),(X.p,liO #[.str y0 v0,.str (((Y30++x)++Y36)++rr) (t+53)] (e+1))],11,57,0⟩
def ime1Run:RP:=fun T pg=>∀X fr it an ah ap ab at_ k u kk r ns hv en eh ep q la x h tp tq tl tx th sf mf rr ln e y0 v0 b t,JobOk T pg (ime1J X fr it an ah ap ab at_ k u kk r ns hv en eh ep q la x h tp tq tl tx th sf mf rr ln e y0 v0 b t) b t
noncomputable def inoJ (X:Lx)(fr it an ah ap ab at_:Addr)(k:Nat->Tok)(u:Nat->Value)(kk r:Int)(ns hv:Array Value)(en eh ep:Nat)(p:Str)(q la x h:Str)(tp tq tl tx th:Tok)(sf:Str)(mf:Nat)(b t:Nat):KJ:=fun K P=>⟨20,forOf (inner (bodyOf K 124) [2]) 4 (.ref it) (envOf K 124 fr []),FD (forOf (inner (bodyOf K 124) [2]) 4 (.ref it) (envOf K 124 fr [])),[(fr,frO #[ent P Y37 (k 0) (.ref X.i),ent P Y32 (k 1) (.ref ab),ent P Y21 (k 2) (.ref an),ent P Y38 (k 3) (.ref ah),ent P Y39 (k 4) (.ref at_),ent P Y40 (k 5) (u 5),ent P Y16 (k 6) (u 6),ent P Y41 (k 7) (.ref ap),ent P Y42 (k 8) (.str la tl),ent P Y34 (k 9) (u 9)] 10),(it,riO kk r),(an,liO ns en),(ah,liO hv eh),(ap,liO #[(.str p tp),.str q tq] ep)],hs [5,3,4,4,4,4,6,6,6,3,4,3,0,4,4,7,7,7,3,4,1,8,8,8,1,8,8,0,3] [cNextR it kk r 1,cGetL an ns en kk (.str x tx) 2,cNe x la true,cGetL ah hv eh kk (.str h th) 3,.ctr [] (fun b' t' c _=>ell0Sp h q sf (aT c 0) (aT c 1) mf b' t')],[0,1,2,3,4],.ok (.again (forOf (inner (bodyOf K 124) [2]) 4 (.ref it) (envOf K 124 fr []))),[(fr,frO #[ent P Y37 (k 0) (.ref X.i),ent P Y32 (k 1) (.ref ab),ent P Y21 (k 2) (.ref an),ent P Y38 (k 3) (.ref ah),ent P Y39 (k 4) (.ref at_),ent P Y40 (k 5) (u 5),ent P Y16 (k 6) (u 6),ent P Y41 (k 7) (.ref ap),ent P Y42 (k 8) (.str la tl),ent P Y34 (k 9) (.int kk (t+0))] 10),(it,riO (kk+1) (r-1)),(an,liO ns en),(ah,liO hv eh),(ap,liO #[(.str p tp),.str q tq] ep)],6,26,0⟩
def inoRun:RP:=fun T pg=>∀X fr it an ah ap ab at_ k u kk r ns hv en eh ep p q la x h tp tq tl tx th sf mf b t,JobOk T pg (inoJ X fr it an ah ap ab at_ k u kk r ns hv en eh ep p q la x h tp tq tl tx th sf mf b t) b t
theorem ino_tr {T:Params->KT}{prog:Program}{w:World}(H:inoRun T prog)(X:Lx)(fr it an ah ap ab at_:Addr)(k:Nat->Tok)(u:Nat->Value)(kk r:Int)(ns hv:Array Value)(en eh ep:Nat)(p:Str)(q la x h:Str)(tp tq tl tx th:Tok)(sf:Str)(mf:Nat)(b t:Nat)(h0:¬ r<=0)(h1:(0:Int)<=kk)(h2:kk<2 ^ 63)(h3:ns[(kk).toNat]?=some (.str x tx))(h4:(!eqS x la)=true)(h5:hv[(kk).toNat]?=some (.str h th))(he:COk (T w.params) prog w b t (fun b' t' c _=>ell0Sp h q sf (aT c 0) (aT c 1) mf b' t')):JTr T prog w (inoJ X fr it an ah ap ab at_ k u kk r ns hv en eh ep p q la x h tp tq tl tx th sf mf b t) b t:=jtr (by apply H) rfl ⟨cNextR_ok h0,cGetL_ok h1 h2 h3,cNe_ok h4,cGetL_ok h1 h2 h5,he,trivial⟩
noncomputable def iskipJ (X:Lx)(fr it an ah ap ab at_:Addr)(k:Nat->Tok)(u:Nat->Value)(kk r:Int)(ns hv:Array Value)(en eh ep:Nat)(p:Str)(q la x h:Str)(tp tq tl tx th:Tok)(b t:Nat):KJ:=fun K P=>⟨20,forOf (inner (bodyOf K 124) [2]) 4 (.ref it) (envOf K 124 fr []),FD (forOf (inner (bodyOf K 124) [2]) 4 (.ref it) (envOf K 124 fr [])),[(fr,frO #[ent P Y37 (k 0) (.ref X.i),ent P Y32 (k 1) (.ref ab),ent P Y21 (k 2) (.ref an),ent P Y38 (k 3) (.ref ah),ent P Y39 (k 4) (.ref at_),ent P Y40 (k 5) (u 5),ent P Y16 (k 6) (u 6),ent P Y41 (k 7) (.ref ap),ent P Y42 (k 8) (.str la tl),ent P Y34 (k 9) (u 9)] 10),(it,riO kk r),(an,liO ns en),(ah,liO hv eh),(ap,liO #[(.str p tp),.str q tq] ep)],hs [5,3,4,4,4,4,6,6,6,3,4,3] [cNextR it kk r 1,cGetL an ns en kk (.str x tx) 2,cNe x la false],[0,1,2,3,4],.ok (.again (forOf (inner (bodyOf K 124) [2]) 4 (.ref it) (envOf K 124 fr []))),[(fr,frO #[ent P Y37 (k 0) (.ref X.i),ent P Y32 (k 1) (.ref ab),ent P Y21 (k 2) (.ref an),ent P Y38 (k 3) (.ref ah),ent P Y39 (k 4) (.ref at_),ent P Y40 (k 5) (u 5),ent P Y16 (k 6) (u 6),ent P Y41 (k 7) (.ref ap),ent P Y42 (k 8) (.str la tl),ent P Y34 (k 9) (.int kk (t+0))] 10),(it,riO (kk+1) (r-1)),(an,liO ns en),(ah,liO hv eh),(ap,liO #[(.str p tp),.str q tq] ep)],0,2,0⟩
def iskipRun:RP:=fun T pg=>∀X fr it an ah ap ab at_ k u kk r ns hv en eh ep p q la x h tp tq tl tx th b t,JobOk T pg (iskipJ X fr it an ah ap ab at_ k u kk r ns hv en eh ep p q la x h tp tq tl tx th b t) b t
theorem iskip_tr {T:Params->KT}{prog:Program}{w:World}(H:iskipRun T prog)(X:Lx)(fr it an ah ap ab at_:Addr)(k:Nat->Tok)(u:Nat->Value)(kk r:Int)(ns hv:Array Value)(en eh ep:Nat)(p:Str)(q la x h:Str)(tp tq tl tx th:Tok)(b t:Nat)(h0:¬ r<=0)(h1:(0:Int)<=kk)(h2:kk<2 ^ 63)(h3:ns[(kk).toNat]?=some (.str x tx))(h4:(!eqS x la)=false):JTr T prog w (iskipJ X fr it an ah ap ab at_ k u kk r ns hv en eh ep p q la x h tp tq tl tx th b t) b t:=jtr (by apply H) rfl ⟨cNextR_ok h0,cGetL_ok h1 h2 h3,cNe_ok h4,trivial⟩
noncomputable def imp1J (X:Lx)(fr it an ah ap ab at_:Addr)(k:Nat->Tok)(u:Nat->Value)(kk r:Int)(ns hv:Array Value)(en eh ep:Nat)(p:Str)(q la x h:Str)(tp tq tl tx th:Tok)(sf:Str)(mf:Nat)(rr:Str)(ln:Value)(e:Nat)(y0:Str)(v0:Tok)(b t:Nat):KJ:=fun K P=>⟨20,forOf (inner (bodyOf K 124) [2]) 4 (.ref it) (envOf K 124 fr []),FD (forOf (inner (bodyOf K 124) [2]) 4 (.ref it) (envOf K 124 fr [])),[(fr,frO #[ent P Y37 (k 0) (.ref X.i),ent P Y32 (k 1) (.ref ab),ent P Y21 (k 2) (.ref an),ent P Y38 (k 3) (.ref ah),ent P Y39 (k 4) (.ref at_),ent P Y40 (k 5) (u 5),ent P Y16 (k 6) (u 6),ent P Y41 (k 7) (.ref ap),ent P Y42 (k 8) (.str la tl),ent P Y34 (k 9) (u 9)] 10),(it,riO kk r),(an,liO ns en),(ah,liO hv eh),(ap,liO #[(.str p tp),.str q tq] ep),(X.i,X.iO),(X.d,X.dO P ln),(X.p,liO #[.str y0 v0] e)],hs [5,3,4,4,4,4,6,6,6,3,4,3,0,4,4,7,7,7,3,4,1,8,8,8,1,8,8,0,3,4,9,0,0,0,9,0,0,0,9,0,0,0,0,9,10,4,8,8,8,1,8,8,3,4,4,6,6,6,3,3,3,0,4,1,8,8,8,1,8,8,4,4,6,6,6,3,0,3,3,0,3] [cNextR it kk r 1,cGetL an ns en kk (.str x tx) 2,cNe x la true,cGetL ah hv eh kk (.str h th) 3,.ctr [] (fun b' t' c _=>ell1Sp h q sf (aT c 0) (aT c 1) mf b' t'),cAdd p Y30,cGetL an ns en kk (.str x tx) 2,cAdd (p++Y30) x,cAdd ((p++Y30)++x) Y36,cGetL an ns en kk (.str x tx) 2,.ctr [] (fun b' t' c _=>trSp q x rr (aT c 0) tx t'),cAdd (((p++Y30)++x)++Y36) rr,.ctr [5,6,7] (fun b' t' c _=>push1Sp X ln e y0 v0 ((((p++Y30)++x)++Y36)++rr) (aT c 1) b' t' K P)],[0,1,2,3,4,5,6,7],.ok (.again (forOf (inner (bodyOf K 124) [2]) 4 (.ref it) (envOf K 124 fr []))),[(fr,frO #[ent P Y37 (k 0) (.ref X.i),ent P Y32 (k 1) (.ref ab),ent P Y21 (k 2) (.ref an),ent P Y38 (k 3) (.ref ah),ent P Y39 (k 4) (.ref at_),ent P Y40 (k 5) (u 5),ent P Y16 (k 6) (u 6),ent P Y41 (k 7) (.ref ap),ent P Y42 (k 8) (.str la tl),ent P Y34 (k 9) (.int kk (t+0))] 10),(it,riO (kk+1) (r-1)),(an,liO ns en),(ah,liO hv eh),(ap,liO #[(.str p tp),.str q tq] ep),(X.i,X.iO),(X.d,X.dO P ln),(X.p,liO #[.str y0 v0,.str ((((p++Y30)++x)++Y36)++rr) (t+54)] (e+1))],11,58,0⟩
def imp1Run:RP:=fun T pg=>∀X fr it an ah ap ab at_ k u kk r ns hv en eh ep p q la x h tp tq tl tx th sf mf rr ln e y0 v0 b t,JobOk T pg (imp1J X fr it an ah ap ab at_ k u kk r ns hv en eh ep p q la x h tp tq tl tx th sf mf rr ln e y0 v0 b t) b t
noncomputable def imp0J (X:Lx)(fr it an ah ap ab at_:Addr)(k:Nat->Tok)(u:Nat->Value)(kk r:Int)(ns hv:Array Value)(en eh ep:Nat)(p:Str)(q la x h:Str)(tp tq tl tx th:Tok)(sf:Str)(mf:Nat)(rr:Str)(ln:Value)(e:Nat)(b t:Nat):KJ:=fun K P=>⟨20,forOf (inner (bodyOf K 124) [2]) 4 (.ref it) (envOf K 124 fr []),FD (forOf (inner (bodyOf K 124) [2]) 4 (.ref it) (envOf K 124 fr [])),[(fr,frO #[ent P Y37 (k 0) (.ref X.i),ent P Y32 (k 1) (.ref ab),ent P Y21 (k 2) (.ref an),ent P Y38 (k 3) (.ref ah),ent P Y39 (k 4) (.ref at_),ent P Y40 (k 5) (u 5),ent P Y16 (k 6) (u 6),ent P Y41 (k 7) (.ref ap),ent P Y42 (k 8) (.str la tl),ent P Y34 (k 9) (u 9)] 10),(it,riO kk r),(an,liO ns en),(ah,liO hv eh),(ap,liO #[(.str p tp),.str q tq] ep),(X.i,X.iO),(X.d,X.dO P ln),(X.p,liO #[] e)],hs [5,3,4,4,4,4,6,6,6,3,4,3,0,4,4,7,7,7,3,4,1,8,8,8,1,8,8,0,3,4,9,0,0,0,9,0,0,0,9,0,0,0,0,9,10,4,8,8,8,1,8,8,3,4,4,6,6,6,3,3,3,0,4,1,8,8,8,1,8,8,4,4,6,6,6,3,0,3,3,0,3] [cNextR it kk r 1,cGetL an ns en kk (.str x tx) 2,cNe x la true,cGetL ah hv eh kk (.str h th) 3,.ctr [] (fun b' t' c _=>ell1Sp h q sf (aT c 0) (aT c 1) mf b' t'),cAdd p Y30,cGetL an ns en kk (.str x tx) 2,cAdd (p++Y30) x,cAdd ((p++Y30)++x) Y36,cGetL an ns en kk (.str x tx) 2,.ctr [] (fun b' t' c _=>trSp q x rr (aT c 0) tx t'),cAdd (((p++Y30)++x)++Y36) rr,.ctr [5,6,7] (fun b' t' c _=>push0Sp X ln e ((((p++Y30)++x)++Y36)++rr) (aT c 1) b' t' K P)],[0,1,2,3,4,5,6,7],.ok (.again (forOf (inner (bodyOf K 124) [2]) 4 (.ref it) (envOf K 124 fr []))),[(fr,frO #[ent P Y37 (k 0) (.ref X.i),ent P Y32 (k 1) (.ref ab),ent P Y21 (k 2) (.ref an),ent P Y38 (k 3) (.ref ah),ent P Y39 (k 4) (.ref at_),ent P Y40 (k 5) (u 5),ent P Y16 (k 6) (u 6),ent P Y41 (k 7) (.ref ap),ent P Y42 (k 8) (.str la tl),ent P Y34 (k 9) (.int kk (t+0))] 10),(it,riO (kk+1) (r-1)),(an,liO ns en),(ah,liO hv eh),(ap,liO #[(.str p tp),.str q tq] ep),(X.i,X.iO),(X.d,X.dO P ln),(X.p,liO #[.str ((((p++Y30)++x)++Y36)++rr) (t+54)] (e+1))],11,58,0⟩
def imp0Run:RP:=fun T pg=>∀X fr it an ah ap ab at_ k u kk r ns hv en eh ep p q la x h tp tq tl tx th sf mf rr ln e b t,JobOk T pg (imp0J X fr it an ah ap ab at_ k u kk r ns hv en eh ep p q la x h tp tq tl tx th sf mf rr ln e b t) b t
noncomputable abbrev innSp (K:KT)(fr it:Addr)(X:Lx)(an ah ap:Addr)(F F' I I' N H P' Q Q' D D':Obj)(da dt:Nat):Sp:=⟨30,forOf (inner (bodyOf K 124) [2]) 4 (.ref it) (envOf K 124 fr []),[(fr,F),(it,I),(an,N),(ah,H),(ap,P'),(X.i,D),(X.d,D'),(X.p,Q)],.ok .next,[F',I',N,H,P',D,D',Q'],[],da,dt,0⟩
noncomputable abbrev numSp (ab an:Addr)(q:Str)(tq:Tok)(ob on:Obj)(v:Int)(tv:Tok)(da dt gn:Nat):Sp:=⟨50,.call (.ref 110) ⟨[.str q tq,.ref ab,.ref an],[]⟩,[(ab,ob),(an,on)],.ok (.ret (.int v tv)),[ob,on],[],da,dt,gn⟩
noncomputable abbrev s0Sp (x r:Str)(tx:Tok)(t:Nat):Sp:=⟨5,.call (.ref 28) ⟨[.str x tx],[]⟩,[],.ok (.ret (.str r (t+21))),[],[],6,22,0⟩
noncomputable abbrev s1Sp (x r:Str)(tx:Tok)(t:Nat):Sp:=⟨5,.call (.ref 28) ⟨[.str x tx],[]⟩,[],.ok (.ret (.str r (t+24))),[],[],6,25,0⟩
noncomputable def oEJ (fr it:Addr)(k:Nat->Tok)(u:Nat->Value)(kk:Int)(b t:Nat):KJ:=fun K P=>⟨80,forOf (bodyOf K 124) 2 (.ref it) (envOf K 124 fr []),FD (forOf (bodyOf K 124) 2 (.ref it) (envOf K 124 fr [])),[(fr,frO #[ent P Y37 (k 0) (u 0),ent P Y32 (k 1) (u 1),ent P Y21 (k 2) (u 2),ent P Y38 (k 3) (u 3),ent P Y39 (k 4) (u 4),ent P Y40 (k 5) (u 5),ent P Y16 (k 6) (u 6),ent P Y41 (k 7) (u 7),ent P Y42 (k 8) (u 8),ent P Y34 (k 9) (u 9)] 10),(it,riO kk 0)],hs [5,1,5,5,5,5,4,1] [],[2,3],.ok (.done .next),[(fr,frO #[ent P Y37 (k 0) (u 0),ent P Y32 (k 1) (u 1),ent P Y21 (k 2) (u 2),ent P Y38 (k 3) (u 3),ent P Y39 (k 4) (u 4),ent P Y40 (k 5) (u 5),ent P Y16 (k 6) (u 6),ent P Y41 (k 7) (u 7),ent P Y42 (k 8) (u 8),ent P Y34 (k 9) (u 9)] 10),(it,riO kk 0)],2,0,0⟩
def oERun:RP:=fun T pg=>∀fr it k u kk b t,JobOk T pg (oEJ fr it k u kk b t) b t
theorem oE_tr {T:Params->KT}{prog:Program}{w:World}(H:oERun T prog)(fr it:Addr)(k:Nat->Tok)(u:Nat->Value)(kk:Int)(b t:Nat):JTr T prog w (oEJ fr it k u kk b t) b t:=jtr (by apply H) rfl trivial
noncomputable def oF_4J (X:Lx)(fr it at_ an ah ab:Addr)(k:Nat->Tok)(u:Nat->Value)(kk r:Int)(xs ns hv bs:Array Value)(ex en eh eb:Nat)(ln:Value)(e:Nat)(x:Str)(tx:Tok)(q la:Str)(nu:Int)(GN:Nat)(TN DA1 D1 TK DA2 D2:Nat->Nat->Nat)(VK:Nat->Nat->Value)(IT1 PB:Nat->Nat->Obj)(b t:Nat):KJ:=fun K P=>⟨80,forOf (bodyOf K 124) 2 (.ref it) (envOf K 124 fr []),FD (forOf (bodyOf K 124) 2 (.ref it) (envOf K 124 fr [])),[(fr,frO #[ent P Y37 (k 0) (.ref X.i),ent P Y32 (k 1) (.ref ab),ent P Y21 (k 2) (.ref an),ent P Y38 (k 3) (.ref ah),ent P Y39 (k 4) (.ref at_)] 5),(it,riO kk r),(at_,liO xs ex),(an,liO ns en),(ah,liO hv eh),(ab,liO bs eb),(X.i,X.iO),(X.d,X.dO P ln),(X.p,liO #[.str x tx] e)],hs [5,3,4,4,4,10,0,0,0,10,0,0,0,10,0,0,0,0,10,11,0,3,4,4,4,3,5,5,5,7,7,7,7,5,4,4,4,1,4,4,0,5,1,4,4,4,1,4,4,5,5,0,3,3,0,6,0,3,6,6,0,0,0,0,6,3,1,1,4,4,1,4,4,4,4,1,4,4,4,4,4,3] [cNextR it kk r 1,.ctr [6,7,8] (fun b' t' c _=>pop1Sp X ln e x tx b' t' K P),cSplit x Y36 [Y2,q],.ctr [6,4] (fun b' t' _ _=>numSp ab an q (t+11) (liO bs eb) (liO ns en) nu (TN b' t') (DA1 b' t') (D1 b' t') GN),cApp at_ xs ex 4,.ctr [] (fun b' t' c _=>s0Sp x la (aT c 0) t'),cLenL an ns en 4 5,.ctr [4,0,7,8,3,10,11,12] (fun b' t' _ _=>innSp K fr (b+((2+DA1 (b+2) (t+16))+8)) X an ah (b+1) (frO #[ent P Y37 (k 0) (.ref X.i),ent P Y32 (k 1) (.ref ab),ent P Y21 (k 2) (.ref an),ent P Y38 (k 3) (.ref ah),ent P Y39 (k 4) (.ref at_),ent P Y40 (t+1) (.int kk (t+0)),ent P Y16 (t+8) (.str x tx),ent P Y41 (t+12) (.ref (b+1)),ent P Y42 (t+((16+D1 (b+2) (t+16))+22)) (.str la (t+((16+D1 (b+2) (t+16))+21)))] 9) (frO #[ent P Y37 (k 0) (.ref X.i),ent P Y32 (k 1) (.ref ab),ent P Y21 (k 2) (.ref an),ent P Y38 (k 3) (.ref ah),ent P Y39 (k 4) (.ref at_),ent P Y40 (t+1) (.int kk (t+0)),ent P Y16 (t+8) (.str x tx),ent P Y41 (t+12) (.ref (b+1)),ent P Y42 (t+((16+D1 (b+2) (t+16))+22)) (.str la (t+((16+D1 (b+2) (t+16))+21))),ent P Y34 (TK b' t') (VK b' t')] 10) (riO 0 4) (IT1 b' t') (liO ns en) (liO hv eh) (liO #[(.str Y2 (t+10)),(.str q (t+11))] 0) (liO #[] (e+1)) (PB b' t') X.iO (X.dO P ln) (DA2 b' t') (D2 b' t'))],[2,4,5,6,7,8,9,10,11,12],.ok (.again (forOf (bodyOf K 124) 2 (.ref it) (envOf K 124 fr []))),[((b+((2+DA1 (b+2) (t+16))+0)),tuO #[(.str Y2 (t+10)),(.int nu (TN (b+2) (t+16)))]),(fr,frO #[ent P Y37 (k 0) (.ref X.i),ent P Y32 (k 1) (.ref ab),ent P Y21 (k 2) (.ref an),ent P Y38 (k 3) (.ref ah),ent P Y39 (k 4) (.ref at_),ent P Y40 (t+1) (.int kk (t+0)),ent P Y16 (t+8) (.str x tx),ent P Y41 (t+12) (.ref (b+1)),ent P Y42 (t+((16+D1 (b+2) (t+16))+22)) (.str la (t+((16+D1 (b+2) (t+16))+21))),ent P Y34 (TK (b+((2+DA1 (b+2) (t+16))+9)) (t+((16+D1 (b+2) (t+16))+27))) (VK (b+((2+DA1 (b+2) (t+16))+9)) (t+((16+D1 (b+2) (t+16))+27)))] 10),(it,riO (kk+1) (r-1)),(at_,liO (xs.push (.ref (b+((2+DA1 (b+2) (t+16))+0)))) (ex+1)),(an,liO ns en),(ah,liO hv eh),(ab,liO bs eb),(X.i,X.iO),(X.d,X.dO P ln),(X.p,PB (b+((2+DA1 (b+2) (t+16))+9)) (t+((16+D1 (b+2) (t+16))+27)))],((((2+DA1 (b+2) (t+16))+9)+DA2 (b+((2+DA1 (b+2) (t+16))+9)) (t+((16+D1 (b+2) (t+16))+27)))+0),((((16+D1 (b+2) (t+16))+27)+D2 (b+((2+DA1 (b+2) (t+16))+9)) (t+((16+D1 (b+2) (t+16))+27)))+0),0+GN⟩
def oF_4Run:RP:=fun T pg=>∀X fr it at_ an ah ab k u kk r xs ns hv bs ex en eh eb ln e x tx q la nu GN TN DA1 D1 TK DA2 D2 VK IT1 PB b t,JobOk T pg (oF_4J X fr it at_ an ah ab k u kk r xs ns hv bs ex en eh eb ln e x tx q la nu GN TN DA1 D1 TK DA2 D2 VK IT1 PB b t) b t
noncomputable def oT1_4J (X:Lx)(fr it at_ an ah ab:Addr)(k:Nat->Tok)(u:Nat->Value)(kk r:Int)(xs ns hv bs:Array Value)(ex en eh eb:Nat)(ln:Value)(e:Nat)(x:Str)(tx:Tok)(p:Str)(q la:Str)(nu:Int)(GN:Nat)(TN DA1 D1 TK DA2 D2:Nat->Nat->Nat)(VK:Nat->Nat->Value)(IT1 PB:Nat->Nat->Obj)(b t:Nat):KJ:=fun K P=>⟨80,forOf (bodyOf K 124) 2 (.ref it) (envOf K 124 fr []),FD (forOf (bodyOf K 124) 2 (.ref it) (envOf K 124 fr [])),[(fr,frO #[ent P Y37 (k 0) (.ref X.i),ent P Y32 (k 1) (.ref ab),ent P Y21 (k 2) (.ref an),ent P Y38 (k 3) (.ref ah),ent P Y39 (k 4) (.ref at_),ent P Y40 (k 5) (u 5),ent P Y16 (k 6) (u 6),ent P Y41 (k 7) (u 7),ent P Y42 (k 8) (u 8),ent P Y34 (k 9) (u 9)] 10),(it,riO kk r),(at_,liO xs ex),(an,liO ns en),(ah,liO hv eh),(ab,liO bs eb),(X.i,X.iO),(X.d,X.dO P ln),(X.p,liO #[.str x tx] e)],hs [5,3,4,4,4,10,0,0,0,10,0,0,0,10,0,0,0,0,10,11,0,3,4,4,4,3,5,5,5,7,7,7,7,5,4,4,4,1,4,4,0,5,1,4,4,4,1,4,4,5,5,0,3,3,0,6,0,3,6,6,0,0,0,0,6,3,1,1,4,4,1,4,4,4,4,1,4,4,4,4,4,3] [cNextR it kk r 1,.ctr [6,7,8] (fun b' t' c _=>pop1Sp X ln e x tx b' t' K P),cSplit x Y36 [p,q],.ctr [6,4] (fun b' t' _ _=>numSp ab an q (t+11) (liO bs eb) (liO ns en) nu (TN b' t') (DA1 b' t') (D1 b' t') GN),cApp at_ xs ex 4,.ctr [] (fun b' t' c _=>s1Sp x la (aT c 0) t'),cLenL an ns en 4 5,.ctr [4,0,7,8,3,10,11,12] (fun b' t' _ _=>innSp K fr (b+((2+DA1 (b+2) (t+16))+8)) X an ah (b+1) (frO #[ent P Y37 (k 0) (.ref X.i),ent P Y32 (k 1) (.ref ab),ent P Y21 (k 2) (.ref an),ent P Y38 (k 3) (.ref ah),ent P Y39 (k 4) (.ref at_),ent P Y40 (k 5) (.int kk (t+0)),ent P Y16 (k 6) (.str x tx),ent P Y41 (k 7) (.ref (b+1)),ent P Y42 (k 8) (.str la (t+((16+D1 (b+2) (t+16))+24))),ent P Y34 (k 9) (u 9)] 10) (frO #[ent P Y37 (k 0) (.ref X.i),ent P Y32 (k 1) (.ref ab),ent P Y21 (k 2) (.ref an),ent P Y38 (k 3) (.ref ah),ent P Y39 (k 4) (.ref at_),ent P Y40 (k 5) (.int kk (t+0)),ent P Y16 (k 6) (.str x tx),ent P Y41 (k 7) (.ref (b+1)),ent P Y42 (k 8) (.str la (t+((16+D1 (b+2) (t+16))+24))),ent P Y34 (TK b' t') (VK b' t')] 10) (riO 0 4) (IT1 b' t') (liO ns en) (liO hv eh) (liO #[(.str p (t+10)),(.str q (t+11))] 0) (liO #[] (e+1)) (PB b' t') X.iO (X.dO P ln) (DA2 b' t') (D2 b' t'))],[2,4,5,6,7,8,9,10,11,12],.ok (.again (forOf (bodyOf K 124) 2 (.ref it) (envOf K 124 fr []))),[((b+((2+DA1 (b+2) (t+16))+0)),tuO #[(.str p (t+10)),(.int nu (TN (b+2) (t+16)))]),(fr,frO #[ent P Y37 (k 0) (.ref X.i),ent P Y32 (k 1) (.ref ab),ent P Y21 (k 2) (.ref an),ent P Y38 (k 3) (.ref ah),ent P Y39 (k 4) (.ref at_),ent P Y40 (k 5) (.int kk (t+0)),ent P Y16 (k 6) (.str x tx),ent P Y41 (k 7) (.ref (b+1)),ent P Y42 (k 8) (.str la (t+((16+D1 (b+2) (t+16))+24))),ent P Y34 (TK (b+((2+DA1 (b+2) (t+16))+9)) (t+((16+D1 (b+2) (t+16))+30))) (VK (b+((2+DA1 (b+2) (t+16))+9)) (t+((16+D1 (b+2) (t+16))+30)))] 10),(it,riO (kk+1) (r-1)),(at_,liO (xs.push (.ref (b+((2+DA1 (b+2) (t+16))+0)))) (ex+1)),(an,liO ns en),(ah,liO hv eh),(ab,liO bs eb),(X.i,X.iO),(X.d,X.dO P ln),(X.p,PB (b+((2+DA1 (b+2) (t+16))+9)) (t+((16+D1 (b+2) (t+16))+30)))],((((2+DA1 (b+2) (t+16))+9)+DA2 (b+((2+DA1 (b+2) (t+16))+9)) (t+((16+D1 (b+2) (t+16))+30)))+0),((((16+D1 (b+2) (t+16))+30)+D2 (b+((2+DA1 (b+2) (t+16))+9)) (t+((16+D1 (b+2) (t+16))+30)))+0),0+GN⟩
def oT1_4Run:RP:=fun T pg=>∀X fr it at_ an ah ab k u kk r xs ns hv bs ex en eh eb ln e x tx p q la nu GN TN DA1 D1 TK DA2 D2 VK IT1 PB b t,JobOk T pg (oT1_4J X fr it at_ an ah ab k u kk r xs ns hv bs ex en eh eb ln e x tx p q la nu GN TN DA1 D1 TK DA2 D2 VK IT1 PB b t) b t
noncomputable def oT2_4J (X:Lx)(fr it at_ an ah ab:Addr)(k:Nat->Tok)(u:Nat->Value)(kk r:Int)(xs ns hv bs:Array Value)(ex en eh eb:Nat)(ln:Value)(e:Nat)(x:Str)(tx:Tok)(y1:Str)(u1:Tok)(p:Str)(q la:Str)(nu:Int)(GN:Nat)(TN DA1 D1 TK DA2 D2:Nat->Nat->Nat)(VK:Nat->Nat->Value)(IT1 PB:Nat->Nat->Obj)(b t:Nat):KJ:=fun K P=>⟨80,forOf (bodyOf K 124) 2 (.ref it) (envOf K 124 fr []),FD (forOf (bodyOf K 124) 2 (.ref it) (envOf K 124 fr [])),[(fr,frO #[ent P Y37 (k 0) (.ref X.i),ent P Y32 (k 1) (.ref ab),ent P Y21 (k 2) (.ref an),ent P Y38 (k 3) (.ref ah),ent P Y39 (k 4) (.ref at_),ent P Y40 (k 5) (u 5),ent P Y16 (k 6) (u 6),ent P Y41 (k 7) (u 7),ent P Y42 (k 8) (u 8),ent P Y34 (k 9) (u 9)] 10),(it,riO kk r),(at_,liO xs ex),(an,liO ns en),(ah,liO hv eh),(ab,liO bs eb),(X.i,X.iO),(X.d,X.dO P ln),(X.p,liO #[.str x tx,.str y1 u1] e)],hs [5,3,4,4,4,10,0,0,0,10,0,0,0,10,0,0,0,0,10,11,0,3,4,4,4,3,5,5,5,7,7,7,7,5,4,4,4,1,4,4,0,5,1,4,4,4,1,4,4,5,5,0,3,3,0,6,0,3,6,6,0,0,0,0,6,3,1,1,4,4,1,4,4,4,4,1,4,4,4,4,4,3] [cNextR it kk r 1,.ctr [6,7,8] (fun b' t' c _=>pop2Sp X ln e x tx y1 u1 b' t' K P),cSplit x Y36 [p,q],.ctr [6,4] (fun b' t' _ _=>numSp ab an q (t+11) (liO bs eb) (liO ns en) nu (TN b' t') (DA1 b' t') (D1 b' t') GN),cApp at_ xs ex 4,.ctr [] (fun b' t' c _=>s1Sp x la (aT c 0) t'),cLenL an ns en 4 5,.ctr [4,0,7,8,3,10,11,12] (fun b' t' _ _=>innSp K fr (b+((2+DA1 (b+2) (t+16))+8)) X an ah (b+1) (frO #[ent P Y37 (k 0) (.ref X.i),ent P Y32 (k 1) (.ref ab),ent P Y21 (k 2) (.ref an),ent P Y38 (k 3) (.ref ah),ent P Y39 (k 4) (.ref at_),ent P Y40 (k 5) (.int kk (t+0)),ent P Y16 (k 6) (.str x tx),ent P Y41 (k 7) (.ref (b+1)),ent P Y42 (k 8) (.str la (t+((16+D1 (b+2) (t+16))+24))),ent P Y34 (k 9) (u 9)] 10) (frO #[ent P Y37 (k 0) (.ref X.i),ent P Y32 (k 1) (.ref ab),ent P Y21 (k 2) (.ref an),ent P Y38 (k 3) (.ref ah),ent P Y39 (k 4) (.ref at_),ent P Y40 (k 5) (.int kk (t+0)),ent P Y16 (k 6) (.str x tx),ent P Y41 (k 7) (.ref (b+1)),ent P Y42 (k 8) (.str la (t+((16+D1 (b+2) (t+16))+24))),ent P Y34 (TK b' t') (VK b' t')] 10) (riO 0 4) (IT1 b' t') (liO ns en) (liO hv eh) (liO #[(.str p (t+10)),(.str q (t+11))] 0) (liO #[.str y1 u1] (e+1)) (PB b' t') X.iO (X.dO P ln) (DA2 b' t') (D2 b' t'))],[2,4,5,6,7,8,9,10,11,12],.ok (.again (forOf (bodyOf K 124) 2 (.ref it) (envOf K 124 fr []))),[((b+((2+DA1 (b+2) (t+16))+0)),tuO #[(.str p (t+10)),(.int nu (TN (b+2) (t+16)))]),(fr,frO #[ent P Y37 (k 0) (.ref X.i),ent P Y32 (k 1) (.ref ab),ent P Y21 (k 2) (.ref an),ent P Y38 (k 3) (.ref ah),ent P Y39 (k 4) (.ref at_),ent P Y40 (k 5) (.int kk (t+0)),ent P Y16 (k 6) (.str x tx),ent P Y41 (k 7) (.ref (b+1)),ent P Y42 (k 8) (.str la (t+((16+D1 (b+2) (t+16))+24))),ent P Y34 (TK (b+((2+DA1 (b+2) (t+16))+9)) (t+((16+D1 (b+2) (t+16))+30))) (VK (b+((2+DA1 (b+2) (t+16))+9)) (t+((16+D1 (b+2) (t+16))+30)))] 10),(it,riO (kk+1) (r-1)),(at_,liO (xs.push (.ref (b+((2+DA1 (b+2) (t+16))+0)))) (ex+1)),(an,liO ns en),(ah,liO hv eh),(ab,liO bs eb),(X.i,X.iO),(X.d,X.dO P ln),(X.p,PB (b+((2+DA1 (b+2) (t+16))+9)) (t+((16+D1 (b+2) (t+16))+30)))],((((2+DA1 (b+2) (t+16))+9)+DA2 (b+((2+DA1 (b+2) (t+16))+9)) (t+((16+D1 (b+2) (t+16))+30)))+0),((((16+D1 (b+2) (t+16))+30)+D2 (b+((2+DA1 (b+2) (t+16))+9)) (t+((16+D1 (b+2) (t+16))+30)))+0),0+GN⟩
def oT2_4Run:RP:=fun T pg=>∀X fr it at_ an ah ab k u kk r xs ns hv bs ex en eh eb ln e x tx y1 u1 p q la nu GN TN DA1 D1 TK DA2 D2 VK IT1 PB b t,JobOk T pg (oT2_4J X fr it at_ an ah ab k u kk r xs ns hv bs ex en eh eb ln e x tx y1 u1 p q la nu GN TN DA1 D1 TK DA2 D2 VK IT1 PB b t) b t
noncomputable def oF_3J (X:Lx)(fr it at_ an ah ab:Addr)(k:Nat->Tok)(u:Nat->Value)(kk r:Int)(xs ns hv bs:Array Value)(ex en eh eb:Nat)(ln:Value)(e:Nat)(x:Str)(tx:Tok)(q la:Str)(nu:Int)(GN:Nat)(TN DA1 D1 TK DA2 D2:Nat->Nat->Nat)(VK:Nat->Nat->Value)(IT1 PB:Nat->Nat->Obj)(b t:Nat):KJ:=fun K P=>⟨80,forOf (bodyOf K 124) 2 (.ref it) (envOf K 124 fr []),FD (forOf (bodyOf K 124) 2 (.ref it) (envOf K 124 fr [])),[(fr,frO #[ent P Y37 (k 0) (.ref X.i),ent P Y32 (k 1) (.ref ab),ent P Y21 (k 2) (.ref an),ent P Y38 (k 3) (.ref ah),ent P Y39 (k 4) (.ref at_)] 5),(it,riO kk r),(at_,liO xs ex),(an,liO ns en),(ah,liO hv eh),(ab,liO bs eb),(X.i,X.iO),(X.d,X.dO P ln),(X.p,liO #[.str x tx] e)],hs [5,3,4,4,4,10,0,0,0,10,0,0,0,10,0,0,0,0,10,11,0,3,4,4,4,3,5,5,5,7,7,7,7,5,4,4,4,1,4,4,0,5,1,4,4,4,1,4,4,5,5,0,3,3,0,6,0,3,6,6,0,0,0,0,6,3,1,1,4,4,1,4,4,4,4,1,4,4,4,4,4,3] [cNextR it kk r 1,.ctr [6,7,8] (fun b' t' c _=>pop1Sp X ln e x tx b' t' K P),cSplit x Y36 [Y2,q],.ctr [6,4] (fun b' t' _ _=>numSp ab an q (t+11) (liO bs eb) (liO ns en) nu (TN b' t') (DA1 b' t') (D1 b' t') GN),cApp at_ xs ex 4,.ctr [] (fun b' t' c _=>s0Sp x la (aT c 0) t'),cLenL an ns en 3 5,.ctr [4,0,7,8,3,10,11,12] (fun b' t' _ _=>innSp K fr (b+((2+DA1 (b+2) (t+16))+8)) X an ah (b+1) (frO #[ent P Y37 (k 0) (.ref X.i),ent P Y32 (k 1) (.ref ab),ent P Y21 (k 2) (.ref an),ent P Y38 (k 3) (.ref ah),ent P Y39 (k 4) (.ref at_),ent P Y40 (t+1) (.int kk (t+0)),ent P Y16 (t+8) (.str x tx),ent P Y41 (t+12) (.ref (b+1)),ent P Y42 (t+((16+D1 (b+2) (t+16))+22)) (.str la (t+((16+D1 (b+2) (t+16))+21)))] 9) (frO #[ent P Y37 (k 0) (.ref X.i),ent P Y32 (k 1) (.ref ab),ent P Y21 (k 2) (.ref an),ent P Y38 (k 3) (.ref ah),ent P Y39 (k 4) (.ref at_),ent P Y40 (t+1) (.int kk (t+0)),ent P Y16 (t+8) (.str x tx),ent P Y41 (t+12) (.ref (b+1)),ent P Y42 (t+((16+D1 (b+2) (t+16))+22)) (.str la (t+((16+D1 (b+2) (t+16))+21))),ent P Y34 (TK b' t') (VK b' t')] 10) (riO 0 3) (IT1 b' t') (liO ns en) (liO hv eh) (liO #[(.str Y2 (t+10)),(.str q (t+11))] 0) (liO #[] (e+1)) (PB b' t') X.iO (X.dO P ln) (DA2 b' t') (D2 b' t'))],[2,4,5,6,7,8,9,10,11,12],.ok (.again (forOf (bodyOf K 124) 2 (.ref it) (envOf K 124 fr []))),[((b+((2+DA1 (b+2) (t+16))+0)),tuO #[(.str Y2 (t+10)),(.int nu (TN (b+2) (t+16)))]),(fr,frO #[ent P Y37 (k 0) (.ref X.i),ent P Y32 (k 1) (.ref ab),ent P Y21 (k 2) (.ref an),ent P Y38 (k 3) (.ref ah),ent P Y39 (k 4) (.ref at_),ent P Y40 (t+1) (.int kk (t+0)),ent P Y16 (t+8) (.str x tx),ent P Y41 (t+12) (.ref (b+1)),ent P Y42 (t+((16+D1 (b+2) (t+16))+22)) (.str la (t+((16+D1 (b+2) (t+16))+21))),ent P Y34 (TK (b+((2+DA1 (b+2) (t+16))+9)) (t+((16+D1 (b+2) (t+16))+27))) (VK (b+((2+DA1 (b+2) (t+16))+9)) (t+((16+D1 (b+2) (t+16))+27)))] 10),(it,riO (kk+1) (r-1)),(at_,liO (xs.push (.ref (b+((2+DA1 (b+2) (t+16))+0)))) (ex+1)),(an,liO ns en),(ah,liO hv eh),(ab,liO bs eb),(X.i,X.iO),(X.d,X.dO P ln),(X.p,PB (b+((2+DA1 (b+2) (t+16))+9)) (t+((16+D1 (b+2) (t+16))+27)))],((((2+DA1 (b+2) (t+16))+9)+DA2 (b+((2+DA1 (b+2) (t+16))+9)) (t+((16+D1 (b+2) (t+16))+27)))+0),((((16+D1 (b+2) (t+16))+27)+D2 (b+((2+DA1 (b+2) (t+16))+9)) (t+((16+D1 (b+2) (t+16))+27)))+0),0+GN⟩
def oF_3Run:RP:=fun T pg=>∀X fr it at_ an ah ab k u kk r xs ns hv bs ex en eh eb ln e x tx q la nu GN TN DA1 D1 TK DA2 D2 VK IT1 PB b t,JobOk T pg (oF_3J X fr it at_ an ah ab k u kk r xs ns hv bs ex en eh eb ln e x tx q la nu GN TN DA1 D1 TK DA2 D2 VK IT1 PB b t) b t
noncomputable def oT1_3J (X:Lx)(fr it at_ an ah ab:Addr)(k:Nat->Tok)(u:Nat->Value)(kk r:Int)(xs ns hv bs:Array Value)(ex en eh eb:Nat)(ln:Value)(e:Nat)(x:Str)(tx:Tok)(p:Str)(q la:Str)(nu:Int)(GN:Nat)(TN DA1 D1 TK DA2 D2:Nat->Nat->Nat)(VK:Nat->Nat->Value)(IT1 PB:Nat->Nat->Obj)(b t:Nat):KJ:=fun K P=>⟨80,forOf (bodyOf K 124) 2 (.ref it) (envOf K 124 fr []),FD (forOf (bodyOf K 124) 2 (.ref it) (envOf K 124 fr [])),[(fr,frO #[ent P Y37 (k 0) (.ref X.i),ent P Y32 (k 1) (.ref ab),ent P Y21 (k 2) (.ref an),ent P Y38 (k 3) (.ref ah),ent P Y39 (k 4) (.ref at_),ent P Y40 (k 5) (u 5),ent P Y16 (k 6) (u 6),ent P Y41 (k 7) (u 7),ent P Y42 (k 8) (u 8),ent P Y34 (k 9) (u 9)] 10),(it,riO kk r),(at_,liO xs ex),(an,liO ns en),(ah,liO hv eh),(ab,liO bs eb),(X.i,X.iO),(X.d,X.dO P ln),(X.p,liO #[.str x tx] e)],hs [5,3,4,4,4,10,0,0,0,10,0,0,0,10,0,0,0,0,10,11,0,3,4,4,4,3,5,5,5,7,7,7,7,5,4,4,4,1,4,4,0,5,1,4,4,4,1,4,4,5,5,0,3,3,0,6,0,3,6,6,0,0,0,0,6,3,1,1,4,4,1,4,4,4,4,1,4,4,4,4,4,3] [cNextR it kk r 1,.ctr [6,7,8] (fun b' t' c _=>pop1Sp X ln e x tx b' t' K P),cSplit x Y36 [p,q],.ctr [6,4] (fun b' t' _ _=>numSp ab an q (t+11) (liO bs eb) (liO ns en) nu (TN b' t') (DA1 b' t') (D1 b' t') GN),cApp at_ xs ex 4,.ctr [] (fun b' t' c _=>s1Sp x la (aT c 0) t'),cLenL an ns en 3 5,.ctr [4,0,7,8,3,10,11,12] (fun b' t' _ _=>innSp K fr (b+((2+DA1 (b+2) (t+16))+8)) X an ah (b+1) (frO #[ent P Y37 (k 0) (.ref X.i),ent P Y32 (k 1) (.ref ab),ent P Y21 (k 2) (.ref an),ent P Y38 (k 3) (.ref ah),ent P Y39 (k 4) (.ref at_),ent P Y40 (k 5) (.int kk (t+0)),ent P Y16 (k 6) (.str x tx),ent P Y41 (k 7) (.ref (b+1)),ent P Y42 (k 8) (.str la (t+((16+D1 (b+2) (t+16))+24))),ent P Y34 (k 9) (u 9)] 10) (frO #[ent P Y37 (k 0) (.ref X.i),ent P Y32 (k 1) (.ref ab),ent P Y21 (k 2) (.ref an),ent P Y38 (k 3) (.ref ah),ent P Y39 (k 4) (.ref at_),ent P Y40 (k 5) (.int kk (t+0)),ent P Y16 (k 6) (.str x tx),ent P Y41 (k 7) (.ref (b+1)),ent P Y42 (k 8) (.str la (t+((16+D1 (b+2) (t+16))+24))),ent P Y34 (TK b' t') (VK b' t')] 10) (riO 0 3) (IT1 b' t') (liO ns en) (liO hv eh) (liO #[(.str p (t+10)),(.str q (t+11))] 0) (liO #[] (e+1)) (PB b' t') X.iO (X.dO P ln) (DA2 b' t') (D2 b' t'))],[2,4,5,6,7,8,9,10,11,12],.ok (.again (forOf (bodyOf K 124) 2 (.ref it) (envOf K 124 fr []))),[((b+((2+DA1 (b+2) (t+16))+0)),tuO #[(.str p (t+10)),(.int nu (TN (b+2) (t+16)))]),(fr,frO #[ent P Y37 (k 0) (.ref X.i),ent P Y32 (k 1) (.ref ab),ent P Y21 (k 2) (.ref an),ent P Y38 (k 3) (.ref ah),ent P Y39 (k 4) (.ref at_),ent P Y40 (k 5) (.int kk (t+0)),ent P Y16 (k 6) (.str x tx),ent P Y41 (k 7) (.ref (b+1)),ent P Y42 (k 8) (.str la (t+((16+D1 (b+2) (t+16))+24))),ent P Y34 (TK (b+((2+DA1 (b+2) (t+16))+9)) (t+((16+D1 (b+2) (t+16))+30))) (VK (b+((2+DA1 (b+2) (t+16))+9)) (t+((16+D1 (b+2) (t+16))+30)))] 10),(it,riO (kk+1) (r-1)),(at_,liO (xs.push (.ref (b+((2+DA1 (b+2) (t+16))+0)))) (ex+1)),(an,liO ns en),(ah,liO hv eh),(ab,liO bs eb),(X.i,X.iO),(X.d,X.dO P ln),(X.p,PB (b+((2+DA1 (b+2) (t+16))+9)) (t+((16+D1 (b+2) (t+16))+30)))],((((2+DA1 (b+2) (t+16))+9)+DA2 (b+((2+DA1 (b+2) (t+16))+9)) (t+((16+D1 (b+2) (t+16))+30)))+0),((((16+D1 (b+2) (t+16))+30)+D2 (b+((2+DA1 (b+2) (t+16))+9)) (t+((16+D1 (b+2) (t+16))+30)))+0),0+GN⟩
def oT1_3Run:RP:=fun T pg=>∀X fr it at_ an ah ab k u kk r xs ns hv bs ex en eh eb ln e x tx p q la nu GN TN DA1 D1 TK DA2 D2 VK IT1 PB b t,JobOk T pg (oT1_3J X fr it at_ an ah ab k u kk r xs ns hv bs ex en eh eb ln e x tx p q la nu GN TN DA1 D1 TK DA2 D2 VK IT1 PB b t) b t
noncomputable def oT2_3J (X:Lx)(fr it at_ an ah ab:Addr)(k:Nat->Tok)(u:Nat->Value)(kk r:Int)(xs ns hv bs:Array Value)(ex en eh eb:Nat)(ln:Value)(e:Nat)(x:Str)(tx:Tok)(y1:Str)(u1:Tok)(p:Str)(q la:Str)(nu:Int)(GN:Nat)(TN DA1 D1 TK DA2 D2:Nat->Nat->Nat)(VK:Nat->Nat->Value)(IT1 PB:Nat->Nat->Obj)(b t:Nat):KJ:=fun K P=>⟨80,forOf (bodyOf K 124) 2 (.ref it) (envOf K 124 fr []),FD (forOf (bodyOf K 124) 2 (.ref it) (envOf K 124 fr [])),[(fr,frO #[ent P Y37 (k 0) (.ref X.i),ent P Y32 (k 1) (.ref ab),ent P Y21 (k 2) (.ref an),ent P Y38 (k 3) (.ref ah),ent P Y39 (k 4) (.ref at_),ent P Y40 (k 5) (u 5),ent P Y16 (k 6) (u 6),ent P Y41 (k 7) (u 7),ent P Y42 (k 8) (u 8),ent P Y34 (k 9) (u 9)] 10),(it,riO kk r),(at_,liO xs ex),(an,liO ns en),(ah,liO hv eh),(ab,liO bs eb),(X.i,X.iO),(X.d,X.dO P ln),(X.p,liO #[.str x tx,.str y1 u1] e)],hs [5,3,4,4,4,10,0,0,0,10,0,0,0,10,0,0,0,0,10,11,0,3,4,4,4,3,5,5,5,7,7,7,7,5,4,4,4,1,4,4,0,5,1,4,4,4,1,4,4,5,5,0,3,3,0,6,0,3,6,6,0,0,0,0,6,3,1,1,4,4,1,4,4,4,4,1,4,4,4,4,4,3] [cNextR it kk r 1,.ctr [6,7,8] (fun b' t' c _=>pop2Sp X ln e x tx y1 u1 b' t' K P),cSplit x Y36 [p,q],.ctr [6,4] (fun b' t' _ _=>numSp ab an q (t+11) (liO bs eb) (liO ns en) nu (TN b' t') (DA1 b' t') (D1 b' t') GN),cApp at_ xs ex 4,.ctr [] (fun b' t' c _=>s1Sp x la (aT c 0) t'),cLenL an ns en 3 5,.ctr [4,0,7,8,3,10,11,12] (fun b' t' _ _=>innSp K fr (b+((2+DA1 (b+2) (t+16))+8)) X an ah (b+1) (frO #[ent P Y37 (k 0) (.ref X.i),ent P Y32 (k 1) (.ref ab),ent P Y21 (k 2) (.ref an),ent P Y38 (k 3) (.ref ah),ent P Y39 (k 4) (.ref at_),ent P Y40 (k 5) (.int kk (t+0)),ent P Y16 (k 6) (.str x tx),ent P Y41 (k 7) (.ref (b+1)),ent P Y42 (k 8) (.str la (t+((16+D1 (b+2) (t+16))+24))),ent P Y34 (k 9) (u 9)] 10) (frO #[ent P Y37 (k 0) (.ref X.i),ent P Y32 (k 1) (.ref ab),ent P Y21 (k 2) (.ref an),ent P Y38 (k 3) (.ref ah),ent P Y39 (k 4) (.ref at_),ent P Y40 (k 5) (.int kk (t+0)),ent P Y16 (k 6) (.str x tx),ent P Y41 (k 7) (.ref (b+1)),ent P Y42 (k 8) (.str la (t+((16+D1 (b+2) (t+16))+24))),ent P Y34 (TK b' t') (VK b' t')] 10) (riO 0 3) (IT1 b' t') (liO ns en) (liO hv eh) (liO #[(.str p (t+10)),(.str q (t+11))] 0) (liO #[.str y1 u1] (e+1)) (PB b' t') X.iO (X.dO P ln) (DA2 b' t') (D2 b' t'))],[2,4,5,6,7,8,9,10,11,12],.ok (.again (forOf (bodyOf K 124) 2 (.ref it) (envOf K 124 fr []))),[((b+((2+DA1 (b+2) (t+16))+0)),tuO #[(.str p (t+10)),(.int nu (TN (b+2) (t+16)))]),(fr,frO #[ent P Y37 (k 0) (.ref X.i),ent P Y32 (k 1) (.ref ab),ent P Y21 (k 2) (.ref an),ent P Y38 (k 3) (.ref ah),ent P Y39 (k 4) (.ref at_),ent P Y40 (k 5) (.int kk (t+0)),ent P Y16 (k 6) (.str x tx),ent P Y41 (k 7) (.ref (b+1)),ent P Y42 (k 8) (.str la (t+((16+D1 (b+2) (t+16))+24))),ent P Y34 (TK (b+((2+DA1 (b+2) (t+16))+9)) (t+((16+D1 (b+2) (t+16))+30))) (VK (b+((2+DA1 (b+2) (t+16))+9)) (t+((16+D1 (b+2) (t+16))+30)))] 10),(it,riO (kk+1) (r-1)),(at_,liO (xs.push (.ref (b+((2+DA1 (b+2) (t+16))+0)))) (ex+1)),(an,liO ns en),(ah,liO hv eh),(ab,liO bs eb),(X.i,X.iO),(X.d,X.dO P ln),(X.p,PB (b+((2+DA1 (b+2) (t+16))+9)) (t+((16+D1 (b+2) (t+16))+30)))],((((2+DA1 (b+2) (t+16))+9)+DA2 (b+((2+DA1 (b+2) (t+16))+9)) (t+((16+D1 (b+2) (t+16))+30)))+0),((((16+D1 (b+2) (t+16))+30)+D2 (b+((2+DA1 (b+2) (t+16))+9)) (t+((16+D1 (b+2) (t+16))+30)))+0),0+GN⟩
def oT2_3Run:RP:=fun T pg=>∀X fr it at_ an ah ab k u kk r xs ns hv bs ex en eh eb ln e x tx y1 u1 p q la nu GN TN DA1 D1 TK DA2 D2 VK IT1 PB b t,JobOk T pg (oT2_3J X fr it at_ an ah ab k u kk r xs ns hv bs ex en eh eb ln e x tx y1 u1 p q la nu GN TN DA1 D1 TK DA2 D2 VK IT1 PB b t) b t
structure Tp where
  a:Addr
  x:Str
  tx:Tok
  v:Int
  tv:Tok
noncomputable abbrev Tp.o (q:Tp):Addr×Obj:=(q.a,tuO #[.str q.x q.tx,.int q.v q.tv])
noncomputable def tpLed (n:Nat)(f:Nat->Tp):Led:=((List.range n).map fun i=>(f (n-1-i)).o)
noncomputable def tpRefs (n:Nat)(f:Nat->Tp):Array Value:=((List.range n).map fun i=>Value.ref (f i).a).toArray
noncomputable abbrev stSp (x r:Str)(tx tr:Tok)(da dt gn:Nat):Sp:=⟨40,.call (.ref 42) ⟨[.str x tx],[]⟩,[],.ok (.ret (.str r tr)),[],[],da,dt,gn⟩
noncomputable def num4Sp (ab an:Addr)(eb en:Nat)(z0 z1 z2 z3:Int)(tz0 tz1 tz2 tz3:Tok)(n0 n1 n2 n3:Str)(tn0 tn1 tn2 tn3:Tok)(q sh:Str)(tq:Tok)(nu:Int)(GN:Nat)(TS DA0 D0 TN TK DA1 D1:Nat->Nat->Nat)(VK:Nat->Nat->Value)(IT:Nat->Nat->Obj)(b t:Nat)(K:KT)(P:Params):Sp:=numSp ab an q tq (liO #[.int z0 tz0,.int z1 tz1,.int z2 tz2,.int z3 tz3] eb) (liO #[.str n0 tn0,.str n1 tn1,.str n2 tn2,.str n3 tn3] en) nu (TN (b+((1+DA0 (b+1) (t+5))+2)) (t+((5+D0 (b+1) (t+5))+7))) (((((1+DA0 (b+1) (t+5))+2)+DA1 (b+((1+DA0 (b+1) (t+5))+2)) (t+((5+D0 (b+1) (t+5))+7)))+0)) (((((5+D0 (b+1) (t+5))+7)+D1 (b+((1+DA0 (b+1) (t+5))+2)) (t+((5+D0 (b+1) (t+5))+7)))+0)) (0+GN)
def num4Run:RP:=fun T pg=>∀ab an eb en z0 z1 z2 z3 tz0 tz1 tz2 tz3 n0 n1 n2 n3 tn0 tn1 tn2 tn3 q sh tq nu GN TS DA0 D0 TN TK DA1 D1 VK IT b t,JobOk T pg (fun K P=>jobTF (num4Sp ab an eb en z0 z1 z2 z3 tz0 tz1 tz2 tz3 n0 n1 n2 n3 tn0 tn1 tn2 tn3 q sh tq nu GN TS DA0 D0 TN TK DA1 D1 VK IT b t K P) [0,0,4,4,4,4,4,4,0,1,0,4,3,0,3,4,4,4,4,0,0,0,0,4,1,6,1,6,6,1,1,4,4,1,4,4,4,4,1,4,4,4,4,4,3,6] [cAdd q Y3,.ctr [] (fun b' t' _ _=>stSp (q++Y3) sh (t'-1) (TS b' t') (DA0 b' t') (D0 b' t') GN),.ctr [2,0,3,4] (fun b' t' _ _=>⟨40,forOf (bodyOf K 110) 2 (.ref (b+((1+DA0 (b+1) (t+5))+1))) (envOf K 110 (b+0) []),[((b+0),frO #[ent P Y31 (t+0) (.str q tq),ent P Y32 (t+1) (.ref ab),ent P Y21 (t+2) (.ref an),ent P Y33 (t+((5+D0 (b+1) (t+5))+0)) (.str sh (TS (b+1) (t+5))),ent P Y27 (t+((5+D0 (b+1) (t+5))+2)) (.int 0 (t+((5+D0 (b+1) (t+5))+1)))] 5),((b+((1+DA0 (b+1) (t+5))+1)),riO 0 4),(ab,liO #[.int z0 tz0,.int z1 tz1,.int z2 tz2,.int z3 tz3] eb),(an,liO #[.str n0 tn0,.str n1 tn1,.str n2 tn2,.str n3 tn3] en)],.ok .next,[frO #[ent P Y31 (t+0) (.str q tq),ent P Y32 (t+1) (.ref ab),ent P Y21 (t+2) (.ref an),ent P Y33 (t+((5+D0 (b+1) (t+5))+0)) (.str sh (TS (b+1) (t+5))),ent P Y27 (t+((5+D0 (b+1) (t+5))+2)) (.int nu (TN b' t')),ent P Y34 (TK b' t') (VK b' t')] 6,(IT b' t'),liO #[.int z0 tz0,.int z1 tz1,.int z2 tz2,.int z3 tz3] eb,liO #[.str n0 tn0,.str n1 tn1,.str n2 tn2,.str n3 tn3] en],[],(DA1 b' t'),(D1 b' t'),0⟩)] [3,4]) b t
theorem num4_ok {T:Params->KT}{prog:Program}{w:World}(H:num4Run T prog)(ab an:Addr)(eb en:Nat)(z0 z1 z2 z3:Int)(tz0 tz1 tz2 tz3:Tok)(n0 n1 n2 n3:Str)(tn0 tn1 tn2 tn3:Tok)(q sh:Str)(tq:Tok)(nu:Int)(GN:Nat)(TS DA0 D0 TN TK DA1 D1:Nat->Nat->Nat)(VK:Nat->Nat->Value)(IT:Nat->Nat->Obj)(b t:Nat)(h0:q.length≠0)(h1:Y3.length≠0)(h2:(q++Y3).length<=sizeLine)(hs:COk (T w.params) prog w b t (fun b' t' _ _=>stSp (q++Y3) sh (t'-1) (TS b' t') (DA0 b' t') (D0 b' t') GN))(hl:COk (T w.params) prog w b t (fun b' t' _ _=>⟨40,forOf (bodyOf (T w.params) 110) 2 (.ref (b+((1+DA0 (b+1) (t+5))+1))) (envOf (T w.params) 110 (b+0) []),[((b+0),frO #[ent w.params Y31 (t+0) (.str q tq),ent w.params Y32 (t+1) (.ref ab),ent w.params Y21 (t+2) (.ref an),ent w.params Y33 (t+((5+D0 (b+1) (t+5))+0)) (.str sh (TS (b+1) (t+5))),ent w.params Y27 (t+((5+D0 (b+1) (t+5))+2)) (.int 0 (t+((5+D0 (b+1) (t+5))+1)))] 5),((b+((1+DA0 (b+1) (t+5))+1)),riO 0 4),(ab,liO #[.int z0 tz0,.int z1 tz1,.int z2 tz2,.int z3 tz3] eb),(an,liO #[.str n0 tn0,.str n1 tn1,.str n2 tn2,.str n3 tn3] en)],.ok .next,[frO #[ent w.params Y31 (t+0) (.str q tq),ent w.params Y32 (t+1) (.ref ab),ent w.params Y21 (t+2) (.ref an),ent w.params Y33 (t+((5+D0 (b+1) (t+5))+0)) (.str sh (TS (b+1) (t+5))),ent w.params Y27 (t+((5+D0 (b+1) (t+5))+2)) (.int nu (TN b' t')),ent w.params Y34 (TK b' t') (VK b' t')] 6,(IT b' t'),liO #[.int z0 tz0,.int z1 tz1,.int z2 tz2,.int z3 tz3] eb,liO #[.str n0 tn0,.str n1 tn1,.str n2 tn2,.str n3 tn3] en],[],(DA1 b' t'),(D1 b' t'),0⟩)):JSp T prog w (num4Sp ab an eb en z0 z1 z2 z3 tz0 tz1 tz2 tz3 n0 n1 n2 n3 tn0 tn1 tn2 tn3 q sh tq nu GN TS DA0 D0 TN TK DA1 D1 VK IT b t) b t:=jobOf_ok (H ab an eb en z0 z1 z2 z3 tz0 tz1 tz2 tz3 n0 n1 n2 n3 tn0 tn1 tn2 tn3 q sh tq nu GN TS DA0 D0 TN TK DA1 D1 VK IT b t) (.inr rfl) rfl (by decide) ⟨cAdd_ok h0 h1 h2,hs,hl,trivial⟩
noncomputable def num3Sp (ab an:Addr)(eb en:Nat)(z0 z1 z2:Int)(tz0 tz1 tz2:Tok)(n0 n1 n2:Str)(tn0 tn1 tn2:Tok)(q sh:Str)(tq:Tok)(nu:Int)(GN:Nat)(TS DA0 D0 TN TK DA1 D1:Nat->Nat->Nat)(VK:Nat->Nat->Value)(IT:Nat->Nat->Obj)(b t:Nat)(K:KT)(P:Params):Sp:=numSp ab an q tq (liO #[.int z0 tz0,.int z1 tz1,.int z2 tz2] eb) (liO #[.str n0 tn0,.str n1 tn1,.str n2 tn2] en) nu (TN (b+((1+DA0 (b+1) (t+5))+2)) (t+((5+D0 (b+1) (t+5))+7))) (((((1+DA0 (b+1) (t+5))+2)+DA1 (b+((1+DA0 (b+1) (t+5))+2)) (t+((5+D0 (b+1) (t+5))+7)))+0)) (((((5+D0 (b+1) (t+5))+7)+D1 (b+((1+DA0 (b+1) (t+5))+2)) (t+((5+D0 (b+1) (t+5))+7)))+0)) (0+GN)
def num3Run:RP:=fun T pg=>∀ab an eb en z0 z1 z2 tz0 tz1 tz2 n0 n1 n2 tn0 tn1 tn2 q sh tq nu GN TS DA0 D0 TN TK DA1 D1 VK IT b t,JobOk T pg (fun K P=>jobTF (num3Sp ab an eb en z0 z1 z2 tz0 tz1 tz2 n0 n1 n2 tn0 tn1 tn2 q sh tq nu GN TS DA0 D0 TN TK DA1 D1 VK IT b t K P) [0,0,4,4,4,4,4,4,0,1,0,4,3,0,3,4,4,4,4,0,0,0,0,4,1,6,1,6,6,1,1,4,4,1,4,4,4,4,1,4,4,4,4,4,3,6] [cAdd q Y3,.ctr [] (fun b' t' _ _=>stSp (q++Y3) sh (t'-1) (TS b' t') (DA0 b' t') (D0 b' t') GN),.ctr [2,0,3,4] (fun b' t' _ _=>⟨40,forOf (bodyOf K 110) 2 (.ref (b+((1+DA0 (b+1) (t+5))+1))) (envOf K 110 (b+0) []),[((b+0),frO #[ent P Y31 (t+0) (.str q tq),ent P Y32 (t+1) (.ref ab),ent P Y21 (t+2) (.ref an),ent P Y33 (t+((5+D0 (b+1) (t+5))+0)) (.str sh (TS (b+1) (t+5))),ent P Y27 (t+((5+D0 (b+1) (t+5))+2)) (.int 0 (t+((5+D0 (b+1) (t+5))+1)))] 5),((b+((1+DA0 (b+1) (t+5))+1)),riO 0 3),(ab,liO #[.int z0 tz0,.int z1 tz1,.int z2 tz2] eb),(an,liO #[.str n0 tn0,.str n1 tn1,.str n2 tn2] en)],.ok .next,[frO #[ent P Y31 (t+0) (.str q tq),ent P Y32 (t+1) (.ref ab),ent P Y21 (t+2) (.ref an),ent P Y33 (t+((5+D0 (b+1) (t+5))+0)) (.str sh (TS (b+1) (t+5))),ent P Y27 (t+((5+D0 (b+1) (t+5))+2)) (.int nu (TN b' t')),ent P Y34 (TK b' t') (VK b' t')] 6,(IT b' t'),liO #[.int z0 tz0,.int z1 tz1,.int z2 tz2] eb,liO #[.str n0 tn0,.str n1 tn1,.str n2 tn2] en],[],(DA1 b' t'),(D1 b' t'),0⟩)] [3,4]) b t
theorem num3_ok {T:Params->KT}{prog:Program}{w:World}(H:num3Run T prog)(ab an:Addr)(eb en:Nat)(z0 z1 z2:Int)(tz0 tz1 tz2:Tok)(n0 n1 n2:Str)(tn0 tn1 tn2:Tok)(q sh:Str)(tq:Tok)(nu:Int)(GN:Nat)(TS DA0 D0 TN TK DA1 D1:Nat->Nat->Nat)(VK:Nat->Nat->Value)(IT:Nat->Nat->Obj)(b t:Nat)(h0:q.length≠0)(h1:Y3.length≠0)(h2:(q++Y3).length<=sizeLine)(hs:COk (T w.params) prog w b t (fun b' t' _ _=>stSp (q++Y3) sh (t'-1) (TS b' t') (DA0 b' t') (D0 b' t') GN))(hl:COk (T w.params) prog w b t (fun b' t' _ _=>⟨40,forOf (bodyOf (T w.params) 110) 2 (.ref (b+((1+DA0 (b+1) (t+5))+1))) (envOf (T w.params) 110 (b+0) []),[((b+0),frO #[ent w.params Y31 (t+0) (.str q tq),ent w.params Y32 (t+1) (.ref ab),ent w.params Y21 (t+2) (.ref an),ent w.params Y33 (t+((5+D0 (b+1) (t+5))+0)) (.str sh (TS (b+1) (t+5))),ent w.params Y27 (t+((5+D0 (b+1) (t+5))+2)) (.int 0 (t+((5+D0 (b+1) (t+5))+1)))] 5),((b+((1+DA0 (b+1) (t+5))+1)),riO 0 3),(ab,liO #[.int z0 tz0,.int z1 tz1,.int z2 tz2] eb),(an,liO #[.str n0 tn0,.str n1 tn1,.str n2 tn2] en)],.ok .next,[frO #[ent w.params Y31 (t+0) (.str q tq),ent w.params Y32 (t+1) (.ref ab),ent w.params Y21 (t+2) (.ref an),ent w.params Y33 (t+((5+D0 (b+1) (t+5))+0)) (.str sh (TS (b+1) (t+5))),ent w.params Y27 (t+((5+D0 (b+1) (t+5))+2)) (.int nu (TN b' t')),ent w.params Y34 (TK b' t') (VK b' t')] 6,(IT b' t'),liO #[.int z0 tz0,.int z1 tz1,.int z2 tz2] eb,liO #[.str n0 tn0,.str n1 tn1,.str n2 tn2] en],[],(DA1 b' t'),(D1 b' t'),0⟩)):JSp T prog w (num3Sp ab an eb en z0 z1 z2 tz0 tz1 tz2 n0 n1 n2 tn0 tn1 tn2 q sh tq nu GN TS DA0 D0 TN TK DA1 D1 VK IT b t) b t:=jobOf_ok (H ab an eb en z0 z1 z2 tz0 tz1 tz2 n0 n1 n2 tn0 tn1 tn2 q sh tq nu GN TS DA0 D0 TN TK DA1 D1 VK IT b t) (.inr rfl) rfl (by decide) ⟨cAdd_ok h0 h1 h2,hs,hl,trivial⟩
noncomputable def wlk4Sp (X:Lx)(ab an:Addr)(bs ns:Array Value)(eb en:Nat)(ln:Value)(e:Nat)(x:Str)(tx:Tok)(GN:Nat)(HV:Nat->Nat->Array Value)(KF:Nat->Nat->Nat->Tok)(VF:Nat->Nat->Nat->Value)(IT PB:Nat->Nat->Obj)(EX DA D:Nat->Nat->Nat)(TU:Nat->Nat->Nat->Tp)(b t:Nat)(K:KT)(P:Params):Sp:=⟨100,.call (.ref 124) ⟨[.ref X.i,.ref ab,.ref an],[]⟩,[(X.i,X.iO),(X.d,X.dO P ln),(X.p,liO #[.str x tx] e),(ab,liO bs eb),(an,liO ns en)],.ok (.ret (.ref (b+12))),[X.iO,X.dO P ln,PB (b+15) (t+66),liO bs eb,liO ns en],((b+12),liO (tpRefs 16 (TU (b+15) (t+66))) (EX (b+15) (t+66)))::tpLed 16 (TU (b+15) (t+66)),((15+DA (b+15) (t+66))+0),((66+D (b+15) (t+66))+0),0+GN⟩
def wlk4Run:RP:=fun T pg=>∀X ab an bs ns eb en ln e x tx GN HV KF VF IT PB EX DA D TU b t,JobOk T pg (fun K P=>jobTF (wlk4Sp X ab an bs ns eb en ln e x tx GN HV KF VF IT PB EX DA D TU b t K P) [0,0,4,4,4,4,4,4,0,1,0,4,4,0,3,5,5,6,6,0,0,0,0,6,3,1,1,1,4,4,1,4,4,4,4,1,4,4,4,4,4,3,24] [.ctr [4,5] (fun b' t' _ _=>⟨8,.call (.ref 103) ⟨[.ref ab,.ref an],[]⟩,[(ab,liO bs eb),(an,liO ns en)],.ok (.ret (.ref (b'+2))),[liO bs eb,liO ns en],[(b'+2,liO (HV b' t') 4)],11,55,0⟩),cLenL an ns en 4 7,.ctr [4,0,2,9,3,8,5,6,7] (fun b' t' _ _=>⟨90,forOf (bodyOf K 124) 2 (.ref (b+14)) (envOf K 124 (b+0) []),[((b+0),frO #[ent P Y37 (t+0) (.ref X.i),ent P Y32 (t+1) (.ref ab),ent P Y21 (t+2) (.ref an),ent P Y38 (t+58) (.ref (b+3)),ent P Y39 (t+59) (.ref (b+12))] 5),((b+14),riO 0 16),((b+12),liO #[] 0),(an,liO ns en),((b+3),liO (HV (b+1) (t+3)) 4),(ab,liO bs eb),(X.i,X.iO),(X.d,X.dO P ln),(X.p,liO #[.str x tx] e)],.ok .next,[frO #[ent P Y37 (KF b' t' 0) (.ref X.i),ent P Y32 (KF b' t' 1) (.ref ab),ent P Y21 (KF b' t' 2) (.ref an),ent P Y38 (KF b' t' 3) (.ref (b+3)),ent P Y39 (KF b' t' 4) (.ref (b+12)),ent P Y40 (KF b' t' 5) (VF b' t' 5),ent P Y16 (KF b' t' 6) (VF b' t' 6),ent P Y41 (KF b' t' 7) (VF b' t' 7),ent P Y42 (KF b' t' 8) (VF b' t' 8),ent P Y34 (KF b' t' 9) (VF b' t' 9)] 10,IT b' t',liO (tpRefs 16 (TU b' t')) (EX b' t'),liO ns en,liO (HV (b+1) (t+3)) 4,liO bs eb,X.iO,X.dO P ln,PB b' t'],tpLed 16 (TU b' t'),DA b' t',D b' t',GN⟩)] [18,0,1,2,3,4,5,6,7,8,9,10,11,12,13,14,15,21,22,23,24,25]) b t
theorem wlk4_ok {T:Params->KT}{prog:Program}{w:World}(H:wlk4Run T prog)(X:Lx)(ab an:Addr)(bs ns:Array Value)(eb en:Nat)(ln:Value)(e:Nat)(x:Str)(tx:Tok)(GN:Nat)(HV:Nat->Nat->Array Value)(KF:Nat->Nat->Nat->Tok)(VF:Nat->Nat->Nat->Value)(IT PB:Nat->Nat->Obj)(EX DA D:Nat->Nat->Nat)(TU:Nat->Nat->Nat->Tp)(b t:Nat)(h0:ns.size=4)(h1:4<=sizeLine)(hh:COk (T w.params) prog w b t (fun b' t' _ _=>⟨8,.call (.ref 103) ⟨[.ref ab,.ref an],[]⟩,[(ab,liO bs eb),(an,liO ns en)],.ok (.ret (.ref (b'+2))),[liO bs eb,liO ns en],[(b'+2,liO (HV b' t') 4)],11,55,0⟩))(hl:COk (T w.params) prog w b t (fun b' t' _ _=>⟨90,forOf (bodyOf (T w.params) 124) 2 (.ref (b+14)) (envOf (T w.params) 124 (b+0) []),[((b+0),frO #[ent w.params Y37 (t+0) (.ref X.i),ent w.params Y32 (t+1) (.ref ab),ent w.params Y21 (t+2) (.ref an),ent w.params Y38 (t+58) (.ref (b+3)),ent w.params Y39 (t+59) (.ref (b+12))] 5),((b+14),riO 0 16),((b+12),liO #[] 0),(an,liO ns en),((b+3),liO (HV (b+1) (t+3)) 4),(ab,liO bs eb),(X.i,X.iO),(X.d,X.dO w.params ln),(X.p,liO #[.str x tx] e)],.ok .next,[frO #[ent w.params Y37 (KF b' t' 0) (.ref X.i),ent w.params Y32 (KF b' t' 1) (.ref ab),ent w.params Y21 (KF b' t' 2) (.ref an),ent w.params Y38 (KF b' t' 3) (.ref (b+3)),ent w.params Y39 (KF b' t' 4) (.ref (b+12)),ent w.params Y40 (KF b' t' 5) (VF b' t' 5),ent w.params Y16 (KF b' t' 6) (VF b' t' 6),ent w.params Y41 (KF b' t' 7) (VF b' t' 7),ent w.params Y42 (KF b' t' 8) (VF b' t' 8),ent w.params Y34 (KF b' t' 9) (VF b' t' 9)] 10,IT b' t',liO (tpRefs 16 (TU b' t')) (EX b' t'),liO ns en,liO (HV (b+1) (t+3)) 4,liO bs eb,X.iO,X.dO w.params ln,PB b' t'],tpLed 16 (TU b' t'),DA b' t',D b' t',GN⟩)):JSp T prog w (wlk4Sp X ab an bs ns eb en ln e x tx GN HV KF VF IT PB EX DA D TU b t) b t:=jobOf_ok (H X ab an bs ns eb en ln e x tx GN HV KF VF IT PB EX DA D TU b t) (.inr rfl) rfl (by decide) ⟨hh,cLenL_ok h0 h1,hl,trivial⟩
noncomputable def wlk3Sp (X:Lx)(ab an:Addr)(bs ns:Array Value)(eb en:Nat)(ln:Value)(e:Nat)(x:Str)(tx:Tok)(GN:Nat)(HV:Nat->Nat->Array Value)(KF:Nat->Nat->Nat->Tok)(VF:Nat->Nat->Nat->Value)(IT PB:Nat->Nat->Obj)(EX DA D:Nat->Nat->Nat)(TU:Nat->Nat->Nat->Tp)(b t:Nat)(K:KT)(P:Params):Sp:=⟨100,.call (.ref 124) ⟨[.ref X.i,.ref ab,.ref an],[]⟩,[(X.i,X.iO),(X.d,X.dO P ln),(X.p,liO #[.str x tx] e),(ab,liO bs eb),(an,liO ns en)],.ok (.ret (.ref (b+11))),[X.iO,X.dO P ln,PB (b+14) (t+54),liO bs eb,liO ns en],((b+11),liO (tpRefs 8 (TU (b+14) (t+54))) (EX (b+14) (t+54)))::tpLed 8 (TU (b+14) (t+54)),((14+DA (b+14) (t+54))+0),((54+D (b+14) (t+54))+0),0+GN⟩
def wlk3Run:RP:=fun T pg=>∀X ab an bs ns eb en ln e x tx GN HV KF VF IT PB EX DA D TU b t,JobOk T pg (fun K P=>jobTF (wlk3Sp X ab an bs ns eb en ln e x tx GN HV KF VF IT PB EX DA D TU b t K P) [0,0,4,4,4,4,4,4,0,1,0,4,4,0,3,5,5,6,6,0,0,0,0,6,3,1,1,1,4,4,1,4,4,4,4,1,4,4,4,4,4,3,16] [.ctr [4,5] (fun b' t' _ _=>⟨8,.call (.ref 103) ⟨[.ref ab,.ref an],[]⟩,[(ab,liO bs eb),(an,liO ns en)],.ok (.ret (.ref (b'+2))),[liO bs eb,liO ns en],[(b'+2,liO (HV b' t') 3)],10,43,0⟩),cLenL an ns en 3 7,.ctr [4,0,2,9,3,8,5,6,7] (fun b' t' _ _=>⟨90,forOf (bodyOf K 124) 2 (.ref (b+13)) (envOf K 124 (b+0) []),[((b+0),frO #[ent P Y37 (t+0) (.ref X.i),ent P Y32 (t+1) (.ref ab),ent P Y21 (t+2) (.ref an),ent P Y38 (t+46) (.ref (b+3)),ent P Y39 (t+47) (.ref (b+11))] 5),((b+13),riO 0 8),((b+11),liO #[] 0),(an,liO ns en),((b+3),liO (HV (b+1) (t+3)) 3),(ab,liO bs eb),(X.i,X.iO),(X.d,X.dO P ln),(X.p,liO #[.str x tx] e)],.ok .next,[frO #[ent P Y37 (KF b' t' 0) (.ref X.i),ent P Y32 (KF b' t' 1) (.ref ab),ent P Y21 (KF b' t' 2) (.ref an),ent P Y38 (KF b' t' 3) (.ref (b+3)),ent P Y39 (KF b' t' 4) (.ref (b+11)),ent P Y40 (KF b' t' 5) (VF b' t' 5),ent P Y16 (KF b' t' 6) (VF b' t' 6),ent P Y41 (KF b' t' 7) (VF b' t' 7),ent P Y42 (KF b' t' 8) (VF b' t' 8),ent P Y34 (KF b' t' 9) (VF b' t' 9)] 10,IT b' t',liO (tpRefs 8 (TU b' t')) (EX b' t'),liO ns en,liO (HV (b+1) (t+3)) 3,liO bs eb,X.iO,X.dO P ln,PB b' t'],tpLed 8 (TU b' t'),DA b' t',D b' t',GN⟩)] [10,0,1,2,3,4,5,6,7,13,14,15,16,17]) b t
theorem wlk3_ok {T:Params->KT}{prog:Program}{w:World}(H:wlk3Run T prog)(X:Lx)(ab an:Addr)(bs ns:Array Value)(eb en:Nat)(ln:Value)(e:Nat)(x:Str)(tx:Tok)(GN:Nat)(HV:Nat->Nat->Array Value)(KF:Nat->Nat->Nat->Tok)(VF:Nat->Nat->Nat->Value)(IT PB:Nat->Nat->Obj)(EX DA D:Nat->Nat->Nat)(TU:Nat->Nat->Nat->Tp)(b t:Nat)(h0:ns.size=3)(h1:3<=sizeLine)(hh:COk (T w.params) prog w b t (fun b' t' _ _=>⟨8,.call (.ref 103) ⟨[.ref ab,.ref an],[]⟩,[(ab,liO bs eb),(an,liO ns en)],.ok (.ret (.ref (b'+2))),[liO bs eb,liO ns en],[(b'+2,liO (HV b' t') 3)],10,43,0⟩))(hl:COk (T w.params) prog w b t (fun b' t' _ _=>⟨90,forOf (bodyOf (T w.params) 124) 2 (.ref (b+13)) (envOf (T w.params) 124 (b+0) []),[((b+0),frO #[ent w.params Y37 (t+0) (.ref X.i),ent w.params Y32 (t+1) (.ref ab),ent w.params Y21 (t+2) (.ref an),ent w.params Y38 (t+46) (.ref (b+3)),ent w.params Y39 (t+47) (.ref (b+11))] 5),((b+13),riO 0 8),((b+11),liO #[] 0),(an,liO ns en),((b+3),liO (HV (b+1) (t+3)) 3),(ab,liO bs eb),(X.i,X.iO),(X.d,X.dO w.params ln),(X.p,liO #[.str x tx] e)],.ok .next,[frO #[ent w.params Y37 (KF b' t' 0) (.ref X.i),ent w.params Y32 (KF b' t' 1) (.ref ab),ent w.params Y21 (KF b' t' 2) (.ref an),ent w.params Y38 (KF b' t' 3) (.ref (b+3)),ent w.params Y39 (KF b' t' 4) (.ref (b+11)),ent w.params Y40 (KF b' t' 5) (VF b' t' 5),ent w.params Y16 (KF b' t' 6) (VF b' t' 6),ent w.params Y41 (KF b' t' 7) (VF b' t' 7),ent w.params Y42 (KF b' t' 8) (VF b' t' 8),ent w.params Y34 (KF b' t' 9) (VF b' t' 9)] 10,IT b' t',liO (tpRefs 8 (TU b' t')) (EX b' t'),liO ns en,liO (HV (b+1) (t+3)) 3,liO bs eb,X.iO,X.dO w.params ln,PB b' t'],tpLed 8 (TU b' t'),DA b' t',D b' t',GN⟩)):JSp T prog w (wlk3Sp X ab an bs ns eb en ln e x tx GN HV KF VF IT PB EX DA D TU b t) b t:=jobOf_ok (H X ab an bs ns eb en ln e x tx GN HV KF VF IT PB EX DA D TU b t) (.inr rfl) rfl (by decide) ⟨hh,cLenL_ok h0 h1,hl,trivial⟩
end
inductive Ring:Int->Nat->Int->Prop
  | odd {g} (h:(Int.fmod g 2==0)=false):Ring g 0 g
  | even {g q m o} (h:(Int.fmod g 2==0)=true) (hq:∀t u,Builtin.«int.__floordiv__» ⟨[.int g t,.int 2 u],[]⟩=(Made.int q).tree) (hr:Ring q m o):Ring g (m+1) o
abbrev wyG (P:Params)(k:Nat->Tok)(u:Nat->Value)(g r:Int)(tg tr:Tok):Obj:=wyF P k (fun i=>match i with | 8=>.int g tg | 9=>.int r tr | i=>u i)
section
variable {T:Params->KT}{prog:Program}{w:World}
theorem while_tr (Hl:whlRun T prog)(Hx:whxRun T prog)(fr:Addr)(k:Nat->Tok)(u:Nat->Value){g:Int}{m:Nat}{o:Int}(hR:Ring g m o):∀(r:Int)(tg tr:Tok)(t:Nat),∃tg' tr' d,∀b,
    Tr (T w.params) prog w 5 (whSp (T w.params) fr default default 0).c [(fr,wyG w.params k u g r tg tr)] b t (.ok (.done .next)) [(fr,wyG w.params k u o (r+m) tg' tr')] 0 d 0:=by
  induction hR with
  | odd h=>
    intro r tg tr t
    exact ⟨tg,tr,_,fun b=>by
      have z:=jtr (w:=w) (Hx fr k u _ r tg tr b t) rfl ⟨cIeq_ok h,trivial⟩
      rw [show (r+((0:Nat):Int))=r by simp]
      exact z⟩
  | @even g q m o h hq hr ih=>
    intro r tg tr t
    obtain ⟨tg',tr',d,z2⟩:=ih (r+1) (t+4) (t+7) (t+9)
    refine ⟨tg',tr',9+d,fun b=>?_⟩
    have z:=jtr (w:=w) (Hl fr k u _ r _ tg tr b t) rfl ⟨cIeq_ok h,cFdiv_ok hq,trivial⟩
    have:=Tr.trans z (z2 (b+0))
    rw [show (r+((m+1:Nat):Int))=r+1+(m:Int) by push_cast;omega]
    exact this
theorem while_ok (Hl:whlRun T prog)(Hx:whxRun T prog)(fr:Addr)(k:Nat->Tok)(u:Nat->Value){g:Int}{m:Nat}{o:Int}(hR:Ring g m o)(tg tr:Tok):∃TG TR D:Nat->Nat,∀b' t',
    SpOk (T w.params) prog w (whSp (T w.params) fr (wyG w.params k u g 0 tg tr) (wyG w.params k u o m (TG t') (TR t')) (D t')) b' t':=by
  have h:=fun t=>while_tr (w:=w) Hl Hx fr k u hR 0 tg tr t
  obtain ⟨TG,h⟩:=Classical.axiomOfChoice h
  obtain ⟨TR,h⟩:=Classical.axiomOfChoice h
  obtain ⟨D,hW⟩:=Classical.axiomOfChoice h
  refine ⟨TG,TR,D,fun b' t'=>Tr.sp ?_ rfl⟩
  have:=hW t' b'
  rw [show (0:Int)+(m:Int)=m by omega] at this
  exact this
end
section
open Builtin Builtin.Str
noncomputable def pathR (nmS:Nat->Str):List Nat->Str
  | []=>Y2
  | r::rs=>if rs.isEmpty then Y30++nmS r else pathR nmS rs++(Y30++nmS r)
theorem pathR_cons {nmS:Nat->Str}{r:Nat}{rs:List Nat}(h:rs≠[]):pathR nmS (r::rs)=pathR nmS rs++(Y30++nmS r):=by
  cases rs with
  | nil=>exact absurd rfl h
  | cons a l=>rfl
theorem pathR_len {nmS:Nat->Str}(hlen:∀j,(nmS j).length=1):∀rs:List Nat,(pathR nmS rs).length=2*rs.length
  | []=>rfl
  | [r]=>by show (Y30++nmS r:Str).length=_;rw [Str.length_append,hlen];rfl
  | r::a::l=>by
    rw [pathR_cons (List.cons_ne_nil _ _),Str.length_append,Str.length_append,hlen,pathR_len hlen (a::l)]
    have:Y30.length=1:=rfl
    simp only [List.length_cons]
    omega
theorem pathR_ne {nmS:Nat->Str}(hlen:∀j,(nmS j).length=1){rs:List Nat}(h:rs≠[]):(pathR nmS rs).length≠0:=by
  rw [pathR_len hlen]
  cases rs with
  | nil=>exact absurd rfl h
  | cons a l=>simp
noncomputable def ringOf (g:Nat):Nat:=if g % 2==1 then 0 else if g / 2 % 2==1 then 1 else if g / 4 % 2==1 then 2 else 3
theorem Tr.perm {kt:KT}{prog:Program}{w:World}{n:Nat}{c:Code}{L M M2:Led}{b t da dt g:Nat}{res:Except Value Fin}(h:Tr kt prog w n c L b t res M da dt g)(p:M2.Perm M):Tr kt prog w n c L b t res M2 da dt g:=
  h.less (fun q hq=>p.mem_iff.mp hq) fun nd=>(p.map _).nodup_iff.mpr nd
theorem Tr.permL {kt:KT}{prog:Program}{w:World}{n:Nat}{c:Code}{L L2 M:Led}{b t da dt g:Nat}{res:Except Value Fin}(h:Tr kt prog w n c L b t res M da dt g)(p:L2.Perm L):Tr kt prog w n c L2 b t res M da dt g:=fun G A R s hr hi hfin=>
  h G A R s hr (hi.sub (fun q hq=>p.mem_iff.mpr hq) ((p.map _).nodup_iff.mp hi.nd)) fun s' I S N=>hfin s' I ⟨fun a o ha ho=>S.keep a o (fun m=>ha ((p.map _).mem_iff.mpr m)) ho,S.os,S.grow⟩ fun q hq=>by
    rcases N q hq with m | m
    · exact .inl ((p.map _).mem_iff.mpr m)
    · exact .inr m
theorem Tr.stepN {kt:KT}{prog:Program}{w:World}{n:Nat}{c c2:Code}{L L2 M new old:Led}{b t da dt da2 dt2:Nat}{res:Except Value Fin}(z:Tr kt prog w n c L b t (.ok (.again c2)) (old++L2) da dt 0)
    (z2:Tr kt prog w n c2 L2 (b+da) (t+dt) res (new++M) da2 dt2 0):Tr kt prog w n c L b t res ((new++old)++M) (da+da2) (dt+dt2) 0:=by
  have a:=z.perm (M2:=L2++old) List.perm_append_comm
  have c:=a.trans (z2.frame (N:=old))
  refine c.perm ?_
  rw [List.append_assoc,List.append_assoc]
  exact List.Perm.append_left _ List.perm_append_comm
noncomputable def inR (N a:Int):Bool:=decide (0<=a)&&decide (a<N)
noncomputable def sdV (N a:Int)(v:Bool)(r:List Nat):List Nat:=match inR N a with
  | true=>ringOf (gv v a).toNat::r
  | false=>r
noncomputable def sdY (N a:Int)(v:Bool)(r:List Nat):List (List Nat×Int):=match inR N a with
  | true=>[(ringOf (gv v a).toNat::r,a)]
  | false=>[]
noncomputable def wayGo (o:Bool)(N s:Int):Nat->Int->List Nat->List Nat->List (List Nat×Int)
  | 0,_,_,_=>[]
  | m+1,f,W0,W1=>(sdY N (s+f*pv o) o W0++sdY N (s+f*pv (!o)) (!o) W1)++wayGo o N s m (f+1) (sdV N (s+f*pv o) o W0) (sdV N (s+f*pv (!o)) (!o) W1)
noncomputable abbrev sv (o i:Bool):Bool:=match i with | true=>!o | false=>o
structure WRuns (T:Params->KT)(prog:Program):Prop where
  l:whlRun T prog
  x:whxRun T prog
  i:∀o i,wiRun o i (sv o i) T prog
  b:∀o i,wcRun o i (sv o i) T prog
  h:∀o i,sv o i=false->whRun o i (sv o i) T prog
  lo:∀o i,sv o i=true->wlRun o i (sv o i) T prog
  a:∀o,waRun o false o T prog
  z:wzRun T prog
  E:wERun T prog
  o0:∀o,w0Run false o T prog
  o1:∀fi o,w1Run fi o T prog
  o2:∀fi o,w2Run fi o T prog
structure WC.Ok (c:WC)(nmS:Nat->Str)(nmT:Nat->Tok):Prop where
  sz:c.ns.size=c.n
  n:c.n<=10
  N:∀t u,Builtin.«int.__pow__» ⟨[.int 2 t,.int (c.n:Int) u],[]⟩=(Made.int c.N).tree
  ns:∀j,j<c.n->c.ns[j]?=some (.str (nmS j) (nmT j))
  len:∀j,(nmS j).length=1
  ring:∀g:Int,1<=g->g<c.N->∃o,Ring g (ringOf g.toNat) o/\ringOf g.toNat<c.n
  s0:0<=c.s
  s1:c.s<c.N
  N16:c.N<=16
noncomputable def upB (W:Bool->List Nat)(i:Bool)(r:List Nat):Bool->List Nat:=fun j=>if j==i then r else W j
structure SdOk (nmS:Nat->Str)(σ σ':WS)(W:Bool->List Nat)(ys:List (List Nat×Int))(Qs:List Tp):Prop where
  w:∀j,σ'.w j=pathR nmS (W j)
  xs:σ'.xs=σ.xs++(Qs.map fun q=>Value.ref q.a).toArray
  q:Qs.map (fun q=>(q.x,q.v))=ys.map fun y=>(pathR nmS y.1,y.2)
theorem put_w (σ:WS)(i j:Bool)(k:Nat->Tok)(u:Nat->Value)(w:Str)(tw:Tok)(a:Addr):(σ.put i k u w tw a).w j=if j==i then w else σ.w j:=by
  cases i<;>cases j<;>rfl
theorem put_xs (σ:WS)(i:Bool)(k:Nat->Tok)(u:Nat->Value)(w:Str)(tw:Tok)(a:Addr):(σ.put i k u w tw a).xs=σ.xs.push (.ref a):=by
  cases i<;>rfl
theorem z_eq {σ:WS}{i:Bool}(h:σ.w i=Y2):σ.z i=σ:=by
  cases σ;cases i<;>(simp only [WS.w] at h;subst h;rfl)
theorem inR_t {N a:Int}(h:inR N a=true):0<=a/\a<N:=by
  have:=Bool.and_eq_true_iff.mp h
  exact ⟨of_decide_eq_true this.1,of_decide_eq_true this.2⟩
theorem gv_ok {v:Bool}{s f N a:Int}(hs:0<=s)(hf:1<=f)(hN:s<N)(ha:s+f*pv v=a)(h:0<=a/\a<N):1<=gv v a/\gv v a<N:=by
  cases v
  · have e:s+f*1=a:=ha
    show 1<=a/\a<N
    omega
  · have e:s+f*(-1)=a:=ha
    show 1<=a-(-1)/\a-(-1)<N
    omega
section
variable {T:Params->KT}{prog:Program}{w:World}{c:WC}{nmS:Nat->Str}{nmT:Nat->Tok}
abbrev SideT (T:Params->KT)(prog:Program)(w:World)(nmS:Nat->Str)(c:WC)(o i:Bool)(q:WT)(F:Obj)(σ:WS)(W:Bool->List Nat):Prop:=∀(b t:Nat){Gp:Prop},(∀(σ':WS)(Qs:List Tp)(da dt:Nat),SdOk nmS σ σ' (upB W i (sdV c.N (c.s+q.f*pv (sv o i)) (sv o i) (W i))) (sdY c.N (c.s+q.f*pv (sv o i)) (sv o i) (W i)) Qs ->
  Tr (T w.params) prog w 10 (c.IC (T w.params) q) (c.L o q F σ (.ref q.tu) (si i)) b t (.ok (.again (c.IC (T w.params) q))) (Qs.reverse.map Tp.o++c.L o q (c.F w.params q σ') σ' (.ref q.tu) (si i+1)) da dt 0->Gp)->Gp
theorem in_ok {σ:WS}{W:Bool->List Nat}{i v:Bool}{N a:Int}{k:Nat->Tok}{u:Nat->Value}{x:Str}{tw b ta:Nat}(hw:∀j,σ.w j=pathR nmS (W j))(hi:inR N a=true)(hx:x=pathR nmS (ringOf (gv v a).toNat::W i)):
    SdOk nmS σ (σ.put i k u x tw b) (upB W i (sdV N a v (W i))) (sdY N a v (W i)) [⟨b,x,tw,a,ta⟩]:=by
  refine ⟨fun j=>?_,by rw [put_xs];simp,?_⟩
  · rw [put_w]
    unfold upB sdV
    rw [hi,hx]
    cases j==i<;>first | exact hw j | rfl
  · unfold sdY;rw [hi,hx];rfl
theorem side (R:WRuns T prog)(C:c.Ok nmS nmT)(o i:Bool)(q:WT)(hf:1<=q.f)(σ:WS){W:Bool->List Nat}(hw:∀j,σ.w j=pathR nmS (W j))(hl:(W i).length<=20)(hx:σ.xs.size<=100):SideT T prog w nmS c o i q (c.F w.params q σ) σ W:=by
  intro b t Gp kp
  generalize ha:c.s+q.f*pv (sv o i)=a at kp
  cases hi:inR c.N a with
  | true=>
    have h0:=inR_t hi
    have hg:=gv_ok C.s0 hf C.s1 ha h0
    obtain ⟨g,hR,hj⟩:=C.ring _ hg.1 hg.2
    obtain ⟨TG,TR,D,hW⟩:=while_ok (T:=T) (prog:=prog) (w:=w) R.l R.x c.fr σ.k (c.fu q (sideU q i a t .none .none)) hR (gt (sv o i) t) (t+11)
    have hns:=C.ns _ hj
    have hm:(0:Int)<=(ringOf (gv (sv o i) a).toNat:Int):=Int.natCast_nonneg _
    have hm2:((ringOf (gv (sv o i) a).toNat:Nat):Int)<2 ^ 63:=Int.lt_of_lt_of_le (Int.ofNat_lt.mpr (Nat.lt_of_lt_of_le hj C.n)) (by decide)
    by_cases hn:W i=[]
    · have hz:σ.z i=σ:=z_eq ((hw i).trans (by rw [hn];rfl))
      have z:=wc_tr (w:=w) (R.b o i) c q σ a g (ringOf (gv (sv o i) a).toNat) (nmS (ringOf (gv (sv o i) a).toNat)) (nmT (ringOf (gv (sv o i) a).toNat)) TG TR D b t ha (decide_eq_true h0.1) C.sz C.n C.N (decide_eq_true h0.2) hm hm2 hns (C.len _) hx (fun b' t' _ _ _ _=>hW b' t')
      unfold wcJ at z
      rw [hz] at z
      exact kp _ [⟨b+5,dot (nmS (ringOf (gv (sv o i) a).toNat)),_,a,t+2⟩] _ _ (in_ok hw hi (by rw [hn];rfl)) z
    · have z:=wi_tr (w:=w) (R.i o i) c q σ a g (ringOf (gv (sv o i) a).toNat) (nmS (ringOf (gv (sv o i) a).toNat)) (nmT (ringOf (gv (sv o i) a).toNat)) TG TR D b t ha (decide_eq_true h0.1) C.sz C.n C.N (decide_eq_true h0.2) hm hm2 hns (C.len _) (by rw [hw i];exact pathR_ne C.len hn) (by rw [hw i,pathR_len C.len];omega) hx (fun b' t' _ _ _ _=>hW b' t')
      exact kp _ [⟨b+5,σ.w i++dot (nmS (ringOf (gv (sv o i) a).toNat)),_,a,t+2⟩] _ _ (in_ok hw hi (by rw [pathR_cons hn,hw i])) z
  | false=>
    have hk:∀u,SdOk nmS σ (σ.go u) (upB W i (sdV c.N a (sv o i) (W i))) (sdY c.N a (sv o i) (W i)) []:=fun u=>by
      refine ⟨fun j=>?_,by show σ.xs=_;simp,by unfold sdY;rw [hi];rfl⟩
      unfold upB sdV
      rw [hi]
      have:σ.w j=pathR nmS (W j):=hw j
      cases j<;>cases i<;>exact this
    cases hv:sv o i with
    | false=>
      have e:c.s+q.f*1=a:=by rw [hv] at ha;exact ha
      have z:=wh_tr (w:=w) (R.h o i hv) c q σ a b t ha (decide_eq_true (by have:=C.s0;omega)) C.sz C.n C.N (decide_eq_false fun hh=>by unfold inR at hi;rw [decide_eq_true hh,decide_eq_true (show 0<=a by have:=C.s0;omega)] at hi;cases hi)
      rw [hv] at hk kp
      exact kp _ [] _ _ (hk _) z
    | true=>
      have e:c.s+q.f*(-1)=a:=by rw [hv] at ha;exact ha
      have z:=wl_tr (w:=w) (R.lo o i hv) c q σ a b t ha (decide_eq_false fun hh=>by unfold inR at hi;rw [decide_eq_true hh,decide_eq_true (show a<c.N by have:=C.s1;omega)] at hi;cases hi)
      rw [hv] at hk kp
      exact kp _ [] _ _ (hk _) z
theorem sideA (R:WRuns T prog)(C:c.Ok nmS nmT)(o:Bool)(q:WT)(hf:q.f=1)(σ:WS)(kk:Nat->Tok)(h0:∀j,σ.w j=Y2)(hi:inR c.N (c.s+q.f*pv o)=true)(hx:σ.xs.size<=100):SideT T prog w nmS c o false q (wyF6 w.params kk (c.fu q σ.u)) σ (fun _=>[]):=by
  intro b t Gp kp
  have hi':inR c.N (c.s+q.f*pv (sv o false))=true:=hi
  generalize ha:c.s+q.f*pv (sv o false)=a at kp hi'
  have h1:=inR_t hi'
  have hg:=gv_ok C.s0 (Int.le_of_eq hf.symm) C.s1 ha h1
  obtain ⟨g,hR,hj⟩:=C.ring _ hg.1 hg.2
  have hW:=fun k=>while_ok (T:=T) (prog:=prog) (w:=w) R.l R.x c.fr k (c.fu q (sideU q false a t .none .none)) hR (gt (sv o false) t) (t+11)
  obtain ⟨TG,TR,D,hW⟩:=hW _
  have hz:=z_eq (σ:=⟨kk,σ.u,σ.w0,σ.w1,σ.tw0,σ.tw1,σ.xs,σ.e⟩) (i:=false) (h0 false)
  have z:=wa_tr (w:=w) (R.a o) c q ⟨kk,σ.u,σ.w0,σ.w1,σ.tw0,σ.tw1,σ.xs,σ.e⟩ a g (ringOf (gv (sv o false) a).toNat) (nmS (ringOf (gv (sv o false) a).toNat)) (nmT (ringOf (gv (sv o false) a).toNat)) TG TR D b t ha (decide_eq_true h1.1) C.sz C.n C.N (decide_eq_true h1.2) (Int.natCast_nonneg _) (Int.lt_of_lt_of_le (Int.ofNat_lt.mpr (Nat.lt_of_lt_of_le hj C.n)) (by decide)) (C.ns _ hj) (C.len _) hx (fun b' t' _ _ _ _=>hW b' t')
  unfold waJ at z
  rw [hz] at z
  have s:=in_ok (nmS:=nmS) (v:=sv o false) (x:=dot (nmS (ringOf (gv (sv o false) a).toNat))) (σ:=⟨kk,σ.u,σ.w0,σ.w1,σ.tw0,σ.tw1,σ.xs,σ.e⟩) (W:=fun _=>[]) (i:=false) (k:=k4 kk (t+0) (t+3) (t+10) (t+12)) (u:=sideU q false a t (.int g (TG (t+13))) (.int (ringOf (gv (sv o false) a).toNat) (TR (t+13)))) (tw:=t+((13+D (t+13))+1)) (b:=b+5) (ta:=t+2) (fun j=>h0 j) hi' rfl
  exact kp _ [⟨b+5,dot (nmS (ringOf (gv (sv o false) a).toNat)),_,a,t+2⟩] _ _ ⟨s.w,s.xs,s.q⟩ z
end
def tp0:Tp:=⟨0,Y2,0,0,0⟩
theorem rev1 {l:List Tp}(h:l.length=1):l.reverse.map Tp.o=[((l.getD 0 tp0).a,(l.getD 0 tp0).o.2)]:=by
  match l,h with
  | [_],_=>rfl
theorem rev2 {l:List Tp}(h:l.length=2):l.reverse.map Tp.o=[((l.getD 1 tp0).a,(l.getD 1 tp0).o.2),((l.getD 0 tp0).a,(l.getD 0 tp0).o.2)]:=by
  match l,h with
  | [_,_],_=>rfl
theorem sdY_len (N a:Int)(v:Bool)(r:List Nat):(sdY N a v r).length<=1:=by
  unfold sdY;cases inR N a<;>first | exact Nat.le_refl _ | exact Nat.zero_le _
theorem sdV_len (N a:Int)(v:Bool)(r:List Nat):(sdV N a v r).length<=r.length+1:=by
  unfold sdV;cases inR N a<;>first | exact Nat.le_refl _ | exact Nat.le_succ _
noncomputable abbrev nxW (o:Bool)(N s f:Int)(W:Bool->List Nat):Bool->List Nat:=upB (upB W false (sdV N (s+f*pv o) o (W false))) true (sdV N (s+f*pv (!o)) (!o) (W true))
noncomputable abbrev nxY (o:Bool)(N s f:Int)(W:Bool->List Nat):List (List Nat×Int):=sdY N (s+f*pv o) o (W false)++sdY N (s+f*pv (!o)) (!o) (W true)
theorem nxW_len (o:Bool)(N s f:Int)(W:Bool->List Nat):∀j,(nxW o N s f W j).length<=(W j).length+1
  | false=>sdV_len ..
  | true=>sdV_len ..
theorem nxY_len (o:Bool)(N s f:Int)(W:Bool->List Nat):(nxY o N s f W).length<=2:=by
  rw [List.length_append];exact Nat.add_le_add (sdY_len ..) (sdY_len ..)
theorem SdOk.len {nmS:Nat->Str}{σ σ':WS}{W:Bool->List Nat}{ys:List (List Nat×Int)}{Qs:List Tp}(h:SdOk nmS σ σ' W ys Qs):Qs.length=ys.length:=by
  have:=congrArg List.length h.q
  rwa [List.length_map,List.length_map] at this
theorem SdOk.size {nmS:Nat->Str}{σ σ':WS}{W:Bool->List Nat}{ys:List (List Nat×Int)}{Qs:List Tp}(h:SdOk nmS σ σ' W ys Qs):σ'.xs.size=σ.xs.size+ys.length:=by
  rw [h.xs,Array.size_append,show (Qs.map fun q=>Value.ref q.a).toArray.size=Qs.length by simp,h.len]
theorem SdOk.trans {nmS:Nat->Str}{σ σ1 σ2:WS}{W W2:Bool->List Nat}{ys y2:List (List Nat×Int)}{Qs Q2:List Tp}(h:SdOk nmS σ σ1 W ys Qs)(h2:SdOk nmS σ1 σ2 W2 y2 Q2):SdOk nmS σ σ2 W2 (ys++y2) (Qs++Q2):=
  ⟨h2.w,by rw [h2.xs,h.xs,List.map_append,Array.append_assoc];simp,by rw [List.map_append,List.map_append,h.q,h2.q]⟩
theorem revA (Qs Q2:List Tp):(Qs++Q2).reverse.map Tp.o=Q2.reverse.map Tp.o++Qs.reverse.map Tp.o:=by rw [List.reverse_append,List.map_append]
section
variable {T:Params->KT}{prog:Program}{w:World}{c:WC}{nmS:Nat->Str}{nmT:Nat->Tok}
abbrev InT (T:Params->KT)(prog:Program)(w:World)(nmS:Nat->Str)(c:WC)(o:Bool)(q:WT)(F:Obj)(σ:WS)(W:Bool->List Nat):Prop:=∀(b t:Nat){Gp:Prop},(∀(σ':WS)(Qs:List Tp)(da dt:Nat),SdOk nmS σ σ' (nxW o c.N c.s q.f W) (nxY o c.N c.s q.f W) Qs ->
  Tr (T w.params) prog w 10 (c.IC (T w.params) q) (c.L o q F σ (.ref q.tu) 0) b t (.ok (.done .next)) (Qs.reverse.map Tp.o++c.L o q (c.F w.params q σ') σ' .none 2) da dt 0->Gp)->Gp
theorem inn_ok (R:WRuns T prog)(C:c.Ok nmS nmT)(o:Bool)(q:WT)(hf:1<=q.f)(F:Obj)(σ:WS){W:Bool->List Nat}(hS:SideT T prog w nmS c o false q F σ W)(hl:(W true).length<=20)(hx:σ.xs.size<=99):InT T prog w nmS c o q F σ W:=by
  intro b t Gp kp
  refine hS b t fun σ1 Q1 da1 dt1 h1 z1=>?_
  refine side (w:=w) R C o true q hf σ1 h1.w hl (by rw [h1.size];exact Nat.le_trans (Nat.add_le_add hx (sdY_len ..)) (Nat.le_refl _)) (b+da1) (t+dt1) fun σ2 Q2 da2 dt2 h2 z2=>?_
  have z3:=jtr (w:=w) (R.z o c q (c.F w.params q σ2) σ2 (b+da1+da2) (t+dt1+dt2)) rfl trivial
  have y:=Tr.stepN (new:=[]) (old:=Q2.reverse.map Tp.o) z2 z3
  have y2:=Tr.stepN (new:=Q2.reverse.map Tp.o) (old:=Q1.reverse.map Tp.o) z1 y
  rw [<- revA] at y2
  exact kp σ2 (Q1++Q2) _ _ (h1.trans h2) y2
structure WIn where
  σ:WS
  Qs:List Tp
  da:Nat
  dt:Nat
noncomputable abbrev wq (b t:Nat)(f:Int):WT:=⟨b+1,b+0,t+2,t+3,f,t+0⟩
theorem turn (R:WRuns T prog)(o fi:Bool)(it:Addr)(q0:WT)(σ:WS)(f r:Int)(hr:¬ r<=0){W:Bool->List Nat}(b t:Nat)(hI:InT T prog w nmS c o (wq b t f) (c.G2 w.params fi (wq b t f) σ (t+1)) σ W)(h0:fi=true->(nxY o c.N c.s f W).length≠0){Gp:Prop}
    (kp:∀(σ':WS)(Qs:List Tp)(da dt:Nat),SdOk nmS σ σ' (nxW o c.N c.s f W) (nxY o c.N c.s f W) Qs->Tr (T w.params) prog w 12 (c.FC (T w.params) it) (c.LO o (c.G w.params fi q0 σ) σ it f r) b t (.ok (.again (c.FC (T w.params) it))) (Qs.reverse.map Tp.o++c.LO o (c.F w.params (wq b t f) σ') σ' it (f+1) (r-1)) da dt 0->Gp):Gp:=by
  have h:∀p:Nat×Nat,∃r:WIn,SdOk nmS σ r.σ (nxW o c.N c.s f W) (nxY o c.N c.s f W) r.Qs/\Tr (T w.params) prog w 10 (c.IC (T w.params) (wq b t f)) (c.L o (wq b t f) (c.G2 w.params fi (wq b t f) σ (t+1)) σ (.ref (b+0)) 0) p.1 p.2 (.ok (.done .next)) (r.Qs.reverse.map Tp.o++c.L o (wq b t f) (c.F w.params (wq b t f) r.σ) r.σ .none 2) r.da r.dt 0:=
    fun p=>hI p.1 p.2 fun σ' Qs da dt h z=>⟨⟨σ',Qs,da,dt⟩,h,z⟩
  obtain ⟨r',h'⟩:=Classical.axiomOfChoice h
  have sp:∀{nq:Nat->Nat->Led},(∀b' t',(r' (b',t')).Qs.reverse.map Tp.o=nq b' t')->COk (T w.params) prog w b t fun b' t' _ _=>c.inSp (T w.params) w.params o fi (wq b t f) σ (t+1) (r' (b',t')).σ (nq b' t') (r' (b',t')).da (r' (b',t')).dt:=fun {nq} e b' t' _ _ _ _=>by
    show SpOk (T w.params) prog w (c.inSp (T w.params) w.params o fi (wq b t f) σ (t+1) (r' (b',t')).σ (nq b' t') (r' (b',t')).da (r' (b',t')).dt) b' t'
    rw [<- e b' t']
    exact Tr.sp (h' (b',t')).2 rfl
  have hl:=fun p=>(h' p).1.len
  have h2:=nxY_len o c.N c.s f W
  generalize hn:(nxY o c.N c.s f W).length=n at hl h0 h2
  match n,hl,h0,h2 with
  | 0,hl,h0,_=>
    cases fi with
    | true=>exact absurd rfl (h0 rfl)
    | false=>
      have e:∀b' t',(r' (b',t')).Qs.reverse.map Tp.o=[]:=fun b' t'=>by rw [List.length_eq_zero_iff.mp (hl _)];rfl
      have z:=wO_tr (w:=w) (R.o0 o c it q0 σ f r (fun b t=>(r' (b,t)).σ) (fun b t=>(r' (b,t)).da) (fun b t=>(r' (b,t)).dt) b t) hr rfl (sp (nq:=fun _ _=>[]) e)
      unfold wOJ at z
      exact kp _ _ _ _ (h' (b+2,t+4)).1 (by rw [e];exact z)
  | 1,hl,_,_=>
    have e:=fun b' t'=>rev1 (hl (b',t'))
    have z:=wO_tr (w:=w) (R.o1 fi o c it q0 σ f r (fun b t=>(r' (b,t)).σ) (fun b t=>((r' (b,t)).Qs.getD 0 tp0).a) (fun b t=>((r' (b,t)).Qs.getD 0 tp0).o.2) (fun b t=>(r' (b,t)).da) (fun b t=>(r' (b,t)).dt) b t) hr rfl (sp e)
    unfold wOJ at z
    exact kp _ _ _ _ (h' (b+2,t+4)).1 (by rw [e];exact z)
  | 2,hl,_,_=>
    have e:=fun b' t'=>rev2 (hl (b',t'))
    have z:=wO_tr (w:=w) (R.o2 fi o c it q0 σ f r (fun b t=>(r' (b,t)).σ) (fun b t=>((r' (b,t)).Qs.getD 1 tp0).a) (fun b t=>((r' (b,t)).Qs.getD 1 tp0).o.2) (fun b t=>((r' (b,t)).Qs.getD 0 tp0).a) (fun b t=>((r' (b,t)).Qs.getD 0 tp0).o.2) (fun b t=>(r' (b,t)).da) (fun b t=>(r' (b,t)).dt) b t) hr rfl (sp e)
    unfold wOJ at z
    exact kp _ _ _ _ (h' (b+2,t+4)).1 (by rw [e];exact z)
  | n+3,_,_,h=>exact absurd h (by omega)
theorem far (R:WRuns T prog)(C:c.Ok nmS nmT)(o:Bool)(it:Addr):∀(m:Nat)(f:Int)(q0:WT)(σ:WS)(W:Bool->List Nat)(b t:Nat),f+m=c.N->1<=f->(∀j,σ.w j=pathR nmS (W j))->(∀j,((W j).length:Int)<=f)->(σ.xs.size:Int)<=2*f->∀{Gp:Prop},
    (∀(W':Bool->List Nat)(q':WT)(σ':WS)(Qs:List Tp)(da dt:Nat),SdOk nmS σ σ' W' (wayGo o c.N c.s m f (W false) (W true)) Qs->Tr (T w.params) prog w 12 (c.FC (T w.params) it) (c.LO o (c.F w.params q0 σ) σ it f m) b t (.ok (.done .next)) (Qs.reverse.map Tp.o++c.LO o (c.F w.params q' σ') σ' it c.N 0) da dt 0->Gp)->Gp:=by
  intro m
  induction m with
  | zero=>
    intro f q0 σ W b t hf h1 hw hl hx Gp kp
    have e:f=c.N:=by simpa using hf
    have z:=jtr (w:=w) (R.E o c it (c.F w.params q0 σ) σ f b t) rfl trivial
    unfold wEJ at z
    rw [e] at z kp
    exact kp W q0 σ [] _ _ ⟨hw,by simp,rfl⟩ z
  | succ m ih=>
    intro f q0 σ W b t hf h1 hw hl hx Gp kp
    have h16:=C.N16
    have hf':f+1+(m:Int)=c.N:=by rw [<- hf];push_cast;omega
    have hlW:∀j,(W j).length<=20:=fun j=>by have:=hl j;omega
    have hx9:σ.xs.size<=99:=by omega
    refine turn R o false it q0 σ f ((m+1:Nat):Int) (by omega) b t (inn_ok R C o (wq b t f) h1 (c.F w.params (wq b t f) σ) σ (side (w:=w) R C o false (wq b t f) h1 σ hw (hlW _) (Nat.le_succ_of_le hx9)) (hlW _) hx9) (fun h=>nomatch h) fun σ1 Q1 da1 dt1 s1 z1=>?_
    rw [show ((m+1:Nat):Int)-1=(m:Int) by push_cast;omega] at z1
    refine ih (f+1) (wq b t f) σ1 (nxW o c.N c.s f W) (b+da1) (t+dt1) hf' (by omega) s1.w (fun j=>?_) ?_ fun W' q' σ' Qs da dt s2 z2=>?_
    · exact Int.le_trans (Int.ofNat_le.mpr (nxW_len o c.N c.s f W j)) (by push_cast;exact Int.add_le_add_right (hl j) 1)
    · have:=nxY_len o c.N c.s f W
      rw [s1.size];push_cast;omega
    · have y:=Tr.stepN (new:=Qs.reverse.map Tp.o) (old:=Q1.reverse.map Tp.o) z1 z2
      rw [<- revA] at y
      exact kp W' q' σ' (Q1++Qs) _ _ (s1.trans s2) y
theorem all_w (R:WRuns T prog)(C:c.Ok nmS nmT)(o:Bool)(it:Addr)(q0:WT)(σ:WS)(b t:Nat)(h2:2<=c.N)(hi:inR c.N (c.s+1*pv o)=true)(h0:∀j,σ.w j=Y2)(hx:σ.xs.size<=1){Gp:Prop}
    (kp:∀(q':WT)(σ':WS)(Qs:List Tp)(da dt:Nat),σ'.xs=σ.xs++(Qs.map fun q=>Value.ref q.a).toArray->Qs.map (fun q=>(q.x,q.v))=(wayGo o c.N c.s (c.N-1).toNat 1 [] []).map (fun y=>(pathR nmS y.1,y.2)) ->
      Tr (T w.params) prog w 12 (c.FC (T w.params) it) (c.LO o (c.G w.params true q0 σ) σ it 1 (c.N-1)) b t (.ok (.done .next)) (Qs.reverse.map Tp.o++c.LO o (c.F w.params q' σ') σ' it c.N 0) da dt 0->Gp):Gp:=by
  obtain ⟨m,hm⟩:∃m:Nat,c.N-1=((m+1:Nat):Int):=⟨(c.N-2).toNat,by omega⟩
  rw [hm] at kp
  refine turn (W:=fun _=>[]) R o true it q0 σ 1 ((m+1:Nat):Int) (by omega) b t (inn_ok R C o (wq b t 1) (Int.le_refl _) _ σ (sideA (w:=w) R C o (wq b t 1) rfl σ (k1 σ.k (t+1)) (fun j=>(h0 j)) hi (Nat.le_trans hx (by decide))) (Nat.zero_le _) (Nat.le_trans hx (by decide))) (fun _=>?_) fun σ1 Q1 da1 dt1 s1 z1=>?_
  · have:sdY c.N (c.s+1*pv o) o []≠[]:=by unfold sdY;rw [hi];exact List.cons_ne_nil _ _
    intro h
    exact this (List.append_eq_nil_iff.mp (List.length_eq_zero_iff.mp h)).1
  rw [show ((m+1:Nat):Int)-1=(m:Int) by push_cast;omega] at z1
  refine far (w:=w) R C o it m (1+1) (wq b t 1) σ1 (nxW o c.N c.s 1 fun _=>[]) (b+da1) (t+dt1) (by push_cast at hm;omega) (by decide) s1.w (fun j=>?_) ?_ fun W' q' σ' Qs da dt s2 z2=>?_
  · exact Int.le_trans (Int.ofNat_le.mpr (nxW_len o c.N c.s 1 (fun _=>[]) j)) (by decide)
  · have:=nxY_len o c.N c.s 1 fun _=>[]
    rw [s1.size];push_cast;omega
  · have y:=Tr.stepN (new:=Qs.reverse.map Tp.o) (old:=Q1.reverse.map Tp.o) z1 z2
    rw [<- revA] at y
    have s:=s1.trans s2
    exact kp q' σ' (Q1++Qs) _ _ s.xs s.q y
end
structure ChR (x:Str)(p:Int)(z:Nat):Prop where
  le:x.length<=sizeLine
  ne:(Builtin.Str.strSliceIndices (some p) (some (p+1)) 1 x.length).length≠x.length
  eq:sliceS x (some p) (some (p+1))=(⟨#[z+1]⟩:Str)
inductive QRel (x:Str):Int->Str->Int->Str->Prop where
  | stop {p:Int} {tk:Str} (h:ChR x p 33):QRel x p tk (p+1) tk
  | esc {p p':Int} {tk tk':Str} {z:Nat} (h1:ChR x p 91) (h2:ChR x (p+1) z) (hz:z≠9) (hl:tk.length<=100) (hn:QRel x (p+2) (tk++(⟨#[z+1]⟩:Str)) p' tk'):QRel x p tk p' tk'
  | plain {p p':Int} {tk tk':Str} {z:Nat} (h1:ChR x p z) (hz:z≠9) (hq:z≠33) (hb:z≠91) (hl:tk.length<=100) (hn:QRel x (p+1) (tk++(⟨#[z+1]⟩:Str)) p' tk'):QRel x p tk p' tk'
abbrev tkF (P:Params)(k:Nat->Tok)(X:Lx)(ci:Addr)(tk:Str)(ttk:Tok)(ch:Value):Obj:=frO #[ent P Y15 (k 0) (.ref X.i),ent P Y16 (k 1) (.str tk ttk),ent P Y17 (k 2) (.ref ci),ent P Y18 (k 3) ch] 4
noncomputable abbrev tqC (K:KT)(fr ci:Addr):Code:=forOf (inner (bodyOf K 70) [3,1]) 0 (.ref ci) (envOf K 70 fr [])
noncomputable abbrev tkS (K:KT)(P:Params)(F C:Obj)(fr ci bm:Addr)(X:Lx)(S:Sm)(x:Str)(tx:Tok)(ln:Value)(p:Int)(tp:Tok)(ea:Nat):Led:=(fr,F)::(ci,C)::(bm,bmO X)::tkL X S K P x tx ln p tp ea
theorem eqS_sign {a c:Nat}(h:a≠c):eqS (⟨#[a]⟩:Str) (⟨#[c]⟩:Str)=false:=by
  show ([a]==[c])=false
  simp [h]
theorem eqS_same (a:Nat):eqS (⟨#[a]⟩:Str) (⟨#[a]⟩:Str)=true:=by
  show ([a]==[a])=true
  simp
theorem eqS_none (a:Nat):eqS Y2 (⟨#[a]⟩:Str)=false:=rfl
section
variable {T:Params->KT}{prog:Program}{w:World}
theorem ChR.rB {x:Str}{p:Int}{z:Nat}(h:ChR x p z)(hz:z≠9)(H:rBRun T prog)(X:Lx)(S:Sm)(bm:Addr)(tx tp:Tok)(ea:Nat)(ln:Value)(b t:Nat):SpOk (T w.params) prog w (rBSp X S bm x tx p tp ea (⟨#[z+1]⟩:Str) ln b t (T w.params) w.params) b t:=
  rB_ok H X S bm x tx p tp ea _ ln b t h.le h.ne h.eq (by rw [sizeLine_eq];show 1<=_;decide) (eqS_sign (by omega))
theorem ChR.rD {x:Str}{p:Int}{z:Nat}(h:ChR x p z)(hz:z≠9)(H:rDRun T prog)(X:Lx)(S:Sm)(tx tp:Tok)(ea:Nat)(ln:Value)(b t:Nat):SpOk (T w.params) prog w (rDSp X S x tx p tp ea (⟨#[z+1]⟩:Str) ln b t (T w.params) w.params) b t:=
  rD_ok H X S x tx p tp ea _ ln b t h.le h.ne h.eq (by rw [sizeLine_eq];show 1<=_;decide) (eqS_sign (by omega))
theorem q_loop (Q1:t_q1Run T prog)(Q2:t_q2Run T prog)(Q2e:t_q2eRun T prog)(Q3:t_q3Run T prog)(Q3e:t_q3eRun T prog)(RB:rBRun T prog)(RD:rDRun T prog)
    (X:Lx) (S:Sm) (x:Str) (tx:Tok) (ea:Nat) (ln:Value) (fr ci bm:Addr) (k:Nat->Tok) (ts:Tok):∀(p:Int)(tk:Str)(p':Int)(tk':Str),QRel x p tk p' tk'->∀(ttk tp:Tok)(ch:Value)(b t:Nat),
      ∃(ttk' tp':Tok)(ch':Value)(da dt:Nat),Tr (T w.params) prog w 40 (tqC (T w.params) fr ci) (tkS (T w.params) w.params (tkF w.params k X ci tk ttk ch) (ciO bm ts) fr ci bm X S x tx ln p tp ea) b t (.ok (.done (.ret (.str tk' ttk')))) (tkS (T w.params) w.params (tkF w.params k X ci tk' ttk' ch') (ciO bm ts) fr ci bm X S x tx ln p' tp' ea) da dt 0:=by
  intro p tk p' tk' h
  induction h with
  | @stop p tk h=>
    intro ttk tp ch b t
    have z:=jtr (w:=w) (Q1 X S x tx p tp ea ln fr ci bm k (fun _=>ch) ttk ts tk 33 b t) rfl ⟨(fun b' t' _ _ _ _=>h.rB (by decide) RB X S bm tx tp ea ln b' t'),cEq_ok (eqS_none _),cEq_ok (eqS_same _),trivial⟩
    exact ⟨ttk,t+13,_,_,_,z⟩
  | @esc p p' tk tk' z h1 h2 hz hl hn ih=>
    intro ttk tp ch b t
    have hlen:(tk++(⟨#[z+1]⟩:Str)).length<=sizeLine:=by
      have e:(⟨#[z+1]⟩:Str).length=1:=rfl
      rw [Str.length_append,e,sizeLine_eq];omega
    by_cases h0:tk.length=0
    · have e0:tk=Y2:=by
        cases tk with | mk a=>exact congrArg Str.mk (Array.eq_empty_of_size_eq_zero h0)
      subst e0
      have y:=jtr (w:=w) (Q2e X S x tx p tp ea ln fr ci bm k (fun _=>ch) ttk ts 91 z b t) rfl ⟨(fun b' t' _ _ _ _=>h1.rB (by decide) RB X S bm tx tp ea ln b' t'),cEq_ok (eqS_none _),cEq_ok (eqS_sign (by decide)),cEq_ok (eqS_same _),(fun b' t' _ _ _ _=>h2.rD hz RD X S tx (t+13) ea ln b' t'),cAddL_ok,trivial⟩
      refine cps fun Gp kp=>?_
      obtain ⟨ttk',tp',ch',da,dt,i1⟩:=ih (t+28) (t+33) (.str (⟨#[z+1]⟩:Str) (t+28)) (b+6) (t+_)
      refine kp ?_
      exact ⟨ttk',tp',ch',_,_,Tr.trans (g:=0) (g2:=0) (M:=tkS (T w.params) w.params (tkF w.params k X ci (⟨#[z+1]⟩:Str) (t+28) (.str (⟨#[z+1]⟩:Str) (t+28))) (ciO bm ts) fr ci bm X S x tx ln (p+2) (t+33) ea) (by rw [show p+2=(p+1)+1 by omega];exact y) i1⟩
    · have y:=jtr (w:=w) (Q2 X S x tx p tp ea ln fr ci bm k (fun _=>ch) ttk ts tk 91 z b t) rfl ⟨(fun b' t' _ _ _ _=>h1.rB (by decide) RB X S bm tx tp ea ln b' t'),cEq_ok (eqS_none _),cEq_ok (eqS_sign (by decide)),cEq_ok (eqS_same _),(fun b' t' _ _ _ _=>h2.rD hz RD X S tx (t+13) ea ln b' t'),cAdd_ok h0 (Nat.succ_ne_zero 0) hlen,trivial⟩
      refine cps fun Gp kp=>?_
      obtain ⟨ttk',tp',ch',da,dt,i1⟩:=ih (t+38) (t+33) (.str (⟨#[z+1]⟩:Str) (t+28)) (b+6) (t+_)
      refine kp ?_
      exact ⟨ttk',tp',ch',_,_,Tr.trans (g:=0) (g2:=0) (M:=tkS (T w.params) w.params (tkF w.params k X ci (tk++(⟨#[z+1]⟩:Str)) (t+38) (.str (⟨#[z+1]⟩:Str) (t+28))) (ciO bm ts) fr ci bm X S x tx ln (p+2) (t+33) ea) (by rw [show p+2=(p+1)+1 by omega];exact y) i1⟩
  | @plain p p' tk tk' z h1 hz hq hb hl hn ih=>
    intro ttk tp ch b t
    have hlen:(tk++(⟨#[z+1]⟩:Str)).length<=sizeLine:=by
      have e:(⟨#[z+1]⟩:Str).length=1:=rfl
      rw [Str.length_append,e,sizeLine_eq];omega
    by_cases h0:tk.length=0
    · have e0:tk=Y2:=by
        cases tk with | mk a=>exact congrArg Str.mk (Array.eq_empty_of_size_eq_zero h0)
      subst e0
      have y:=jtr (w:=w) (Q3e X S x tx p tp ea ln fr ci bm k (fun _=>ch) ttk ts z b t) rfl ⟨(fun b' t' _ _ _ _=>h1.rB hz RB X S bm tx tp ea ln b' t'),cEq_ok (eqS_none _),cEq_ok (eqS_sign (by omega)),cEq_ok (eqS_sign (by omega)),cAddL_ok,trivial⟩
      refine cps fun Gp kp=>?_
      obtain ⟨ttk',tp',ch',da,dt,i1⟩:=ih (t+8) (t+13) (.str (⟨#[z+1]⟩:Str) (t+8)) (b+3) (t+_)
      refine kp ?_
      exact ⟨ttk',tp',ch',_,_,Tr.trans (g:=0) (g2:=0) (M:=tkS (T w.params) w.params (tkF w.params k X ci (⟨#[z+1]⟩:Str) (t+8) (.str (⟨#[z+1]⟩:Str) (t+8))) (ciO bm ts) fr ci bm X S x tx ln (p+1) (t+13) ea) y i1⟩
    · have y:=jtr (w:=w) (Q3 X S x tx p tp ea ln fr ci bm k (fun _=>ch) ttk ts tk z b t) rfl ⟨(fun b' t' _ _ _ _=>h1.rB hz RB X S bm tx tp ea ln b' t'),cEq_ok (eqS_none _),cEq_ok (eqS_sign (by omega)),cEq_ok (eqS_sign (by omega)),cAdd_ok h0 (Nat.succ_ne_zero 0) hlen,trivial⟩
      refine cps fun Gp kp=>?_
      obtain ⟨ttk',tp',ch',da,dt,i1⟩:=ih (t+20) (t+13) (.str (⟨#[z+1]⟩:Str) (t+8)) (b+3) (t+_)
      refine kp ?_
      exact ⟨ttk',tp',ch',_,_,Tr.trans (g:=0) (g2:=0) (M:=tkS (T w.params) w.params (tkF w.params k X ci (tk++(⟨#[z+1]⟩:Str)) (t+20) (.str (⟨#[z+1]⟩:Str) (t+8))) (ciO bm ts) fr ci bm X S x tx ln (p+1) (t+13) ea) y i1⟩
end
inductive ERel (x:Str):Int->Str->Int->Str->Prop where
  | nil {p:Int} {tk:Str}:ERel x p tk p tk
  | esc {p p':Int} {tk tk':Str} {z:Nat} (h1:ChR x p 91) (h2:ChR x (p+1) z) (hz:z≠9) (h0:tk.length≠0) (hl:tk.length<=100) (hn:ERel x (p+2) (tk++(⟨#[z+1]⟩:Str)) p' tk'):ERel x p tk p' tk'
noncomputable abbrev tbC (K:KT)(fr ci:Addr):Code:=forOf (elsed (inner (bodyOf K 70) [3]) 1) 2 (.ref ci) (envOf K 70 fr [])
noncomputable abbrev ciE:Obj:=⟨.type "callable_iterator",none,.fields #[.none,.none,.bool true],#[]⟩
section
variable {T:Params->KT}{prog:Program}{w:World}
theorem b_loop (B2:t_b2Run T prog)(RB:rBRun T prog)(RD:rDRun T prog)
    (X:Lx) (S:Sm) (x:Str) (tx:Tok) (ea:Nat) (ln:Value) (fr ci bm:Addr) (k:Nat->Tok) (ts:Tok) (Pr:Except Value Fin->Led->Prop):∀(p:Int)(tk:Str)(p':Int)(tk':Str),ERel x p tk p' tk' ->
      (∀(ttk tp:Tok)(ch:Value)(b t:Nat),∃(res:Except Value Fin)(M:Led)(da dt:Nat),Pr res M/\Tr (T w.params) prog w 40 (tbC (T w.params) fr ci) (tkS (T w.params) w.params (tkF w.params k X ci tk' ttk ch) (ciO bm ts) fr ci bm X S x tx ln p' tp ea) b t res M da dt 0) ->
      ∀(ttk tp:Tok)(ch:Value)(b t:Nat),∃(res:Except Value Fin)(M:Led)(da dt:Nat),Pr res M/\Tr (T w.params) prog w 40 (tbC (T w.params) fr ci) (tkS (T w.params) w.params (tkF w.params k X ci tk ttk ch) (ciO bm ts) fr ci bm X S x tx ln p tp ea) b t res M da dt 0:=by
  intro p tk p' tk' h
  induction h with
  | nil=>exact fun H=>H
  | @esc p p' tk tk' z h1 h2 hz h0 hl hn ih=>
    intro HE ttk tp ch b t
    have hlen:(tk++(⟨#[z+1]⟩:Str)).length<=sizeLine:=by
      have e:(⟨#[z+1]⟩:Str).length=1:=rfl
      rw [Str.length_append,e,sizeLine_eq];omega
    have y:=jtr (w:=w) (B2 X S x tx p tp ea ln fr ci bm k (fun _=>ch) ttk ts tk 91 z b t) rfl ⟨(fun b' t' _ _ _ _=>h1.rB (by decide) RB X S bm tx tp ea ln b' t'),cEq_ok (eqS_none _),cIn_ok (by decide +kernel),cEq_ok (eqS_same _),(fun b' t' _ _ _ _=>h2.rD hz RD X S tx (t+13) ea ln b' t'),cAdd_ok h0 (Nat.succ_ne_zero 0) hlen,trivial⟩
    refine cps fun Gp kp=>?_
    obtain ⟨res,M,da,dt,i0,i1⟩:=ih HE (t+38) (t+33) (.str (⟨#[z+1]⟩:Str) (t+28)) (b+6) (t+_)
    refine kp ?_
    exact ⟨res,M,_,_,i0,Tr.trans (g:=0) (g2:=0) (M:=tkS (T w.params) w.params (tkF w.params k X ci (tk++(⟨#[z+1]⟩:Str)) (t+38) (.str (⟨#[z+1]⟩:Str) (t+28))) (ciO bm ts) fr ci bm X S x tx ln (p+2) (t+33) ea) (by rw [show p+2=(p+1)+1 by omega];exact y) i1⟩
theorem b_line (B1:t_b1Run T prog)(B2:t_b2Run T prog)(RA:rARun T prog)(RB:rBRun T prog)(RD:rDRun T prog)
    (X:Lx) (S:Sm) (x:Str) (tx:Tok) (ea:Nat) (ln:Int) (tln:Tok) (fr ci bm:Addr) (k:Nat->Tok) (ts:Tok) {p:Int} {tk:Str} {p':Int} {tk':Str} (h:ERel x p tk p' tk') (hc:ChR x p' 9) (ttk tp:Tok) (ch:Value) (b t:Nat) :
      ∃(ttk' tp' tln':Tok)(ch':Value)(da dt:Nat),Tr (T w.params) prog w 40 (tbC (T w.params) fr ci) (tkS (T w.params) w.params (tkF w.params k X ci tk ttk ch) (ciO bm ts) fr ci bm X S x tx (.int ln tln) p tp ea) b t (.ok (.done (.ret (.str tk' ttk')))) (tkS (T w.params) w.params (tkF w.params k X ci tk' ttk' ch') (ciO bm ts) fr ci bm X S x tx (.int (ln+1) tln') (p'+1) tp' ea) da dt 0:=by
  refine cps fun Gp kp=>?_
  obtain ⟨res,M,da,dt,⟨ttk',tp',tln',ch',e1,e2⟩,z⟩:=b_loop (w:=w) B2 RB RD X S x tx ea (.int ln tln) fr ci bm k ts (fun res M=>∃(ttk' tp' tln':Tok)(ch':Value),res=.ok (.done (.ret (.str tk' ttk')))/\M=tkS (T w.params) w.params (tkF w.params k X ci tk' ttk' ch') (ciO bm ts) fr ci bm X S x tx (.int (ln+1) tln') (p'+1) tp' ea) p tk p' tk' h
    (fun ttk tp ch b t=>⟨_,_,_,_,⟨ttk,t+13,t+19,_,rfl,rfl⟩,jtr (w:=w) (B1 X S x tx p' tp ea ln tln fr ci bm k (fun _=>ch) ttk ts tk' 9 b t) rfl ⟨(fun b' t' _ _ _ _=>rA_ok RA X S bm x tx p' tp ea _ ln tln b' t' hc.le hc.ne hc.eq (by rw [sizeLine_eq];show 1<=_;decide) (eqS_same _)),cEq_ok (eqS_none _),cIn_ok (by decide +kernel),trivial⟩⟩) ttk tp ch b t
  refine kp ?_
  subst e1;subst e2
  exact ⟨ttk',tp',tln',ch',da,dt,z⟩
theorem b_end (B3:t_b3Run T prog)(B2:t_b2Run T prog)(RB:rBRun T prog)(RD:rDRun T prog)
    (X:Lx) (S:Sm) (x:Str) (tx:Tok) (ea:Nat) (ln:Value) (fr ci bm:Addr) (k:Nat->Tok) (ts:Tok) {p:Int} {tk:Str} {p':Int} {tk':Str} (h:ERel x p tk p' tk') (he:∀tp b' t',SpOk (T w.params) prog w (endSp X S (T w.params) w.params ci bm ts x tx ln p' tp ea b' t') b' t') (ttk tp:Tok) (ch:Value) (b t:Nat) :
      ∃(ttk' tp':Tok)(ch':Value)(da dt:Nat),Tr (T w.params) prog w 40 (tbC (T w.params) fr ci) (tkS (T w.params) w.params (tkF w.params k X ci tk ttk ch) (ciO bm ts) fr ci bm X S x tx ln p tp ea) b t (.ok (.done .next)) (tkS (T w.params) w.params (tkF w.params k X ci tk' ttk' ch') ciE fr ci bm X S x tx ln p' tp' ea) da dt 0:=by
  refine cps fun Gp kp=>?_
  obtain ⟨res,M,da,dt,⟨ttk',tp',ch',e1,e2⟩,z⟩:=b_loop (w:=w) B2 RB RD X S x tx ea ln fr ci bm k ts (fun res M=>∃(ttk' tp':Tok)(ch':Value),res=.ok (.done .next)/\M=tkS (T w.params) w.params (tkF w.params k X ci tk' ttk' ch') ciE fr ci bm X S x tx ln p' tp' ea) p tk p' tk' h
    (fun ttk tp ch b t=>⟨_,_,_,_,⟨ttk,t+13,ch,rfl,rfl⟩,jtr (w:=w) (B3 X S x tx p' tp ea ln fr ci bm k (fun _=>ch) ttk ts tk' b t) rfl ⟨(fun b' t' _ _ _ _=>he tp b' t'),trivial⟩⟩) ttk tp ch b t
  refine kp ?_
  subst e1;subst e2
  exact ⟨ttk',tp',ch',da,dt,z⟩
end
section
variable {kt:KT}{prog:Program}{w:World}{b t:Nat}
noncomputable abbrev siO (x:Str)(tx:Tok)(i:Int):Obj:=⟨.type "str_ascii_iterator",none,.fields #[.str x tx,.int i 0],#[]⟩
noncomputable abbrev cStrIter (x:Str):Hint:=.ctr [] fun b t c _=>prE "str.__iter__" [.str x (aT c 0)] (.ref b) 0 [] [] [(b,siO x (aT c 0) 0)] 1
theorem cStrIter_ok {x:Str}(hx:x.cps.all (·<128)=true):COk kt prog w b t fun b t c _=>prE "str.__iter__" [.str x (aT c 0)] (.ref b) 0 [] [] [(b,siO x (aT c 0) 0)] 1:=fun b' t' c l _ _=>by
  refine ⟨rfl,fun G A R s hr hi hfin=>?_⟩
  refine codeAny_call_builtin F.slot_str_iter.plain F.entry_str_iter (F.slot_str_iter.check _ _ _ _ _ _ _ _ (typeIs_str _ _ _) (F.args_str_iter_1 _) ?_)
  show wpAny _ _ (do ret (<- newFields (if (true&&x.cps.all (·<128))=true then "str_ascii_iterator" else "str_iterator") [.str x (aT c 0),rawInt 0])) _ _ s
  rw [hx]
  have a:=hi.alloc (o:=siO x (aT c 0) 0) rfl
  have:=hfin { s with heap:=s.heap.push (siO x (aT c 0) 0) } a ((Step.refl _ _).alloc _) (fun q hq=>by
    rcases List.mem_cons.mp hq with rfl | hq
    · exact Nat.le_refl _
    · cases hq)
  refine wpAny_bind (wpAny_bind (wpAny_alloc (wpAny_pure (wpAny_pure ?_))))
  rw [hi.size]
  exact this
noncomputable abbrev cJoinE (sep:Str)(a:Addr)(p:List (Str×Tok))(e:Nat)(W:Str)(d:Nat):Hint:=.ctr [d] fun _ t c l=>prE "str.join" [.str sep (aT c 0),.ref a] (.str W t) 1 [(a,liO (strValues p).toArray e)] [liO (strValues p).toArray e] [] 0
theorem cJoinE_ok {sep:Str}{a:Addr}{p:List (Str×Tok)}{e:Nat}{W:Str}(hp:p.length≠1)(hl:tooLong ((p.map (·.1)).toArray.foldl (·+·.length+sep.length) 0)=false)(hl2:(glued sep (p.map (·.1))).length<=sizeLine)(hW:glued sep (p.map (·.1))=W):
    COk kt prog w b t fun _ t c l=>prE "str.join" [.str sep (aT c 0),.ref a] (.str W t) 1 [(a,liO (strValues p).toArray e)] [liO (strValues p).toArray e] [] 0:=by
  subst hW
  exact cJoin_ok hp hl hl2
noncomputable abbrev cAddE (x y z:Str):Hint:=.ctr [] fun _ t c _=>prim "str.__add__" [.str x (aT c 0),.str y (aT c 1)] (.str z t) 1
theorem cAddE_ok {x y z:Str}(hx:x.length≠0)(hy:y.length≠0)(hl:(x++y).length<=sizeLine)(hz:x++y=z):COk kt prog w b t fun _ t c _=>prim "str.__add__" [.str x (aT c 0),.str y (aT c 1)] (.str z t) 1:=by
  subst hz
  exact cAdd_ok hx hy hl
end
section
variable {kt:KT}{prog:Program}{w:World}{b t:Nat}
noncomputable def prt:Option (Int×Tok)->Value
  | none=>.none
  | some (i,t)=>.int i t
theorem isPart_prt (p:Option (Int×Tok)):IsPart (prt p) (p.map (·.1)):=by
  cases p with
  | none=>exact .none
  | some q=>exact .int q.1 q.2
noncomputable abbrev cSlL (a:Addr)(xs:Array Value)(e:Nat)(sa:Addr)(lo hi:Option (Int×Tok))(r:Array Value)(d1 d2:Nat):Hint:=.ctr [d1,d2] fun b t c _=>prE "list.__getitem__" [.ref a,.ref sa] (.ref b) 0 [(a,liO xs e),(sa,slO (prt lo) (prt hi))] [liO xs e,slO (prt lo) (prt hi)] [(b,liO r 0)] 1
theorem cSlL_ok {a:Addr}{xs:Array Value}{e:Nat}{sa:Addr}{lo hi:Option (Int×Tok)}{r:Array Value}(hx:xs.size<=sizeLine)(h:slicePick xs (lo.map (·.1)) (hi.map (·.1)) none=r):COk kt prog w b t fun b t c _=>prE "list.__getitem__" [.ref a,.ref sa] (.ref b) 0 [(a,liO xs e),(sa,slO (prt lo) (prt hi))] [liO xs e,slO (prt lo) (prt hi)] [(b,liO r 0)] 1:=fun b' t' c l _ _=>by
  subst h
  refine ⟨rfl,fun G A R s hr hi' hfin=>?_⟩
  have ho:=hi'.has _ List.mem_cons_self
  have hos:=hi'.has _ (List.mem_cons_of_mem _ List.mem_cons_self)
  have hTs:s.TypeIs (.ref sa) "slice":=⟨_,hos,rfl⟩
  refine codeAny_call_builtin F.slot_list_getitem.plain F.entry_list_getitem (F.slot_list_getitem.check _ _ _ _ _ _ _ _ ⟨_,ho,rfl⟩ (F.args_list_getitem_2 _ _) ?_)
  have al:=hi'.alloc (o:=liO (slicePick xs (lo.map (·.1)) (hi.map (·.1)) none) 0) rfl
  have fin:=hfin { s with heap:=s.heap.push (liO (slicePick xs (lo.map (·.1)) (hi.map (·.1)) none) 0) } al ((Step.refl _ _).alloc _) (fun q hq=>by
    rcases List.mem_cons.mp hq with rfl | hq
    · exact Nat.le_refl _
    · cases hq)
  show wpAny _ _ (Builtin.List.listSubscript? (.ref sa) >>= _) _ _ s
  refine wpAny_bind ?_
  unfold Builtin.List.listSubscript?
  refine wpAny_bind (wpAny_specialOf hTs slice_no_index ?_)
  simp only [Option.isNone_none,if_true]
  refine wpAny_pure ?_
  show wpAny _ _ (typeOf (.ref sa) >>= _) _ _ s
  refine wpAny_bind (wpAny_typeOf hTs ?_)
  rw [if_neg (by decide)]
  rw [listSliceParts_eq]
  refine wpAny_bind (wpAny_bind (wpAny_field hos rfl (x:=.none) rfl (wpAny_bind (wpAny_listPart .none ?_))))
  rw [if_neg (by decide)]
  refine wpAny_bind (wpAny_field hos rfl (x:=prt lo) rfl (wpAny_bind (wpAny_listPart (isPart_prt lo) ?_)))
  refine wpAny_bind (wpAny_field hos rfl (x:=prt hi) rfl (wpAny_bind (wpAny_listPart (isPart_prt hi) (wpAny_pure ?_))))
  refine wpAny_bind (m:=Builtin.List.listItems (.ref a)) ?_
  unfold Builtin.List.listItems
  refine wpAny_bind (wpAny_seqItems ho rfl (wpAny_pure ?_))
  refine wpAny_bind (wpAny_of_eq (sliceIndices_raw (lo.map (·.1)) (hi.map (·.1)) none xs.size (by decide)) ?_)
  refine wpAny_bind (wpAny_newObj_type (wpAny_pure ?_) (Nat.le_trans (slicePick_size_le xs (lo.map (·.1)) (hi.map (·.1)) none) hx))
  have fin':R (.ok (.ret (.ref s.heap.objs.size))) { s with heap:=s.heap.push (liO (slicePick xs (lo.map (·.1)) (hi.map (·.1)) none) 0) }:=by rw [hi'.size];exact fin
  exact fin'
end
noncomputable def lamF (K:KT)(cd:Addr):FuncData:=match nth (bodyOf K 91) 2 with
  | some (.Assign _ (.Lambda args body scope _) _)=>⟨Y43,Y44,args,.expr body,scope,3,[],.none,.none,.none,.str Y12 297,none,.ref cd,.none,0⟩
  | _=>default
noncomputable def lxOf (b t:Nat):Lx:=⟨b+21,b+20,b+23,b+18,t+23,t+25,t+28,t+30,t+26⟩
noncomputable def smOf (K:KT)(b t:Nat):Sm:=⟨b+19,b+11,b+10,b+1,b+2,b+3,b+4,t+18,(.str Y45 (t+1)),Y9,t+2,[(.str Y46 (t+3)),(.int 123 0),(.int 1 0),(.int 0 0),(.int 0 0),(.int 19 0),(.ref (b+5)),(.bool true),(.int 181 0),(.ref (b+6)),.none,(.ref (b+7)),(.ref (b+8)),(.ref (b+9)),(.int ((t+8:Nat):Int) 0),(.int 123 0),(.str Y46 (t+9))],lamF K (b+17)⟩
noncomputable abbrev tabO (vs:Array Value):Obj:=⟨.none,none,.fields vs,#[]⟩
noncomputable def tabOf (b:Nat):Obj:=tabO #[(.int 123 0),(.int 4 0),(.ref (b+10)),(.int 127 0),(.int 13 0),(.ref (b+17))]
noncomputable abbrev lxNew (K:KT)(P:Params)(b t:Nat)(x:Str)(tx:Tok):Led:=[((lxOf b t).i,(lxOf b t).iO),((lxOf b t).d,(lxOf b t).dO P (.int 1 (t+21))),((lxOf b t).s,(smOf K b t).sO),((smOf K b t).sd,(smOf K b t).dO P),((smOf K b t).rf,(smOf K b t).fO K),((smOf K b t).rc,(smOf K b t).cO),((smOf K b t).ct,Sm.tO x tx),((smOf K b t).ca,(smOf K b t).aO),((smOf K b t).al,liO #[.int 0 (t+0)] 0),((lxOf b t).p,liO #[] 0)]
noncomputable def lexerSp (x:Str)(tx:Tok)(b t:Nat)(K:KT)(P:Params):Sp:=⟨30,.call (.ref 91) ⟨[.str x tx],[]⟩,[(86,tabO #[])],.ok (.ret (.ref (lxOf b t).i)),[tabOf b],lxNew K P b t x tx,24,31,0⟩
def lexerRun:RP:=fun T pg=>∀x tx b t,JobOk T pg (fun K P=>jobTF (lexerSp x tx b t K P) [0,0,5,5,0,1,5,5,0,9,15,15,15,0,0,0,15,15,0,16,22,22,22,0,0,0,22,22,22,22,4,1,4,4,4,4,5,4,4,4,0,23,0,0,1,0,0,1,0,0,0,0,1,0,0,0,0,0,0,0,0,0,0,0,0,0,0,0,0,0,0,0,0,4,0,4,0,0,0,0,2,0,0,4,4,4,4,0,4,5,0,0,0,1,5,0,5,0,5,0,0,0,5,0,6,6,6,4,4,5,0,0,0,1,5,0,5,0,5,0,0,0,5,0,6,6,6,4,5,0,0,0,1,5,0,5,0,5,0,0,0,5,0,6,6,6,5,6,0,0,0,1,6,0,6,0,6,0,0,0,6,0,7,7,7] [] [2,3,5,4,12,13,22,21,20,0,24]) b t
theorem lexer_ok {T:Params->KT}{prog:Program}{w:World}(H:lexerRun T prog)(x:Str)(tx:Tok)(b t:Nat):JSp T prog w (lexerSp x tx b t) b t:=jobOf_ok (H x tx b t) (.inr rfl) rfl (by decide) trivial
noncomputable abbrev xT (ss:List Stmt)(env:Env):Sem Fin:=PySem.W.R.bindR (PySem.W.Fast.tw12563942051412417395 ss env) fun f=>.pure (.done f)
noncomputable abbrev eT (e:Expr)(env:Env):Sem Fin:=PySem.W.R.bindR (PySem.W.Fast.tw14044960220447912780 e env) fun v=>.pure (.done (.ret v))
noncomputable abbrev lawE (K:KT)(fr cc cn cl:Addr):Env:=envOf K 136 fr [(Y37,cl),(Y21,cn),(Y47,cc)]
noncomputable abbrev lawC (K:KT)(fr cc cn cl:Addr):Code:=.func (bodyOf K 136) (lawE K fr cc cn cl)
noncomputable abbrev lawS (K:KT)(i:Nat):List Stmt:=(nth (bodyOf K 136) i).toList
noncomputable abbrev ceO (v:Option Value):Obj:=⟨.type "cell",none,.cell v,#[]⟩
noncomputable def s0_0J (fr cc cn cl:Addr)(k:Nat->Tok)(sa:Addr)(es:Nat)(b t:Nat):KJ:=fun K P=>⟨30,lawC K fr cc cn cl,xT (lawS K 0) (lawE K fr cc cn cl),[(fr,frO #[ent P Y48 (k 0) (.ref sa)] 1),(cc,ceO none),(sa,liO #[] es)],hs (match P.followText "comprehension-iter-twice" with | true=>[4,7,7,7,1,7,4,4,4,4,4,7,4,4,1,4,4,1,6,1,6,6,6,7,6,6,4,6,0,0,12,1,14,1,14,14,5,5,5,1,5,4,4,4,4,4,5,1,10,4,10,1,10,4,10,4,16,16] | false=>[4,7,7,7,1,7,4,4,4,4,4,7,4,4,1,4,4,1,6,6,1,6,6,6,1,6,6,6,7,6,6,4,6,0,0,12,1,14,1,14,14,5,5,5,1,5,4,4,4,4,4,5,1,10,4,10,1,10,4,10,4,16,16]) [],[0,11,12,13],.ok (.done .next),[((b+10),liO #[(.int 6 (t+1)),(.int 5 (t+2)),(.int 10 (t+3))] 0),(fr,frO #[ent P Y48 (k 0) (.ref sa)] 1),(cc,ceO (some (.ref (b+10)))),(sa,liO #[] es)],11,6,0⟩
def s0_0Run:RP:=fun T pg=>∀fr cc cn cl k sa es b t,JobOk T pg (s0_0J fr cc cn cl k sa es b t) b t
noncomputable def s0_1J (fr cc cn cl:Addr)(k:Nat->Tok)(sa:Addr)(es:Nat)(x0 c0:Int)(tx0:Tok)(b t:Nat):KJ:=fun K P=>⟨30,lawC K fr cc cn cl,xT (lawS K 0) (lawE K fr cc cn cl),[(fr,frO #[ent P Y48 (k 0) (.ref sa)] 1),(cc,ceO none),(sa,liO #[.int x0 tx0] es)],hs (match P.followText "comprehension-iter-twice" with | true=>[4,7,7,7,1,7,4,4,4,4,4,7,4,4,1,4,4,1,6,1,6,6,6,7,6,6,4,4,4,3,1,5,5,5,5,6,1,6,6,6,7,6,6,4,6,6,6,0,0,12,1,14,1,14,14,5,5,5,1,5,4,4,4,4,4,5,1,10,4,10,1,10,4,10,4,16,16] | false=>[4,7,7,7,1,7,4,4,4,4,4,7,4,4,1,4,4,1,6,6,1,6,6,6,1,6,6,6,7,6,6,4,4,4,3,1,5,5,5,5,6,1,6,6,6,7,6,6,4,6,6,6,0,0,12,1,14,1,14,14,5,5,5,1,5,4,4,4,4,4,5,1,10,4,10,1,10,4,10,4,16,16]) [cMod x0 840 c0],[0,11,12,13],.ok (.done .next),[((b+10),liO #[(.int c0 (t+3)),(.int 5 (t+5)),(.int 10 (t+6))] 0),(fr,frO #[ent P Y48 (k 0) (.ref sa)] 1),(cc,ceO (some (.ref (b+10)))),(sa,liO #[.int x0 tx0] es)],11,9,0⟩
def s0_1Run:RP:=fun T pg=>∀fr cc cn cl k sa es x0 c0 tx0 b t,JobOk T pg (s0_1J fr cc cn cl k sa es x0 c0 tx0 b t) b t
noncomputable def s0_2J (fr cc cn cl:Addr)(k:Nat->Tok)(sa:Addr)(es:Nat)(x0 x1 c0 c1:Int)(tx0 tx1:Tok)(b t:Nat):KJ:=fun K P=>⟨30,lawC K fr cc cn cl,xT (lawS K 0) (lawE K fr cc cn cl),[(fr,frO #[ent P Y48 (k 0) (.ref sa)] 1),(cc,ceO none),(sa,liO #[.int x0 tx0,.int x1 tx1] es)],hs (match P.followText "comprehension-iter-twice" with | true=>[4,7,7,7,1,7,4,4,4,4,4,7,4,4,1,4,4,1,6,1,6,6,6,7,6,6,4,4,4,3,1,5,5,5,5,6,1,6,6,6,7,6,6,4,4,4,3,1,5,5,5,5,6,1,6,6,6,7,6,6,4,6,6,6,0,0,12,1,14,1,14,14,5,5,5,1,5,4,4,4,4,4,5,1,10,4,10,1,10,4,10,4,16,16] | false=>[4,7,7,7,1,7,4,4,4,4,4,7,4,4,1,4,4,1,6,6,1,6,6,6,1,6,6,6,7,6,6,4,4,4,3,1,5,5,5,5,6,1,6,6,6,7,6,6,4,4,4,3,1,5,5,5,5,6,1,6,6,6,7,6,6,4,6,6,6,0,0,12,1,14,1,14,14,5,5,5,1,5,4,4,4,4,4,5,1,10,4,10,1,10,4,10,4,16,16]) [cMod x0 840 c0,cMod x1 840 c1],[0,11,12,13],.ok (.done .next),[((b+10),liO #[(.int c0 (t+3)),(.int c1 (t+6)),(.int 10 (t+9))] 0),(fr,frO #[ent P Y48 (k 0) (.ref sa)] 1),(cc,ceO (some (.ref (b+10)))),(sa,liO #[.int x0 tx0,.int x1 tx1] es)],11,12,0⟩
def s0_2Run:RP:=fun T pg=>∀fr cc cn cl k sa es x0 x1 c0 c1 tx0 tx1 b t,JobOk T pg (s0_2J fr cc cn cl k sa es x0 x1 c0 c1 tx0 tx1 b t) b t
noncomputable def s0_3J (fr cc cn cl:Addr)(k:Nat->Tok)(sa:Addr)(es:Nat)(xs:Array Value)(n:Nat)(x0 x1 x2 c0 c1 c2:Int)(tx0 tx1 tx2:Tok)(b t:Nat):KJ:=fun K P=>⟨30,lawC K fr cc cn cl,xT (lawS K 0) (lawE K fr cc cn cl),[(fr,frO #[ent P Y48 (k 0) (.ref sa)] 1),(cc,ceO none),(sa,liO xs es)],hs (match P.followText "comprehension-iter-twice" with | true=>[4,7,7,7,3,4,4,1,4,4,1,6,1,6,6,6,7,6,6,4,4,4,3,1,5,5,5,5,6,1,6,6,6,7,6,6,4,4,4,3,1,5,5,5,5,6,1,6,6,6,7,6,6,4,4,4,3,1,5,5,5,5,6,1,6,6,6,7,6,6,4,6,6,6,0,0,12,3,5,5,5,3,1,10,4,10,1,10,4,10,4,16,16] | false=>[4,7,7,7,3,4,4,1,4,4,1,6,6,1,6,6,6,1,6,6,6,7,6,6,4,4,4,3,1,5,5,5,5,6,1,6,6,6,7,6,6,4,4,4,3,1,5,5,5,5,6,1,6,6,6,7,6,6,4,4,4,3,1,5,5,5,5,6,1,6,6,6,7,6,6,4,6,6,6,0,0,12,3,5,5,5,3,1,10,4,10,1,10,4,10,4,16,16]) [cSlL sa xs es (b+0) none (some (3,(t+0))) #[.int x0 tx0,.int x1 tx1,.int x2 tx2] 3 0,cMod x0 840 c0,cMod x1 840 c1,cMod x2 840 c2,cLenL sa xs es n 10,cSlL (b+7) (#[(.int 6 (t+10)),(.int 5 (t+11)),(.int 10 (t+12))]:Array Value) 0 (b+8) (some ((n:Int),(t+14))) none #[] 1 0],[0,11,12,13],.ok (.done .next),[((b+10),liO #[(.int c0 (t+3)),(.int c1 (t+6)),(.int c2 (t+9))] 0),(fr,frO #[ent P Y48 (k 0) (.ref sa)] 1),(cc,ceO (some (.ref (b+10)))),(sa,liO xs es)],11,15,0⟩
def s0_3Run:RP:=fun T pg=>∀fr cc cn cl k sa es xs n x0 x1 x2 c0 c1 c2 tx0 tx1 tx2 b t,JobOk T pg (s0_3J fr cc cn cl k sa es xs n x0 x1 x2 c0 c1 c2 tx0 tx1 tx2 b t) b t
noncomputable def s1_0J (fr cc cn cl:Addr)(k:Nat->Tok)(sa:Addr)(es:Nat)(b t:Nat):KJ:=fun K P=>⟨30,lawC K fr cc cn cl,xT (lawS K 1) (lawE K fr cc cn cl),[(fr,frO #[ent P Y48 (k 0) (.ref sa)] 1),(sa,liO #[] es)],hs [0,0,4,1,5,1,5,5,1,4,4] [],[0,1],.ok (.done .next),[(fr,frO #[ent P Y48 (k 0) (.ref sa),ent P Y49 (t+4) (.int 3 (t+3))] 2),(sa,liO #[] es)],0,5,0⟩
def s1_0Run:RP:=fun T pg=>∀fr cc cn cl k sa es b t,JobOk T pg (s1_0J fr cc cn cl k sa es b t) b t
noncomputable def s1_1J (fr cc cn cl:Addr)(k:Nat->Tok)(sa:Addr)(es:Nat)(x0:Int)(tx0:Tok)(b t:Nat):KJ:=fun K P=>⟨30,lawC K fr cc cn cl,xT (lawS K 1) (lawE K fr cc cn cl),[(fr,frO #[ent P Y48 (k 0) (.ref sa)] 1),(sa,liO #[.int x0 tx0] es)],hs [0,0,4,1,5,1,5,5,1,4,4] [],[0,1],.ok (.done .next),[(fr,frO #[ent P Y48 (k 0) (.ref sa),ent P Y49 (t+4) (.int 3 (t+3))] 2),(sa,liO #[.int x0 tx0] es)],0,5,0⟩
def s1_1Run:RP:=fun T pg=>∀fr cc cn cl k sa es x0 tx0 b t,JobOk T pg (s1_1J fr cc cn cl k sa es x0 tx0 b t) b t
noncomputable def s1_2J (fr cc cn cl:Addr)(k:Nat->Tok)(sa:Addr)(es:Nat)(x0 x1:Int)(tx0 tx1:Tok)(b t:Nat):KJ:=fun K P=>⟨30,lawC K fr cc cn cl,xT (lawS K 1) (lawE K fr cc cn cl),[(fr,frO #[ent P Y48 (k 0) (.ref sa)] 1),(sa,liO #[.int x0 tx0,.int x1 tx1] es)],hs [0,0,4,1,5,1,5,5,1,4,4] [],[0,1],.ok (.done .next),[(fr,frO #[ent P Y48 (k 0) (.ref sa),ent P Y49 (t+4) (.int 4 (t+3))] 2),(sa,liO #[.int x0 tx0,.int x1 tx1] es)],0,5,0⟩
def s1_2Run:RP:=fun T pg=>∀fr cc cn cl k sa es x0 x1 tx0 tx1 b t,JobOk T pg (s1_2J fr cc cn cl k sa es x0 x1 tx0 tx1 b t) b t
noncomputable def s1_3J (fr cc cn cl:Addr)(k:Nat->Tok)(sa:Addr)(es:Nat)(xs:Array Value)(n:Nat)(b t:Nat):KJ:=fun K P=>⟨30,lawC K fr cc cn cl,xT (lawS K 1) (lawE K fr cc cn cl),[(fr,frO #[ent P Y48 (k 0) (.ref sa)] 1),(sa,liO xs es)],hs [0,0,4,3,3,4,4] [cLenL sa xs es n 1,cGt (n:Int) 1 true],[0,1],.ok (.done .next),[(fr,frO #[ent P Y48 (k 0) (.ref sa),ent P Y49 (t+4) (.int 4 (t+3))] 2),(sa,liO xs es)],0,5,0⟩
def s1_3Run:RP:=fun T pg=>∀fr cc cn cl k sa es xs n b t,JobOk T pg (s1_3J fr cc cn cl k sa es xs n b t) b t
noncomputable def s2_4J (fr cc cn cl:Addr)(k:Nat->Tok)(sa:Addr)(tc:Tok)(la:Addr)(el:Nat)(c0 c1 c2:Int)(t0 t1 t2:Tok)(i0 i1 i2 i3:Int)(y0 y1 y2 y3:Nat)(b t:Nat):KJ:=fun K P=>⟨30,lawC K fr cc cn cl,xT (lawS K 2) (lawE K fr cc cn cl),[(fr,frO #[ent P Y48 (k 0) (.ref sa),ent P Y49 (k 1) (.int 4 tc)] 2),(cc,ceO (some (.ref la))),(cn,ceO none),(la,liO #[.int c0 t0,.int c1 t1,.int c2 t2] el)],hs (match P.followText "comprehension-iter-twice" with | true=>[0,0,4,1,1,4,4,1,4,4,4,4,1,4,4,4,4,4,1,6,1,6,6,6,6,6,6,6,6,4,4,9,11,11,11,1,11,11,4,1,3,3,1,5,5,5,5,6,1,6,6,6,6,6,6,6,6,4,4,9,11,11,11,1,11,11,4,1,3,3,1,5,5,5,5,6,1,6,6,6,6,6,6,6,6,4,4,9,11,11,11,1,11,11,4,1,3,3,1,5,5,5,5,6,1,6,6,6,6,6,6,6,6,4,4,9,11,11,11,1,11,11,4,1,3,3,1,5,5,5,5,6,1,6,6,6,6,4,6,6,6,12,12] | false=>[0,0,4,1,1,4,4,1,4,4,4,4,1,4,4,4,4,4,1,6,6,1,6,6,6,1,6,6,6,6,6,6,6,6,4,4,9,11,11,11,1,11,11,4,1,3,3,1,5,5,5,5,6,1,6,6,6,6,6,6,6,6,4,4,9,11,11,11,1,11,11,4,1,3,3,1,5,5,5,5,6,1,6,6,6,6,6,6,6,6,4,4,9,11,11,11,1,11,11,4,1,3,3,1,5,5,5,5,6,1,6,6,6,6,6,6,6,6,4,4,9,11,11,11,1,11,11,4,1,3,3,1,5,5,5,5,6,1,6,6,6,6,4,6,6,6,12,12]) [cMod (c2+0) 8 i0,cIdx Y50 i0 (y0+1),cMod (c2+1) 8 i1,cIdx Y50 i1 (y1+1),cMod (c2+2) 8 i2,cIdx Y50 i2 (y2+1),cMod (c2+3) 8 i3,cIdx Y50 i3 (y3+1)],[3,6,7,8,9],.ok (.done .next),[((b+2),liO #[(.str (⟨#[y0+1]⟩:Str) (t+9)),(.str (⟨#[y1+1]⟩:Str) (t+17)),(.str (⟨#[y2+1]⟩:Str) (t+25)),(.str (⟨#[y3+1]⟩:Str) (t+33))] 4),(fr,frO #[ent P Y48 (k 0) (.ref sa),ent P Y49 (k 1) (.int 4 tc)] 2),(cc,ceO (some (.ref la))),(cn,ceO (some (.ref (b+2)))),(la,liO #[.int c0 t0,.int c1 t1,.int c2 t2] el)],6,34,0⟩
def s2_4Run:RP:=fun T pg=>∀fr cc cn cl k sa tc la el c0 c1 c2 t0 t1 t2 i0 i1 i2 i3 y0 y1 y2 y3 b t,JobOk T pg (s2_4J fr cc cn cl k sa tc la el c0 c1 c2 t0 t1 t2 i0 i1 i2 i3 y0 y1 y2 y3 b t) b t
noncomputable def s2_3J (fr cc cn cl:Addr)(k:Nat->Tok)(sa:Addr)(tc:Tok)(la:Addr)(el:Nat)(c0 c1 c2:Int)(t0 t1 t2:Tok)(i0 i1 i2:Int)(y0 y1 y2:Nat)(b t:Nat):KJ:=fun K P=>⟨30,lawC K fr cc cn cl,xT (lawS K 2) (lawE K fr cc cn cl),[(fr,frO #[ent P Y48 (k 0) (.ref sa),ent P Y49 (k 1) (.int 3 tc)] 2),(cc,ceO (some (.ref la))),(cn,ceO none),(la,liO #[.int c0 t0,.int c1 t1,.int c2 t2] el)],hs (match P.followText "comprehension-iter-twice" with | true=>[0,0,4,1,1,4,4,1,4,4,4,4,1,4,4,4,4,4,1,6,1,6,6,6,6,6,6,6,6,4,4,9,11,11,11,1,11,11,4,1,3,3,1,5,5,5,5,6,1,6,6,6,6,6,6,6,6,4,4,9,11,11,11,1,11,11,4,1,3,3,1,5,5,5,5,6,1,6,6,6,6,6,6,6,6,4,4,9,11,11,11,1,11,11,4,1,3,3,1,5,5,5,5,6,1,6,6,6,6,4,6,6,6,12,12] | false=>[0,0,4,1,1,4,4,1,4,4,4,4,1,4,4,4,4,4,1,6,6,1,6,6,6,1,6,6,6,6,6,6,6,6,4,4,9,11,11,11,1,11,11,4,1,3,3,1,5,5,5,5,6,1,6,6,6,6,6,6,6,6,4,4,9,11,11,11,1,11,11,4,1,3,3,1,5,5,5,5,6,1,6,6,6,6,6,6,6,6,4,4,9,11,11,11,1,11,11,4,1,3,3,1,5,5,5,5,6,1,6,6,6,6,4,6,6,6,12,12]) [cMod (c2+0) 8 i0,cIdx Y50 i0 (y0+1),cMod (c2+1) 8 i1,cIdx Y50 i1 (y1+1),cMod (c2+2) 8 i2,cIdx Y50 i2 (y2+1)],[3,6,7,8,9],.ok (.done .next),[((b+2),liO #[(.str (⟨#[y0+1]⟩:Str) (t+9)),(.str (⟨#[y1+1]⟩:Str) (t+17)),(.str (⟨#[y2+1]⟩:Str) (t+25))] 3),(fr,frO #[ent P Y48 (k 0) (.ref sa),ent P Y49 (k 1) (.int 3 tc)] 2),(cc,ceO (some (.ref la))),(cn,ceO (some (.ref (b+2)))),(la,liO #[.int c0 t0,.int c1 t1,.int c2 t2] el)],6,26,0⟩
def s2_3Run:RP:=fun T pg=>∀fr cc cn cl k sa tc la el c0 c1 c2 t0 t1 t2 i0 i1 i2 y0 y1 y2 b t,JobOk T pg (s2_3J fr cc cn cl k sa tc la el c0 c1 c2 t0 t1 t2 i0 i1 i2 y0 y1 y2 b t) b t
noncomputable def s3_4J (fr cc cn cl:Addr)(k:Nat->Tok)(sa:Addr)(tc:Tok)(la:Addr)(el:Nat)(c0 c1 c2:Int)(t0 t1 t2:Tok)(d0 z0 d1 z1 d2 z2 d3 z3:Int)(b t:Nat):KJ:=fun K P=>⟨30,lawC K fr cc cn cl,xT (lawS K 3) (lawE K fr cc cn cl),[(fr,frO #[ent P Y48 (k 0) (.ref sa),ent P Y49 (k 1) (.int 4 tc)] 2),(cc,ceO (some (.ref la))),(la,liO #[.int c0 t0,.int c1 t1,.int c2 t2] el)],hs (match P.followText "comprehension-iter-twice" with | true=>[0,0,4,1,1,4,4,1,4,4,4,4,1,4,4,4,4,4,1,6,1,6,6,6,6,6,6,6,6,4,4,9,10,10,10,1,10,10,4,1,3,3,1,5,5,5,5,6,1,6,6,6,6,6,6,6,6,4,4,9,10,10,10,1,10,10,4,1,3,3,1,5,5,5,5,6,1,6,6,6,6,6,6,6,6,4,4,9,10,10,10,1,10,10,4,1,3,3,1,5,5,5,5,6,1,6,6,6,6,6,6,6,6,4,4,9,10,10,10,1,10,10,4,1,3,3,1,5,5,5,5,6,1,6,6,6,6,4,10,10,6,6,6] | false=>[0,0,4,1,1,4,4,1,4,4,4,4,1,4,4,4,4,4,1,6,6,1,6,6,6,1,6,6,6,6,6,6,6,6,4,4,9,10,10,10,1,10,10,4,1,3,3,1,5,5,5,5,6,1,6,6,6,6,6,6,6,6,4,4,9,10,10,10,1,10,10,4,1,3,3,1,5,5,5,5,6,1,6,6,6,6,6,6,6,6,4,4,9,10,10,10,1,10,10,4,1,3,3,1,5,5,5,5,6,1,6,6,6,6,6,6,6,6,4,4,9,10,10,10,1,10,10,4,1,3,3,1,5,5,5,5,6,1,6,6,6,6,4,10,10,6,6,6]) [cFdiv c0 1 d0,cMod d0 2 z0,cFdiv c0 2 d1,cMod d1 2 z1,cFdiv c0 4 d2,cMod d2 2 z2,cFdiv c0 8 d3,cMod d3 2 z3],[3,6,7,8],.ok (.done .next),[((b+2),liO #[(.int z0 (t+9)),(.int z1 (t+17)),(.int z2 (t+25)),(.int z3 (t+33))] 4),(fr,frO #[ent P Y48 (k 0) (.ref sa),ent P Y49 (k 1) (.int 4 tc),ent P Y32 (t+34) (.ref (b+2))] 3),(cc,ceO (some (.ref la))),(la,liO #[.int c0 t0,.int c1 t1,.int c2 t2] el)],6,35,0⟩
def s3_4Run:RP:=fun T pg=>∀fr cc cn cl k sa tc la el c0 c1 c2 t0 t1 t2 d0 z0 d1 z1 d2 z2 d3 z3 b t,JobOk T pg (s3_4J fr cc cn cl k sa tc la el c0 c1 c2 t0 t1 t2 d0 z0 d1 z1 d2 z2 d3 z3 b t) b t
noncomputable def s3_3J (fr cc cn cl:Addr)(k:Nat->Tok)(sa:Addr)(tc:Tok)(la:Addr)(el:Nat)(c0 c1 c2:Int)(t0 t1 t2:Tok)(d0 z0 d1 z1 d2 z2:Int)(b t:Nat):KJ:=fun K P=>⟨30,lawC K fr cc cn cl,xT (lawS K 3) (lawE K fr cc cn cl),[(fr,frO #[ent P Y48 (k 0) (.ref sa),ent P Y49 (k 1) (.int 3 tc)] 2),(cc,ceO (some (.ref la))),(la,liO #[.int c0 t0,.int c1 t1,.int c2 t2] el)],hs (match P.followText "comprehension-iter-twice" with | true=>[0,0,4,1,1,4,4,1,4,4,4,4,1,4,4,4,4,4,1,6,1,6,6,6,6,6,6,6,6,4,4,9,10,10,10,1,10,10,4,1,3,3,1,5,5,5,5,6,1,6,6,6,6,6,6,6,6,4,4,9,10,10,10,1,10,10,4,1,3,3,1,5,5,5,5,6,1,6,6,6,6,6,6,6,6,4,4,9,10,10,10,1,10,10,4,1,3,3,1,5,5,5,5,6,1,6,6,6,6,4,10,10,6,6,6] | false=>[0,0,4,1,1,4,4,1,4,4,4,4,1,4,4,4,4,4,1,6,6,1,6,6,6,1,6,6,6,6,6,6,6,6,4,4,9,10,10,10,1,10,10,4,1,3,3,1,5,5,5,5,6,1,6,6,6,6,6,6,6,6,4,4,9,10,10,10,1,10,10,4,1,3,3,1,5,5,5,5,6,1,6,6,6,6,6,6,6,6,4,4,9,10,10,10,1,10,10,4,1,3,3,1,5,5,5,5,6,1,6,6,6,6,4,10,10,6,6,6]) [cFdiv c0 1 d0,cMod d0 2 z0,cFdiv c0 2 d1,cMod d1 2 z1,cFdiv c0 4 d2,cMod d2 2 z2],[3,6,7,8],.ok (.done .next),[((b+2),liO #[(.int z0 (t+9)),(.int z1 (t+17)),(.int z2 (t+25))] 3),(fr,frO #[ent P Y48 (k 0) (.ref sa),ent P Y49 (k 1) (.int 3 tc),ent P Y32 (t+26) (.ref (b+2))] 3),(cc,ceO (some (.ref la))),(la,liO #[.int c0 t0,.int c1 t1,.int c2 t2] el)],6,27,0⟩
def s3_3Run:RP:=fun T pg=>∀fr cc cn cl k sa tc la el c0 c1 c2 t0 t1 t2 d0 z0 d1 z1 d2 z2 b t,JobOk T pg (s3_3J fr cc cn cl k sa tc la el c0 c1 c2 t0 t1 t2 d0 z0 d1 z1 d2 z2 b t) b t
noncomputable def s4_4J (fr cc cn cl:Addr)(k:Nat->Tok)(sa ab:Addr)(tc:Tok)(la:Addr)(el:Nat)(c0 c1 c2:Int)(t0 t1 t2:Tok)(na:Addr)(en:Nat)(y0 y1 y2 y3:Nat)(tn0 tn1 tn2 tn3:Tok)(d0 m0 d1 m1 d2 m2 d3 m3:Int)(q0 f0 q1 f1 q2 f2 q3 f3:Str)(DQ0 DF0 DQ1 DF1 DQ2 DF2 DQ3 DF3:Nat)(TQ0 TF0 TQ1 TF1 TQ2 TF2 TQ3 TF3:Nat->Nat->Tok->Tok)(fi:Str)(b t:Nat):KJ:=fun K P=>⟨30,lawC K fr cc cn cl,xT (lawS K 4) (lawE K fr cc cn cl),[(fr,frO #[ent P Y48 (k 0) (.ref sa),ent P Y49 (k 1) (.int 4 tc),ent P Y32 (k 2) (.ref ab)] 3),(cc,ceO (some (.ref la))),(cn,ceO (some (.ref na))),(la,liO #[.int c0 t0,.int c1 t1,.int c2 t2] el),(na,liO #[.str ⟨#[y0+1]⟩ tn0,.str ⟨#[y1+1]⟩ tn1,.str ⟨#[y2+1]⟩ tn2,.str ⟨#[y3+1]⟩ tn3] en)],hs (match P.followText "comprehension-iter-twice" with | true=>[0,0,4,1,1,1,1,1,4,4,1,4,4,4,4,1,4,4,4,4,4,1,6,1,6,6,6,6,6,6,6,6,4,4,9,11,11,11,1,11,11,4,1,3,3,1,3,10,4,12,12,12,1,12,12,3,1,5,5,5,5,6,1,6,6,6,6,6,6,6,6,4,4,9,11,11,11,1,11,11,4,1,3,3,1,3,10,4,12,12,12,1,12,12,3,1,5,5,5,5,6,1,6,6,6,6,6,6,6,6,4,4,9,11,11,11,1,11,11,4,1,3,3,1,3,10,4,12,12,12,1,12,12,3,1,5,5,5,5,6,1,6,6,6,6,6,6,6,6,4,4,9,11,11,11,1,11,11,4,1,3,3,1,3,10,4,12,12,12,1,12,12,3,1,5,5,5,5,6,1,6,6,6,6,4,6,6,6,3,10,10] | false=>[0,0,4,1,1,1,1,1,4,4,1,4,4,4,4,1,4,4,4,4,4,1,6,6,1,6,6,6,1,6,6,6,6,6,6,6,6,4,4,9,11,11,11,1,11,11,4,1,3,3,1,3,10,4,12,12,12,1,12,12,3,1,5,5,5,5,6,1,6,6,6,6,6,6,6,6,4,4,9,11,11,11,1,11,11,4,1,3,3,1,3,10,4,12,12,12,1,12,12,3,1,5,5,5,5,6,1,6,6,6,6,6,6,6,6,4,4,9,11,11,11,1,11,11,4,1,3,3,1,3,10,4,12,12,12,1,12,12,3,1,5,5,5,5,6,1,6,6,6,6,6,6,6,6,4,4,9,11,11,11,1,11,11,4,1,3,3,1,3,10,4,12,12,12,1,12,12,3,1,5,5,5,5,6,1,6,6,6,6,4,6,6,6,3,10,10]) [cFdiv c1 8 d0,cMod d0 2 m0,.ctr [] (fun b' t' c _=>prE "str.__mul__" [.str Y3 (aT c 0),.int m0 (aT c 1)] (.str q0 (TQ0 b' t' (aT c 0))) DQ0 [] [] [] 0),.ctr [] (fun b' t' c _=>prE "str.__add__" [.str q0 (aT c 0),.str ⟨#[y3+1]⟩ (aT c 1)] (.str f0 (TF0 b' t' (aT c 1))) DF0 [] [] [] 0),cFdiv c1 4 d1,cMod d1 2 m1,.ctr [] (fun b' t' c _=>prE "str.__mul__" [.str Y3 (aT c 0),.int m1 (aT c 1)] (.str q1 (TQ1 b' t' (aT c 0))) DQ1 [] [] [] 0),.ctr [] (fun b' t' c _=>prE "str.__add__" [.str q1 (aT c 0),.str ⟨#[y2+1]⟩ (aT c 1)] (.str f1 (TF1 b' t' (aT c 1))) DF1 [] [] [] 0),cFdiv c1 2 d2,cMod d2 2 m2,.ctr [] (fun b' t' c _=>prE "str.__mul__" [.str Y3 (aT c 0),.int m2 (aT c 1)] (.str q2 (TQ2 b' t' (aT c 0))) DQ2 [] [] [] 0),.ctr [] (fun b' t' c _=>prE "str.__add__" [.str q2 (aT c 0),.str ⟨#[y1+1]⟩ (aT c 1)] (.str f2 (TF2 b' t' (aT c 1))) DF2 [] [] [] 0),cFdiv c1 1 d3,cMod d3 2 m3,.ctr [] (fun b' t' c _=>prE "str.__mul__" [.str Y3 (aT c 0),.int m3 (aT c 1)] (.str q3 (TQ3 b' t' (aT c 0))) DQ3 [] [] [] 0),.ctr [] (fun b' t' c _=>prE "str.__add__" [.str q3 (aT c 0),.str ⟨#[y0+1]⟩ (aT c 1)] (.str f3 (TF3 b' t' (aT c 1))) DF3 [] [] [] 0),cJoinE Y2 (b+2) [(f0,(TF0 (b+4) (t+((16+DQ0)+0)) tn3)),(f1,(TF1 (b+4) (t+((((((16+DQ0)+0)+DF0)+9)+DQ1)+0)) tn2)),(f2,(TF2 (b+4) (t+((((((((((16+DQ0)+0)+DF0)+9)+DQ1)+0)+DF1)+9)+DQ2)+0)) tn1)),(f3,(TF3 (b+4) (t+((((((((((((((16+DQ0)+0)+DF0)+9)+DQ1)+0)+DF1)+9)+DQ2)+0)+DF2)+9)+DQ3)+0)) tn0))] 4 fi 3],[6,7,8,9,10],.ok (.done .next),[(fr,frO #[ent P Y48 (k 0) (.ref sa),ent P Y49 (k 1) (.int 4 tc),ent P Y32 (k 2) (.ref ab),ent P Y51 (t+((((((((((((((((16+DQ0)+0)+DF0)+9)+DQ1)+0)+DF1)+9)+DQ2)+0)+DF2)+9)+DQ3)+0)+DF3)+1)) (.str fi (t+((((((((((((((((16+DQ0)+0)+DF0)+9)+DQ1)+0)+DF1)+9)+DQ2)+0)+DF2)+9)+DQ3)+0)+DF3)+0)))] 4),(cc,ceO (some (.ref la))),(cn,ceO (some (.ref na))),(la,liO #[.int c0 t0,.int c1 t1,.int c2 t2] el),(na,liO #[.str ⟨#[y0+1]⟩ tn0,.str ⟨#[y1+1]⟩ tn1,.str ⟨#[y2+1]⟩ tn2,.str ⟨#[y3+1]⟩ tn3] en)],6,((((((((((((((((16+DQ0)+0)+DF0)+9)+DQ1)+0)+DF1)+9)+DQ2)+0)+DF2)+9)+DQ3)+0)+DF3)+2),0⟩
def s4_4Run:RP:=fun T pg=>∀fr cc cn cl k sa ab tc la el c0 c1 c2 t0 t1 t2 na en y0 y1 y2 y3 tn0 tn1 tn2 tn3 d0 m0 d1 m1 d2 m2 d3 m3 q0 f0 q1 f1 q2 f2 q3 f3 DQ0 DF0 DQ1 DF1 DQ2 DF2 DQ3 DF3 TQ0 TF0 TQ1 TF1 TQ2 TF2 TQ3 TF3 fi b t,JobOk T pg (s4_4J fr cc cn cl k sa ab tc la el c0 c1 c2 t0 t1 t2 na en y0 y1 y2 y3 tn0 tn1 tn2 tn3 d0 m0 d1 m1 d2 m2 d3 m3 q0 f0 q1 f1 q2 f2 q3 f3 DQ0 DF0 DQ1 DF1 DQ2 DF2 DQ3 DF3 TQ0 TF0 TQ1 TF1 TQ2 TF2 TQ3 TF3 fi b t) b t
noncomputable def s4_3J (fr cc cn cl:Addr)(k:Nat->Tok)(sa ab:Addr)(tc:Tok)(la:Addr)(el:Nat)(c0 c1 c2:Int)(t0 t1 t2:Tok)(na:Addr)(en:Nat)(y0 y1 y2:Nat)(tn0 tn1 tn2:Tok)(d0 m0 d1 m1 d2 m2:Int)(q0 f0 q1 f1 q2 f2:Str)(DQ0 DF0 DQ1 DF1 DQ2 DF2:Nat)(TQ0 TF0 TQ1 TF1 TQ2 TF2:Nat->Nat->Tok->Tok)(fi:Str)(b t:Nat):KJ:=fun K P=>⟨30,lawC K fr cc cn cl,xT (lawS K 4) (lawE K fr cc cn cl),[(fr,frO #[ent P Y48 (k 0) (.ref sa),ent P Y49 (k 1) (.int 3 tc),ent P Y32 (k 2) (.ref ab)] 3),(cc,ceO (some (.ref la))),(cn,ceO (some (.ref na))),(la,liO #[.int c0 t0,.int c1 t1,.int c2 t2] el),(na,liO #[.str ⟨#[y0+1]⟩ tn0,.str ⟨#[y1+1]⟩ tn1,.str ⟨#[y2+1]⟩ tn2] en)],hs (match P.followText "comprehension-iter-twice" with | true=>[0,0,4,1,1,1,1,1,4,4,1,4,4,4,4,1,4,4,4,4,4,1,6,1,6,6,6,6,6,6,6,6,4,4,9,11,11,11,1,11,11,4,1,3,3,1,3,10,4,12,12,12,1,12,12,3,1,5,5,5,5,6,1,6,6,6,6,6,6,6,6,4,4,9,11,11,11,1,11,11,4,1,3,3,1,3,10,4,12,12,12,1,12,12,3,1,5,5,5,5,6,1,6,6,6,6,6,6,6,6,4,4,9,11,11,11,1,11,11,4,1,3,3,1,3,10,4,12,12,12,1,12,12,3,1,5,5,5,5,6,1,6,6,6,6,4,6,6,6,3,10,10] | false=>[0,0,4,1,1,1,1,1,4,4,1,4,4,4,4,1,4,4,4,4,4,1,6,6,1,6,6,6,1,6,6,6,6,6,6,6,6,4,4,9,11,11,11,1,11,11,4,1,3,3,1,3,10,4,12,12,12,1,12,12,3,1,5,5,5,5,6,1,6,6,6,6,6,6,6,6,4,4,9,11,11,11,1,11,11,4,1,3,3,1,3,10,4,12,12,12,1,12,12,3,1,5,5,5,5,6,1,6,6,6,6,6,6,6,6,4,4,9,11,11,11,1,11,11,4,1,3,3,1,3,10,4,12,12,12,1,12,12,3,1,5,5,5,5,6,1,6,6,6,6,4,6,6,6,3,10,10]) [cFdiv c1 4 d0,cMod d0 2 m0,.ctr [] (fun b' t' c _=>prE "str.__mul__" [.str Y3 (aT c 0),.int m0 (aT c 1)] (.str q0 (TQ0 b' t' (aT c 0))) DQ0 [] [] [] 0),.ctr [] (fun b' t' c _=>prE "str.__add__" [.str q0 (aT c 0),.str ⟨#[y2+1]⟩ (aT c 1)] (.str f0 (TF0 b' t' (aT c 1))) DF0 [] [] [] 0),cFdiv c1 2 d1,cMod d1 2 m1,.ctr [] (fun b' t' c _=>prE "str.__mul__" [.str Y3 (aT c 0),.int m1 (aT c 1)] (.str q1 (TQ1 b' t' (aT c 0))) DQ1 [] [] [] 0),.ctr [] (fun b' t' c _=>prE "str.__add__" [.str q1 (aT c 0),.str ⟨#[y1+1]⟩ (aT c 1)] (.str f1 (TF1 b' t' (aT c 1))) DF1 [] [] [] 0),cFdiv c1 1 d2,cMod d2 2 m2,.ctr [] (fun b' t' c _=>prE "str.__mul__" [.str Y3 (aT c 0),.int m2 (aT c 1)] (.str q2 (TQ2 b' t' (aT c 0))) DQ2 [] [] [] 0),.ctr [] (fun b' t' c _=>prE "str.__add__" [.str q2 (aT c 0),.str ⟨#[y0+1]⟩ (aT c 1)] (.str f2 (TF2 b' t' (aT c 1))) DF2 [] [] [] 0),cJoinE Y2 (b+2) [(f0,(TF0 (b+4) (t+((16+DQ0)+0)) tn2)),(f1,(TF1 (b+4) (t+((((((16+DQ0)+0)+DF0)+9)+DQ1)+0)) tn1)),(f2,(TF2 (b+4) (t+((((((((((16+DQ0)+0)+DF0)+9)+DQ1)+0)+DF1)+9)+DQ2)+0)) tn0))] 3 fi 3],[6,7,8,9,10],.ok (.done .next),[(fr,frO #[ent P Y48 (k 0) (.ref sa),ent P Y49 (k 1) (.int 3 tc),ent P Y32 (k 2) (.ref ab),ent P Y51 (t+((((((((((((16+DQ0)+0)+DF0)+9)+DQ1)+0)+DF1)+9)+DQ2)+0)+DF2)+1)) (.str fi (t+((((((((((((16+DQ0)+0)+DF0)+9)+DQ1)+0)+DF1)+9)+DQ2)+0)+DF2)+0)))] 4),(cc,ceO (some (.ref la))),(cn,ceO (some (.ref na))),(la,liO #[.int c0 t0,.int c1 t1,.int c2 t2] el),(na,liO #[.str ⟨#[y0+1]⟩ tn0,.str ⟨#[y1+1]⟩ tn1,.str ⟨#[y2+1]⟩ tn2] en)],6,((((((((((((16+DQ0)+0)+DF0)+9)+DQ1)+0)+DF1)+9)+DQ2)+0)+DF2)+2),0⟩
def s4_3Run:RP:=fun T pg=>∀fr cc cn cl k sa ab tc la el c0 c1 c2 t0 t1 t2 na en y0 y1 y2 tn0 tn1 tn2 d0 m0 d1 m1 d2 m2 q0 f0 q1 f1 q2 f2 DQ0 DF0 DQ1 DF1 DQ2 DF2 TQ0 TF0 TQ1 TF1 TQ2 TF2 fi b t,JobOk T pg (s4_3J fr cc cn cl k sa ab tc la el c0 c1 c2 t0 t1 t2 na en y0 y1 y2 tn0 tn1 tn2 d0 m0 d1 m1 d2 m2 q0 f0 q1 f1 q2 f2 DQ0 DF0 DQ1 DF1 DQ2 DF2 TQ0 TF0 TQ1 TF1 TQ2 TF2 fi b t) b t
noncomputable def s5_4J (fr cc cn cl:Addr)(k:Nat->Tok)(sa ab:Addr)(tc:Tok)(fi:Str)(tf:Tok)(na:Addr)(en:Nat)(y0 y1 y2 y3:Nat)(tn0 tn1 tn2 tn3:Tok)(b t:Nat):KJ:=fun K P=>⟨30,lawC K fr cc cn cl,xT (lawS K 5) (lawE K fr cc cn cl),[(fr,frO #[ent P Y48 (k 0) (.ref sa),ent P Y49 (k 1) (.int 4 tc),ent P Y32 (k 2) (.ref ab),ent P Y51 (k 3) (.str fi tf)] 4),(cn,ceO (some (.ref na))),(na,liO #[.str ⟨#[y0+1]⟩ tn0,.str ⟨#[y1+1]⟩ tn1,.str ⟨#[y2+1]⟩ tn2,.str ⟨#[y3+1]⟩ tn3] en)],hs [5,4,7,4,7,1,7,4,7,4,6,6] [],[0,2,3,4],.ok (.done .next),[((b+1),liO #[(.str (⟨#[y0+1]⟩:Str) tn0),(.str (⟨#[y1+1]⟩:Str) tn1),(.str (⟨#[y2+1]⟩:Str) tn2),(.str (⟨#[y3+1]⟩:Str) tn3),(.str fi tf)] 0),(fr,frO #[ent P Y48 (k 0) (.ref sa),ent P Y49 (k 1) (.int 4 tc),ent P Y32 (k 2) (.ref ab),ent P Y51 (k 3) (.str fi tf),ent P Y52 (t+0) (.ref (b+1))] 5),(cn,ceO (some (.ref na))),(na,liO #[.str ⟨#[y0+1]⟩ tn0,.str ⟨#[y1+1]⟩ tn1,.str ⟨#[y2+1]⟩ tn2,.str ⟨#[y3+1]⟩ tn3] en)],2,1,0⟩
def s5_4Run:RP:=fun T pg=>∀fr cc cn cl k sa ab tc fi tf na en y0 y1 y2 y3 tn0 tn1 tn2 tn3 b t,JobOk T pg (s5_4J fr cc cn cl k sa ab tc fi tf na en y0 y1 y2 y3 tn0 tn1 tn2 tn3 b t) b t
noncomputable def s5_3J (fr cc cn cl:Addr)(k:Nat->Tok)(sa ab:Addr)(tc:Tok)(fi:Str)(tf:Tok)(na:Addr)(en:Nat)(y0 y1 y2:Nat)(tn0 tn1 tn2:Tok)(b t:Nat):KJ:=fun K P=>⟨30,lawC K fr cc cn cl,xT (lawS K 5) (lawE K fr cc cn cl),[(fr,frO #[ent P Y48 (k 0) (.ref sa),ent P Y49 (k 1) (.int 3 tc),ent P Y32 (k 2) (.ref ab),ent P Y51 (k 3) (.str fi tf)] 4),(cn,ceO (some (.ref na))),(na,liO #[.str ⟨#[y0+1]⟩ tn0,.str ⟨#[y1+1]⟩ tn1,.str ⟨#[y2+1]⟩ tn2] en)],hs [5,4,7,4,7,1,7,4,7,4,6,6] [],[0,2,3,4],.ok (.done .next),[((b+1),liO #[(.str (⟨#[y0+1]⟩:Str) tn0),(.str (⟨#[y1+1]⟩:Str) tn1),(.str (⟨#[y2+1]⟩:Str) tn2),(.str fi tf)] 0),(fr,frO #[ent P Y48 (k 0) (.ref sa),ent P Y49 (k 1) (.int 3 tc),ent P Y32 (k 2) (.ref ab),ent P Y51 (k 3) (.str fi tf),ent P Y52 (t+0) (.ref (b+1))] 5),(cn,ceO (some (.ref na))),(na,liO #[.str ⟨#[y0+1]⟩ tn0,.str ⟨#[y1+1]⟩ tn1,.str ⟨#[y2+1]⟩ tn2] en)],2,1,0⟩
def s5_3Run:RP:=fun T pg=>∀fr cc cn cl k sa ab tc fi tf na en y0 y1 y2 tn0 tn1 tn2 b t,JobOk T pg (s5_3J fr cc cn cl k sa ab tc fi tf na en y0 y1 y2 tn0 tn1 tn2 b t) b t
noncomputable abbrev wrdSp (x:Str)(bb:Int)(W:Str)(tx tb tw:Tok)(da dt:Nat):Sp:=⟨20,.call (.ref 96) ⟨[.str x tx,.int bb tb],[]⟩,[],.ok (.ret (.str W tw)),[],[],da,dt,0⟩
noncomputable abbrev gtSp (X:Lx)(S:Sm)(K:KT)(P:Params)(x:Str)(tx:Tok)(ln ln':Value)(p p':Int)(tp tp':Tok)(ea ep:Nat)(w:Str)(tw:Tok)(da dt:Nat):Sp:=⟨80,.call (.ref 70) ⟨[.ref X.i],[]⟩,tkL X S K P x tx ln p tp ea++[(X.p,liO #[] ep)],.ok (.ret (.str w tw)),(tkL X S K P x tx ln' p' tp' ea).map (·.2)++[liO #[] ep],[],da,dt,0⟩
noncomputable def stE:Stmt->Expr×List Stmt×Pos | .If e b _ p=>(e,b,p) | .Return (some e) p=>(e,[],p) | _=>default
noncomputable def boE:Expr->List Expr×Pos | .BoolOp _ l p=>(l,p) | _=>default
noncomputable def cmE:Expr->Expr×List Expr×Pos | .Compare e _ l p=>(e,l,p) | _=>default
noncomputable abbrev boS (st:Stmt):=boE (stE st).1
noncomputable abbrev cmS (st:Stmt):=cmE ((boS st).1.headD default)
noncomputable def ifL (st:Stmt):Expr:=(cmS st).1
noncomputable def ifR (st:Stmt):Expr:=(boS st).1.tail.headD default
noncomputable def lawN (K:KT)(i:Nat):Stmt:=(nth (bodyOf K 136) i).getD default
noncomputable def ifW (st:Stmt):Expr:=(cmS st).2.1.headD default
noncomputable abbrev bT (e:Expr)(env:Env):Sem Fin:=PySem.W.R.bindR (PySem.W.Fast.tw15418851999007992765 e env (PySem.W.Fast.tw14044960220447912780 e env)) fun v=>.pure (.done (.ret (.bool v)))
noncomputable def s6_4J (fr cc cn cl:Addr)(k:Nat->Tok)(sa ab:Addr)(tc:Tok)(la:Addr)(el:Nat)(c0 c1 c2:Int)(t0 t1 t2:Tok)(aw:Addr)(ew:Nat)(fi:Str)(tf:Tok)(y0 y1 y2 y3:Nat)(tn0 tn1 tn2 tn3:Tok)(dd bb:Int)(W0 W1 W2 W3 W4 x:Str)(AW0 DW0 AW1 DW1 AW2 DW2 AW3 DW3 AW4 DW4:Nat)(TW0 TW1 TW2 TW3 TW4:Nat->Nat->Tok)(b t:Nat):KJ:=fun K P=>⟨60,lawC K fr cc cn cl,xT (lawS K 6) (lawE K fr cc cn cl),[(fr,frO #[ent P Y48 (k 0) (.ref sa),ent P Y49 (k 1) (.int 4 tc),ent P Y32 (k 2) (.ref ab),ent P Y51 (k 3) (.str fi tf),ent P Y52 (k 4) (.ref aw)] 5),(cc,ceO (some (.ref la))),(cl,ceO none),(la,liO #[.int c0 t0,.int c1 t1,.int c2 t2] el),(aw,liO #[.str ⟨#[y0+1]⟩ tn0,.str ⟨#[y1+1]⟩ tn1,.str ⟨#[y2+1]⟩ tn2,.str ⟨#[y3+1]⟩ tn3,.str fi tf] ew),(86,tabO #[])],hs (match P.followText "comprehension-iter-twice" with | true=>[0,4,8,8,1,8,4,1,6,1,6,6,6,11,6,6,4,4,0,4,8,10,10,10,1,10,10,3,3,0,3,1,5,5,5,5,6,1,6,6,6,11,6,6,4,4,0,4,8,10,10,10,1,10,10,3,3,0,3,1,5,5,5,5,6,1,6,6,6,11,6,6,4,4,0,4,8,10,10,10,1,10,10,3,3,0,3,1,5,5,5,5,6,1,6,6,6,11,6,6,4,4,0,4,8,10,10,10,1,10,10,3,3,0,3,1,5,5,5,5,6,1,6,6,6,11,6,6,4,4,0,4,8,10,10,10,1,10,10,3,3,0,3,1,5,5,5,5,6,1,6,6,6,11,6,6,4,6,6,6,3,0,3,21,21] | false=>[0,4,8,8,1,8,4,1,6,6,1,6,6,6,1,6,6,6,11,6,6,4,4,0,4,8,10,10,10,1,10,10,3,3,0,3,1,5,5,5,5,6,1,6,6,6,11,6,6,4,4,0,4,8,10,10,10,1,10,10,3,3,0,3,1,5,5,5,5,6,1,6,6,6,11,6,6,4,4,0,4,8,10,10,10,1,10,10,3,3,0,3,1,5,5,5,5,6,1,6,6,6,11,6,6,4,4,0,4,8,10,10,10,1,10,10,3,3,0,3,1,5,5,5,5,6,1,6,6,6,11,6,6,4,4,0,4,8,10,10,10,1,10,10,3,3,0,3,1,5,5,5,5,6,1,6,6,6,11,6,6,4,6,6,6,3,0,3,21,21]) [cFdiv c2 8 dd,cMod dd 2 bb,.ctr [] (fun b' t' c _=>wrdSp (⟨#[y0+1]⟩:Str) bb W0 (aT c 0) (aT c 1) (TW0 b' t') AW0 DW0),cFdiv c2 8 dd,cMod dd 2 bb,.ctr [] (fun b' t' c _=>wrdSp (⟨#[y1+1]⟩:Str) bb W1 (aT c 0) (aT c 1) (TW1 b' t') AW1 DW1),cFdiv c2 8 dd,cMod dd 2 bb,.ctr [] (fun b' t' c _=>wrdSp (⟨#[y2+1]⟩:Str) bb W2 (aT c 0) (aT c 1) (TW2 b' t') AW2 DW2),cFdiv c2 8 dd,cMod dd 2 bb,.ctr [] (fun b' t' c _=>wrdSp (⟨#[y3+1]⟩:Str) bb W3 (aT c 0) (aT c 1) (TW3 b' t') AW3 DW3),cFdiv c2 8 dd,cMod dd 2 bb,.ctr [] (fun b' t' c _=>wrdSp fi bb W4 (aT c 0) (aT c 1) (TW4 b' t') AW4 DW4),cJoinE Y14 (b+1) [(W0,(TW0 (b+3) (t+7))),(W1,(TW1 (b+((3+AW0)+0)) (t+((7+DW0)+6)))),(W2,(TW2 (b+((((3+AW0)+0)+AW1)+0)) (t+((((7+DW0)+6)+DW1)+6)))),(W3,(TW3 (b+((((((3+AW0)+0)+AW1)+0)+AW2)+0)) (t+((((((7+DW0)+6)+DW1)+6)+DW2)+6)))),(W4,(TW4 (b+((((((((3+AW0)+0)+AW1)+0)+AW2)+0)+AW3)+0)) (t+((((((((7+DW0)+6)+DW1)+6)+DW2)+6)+DW3)+6))))] 5 x 3,.ctr [10] (fun b' t' c _=>lexerSp x (aT c 0) b' t' K P)],[0,1,2,3,4,5,6,7,8,9,15,16,17,18,19,20],.ok (.done .next),lxNew K P (b+((((((((((3+AW0)+0)+AW1)+0)+AW2)+0)+AW3)+0)+AW4)+2)) (t+((((((((((7+DW0)+6)+DW1)+6)+DW2)+6)+DW3)+6)+DW4)+1)) x (t+((((((((((7+DW0)+6)+DW1)+6)+DW2)+6)+DW3)+6)+DW4)+0))++[(fr,frO #[ent P Y48 (k 0) (.ref sa),ent P Y49 (k 1) (.int 4 tc),ent P Y32 (k 2) (.ref ab),ent P Y51 (k 3) (.str fi tf),ent P Y52 (k 4) (.ref aw)] 5),(cc,ceO (some (.ref la))),(cl,ceO (some (.ref (lxOf (b+((((((((((3+AW0)+0)+AW1)+0)+AW2)+0)+AW3)+0)+AW4)+2)) (t+((((((((((7+DW0)+6)+DW1)+6)+DW2)+6)+DW3)+6)+DW4)+1))).i))),(la,liO #[.int c0 t0,.int c1 t1,.int c2 t2] el),(aw,liO #[.str ⟨#[y0+1]⟩ tn0,.str ⟨#[y1+1]⟩ tn1,.str ⟨#[y2+1]⟩ tn2,.str ⟨#[y3+1]⟩ tn3,.str fi tf] ew),(86,tabOf (b+((((((((((3+AW0)+0)+AW1)+0)+AW2)+0)+AW3)+0)+AW4)+2)))],((((((((((3+AW0)+0)+AW1)+0)+AW2)+0)+AW3)+0)+AW4)+26),((((((((((7+DW0)+6)+DW1)+6)+DW2)+6)+DW3)+6)+DW4)+32),0⟩
def s6_4Run:RP:=fun T pg=>∀fr cc cn cl k sa ab tc la el c0 c1 c2 t0 t1 t2 aw ew fi tf y0 y1 y2 y3 tn0 tn1 tn2 tn3 dd bb W0 W1 W2 W3 W4 x AW0 DW0 AW1 DW1 AW2 DW2 AW3 DW3 AW4 DW4 TW0 TW1 TW2 TW3 TW4 b t,JobOk T pg (s6_4J fr cc cn cl k sa ab tc la el c0 c1 c2 t0 t1 t2 aw ew fi tf y0 y1 y2 y3 tn0 tn1 tn2 tn3 dd bb W0 W1 W2 W3 W4 x AW0 DW0 AW1 DW1 AW2 DW2 AW3 DW3 AW4 DW4 TW0 TW1 TW2 TW3 TW4 b t) b t
noncomputable def s6_3J (fr cc cn cl:Addr)(k:Nat->Tok)(sa ab:Addr)(tc:Tok)(la:Addr)(el:Nat)(c0 c1 c2:Int)(t0 t1 t2:Tok)(aw:Addr)(ew:Nat)(fi:Str)(tf:Tok)(y0 y1 y2:Nat)(tn0 tn1 tn2:Tok)(dd bb:Int)(W0 W1 W2 W3 x:Str)(AW0 DW0 AW1 DW1 AW2 DW2 AW3 DW3:Nat)(TW0 TW1 TW2 TW3:Nat->Nat->Tok)(b t:Nat):KJ:=fun K P=>⟨60,lawC K fr cc cn cl,xT (lawS K 6) (lawE K fr cc cn cl),[(fr,frO #[ent P Y48 (k 0) (.ref sa),ent P Y49 (k 1) (.int 3 tc),ent P Y32 (k 2) (.ref ab),ent P Y51 (k 3) (.str fi tf),ent P Y52 (k 4) (.ref aw)] 5),(cc,ceO (some (.ref la))),(cl,ceO none),(la,liO #[.int c0 t0,.int c1 t1,.int c2 t2] el),(aw,liO #[.str ⟨#[y0+1]⟩ tn0,.str ⟨#[y1+1]⟩ tn1,.str ⟨#[y2+1]⟩ tn2,.str fi tf] ew),(86,tabO #[])],hs (match P.followText "comprehension-iter-twice" with | true=>[0,4,8,8,1,8,4,1,6,1,6,6,6,11,6,6,4,4,0,4,8,10,10,10,1,10,10,3,3,0,3,1,5,5,5,5,6,1,6,6,6,11,6,6,4,4,0,4,8,10,10,10,1,10,10,3,3,0,3,1,5,5,5,5,6,1,6,6,6,11,6,6,4,4,0,4,8,10,10,10,1,10,10,3,3,0,3,1,5,5,5,5,6,1,6,6,6,11,6,6,4,4,0,4,8,10,10,10,1,10,10,3,3,0,3,1,5,5,5,5,6,1,6,6,6,11,6,6,4,6,6,6,3,0,3,21,21] | false=>[0,4,8,8,1,8,4,1,6,6,1,6,6,6,1,6,6,6,11,6,6,4,4,0,4,8,10,10,10,1,10,10,3,3,0,3,1,5,5,5,5,6,1,6,6,6,11,6,6,4,4,0,4,8,10,10,10,1,10,10,3,3,0,3,1,5,5,5,5,6,1,6,6,6,11,6,6,4,4,0,4,8,10,10,10,1,10,10,3,3,0,3,1,5,5,5,5,6,1,6,6,6,11,6,6,4,4,0,4,8,10,10,10,1,10,10,3,3,0,3,1,5,5,5,5,6,1,6,6,6,11,6,6,4,6,6,6,3,0,3,21,21]) [cFdiv c2 8 dd,cMod dd 2 bb,.ctr [] (fun b' t' c _=>wrdSp (⟨#[y0+1]⟩:Str) bb W0 (aT c 0) (aT c 1) (TW0 b' t') AW0 DW0),cFdiv c2 8 dd,cMod dd 2 bb,.ctr [] (fun b' t' c _=>wrdSp (⟨#[y1+1]⟩:Str) bb W1 (aT c 0) (aT c 1) (TW1 b' t') AW1 DW1),cFdiv c2 8 dd,cMod dd 2 bb,.ctr [] (fun b' t' c _=>wrdSp (⟨#[y2+1]⟩:Str) bb W2 (aT c 0) (aT c 1) (TW2 b' t') AW2 DW2),cFdiv c2 8 dd,cMod dd 2 bb,.ctr [] (fun b' t' c _=>wrdSp fi bb W3 (aT c 0) (aT c 1) (TW3 b' t') AW3 DW3),cJoinE Y14 (b+1) [(W0,(TW0 (b+3) (t+7))),(W1,(TW1 (b+((3+AW0)+0)) (t+((7+DW0)+6)))),(W2,(TW2 (b+((((3+AW0)+0)+AW1)+0)) (t+((((7+DW0)+6)+DW1)+6)))),(W3,(TW3 (b+((((((3+AW0)+0)+AW1)+0)+AW2)+0)) (t+((((((7+DW0)+6)+DW1)+6)+DW2)+6))))] 4 x 3,.ctr [10] (fun b' t' c _=>lexerSp x (aT c 0) b' t' K P)],[0,1,2,3,4,5,6,7,8,9,15,16,17,18,19,20],.ok (.done .next),lxNew K P (b+((((((((3+AW0)+0)+AW1)+0)+AW2)+0)+AW3)+2)) (t+((((((((7+DW0)+6)+DW1)+6)+DW2)+6)+DW3)+1)) x (t+((((((((7+DW0)+6)+DW1)+6)+DW2)+6)+DW3)+0))++[(fr,frO #[ent P Y48 (k 0) (.ref sa),ent P Y49 (k 1) (.int 3 tc),ent P Y32 (k 2) (.ref ab),ent P Y51 (k 3) (.str fi tf),ent P Y52 (k 4) (.ref aw)] 5),(cc,ceO (some (.ref la))),(cl,ceO (some (.ref (lxOf (b+((((((((3+AW0)+0)+AW1)+0)+AW2)+0)+AW3)+2)) (t+((((((((7+DW0)+6)+DW1)+6)+DW2)+6)+DW3)+1))).i))),(la,liO #[.int c0 t0,.int c1 t1,.int c2 t2] el),(aw,liO #[.str ⟨#[y0+1]⟩ tn0,.str ⟨#[y1+1]⟩ tn1,.str ⟨#[y2+1]⟩ tn2,.str fi tf] ew),(86,tabOf (b+((((((((3+AW0)+0)+AW1)+0)+AW2)+0)+AW3)+2)))],((((((((3+AW0)+0)+AW1)+0)+AW2)+0)+AW3)+26),((((((((7+DW0)+6)+DW1)+6)+DW2)+6)+DW3)+32),0⟩
def s6_3Run:RP:=fun T pg=>∀fr cc cn cl k sa ab tc la el c0 c1 c2 t0 t1 t2 aw ew fi tf y0 y1 y2 tn0 tn1 tn2 dd bb W0 W1 W2 W3 x AW0 DW0 AW1 DW1 AW2 DW2 AW3 DW3 TW0 TW1 TW2 TW3 b t,JobOk T pg (s6_3J fr cc cn cl k sa ab tc la el c0 c1 c2 t0 t1 t2 aw ew fi tf y0 y1 y2 tn0 tn1 tn2 dd bb W0 W1 W2 W3 x AW0 DW0 AW1 DW1 AW2 DW2 AW3 DW3 TW0 TW1 TW2 TW3 b t) b t
noncomputable def e1_4J (fr cc cn cl:Addr)(k:Nat->Tok)(sa ab:Addr)(tc:Tok)(aw:Addr)(ew:Nat)(fi:Str)(tf:Tok)(y0 y1 y2 y3:Nat)(tn0 tn1 tn2 tn3:Tok)(X:Lx)(S:Sm)(x:Str)(tx:Tok)(ln:Value)(p:Int)(tp:Tok)(ea ep:Nat)(p0 p1 p2 p3 p4:Int)(LN0 LN1 LN2 LN3 LN4:Nat->Nat->Value)(TP0 TG0 AG0 DG0 TP1 TG1 AG1 DG1 TP2 TG2 AG2 DG2 TP3 TG3 AG3 DG3 TP4 TG4 AG4 DG4:Nat->Nat->Nat)(b t:Nat):KJ:=fun K P=>⟨90,lawC K fr cc cn cl,eT (ifL (lawN K 7)) (lawE K fr cc cn cl),[(fr,frO #[ent P Y48 (k 0) (.ref sa),ent P Y49 (k 1) (.int 4 tc),ent P Y32 (k 2) (.ref ab),ent P Y51 (k 3) (.str fi tf),ent P Y52 (k 4) (.ref aw)] 5),(cl,ceO (some (.ref X.i))),(aw,liO #[.str ⟨#[y0+1]⟩ tn0,.str ⟨#[y1+1]⟩ tn1,.str ⟨#[y2+1]⟩ tn2,.str ⟨#[y3+1]⟩ tn3,.str fi tf] ew),(X.i,X.iO),(X.d,X.dO P ln),(X.s,S.sO),(S.sd,S.dO P),(S.rf,S.fO K),(S.rc,S.cO),(S.ct,Sm.tO x tx),(S.ca,S.aO),(S.al,liO #[.int p tp] ea),(X.p,liO #[] ep)],hs (match P.followText "comprehension-iter-twice" with | true=>[4,6,6,1,6,4,1,6,1,6,6,6,9,6,6,4,4,8,10,0,0,0,10,0,0,0,10,0,0,0,0,10,11,0,3,1,5,5,5,5,6,1,6,6,6,9,6,6,4,4,8,10,0,0,0,10,0,0,0,10,0,0,0,0,10,11,0,3,1,5,5,5,5,6,1,6,6,6,9,6,6,4,4,8,10,0,0,0,10,0,0,0,10,0,0,0,0,10,11,0,3,1,5,5,5,5,6,1,6,6,6,9,6,6,4,4,8,10,0,0,0,10,0,0,0,10,0,0,0,0,10,11,0,3,1,5,5,5,5,6,1,6,6,6,9,6,6,4,4,8,10,0,0,0,10,0,0,0,10,0,0,0,0,10,11,0,3,1,5,5,5,5,6,1,6,6,6,9,6,6,4,6,6,6] | false=>[4,6,6,1,6,4,1,6,6,1,6,6,6,1,6,6,6,9,6,6,4,4,8,10,0,0,0,10,0,0,0,10,0,0,0,0,10,11,0,3,1,5,5,5,5,6,1,6,6,6,9,6,6,4,4,8,10,0,0,0,10,0,0,0,10,0,0,0,0,10,11,0,3,1,5,5,5,5,6,1,6,6,6,9,6,6,4,4,8,10,0,0,0,10,0,0,0,10,0,0,0,0,10,11,0,3,1,5,5,5,5,6,1,6,6,6,9,6,6,4,4,8,10,0,0,0,10,0,0,0,10,0,0,0,0,10,11,0,3,1,5,5,5,5,6,1,6,6,6,9,6,6,4,4,8,10,0,0,0,10,0,0,0,10,0,0,0,0,10,11,0,3,1,5,5,5,5,6,1,6,6,6,9,6,6,4,6,6,6]) [.ctr [6,7,8,9,10,11,12,13,14,15] (fun b' t' _ _=>gtSp X S K P x tx ln (LN0 b' t') p p0 tp (TP0 b' t') ea ep (⟨#[y0+1]⟩:Str) (TG0 b' t') (AG0 b' t') (DG0 b' t')),.ctr [6,7,8,9,10,11,12,13,14,15] (fun b' t' _ _=>gtSp X S K P x tx (LN0 (b+3) (t+1)) (LN1 b' t') p0 p1 (TP0 (b+3) (t+1)) (TP1 b' t') ea ep (⟨#[y1+1]⟩:Str) (TG1 b' t') (AG1 b' t') (DG1 b' t')),.ctr [6,7,8,9,10,11,12,13,14,15] (fun b' t' _ _=>gtSp X S K P x tx (LN1 (b+((3+AG0 (b+3) (t+1))+0)) (t+((1+DG0 (b+3) (t+1))+1))) (LN2 b' t') p1 p2 (TP1 (b+((3+AG0 (b+3) (t+1))+0)) (t+((1+DG0 (b+3) (t+1))+1))) (TP2 b' t') ea ep (⟨#[y2+1]⟩:Str) (TG2 b' t') (AG2 b' t') (DG2 b' t')),.ctr [6,7,8,9,10,11,12,13,14,15] (fun b' t' _ _=>gtSp X S K P x tx (LN2 (b+((((3+AG0 (b+3) (t+1))+0)+AG1 (b+((3+AG0 (b+3) (t+1))+0)) (t+((1+DG0 (b+3) (t+1))+1)))+0)) (t+((((1+DG0 (b+3) (t+1))+1)+DG1 (b+((3+AG0 (b+3) (t+1))+0)) (t+((1+DG0 (b+3) (t+1))+1)))+1))) (LN3 b' t') p2 p3 (TP2 (b+((((3+AG0 (b+3) (t+1))+0)+AG1 (b+((3+AG0 (b+3) (t+1))+0)) (t+((1+DG0 (b+3) (t+1))+1)))+0)) (t+((((1+DG0 (b+3) (t+1))+1)+DG1 (b+((3+AG0 (b+3) (t+1))+0)) (t+((1+DG0 (b+3) (t+1))+1)))+1))) (TP3 b' t') ea ep (⟨#[y3+1]⟩:Str) (TG3 b' t') (AG3 b' t') (DG3 b' t')),.ctr [6,7,8,9,10,11,12,13,14,15] (fun b' t' _ _=>gtSp X S K P x tx (LN3 (b+((((((3+AG0 (b+3) (t+1))+0)+AG1 (b+((3+AG0 (b+3) (t+1))+0)) (t+((1+DG0 (b+3) (t+1))+1)))+0)+AG2 (b+((((3+AG0 (b+3) (t+1))+0)+AG1 (b+((3+AG0 (b+3) (t+1))+0)) (t+((1+DG0 (b+3) (t+1))+1)))+0)) (t+((((1+DG0 (b+3) (t+1))+1)+DG1 (b+((3+AG0 (b+3) (t+1))+0)) (t+((1+DG0 (b+3) (t+1))+1)))+1)))+0)) (t+((((((1+DG0 (b+3) (t+1))+1)+DG1 (b+((3+AG0 (b+3) (t+1))+0)) (t+((1+DG0 (b+3) (t+1))+1)))+1)+DG2 (b+((((3+AG0 (b+3) (t+1))+0)+AG1 (b+((3+AG0 (b+3) (t+1))+0)) (t+((1+DG0 (b+3) (t+1))+1)))+0)) (t+((((1+DG0 (b+3) (t+1))+1)+DG1 (b+((3+AG0 (b+3) (t+1))+0)) (t+((1+DG0 (b+3) (t+1))+1)))+1)))+1))) (LN4 b' t') p3 p4 (TP3 (b+((((((3+AG0 (b+3) (t+1))+0)+AG1 (b+((3+AG0 (b+3) (t+1))+0)) (t+((1+DG0 (b+3) (t+1))+1)))+0)+AG2 (b+((((3+AG0 (b+3) (t+1))+0)+AG1 (b+((3+AG0 (b+3) (t+1))+0)) (t+((1+DG0 (b+3) (t+1))+1)))+0)) (t+((((1+DG0 (b+3) (t+1))+1)+DG1 (b+((3+AG0 (b+3) (t+1))+0)) (t+((1+DG0 (b+3) (t+1))+1)))+1)))+0)) (t+((((((1+DG0 (b+3) (t+1))+1)+DG1 (b+((3+AG0 (b+3) (t+1))+0)) (t+((1+DG0 (b+3) (t+1))+1)))+1)+DG2 (b+((((3+AG0 (b+3) (t+1))+0)+AG1 (b+((3+AG0 (b+3) (t+1))+0)) (t+((1+DG0 (b+3) (t+1))+1)))+0)) (t+((((1+DG0 (b+3) (t+1))+1)+DG1 (b+((3+AG0 (b+3) (t+1))+0)) (t+((1+DG0 (b+3) (t+1))+1)))+1)))+1))) (TP4 b' t') ea ep fi (TG4 b' t') (AG4 b' t') (DG4 b' t'))],[3,5,6,7,8,9,10,11,12,13,14,15,16,17],.ok (.done (.ret (.ref (b+1)))),[((b+1),liO #[(.str (⟨#[y0+1]⟩:Str) (TG0 (b+3) (t+1))),(.str (⟨#[y1+1]⟩:Str) (TG1 (b+((3+AG0 (b+3) (t+1))+0)) (t+((1+DG0 (b+3) (t+1))+1)))),(.str (⟨#[y2+1]⟩:Str) (TG2 (b+((((3+AG0 (b+3) (t+1))+0)+AG1 (b+((3+AG0 (b+3) (t+1))+0)) (t+((1+DG0 (b+3) (t+1))+1)))+0)) (t+((((1+DG0 (b+3) (t+1))+1)+DG1 (b+((3+AG0 (b+3) (t+1))+0)) (t+((1+DG0 (b+3) (t+1))+1)))+1)))),(.str (⟨#[y3+1]⟩:Str) (TG3 (b+((((((3+AG0 (b+3) (t+1))+0)+AG1 (b+((3+AG0 (b+3) (t+1))+0)) (t+((1+DG0 (b+3) (t+1))+1)))+0)+AG2 (b+((((3+AG0 (b+3) (t+1))+0)+AG1 (b+((3+AG0 (b+3) (t+1))+0)) (t+((1+DG0 (b+3) (t+1))+1)))+0)) (t+((((1+DG0 (b+3) (t+1))+1)+DG1 (b+((3+AG0 (b+3) (t+1))+0)) (t+((1+DG0 (b+3) (t+1))+1)))+1)))+0)) (t+((((((1+DG0 (b+3) (t+1))+1)+DG1 (b+((3+AG0 (b+3) (t+1))+0)) (t+((1+DG0 (b+3) (t+1))+1)))+1)+DG2 (b+((((3+AG0 (b+3) (t+1))+0)+AG1 (b+((3+AG0 (b+3) (t+1))+0)) (t+((1+DG0 (b+3) (t+1))+1)))+0)) (t+((((1+DG0 (b+3) (t+1))+1)+DG1 (b+((3+AG0 (b+3) (t+1))+0)) (t+((1+DG0 (b+3) (t+1))+1)))+1)))+1)))),(.str fi (TG4 (b+((((((((3+AG0 (b+3) (t+1))+0)+AG1 (b+((3+AG0 (b+3) (t+1))+0)) (t+((1+DG0 (b+3) (t+1))+1)))+0)+AG2 (b+((((3+AG0 (b+3) (t+1))+0)+AG1 (b+((3+AG0 (b+3) (t+1))+0)) (t+((1+DG0 (b+3) (t+1))+1)))+0)) (t+((((1+DG0 (b+3) (t+1))+1)+DG1 (b+((3+AG0 (b+3) (t+1))+0)) (t+((1+DG0 (b+3) (t+1))+1)))+1)))+0)+AG3 (b+((((((3+AG0 (b+3) (t+1))+0)+AG1 (b+((3+AG0 (b+3) (t+1))+0)) (t+((1+DG0 (b+3) (t+1))+1)))+0)+AG2 (b+((((3+AG0 (b+3) (t+1))+0)+AG1 (b+((3+AG0 (b+3) (t+1))+0)) (t+((1+DG0 (b+3) (t+1))+1)))+0)) (t+((((1+DG0 (b+3) (t+1))+1)+DG1 (b+((3+AG0 (b+3) (t+1))+0)) (t+((1+DG0 (b+3) (t+1))+1)))+1)))+0)) (t+((((((1+DG0 (b+3) (t+1))+1)+DG1 (b+((3+AG0 (b+3) (t+1))+0)) (t+((1+DG0 (b+3) (t+1))+1)))+1)+DG2 (b+((((3+AG0 (b+3) (t+1))+0)+AG1 (b+((3+AG0 (b+3) (t+1))+0)) (t+((1+DG0 (b+3) (t+1))+1)))+0)) (t+((((1+DG0 (b+3) (t+1))+1)+DG1 (b+((3+AG0 (b+3) (t+1))+0)) (t+((1+DG0 (b+3) (t+1))+1)))+1)))+1)))+0)) (t+((((((((1+DG0 (b+3) (t+1))+1)+DG1 (b+((3+AG0 (b+3) (t+1))+0)) (t+((1+DG0 (b+3) (t+1))+1)))+1)+DG2 (b+((((3+AG0 (b+3) (t+1))+0)+AG1 (b+((3+AG0 (b+3) (t+1))+0)) (t+((1+DG0 (b+3) (t+1))+1)))+0)) (t+((((1+DG0 (b+3) (t+1))+1)+DG1 (b+((3+AG0 (b+3) (t+1))+0)) (t+((1+DG0 (b+3) (t+1))+1)))+1)))+1)+DG3 (b+((((((3+AG0 (b+3) (t+1))+0)+AG1 (b+((3+AG0 (b+3) (t+1))+0)) (t+((1+DG0 (b+3) (t+1))+1)))+0)+AG2 (b+((((3+AG0 (b+3) (t+1))+0)+AG1 (b+((3+AG0 (b+3) (t+1))+0)) (t+((1+DG0 (b+3) (t+1))+1)))+0)) (t+((((1+DG0 (b+3) (t+1))+1)+DG1 (b+((3+AG0 (b+3) (t+1))+0)) (t+((1+DG0 (b+3) (t+1))+1)))+1)))+0)) (t+((((((1+DG0 (b+3) (t+1))+1)+DG1 (b+((3+AG0 (b+3) (t+1))+0)) (t+((1+DG0 (b+3) (t+1))+1)))+1)+DG2 (b+((((3+AG0 (b+3) (t+1))+0)+AG1 (b+((3+AG0 (b+3) (t+1))+0)) (t+((1+DG0 (b+3) (t+1))+1)))+0)) (t+((((1+DG0 (b+3) (t+1))+1)+DG1 (b+((3+AG0 (b+3) (t+1))+0)) (t+((1+DG0 (b+3) (t+1))+1)))+1)))+1)))+1))))] 5),(fr,frO #[ent P Y48 (k 0) (.ref sa),ent P Y49 (k 1) (.int 4 tc),ent P Y32 (k 2) (.ref ab),ent P Y51 (k 3) (.str fi tf),ent P Y52 (k 4) (.ref aw)] 5),(cl,ceO (some (.ref X.i))),(aw,liO #[.str ⟨#[y0+1]⟩ tn0,.str ⟨#[y1+1]⟩ tn1,.str ⟨#[y2+1]⟩ tn2,.str ⟨#[y3+1]⟩ tn3,.str fi tf] ew),(X.i,X.iO),(X.d,X.dO P (LN4 (b+((((((((3+AG0 (b+3) (t+1))+0)+AG1 (b+((3+AG0 (b+3) (t+1))+0)) (t+((1+DG0 (b+3) (t+1))+1)))+0)+AG2 (b+((((3+AG0 (b+3) (t+1))+0)+AG1 (b+((3+AG0 (b+3) (t+1))+0)) (t+((1+DG0 (b+3) (t+1))+1)))+0)) (t+((((1+DG0 (b+3) (t+1))+1)+DG1 (b+((3+AG0 (b+3) (t+1))+0)) (t+((1+DG0 (b+3) (t+1))+1)))+1)))+0)+AG3 (b+((((((3+AG0 (b+3) (t+1))+0)+AG1 (b+((3+AG0 (b+3) (t+1))+0)) (t+((1+DG0 (b+3) (t+1))+1)))+0)+AG2 (b+((((3+AG0 (b+3) (t+1))+0)+AG1 (b+((3+AG0 (b+3) (t+1))+0)) (t+((1+DG0 (b+3) (t+1))+1)))+0)) (t+((((1+DG0 (b+3) (t+1))+1)+DG1 (b+((3+AG0 (b+3) (t+1))+0)) (t+((1+DG0 (b+3) (t+1))+1)))+1)))+0)) (t+((((((1+DG0 (b+3) (t+1))+1)+DG1 (b+((3+AG0 (b+3) (t+1))+0)) (t+((1+DG0 (b+3) (t+1))+1)))+1)+DG2 (b+((((3+AG0 (b+3) (t+1))+0)+AG1 (b+((3+AG0 (b+3) (t+1))+0)) (t+((1+DG0 (b+3) (t+1))+1)))+0)) (t+((((1+DG0 (b+3) (t+1))+1)+DG1 (b+((3+AG0 (b+3) (t+1))+0)) (t+((1+DG0 (b+3) (t+1))+1)))+1)))+1)))+0)) (t+((((((((1+DG0 (b+3) (t+1))+1)+DG1 (b+((3+AG0 (b+3) (t+1))+0)) (t+((1+DG0 (b+3) (t+1))+1)))+1)+DG2 (b+((((3+AG0 (b+3) (t+1))+0)+AG1 (b+((3+AG0 (b+3) (t+1))+0)) (t+((1+DG0 (b+3) (t+1))+1)))+0)) (t+((((1+DG0 (b+3) (t+1))+1)+DG1 (b+((3+AG0 (b+3) (t+1))+0)) (t+((1+DG0 (b+3) (t+1))+1)))+1)))+1)+DG3 (b+((((((3+AG0 (b+3) (t+1))+0)+AG1 (b+((3+AG0 (b+3) (t+1))+0)) (t+((1+DG0 (b+3) (t+1))+1)))+0)+AG2 (b+((((3+AG0 (b+3) (t+1))+0)+AG1 (b+((3+AG0 (b+3) (t+1))+0)) (t+((1+DG0 (b+3) (t+1))+1)))+0)) (t+((((1+DG0 (b+3) (t+1))+1)+DG1 (b+((3+AG0 (b+3) (t+1))+0)) (t+((1+DG0 (b+3) (t+1))+1)))+1)))+0)) (t+((((((1+DG0 (b+3) (t+1))+1)+DG1 (b+((3+AG0 (b+3) (t+1))+0)) (t+((1+DG0 (b+3) (t+1))+1)))+1)+DG2 (b+((((3+AG0 (b+3) (t+1))+0)+AG1 (b+((3+AG0 (b+3) (t+1))+0)) (t+((1+DG0 (b+3) (t+1))+1)))+0)) (t+((((1+DG0 (b+3) (t+1))+1)+DG1 (b+((3+AG0 (b+3) (t+1))+0)) (t+((1+DG0 (b+3) (t+1))+1)))+1)))+1)))+1)))),(X.s,S.sO),(S.sd,S.dO P),(S.rf,S.fO K),(S.rc,S.cO),(S.ct,Sm.tO x tx),(S.ca,S.aO),(S.al,liO #[.int p4 (TP4 (b+((((((((3+AG0 (b+3) (t+1))+0)+AG1 (b+((3+AG0 (b+3) (t+1))+0)) (t+((1+DG0 (b+3) (t+1))+1)))+0)+AG2 (b+((((3+AG0 (b+3) (t+1))+0)+AG1 (b+((3+AG0 (b+3) (t+1))+0)) (t+((1+DG0 (b+3) (t+1))+1)))+0)) (t+((((1+DG0 (b+3) (t+1))+1)+DG1 (b+((3+AG0 (b+3) (t+1))+0)) (t+((1+DG0 (b+3) (t+1))+1)))+1)))+0)+AG3 (b+((((((3+AG0 (b+3) (t+1))+0)+AG1 (b+((3+AG0 (b+3) (t+1))+0)) (t+((1+DG0 (b+3) (t+1))+1)))+0)+AG2 (b+((((3+AG0 (b+3) (t+1))+0)+AG1 (b+((3+AG0 (b+3) (t+1))+0)) (t+((1+DG0 (b+3) (t+1))+1)))+0)) (t+((((1+DG0 (b+3) (t+1))+1)+DG1 (b+((3+AG0 (b+3) (t+1))+0)) (t+((1+DG0 (b+3) (t+1))+1)))+1)))+0)) (t+((((((1+DG0 (b+3) (t+1))+1)+DG1 (b+((3+AG0 (b+3) (t+1))+0)) (t+((1+DG0 (b+3) (t+1))+1)))+1)+DG2 (b+((((3+AG0 (b+3) (t+1))+0)+AG1 (b+((3+AG0 (b+3) (t+1))+0)) (t+((1+DG0 (b+3) (t+1))+1)))+0)) (t+((((1+DG0 (b+3) (t+1))+1)+DG1 (b+((3+AG0 (b+3) (t+1))+0)) (t+((1+DG0 (b+3) (t+1))+1)))+1)))+1)))+0)) (t+((((((((1+DG0 (b+3) (t+1))+1)+DG1 (b+((3+AG0 (b+3) (t+1))+0)) (t+((1+DG0 (b+3) (t+1))+1)))+1)+DG2 (b+((((3+AG0 (b+3) (t+1))+0)+AG1 (b+((3+AG0 (b+3) (t+1))+0)) (t+((1+DG0 (b+3) (t+1))+1)))+0)) (t+((((1+DG0 (b+3) (t+1))+1)+DG1 (b+((3+AG0 (b+3) (t+1))+0)) (t+((1+DG0 (b+3) (t+1))+1)))+1)))+1)+DG3 (b+((((((3+AG0 (b+3) (t+1))+0)+AG1 (b+((3+AG0 (b+3) (t+1))+0)) (t+((1+DG0 (b+3) (t+1))+1)))+0)+AG2 (b+((((3+AG0 (b+3) (t+1))+0)+AG1 (b+((3+AG0 (b+3) (t+1))+0)) (t+((1+DG0 (b+3) (t+1))+1)))+0)) (t+((((1+DG0 (b+3) (t+1))+1)+DG1 (b+((3+AG0 (b+3) (t+1))+0)) (t+((1+DG0 (b+3) (t+1))+1)))+1)))+0)) (t+((((((1+DG0 (b+3) (t+1))+1)+DG1 (b+((3+AG0 (b+3) (t+1))+0)) (t+((1+DG0 (b+3) (t+1))+1)))+1)+DG2 (b+((((3+AG0 (b+3) (t+1))+0)+AG1 (b+((3+AG0 (b+3) (t+1))+0)) (t+((1+DG0 (b+3) (t+1))+1)))+0)) (t+((((1+DG0 (b+3) (t+1))+1)+DG1 (b+((3+AG0 (b+3) (t+1))+0)) (t+((1+DG0 (b+3) (t+1))+1)))+1)))+1)))+1)))] ea),(X.p,liO #[] ep)],((((((((((3+AG0 (b+3) (t+1))+0)+AG1 (b+((3+AG0 (b+3) (t+1))+0)) (t+((1+DG0 (b+3) (t+1))+1)))+0)+AG2 (b+((((3+AG0 (b+3) (t+1))+0)+AG1 (b+((3+AG0 (b+3) (t+1))+0)) (t+((1+DG0 (b+3) (t+1))+1)))+0)) (t+((((1+DG0 (b+3) (t+1))+1)+DG1 (b+((3+AG0 (b+3) (t+1))+0)) (t+((1+DG0 (b+3) (t+1))+1)))+1)))+0)+AG3 (b+((((((3+AG0 (b+3) (t+1))+0)+AG1 (b+((3+AG0 (b+3) (t+1))+0)) (t+((1+DG0 (b+3) (t+1))+1)))+0)+AG2 (b+((((3+AG0 (b+3) (t+1))+0)+AG1 (b+((3+AG0 (b+3) (t+1))+0)) (t+((1+DG0 (b+3) (t+1))+1)))+0)) (t+((((1+DG0 (b+3) (t+1))+1)+DG1 (b+((3+AG0 (b+3) (t+1))+0)) (t+((1+DG0 (b+3) (t+1))+1)))+1)))+0)) (t+((((((1+DG0 (b+3) (t+1))+1)+DG1 (b+((3+AG0 (b+3) (t+1))+0)) (t+((1+DG0 (b+3) (t+1))+1)))+1)+DG2 (b+((((3+AG0 (b+3) (t+1))+0)+AG1 (b+((3+AG0 (b+3) (t+1))+0)) (t+((1+DG0 (b+3) (t+1))+1)))+0)) (t+((((1+DG0 (b+3) (t+1))+1)+DG1 (b+((3+AG0 (b+3) (t+1))+0)) (t+((1+DG0 (b+3) (t+1))+1)))+1)))+1)))+0)+AG4 (b+((((((((3+AG0 (b+3) (t+1))+0)+AG1 (b+((3+AG0 (b+3) (t+1))+0)) (t+((1+DG0 (b+3) (t+1))+1)))+0)+AG2 (b+((((3+AG0 (b+3) (t+1))+0)+AG1 (b+((3+AG0 (b+3) (t+1))+0)) (t+((1+DG0 (b+3) (t+1))+1)))+0)) (t+((((1+DG0 (b+3) (t+1))+1)+DG1 (b+((3+AG0 (b+3) (t+1))+0)) (t+((1+DG0 (b+3) (t+1))+1)))+1)))+0)+AG3 (b+((((((3+AG0 (b+3) (t+1))+0)+AG1 (b+((3+AG0 (b+3) (t+1))+0)) (t+((1+DG0 (b+3) (t+1))+1)))+0)+AG2 (b+((((3+AG0 (b+3) (t+1))+0)+AG1 (b+((3+AG0 (b+3) (t+1))+0)) (t+((1+DG0 (b+3) (t+1))+1)))+0)) (t+((((1+DG0 (b+3) (t+1))+1)+DG1 (b+((3+AG0 (b+3) (t+1))+0)) (t+((1+DG0 (b+3) (t+1))+1)))+1)))+0)) (t+((((((1+DG0 (b+3) (t+1))+1)+DG1 (b+((3+AG0 (b+3) (t+1))+0)) (t+((1+DG0 (b+3) (t+1))+1)))+1)+DG2 (b+((((3+AG0 (b+3) (t+1))+0)+AG1 (b+((3+AG0 (b+3) (t+1))+0)) (t+((1+DG0 (b+3) (t+1))+1)))+0)) (t+((((1+DG0 (b+3) (t+1))+1)+DG1 (b+((3+AG0 (b+3) (t+1))+0)) (t+((1+DG0 (b+3) (t+1))+1)))+1)))+1)))+0)) (t+((((((((1+DG0 (b+3) (t+1))+1)+DG1 (b+((3+AG0 (b+3) (t+1))+0)) (t+((1+DG0 (b+3) (t+1))+1)))+1)+DG2 (b+((((3+AG0 (b+3) (t+1))+0)+AG1 (b+((3+AG0 (b+3) (t+1))+0)) (t+((1+DG0 (b+3) (t+1))+1)))+0)) (t+((((1+DG0 (b+3) (t+1))+1)+DG1 (b+((3+AG0 (b+3) (t+1))+0)) (t+((1+DG0 (b+3) (t+1))+1)))+1)))+1)+DG3 (b+((((((3+AG0 (b+3) (t+1))+0)+AG1 (b+((3+AG0 (b+3) (t+1))+0)) (t+((1+DG0 (b+3) (t+1))+1)))+0)+AG2 (b+((((3+AG0 (b+3) (t+1))+0)+AG1 (b+((3+AG0 (b+3) (t+1))+0)) (t+((1+DG0 (b+3) (t+1))+1)))+0)) (t+((((1+DG0 (b+3) (t+1))+1)+DG1 (b+((3+AG0 (b+3) (t+1))+0)) (t+((1+DG0 (b+3) (t+1))+1)))+1)))+0)) (t+((((((1+DG0 (b+3) (t+1))+1)+DG1 (b+((3+AG0 (b+3) (t+1))+0)) (t+((1+DG0 (b+3) (t+1))+1)))+1)+DG2 (b+((((3+AG0 (b+3) (t+1))+0)+AG1 (b+((3+AG0 (b+3) (t+1))+0)) (t+((1+DG0 (b+3) (t+1))+1)))+0)) (t+((((1+DG0 (b+3) (t+1))+1)+DG1 (b+((3+AG0 (b+3) (t+1))+0)) (t+((1+DG0 (b+3) (t+1))+1)))+1)))+1)))+1)))+2),((((((((((1+DG0 (b+3) (t+1))+1)+DG1 (b+((3+AG0 (b+3) (t+1))+0)) (t+((1+DG0 (b+3) (t+1))+1)))+1)+DG2 (b+((((3+AG0 (b+3) (t+1))+0)+AG1 (b+((3+AG0 (b+3) (t+1))+0)) (t+((1+DG0 (b+3) (t+1))+1)))+0)) (t+((((1+DG0 (b+3) (t+1))+1)+DG1 (b+((3+AG0 (b+3) (t+1))+0)) (t+((1+DG0 (b+3) (t+1))+1)))+1)))+1)+DG3 (b+((((((3+AG0 (b+3) (t+1))+0)+AG1 (b+((3+AG0 (b+3) (t+1))+0)) (t+((1+DG0 (b+3) (t+1))+1)))+0)+AG2 (b+((((3+AG0 (b+3) (t+1))+0)+AG1 (b+((3+AG0 (b+3) (t+1))+0)) (t+((1+DG0 (b+3) (t+1))+1)))+0)) (t+((((1+DG0 (b+3) (t+1))+1)+DG1 (b+((3+AG0 (b+3) (t+1))+0)) (t+((1+DG0 (b+3) (t+1))+1)))+1)))+0)) (t+((((((1+DG0 (b+3) (t+1))+1)+DG1 (b+((3+AG0 (b+3) (t+1))+0)) (t+((1+DG0 (b+3) (t+1))+1)))+1)+DG2 (b+((((3+AG0 (b+3) (t+1))+0)+AG1 (b+((3+AG0 (b+3) (t+1))+0)) (t+((1+DG0 (b+3) (t+1))+1)))+0)) (t+((((1+DG0 (b+3) (t+1))+1)+DG1 (b+((3+AG0 (b+3) (t+1))+0)) (t+((1+DG0 (b+3) (t+1))+1)))+1)))+1)))+1)+DG4 (b+((((((((3+AG0 (b+3) (t+1))+0)+AG1 (b+((3+AG0 (b+3) (t+1))+0)) (t+((1+DG0 (b+3) (t+1))+1)))+0)+AG2 (b+((((3+AG0 (b+3) (t+1))+0)+AG1 (b+((3+AG0 (b+3) (t+1))+0)) (t+((1+DG0 (b+3) (t+1))+1)))+0)) (t+((((1+DG0 (b+3) (t+1))+1)+DG1 (b+((3+AG0 (b+3) (t+1))+0)) (t+((1+DG0 (b+3) (t+1))+1)))+1)))+0)+AG3 (b+((((((3+AG0 (b+3) (t+1))+0)+AG1 (b+((3+AG0 (b+3) (t+1))+0)) (t+((1+DG0 (b+3) (t+1))+1)))+0)+AG2 (b+((((3+AG0 (b+3) (t+1))+0)+AG1 (b+((3+AG0 (b+3) (t+1))+0)) (t+((1+DG0 (b+3) (t+1))+1)))+0)) (t+((((1+DG0 (b+3) (t+1))+1)+DG1 (b+((3+AG0 (b+3) (t+1))+0)) (t+((1+DG0 (b+3) (t+1))+1)))+1)))+0)) (t+((((((1+DG0 (b+3) (t+1))+1)+DG1 (b+((3+AG0 (b+3) (t+1))+0)) (t+((1+DG0 (b+3) (t+1))+1)))+1)+DG2 (b+((((3+AG0 (b+3) (t+1))+0)+AG1 (b+((3+AG0 (b+3) (t+1))+0)) (t+((1+DG0 (b+3) (t+1))+1)))+0)) (t+((((1+DG0 (b+3) (t+1))+1)+DG1 (b+((3+AG0 (b+3) (t+1))+0)) (t+((1+DG0 (b+3) (t+1))+1)))+1)))+1)))+0)) (t+((((((((1+DG0 (b+3) (t+1))+1)+DG1 (b+((3+AG0 (b+3) (t+1))+0)) (t+((1+DG0 (b+3) (t+1))+1)))+1)+DG2 (b+((((3+AG0 (b+3) (t+1))+0)+AG1 (b+((3+AG0 (b+3) (t+1))+0)) (t+((1+DG0 (b+3) (t+1))+1)))+0)) (t+((((1+DG0 (b+3) (t+1))+1)+DG1 (b+((3+AG0 (b+3) (t+1))+0)) (t+((1+DG0 (b+3) (t+1))+1)))+1)))+1)+DG3 (b+((((((3+AG0 (b+3) (t+1))+0)+AG1 (b+((3+AG0 (b+3) (t+1))+0)) (t+((1+DG0 (b+3) (t+1))+1)))+0)+AG2 (b+((((3+AG0 (b+3) (t+1))+0)+AG1 (b+((3+AG0 (b+3) (t+1))+0)) (t+((1+DG0 (b+3) (t+1))+1)))+0)) (t+((((1+DG0 (b+3) (t+1))+1)+DG1 (b+((3+AG0 (b+3) (t+1))+0)) (t+((1+DG0 (b+3) (t+1))+1)))+1)))+0)) (t+((((((1+DG0 (b+3) (t+1))+1)+DG1 (b+((3+AG0 (b+3) (t+1))+0)) (t+((1+DG0 (b+3) (t+1))+1)))+1)+DG2 (b+((((3+AG0 (b+3) (t+1))+0)+AG1 (b+((3+AG0 (b+3) (t+1))+0)) (t+((1+DG0 (b+3) (t+1))+1)))+0)) (t+((((1+DG0 (b+3) (t+1))+1)+DG1 (b+((3+AG0 (b+3) (t+1))+0)) (t+((1+DG0 (b+3) (t+1))+1)))+1)))+1)))+1)))+0),0⟩
def e1_4Run:RP:=fun T pg=>∀fr cc cn cl k sa ab tc aw ew fi tf y0 y1 y2 y3 tn0 tn1 tn2 tn3 X S x tx ln p tp ea ep p0 p1 p2 p3 p4 LN0 LN1 LN2 LN3 LN4 TP0 TG0 AG0 DG0 TP1 TG1 AG1 DG1 TP2 TG2 AG2 DG2 TP3 TG3 AG3 DG3 TP4 TG4 AG4 DG4 b t,JobOk T pg (e1_4J fr cc cn cl k sa ab tc aw ew fi tf y0 y1 y2 y3 tn0 tn1 tn2 tn3 X S x tx ln p tp ea ep p0 p1 p2 p3 p4 LN0 LN1 LN2 LN3 LN4 TP0 TG0 AG0 DG0 TP1 TG1 AG1 DG1 TP2 TG2 AG2 DG2 TP3 TG3 AG3 DG3 TP4 TG4 AG4 DG4 b t) b t
noncomputable def e1_3J (fr cc cn cl:Addr)(k:Nat->Tok)(sa ab:Addr)(tc:Tok)(aw:Addr)(ew:Nat)(fi:Str)(tf:Tok)(y0 y1 y2:Nat)(tn0 tn1 tn2:Tok)(X:Lx)(S:Sm)(x:Str)(tx:Tok)(ln:Value)(p:Int)(tp:Tok)(ea ep:Nat)(p0 p1 p2 p3:Int)(LN0 LN1 LN2 LN3:Nat->Nat->Value)(TP0 TG0 AG0 DG0 TP1 TG1 AG1 DG1 TP2 TG2 AG2 DG2 TP3 TG3 AG3 DG3:Nat->Nat->Nat)(b t:Nat):KJ:=fun K P=>⟨90,lawC K fr cc cn cl,eT (ifL (lawN K 7)) (lawE K fr cc cn cl),[(fr,frO #[ent P Y48 (k 0) (.ref sa),ent P Y49 (k 1) (.int 3 tc),ent P Y32 (k 2) (.ref ab),ent P Y51 (k 3) (.str fi tf),ent P Y52 (k 4) (.ref aw)] 5),(cl,ceO (some (.ref X.i))),(aw,liO #[.str ⟨#[y0+1]⟩ tn0,.str ⟨#[y1+1]⟩ tn1,.str ⟨#[y2+1]⟩ tn2,.str fi tf] ew),(X.i,X.iO),(X.d,X.dO P ln),(X.s,S.sO),(S.sd,S.dO P),(S.rf,S.fO K),(S.rc,S.cO),(S.ct,Sm.tO x tx),(S.ca,S.aO),(S.al,liO #[.int p tp] ea),(X.p,liO #[] ep)],hs (match P.followText "comprehension-iter-twice" with | true=>[4,6,6,1,6,4,1,6,1,6,6,6,9,6,6,4,4,8,10,0,0,0,10,0,0,0,10,0,0,0,0,10,11,0,3,1,5,5,5,5,6,1,6,6,6,9,6,6,4,4,8,10,0,0,0,10,0,0,0,10,0,0,0,0,10,11,0,3,1,5,5,5,5,6,1,6,6,6,9,6,6,4,4,8,10,0,0,0,10,0,0,0,10,0,0,0,0,10,11,0,3,1,5,5,5,5,6,1,6,6,6,9,6,6,4,4,8,10,0,0,0,10,0,0,0,10,0,0,0,0,10,11,0,3,1,5,5,5,5,6,1,6,6,6,9,6,6,4,6,6,6] | false=>[4,6,6,1,6,4,1,6,6,1,6,6,6,1,6,6,6,9,6,6,4,4,8,10,0,0,0,10,0,0,0,10,0,0,0,0,10,11,0,3,1,5,5,5,5,6,1,6,6,6,9,6,6,4,4,8,10,0,0,0,10,0,0,0,10,0,0,0,0,10,11,0,3,1,5,5,5,5,6,1,6,6,6,9,6,6,4,4,8,10,0,0,0,10,0,0,0,10,0,0,0,0,10,11,0,3,1,5,5,5,5,6,1,6,6,6,9,6,6,4,4,8,10,0,0,0,10,0,0,0,10,0,0,0,0,10,11,0,3,1,5,5,5,5,6,1,6,6,6,9,6,6,4,6,6,6]) [.ctr [6,7,8,9,10,11,12,13,14,15] (fun b' t' _ _=>gtSp X S K P x tx ln (LN0 b' t') p p0 tp (TP0 b' t') ea ep (⟨#[y0+1]⟩:Str) (TG0 b' t') (AG0 b' t') (DG0 b' t')),.ctr [6,7,8,9,10,11,12,13,14,15] (fun b' t' _ _=>gtSp X S K P x tx (LN0 (b+3) (t+1)) (LN1 b' t') p0 p1 (TP0 (b+3) (t+1)) (TP1 b' t') ea ep (⟨#[y1+1]⟩:Str) (TG1 b' t') (AG1 b' t') (DG1 b' t')),.ctr [6,7,8,9,10,11,12,13,14,15] (fun b' t' _ _=>gtSp X S K P x tx (LN1 (b+((3+AG0 (b+3) (t+1))+0)) (t+((1+DG0 (b+3) (t+1))+1))) (LN2 b' t') p1 p2 (TP1 (b+((3+AG0 (b+3) (t+1))+0)) (t+((1+DG0 (b+3) (t+1))+1))) (TP2 b' t') ea ep (⟨#[y2+1]⟩:Str) (TG2 b' t') (AG2 b' t') (DG2 b' t')),.ctr [6,7,8,9,10,11,12,13,14,15] (fun b' t' _ _=>gtSp X S K P x tx (LN2 (b+((((3+AG0 (b+3) (t+1))+0)+AG1 (b+((3+AG0 (b+3) (t+1))+0)) (t+((1+DG0 (b+3) (t+1))+1)))+0)) (t+((((1+DG0 (b+3) (t+1))+1)+DG1 (b+((3+AG0 (b+3) (t+1))+0)) (t+((1+DG0 (b+3) (t+1))+1)))+1))) (LN3 b' t') p2 p3 (TP2 (b+((((3+AG0 (b+3) (t+1))+0)+AG1 (b+((3+AG0 (b+3) (t+1))+0)) (t+((1+DG0 (b+3) (t+1))+1)))+0)) (t+((((1+DG0 (b+3) (t+1))+1)+DG1 (b+((3+AG0 (b+3) (t+1))+0)) (t+((1+DG0 (b+3) (t+1))+1)))+1))) (TP3 b' t') ea ep fi (TG3 b' t') (AG3 b' t') (DG3 b' t'))],[3,5,6,7,8,9,10,11,12,13,14,15,16,17],.ok (.done (.ret (.ref (b+1)))),[((b+1),liO #[(.str (⟨#[y0+1]⟩:Str) (TG0 (b+3) (t+1))),(.str (⟨#[y1+1]⟩:Str) (TG1 (b+((3+AG0 (b+3) (t+1))+0)) (t+((1+DG0 (b+3) (t+1))+1)))),(.str (⟨#[y2+1]⟩:Str) (TG2 (b+((((3+AG0 (b+3) (t+1))+0)+AG1 (b+((3+AG0 (b+3) (t+1))+0)) (t+((1+DG0 (b+3) (t+1))+1)))+0)) (t+((((1+DG0 (b+3) (t+1))+1)+DG1 (b+((3+AG0 (b+3) (t+1))+0)) (t+((1+DG0 (b+3) (t+1))+1)))+1)))),(.str fi (TG3 (b+((((((3+AG0 (b+3) (t+1))+0)+AG1 (b+((3+AG0 (b+3) (t+1))+0)) (t+((1+DG0 (b+3) (t+1))+1)))+0)+AG2 (b+((((3+AG0 (b+3) (t+1))+0)+AG1 (b+((3+AG0 (b+3) (t+1))+0)) (t+((1+DG0 (b+3) (t+1))+1)))+0)) (t+((((1+DG0 (b+3) (t+1))+1)+DG1 (b+((3+AG0 (b+3) (t+1))+0)) (t+((1+DG0 (b+3) (t+1))+1)))+1)))+0)) (t+((((((1+DG0 (b+3) (t+1))+1)+DG1 (b+((3+AG0 (b+3) (t+1))+0)) (t+((1+DG0 (b+3) (t+1))+1)))+1)+DG2 (b+((((3+AG0 (b+3) (t+1))+0)+AG1 (b+((3+AG0 (b+3) (t+1))+0)) (t+((1+DG0 (b+3) (t+1))+1)))+0)) (t+((((1+DG0 (b+3) (t+1))+1)+DG1 (b+((3+AG0 (b+3) (t+1))+0)) (t+((1+DG0 (b+3) (t+1))+1)))+1)))+1))))] 4),(fr,frO #[ent P Y48 (k 0) (.ref sa),ent P Y49 (k 1) (.int 3 tc),ent P Y32 (k 2) (.ref ab),ent P Y51 (k 3) (.str fi tf),ent P Y52 (k 4) (.ref aw)] 5),(cl,ceO (some (.ref X.i))),(aw,liO #[.str ⟨#[y0+1]⟩ tn0,.str ⟨#[y1+1]⟩ tn1,.str ⟨#[y2+1]⟩ tn2,.str fi tf] ew),(X.i,X.iO),(X.d,X.dO P (LN3 (b+((((((3+AG0 (b+3) (t+1))+0)+AG1 (b+((3+AG0 (b+3) (t+1))+0)) (t+((1+DG0 (b+3) (t+1))+1)))+0)+AG2 (b+((((3+AG0 (b+3) (t+1))+0)+AG1 (b+((3+AG0 (b+3) (t+1))+0)) (t+((1+DG0 (b+3) (t+1))+1)))+0)) (t+((((1+DG0 (b+3) (t+1))+1)+DG1 (b+((3+AG0 (b+3) (t+1))+0)) (t+((1+DG0 (b+3) (t+1))+1)))+1)))+0)) (t+((((((1+DG0 (b+3) (t+1))+1)+DG1 (b+((3+AG0 (b+3) (t+1))+0)) (t+((1+DG0 (b+3) (t+1))+1)))+1)+DG2 (b+((((3+AG0 (b+3) (t+1))+0)+AG1 (b+((3+AG0 (b+3) (t+1))+0)) (t+((1+DG0 (b+3) (t+1))+1)))+0)) (t+((((1+DG0 (b+3) (t+1))+1)+DG1 (b+((3+AG0 (b+3) (t+1))+0)) (t+((1+DG0 (b+3) (t+1))+1)))+1)))+1)))),(X.s,S.sO),(S.sd,S.dO P),(S.rf,S.fO K),(S.rc,S.cO),(S.ct,Sm.tO x tx),(S.ca,S.aO),(S.al,liO #[.int p3 (TP3 (b+((((((3+AG0 (b+3) (t+1))+0)+AG1 (b+((3+AG0 (b+3) (t+1))+0)) (t+((1+DG0 (b+3) (t+1))+1)))+0)+AG2 (b+((((3+AG0 (b+3) (t+1))+0)+AG1 (b+((3+AG0 (b+3) (t+1))+0)) (t+((1+DG0 (b+3) (t+1))+1)))+0)) (t+((((1+DG0 (b+3) (t+1))+1)+DG1 (b+((3+AG0 (b+3) (t+1))+0)) (t+((1+DG0 (b+3) (t+1))+1)))+1)))+0)) (t+((((((1+DG0 (b+3) (t+1))+1)+DG1 (b+((3+AG0 (b+3) (t+1))+0)) (t+((1+DG0 (b+3) (t+1))+1)))+1)+DG2 (b+((((3+AG0 (b+3) (t+1))+0)+AG1 (b+((3+AG0 (b+3) (t+1))+0)) (t+((1+DG0 (b+3) (t+1))+1)))+0)) (t+((((1+DG0 (b+3) (t+1))+1)+DG1 (b+((3+AG0 (b+3) (t+1))+0)) (t+((1+DG0 (b+3) (t+1))+1)))+1)))+1)))] ea),(X.p,liO #[] ep)],((((((((3+AG0 (b+3) (t+1))+0)+AG1 (b+((3+AG0 (b+3) (t+1))+0)) (t+((1+DG0 (b+3) (t+1))+1)))+0)+AG2 (b+((((3+AG0 (b+3) (t+1))+0)+AG1 (b+((3+AG0 (b+3) (t+1))+0)) (t+((1+DG0 (b+3) (t+1))+1)))+0)) (t+((((1+DG0 (b+3) (t+1))+1)+DG1 (b+((3+AG0 (b+3) (t+1))+0)) (t+((1+DG0 (b+3) (t+1))+1)))+1)))+0)+AG3 (b+((((((3+AG0 (b+3) (t+1))+0)+AG1 (b+((3+AG0 (b+3) (t+1))+0)) (t+((1+DG0 (b+3) (t+1))+1)))+0)+AG2 (b+((((3+AG0 (b+3) (t+1))+0)+AG1 (b+((3+AG0 (b+3) (t+1))+0)) (t+((1+DG0 (b+3) (t+1))+1)))+0)) (t+((((1+DG0 (b+3) (t+1))+1)+DG1 (b+((3+AG0 (b+3) (t+1))+0)) (t+((1+DG0 (b+3) (t+1))+1)))+1)))+0)) (t+((((((1+DG0 (b+3) (t+1))+1)+DG1 (b+((3+AG0 (b+3) (t+1))+0)) (t+((1+DG0 (b+3) (t+1))+1)))+1)+DG2 (b+((((3+AG0 (b+3) (t+1))+0)+AG1 (b+((3+AG0 (b+3) (t+1))+0)) (t+((1+DG0 (b+3) (t+1))+1)))+0)) (t+((((1+DG0 (b+3) (t+1))+1)+DG1 (b+((3+AG0 (b+3) (t+1))+0)) (t+((1+DG0 (b+3) (t+1))+1)))+1)))+1)))+2),((((((((1+DG0 (b+3) (t+1))+1)+DG1 (b+((3+AG0 (b+3) (t+1))+0)) (t+((1+DG0 (b+3) (t+1))+1)))+1)+DG2 (b+((((3+AG0 (b+3) (t+1))+0)+AG1 (b+((3+AG0 (b+3) (t+1))+0)) (t+((1+DG0 (b+3) (t+1))+1)))+0)) (t+((((1+DG0 (b+3) (t+1))+1)+DG1 (b+((3+AG0 (b+3) (t+1))+0)) (t+((1+DG0 (b+3) (t+1))+1)))+1)))+1)+DG3 (b+((((((3+AG0 (b+3) (t+1))+0)+AG1 (b+((3+AG0 (b+3) (t+1))+0)) (t+((1+DG0 (b+3) (t+1))+1)))+0)+AG2 (b+((((3+AG0 (b+3) (t+1))+0)+AG1 (b+((3+AG0 (b+3) (t+1))+0)) (t+((1+DG0 (b+3) (t+1))+1)))+0)) (t+((((1+DG0 (b+3) (t+1))+1)+DG1 (b+((3+AG0 (b+3) (t+1))+0)) (t+((1+DG0 (b+3) (t+1))+1)))+1)))+0)) (t+((((((1+DG0 (b+3) (t+1))+1)+DG1 (b+((3+AG0 (b+3) (t+1))+0)) (t+((1+DG0 (b+3) (t+1))+1)))+1)+DG2 (b+((((3+AG0 (b+3) (t+1))+0)+AG1 (b+((3+AG0 (b+3) (t+1))+0)) (t+((1+DG0 (b+3) (t+1))+1)))+0)) (t+((((1+DG0 (b+3) (t+1))+1)+DG1 (b+((3+AG0 (b+3) (t+1))+0)) (t+((1+DG0 (b+3) (t+1))+1)))+1)))+1)))+0),0⟩
def e1_3Run:RP:=fun T pg=>∀fr cc cn cl k sa ab tc aw ew fi tf y0 y1 y2 tn0 tn1 tn2 X S x tx ln p tp ea ep p0 p1 p2 p3 LN0 LN1 LN2 LN3 TP0 TG0 AG0 DG0 TP1 TG1 AG1 DG1 TP2 TG2 AG2 DG2 TP3 TG3 AG3 DG3 b t,JobOk T pg (e1_3J fr cc cn cl k sa ab tc aw ew fi tf y0 y1 y2 tn0 tn1 tn2 X S x tx ln p tp ea ep p0 p1 p2 p3 LN0 LN1 LN2 LN3 TP0 TG0 AG0 DG0 TP1 TG1 AG1 DG1 TP2 TG2 AG2 DG2 TP3 TG3 AG3 DG3 b t) b t
noncomputable def e2_4J (fr cc cn cl:Addr)(k:Nat->Tok)(sa ab:Addr)(tc:Tok)(aw:Addr)(ew:Nat)(fi:Str)(tf:Tok)(y0 y1 y2 y3:Nat)(tn0 tn1 tn2 tn3:Tok)(X:Lx)(ln:Int)(tln:Tok)(b t:Nat):KJ:=fun K P=>⟨30,lawC K fr cc cn cl,bT (ifR (lawN K 7)) (lawE K fr cc cn cl),[(fr,frO #[ent P Y48 (k 0) (.ref sa),ent P Y49 (k 1) (.int 4 tc),ent P Y32 (k 2) (.ref ab),ent P Y51 (k 3) (.str fi tf),ent P Y52 (k 4) (.ref aw)] 5),(cl,ceO (some (.ref X.i))),(aw,liO #[.str ⟨#[y0+1]⟩ tn0,.str ⟨#[y1+1]⟩ tn1,.str ⟨#[y2+1]⟩ tn2,.str ⟨#[y3+1]⟩ tn3,.str fi tf] ew),(X.i,X.iO),(X.d,X.dO P (.int ln tln))],hs [5,7,0,0,0,1,7,0,0,0,7,7,0,8,0,0,4,1,6,1,6,6,3] [cIne ln 5 false],[0,1,2,3,4],.ok (.done (.ret (.bool false))),[(fr,frO #[ent P Y48 (k 0) (.ref sa),ent P Y49 (k 1) (.int 4 tc),ent P Y32 (k 2) (.ref ab),ent P Y51 (k 3) (.str fi tf),ent P Y52 (k 4) (.ref aw)] 5),(cl,ceO (some (.ref X.i))),(aw,liO #[.str ⟨#[y0+1]⟩ tn0,.str ⟨#[y1+1]⟩ tn1,.str ⟨#[y2+1]⟩ tn2,.str ⟨#[y3+1]⟩ tn3,.str fi tf] ew),(X.i,X.iO),(X.d,X.dO P (.int ln tln))],0,3,0⟩
def e2_4Run:RP:=fun T pg=>∀fr cc cn cl k sa ab tc aw ew fi tf y0 y1 y2 y3 tn0 tn1 tn2 tn3 X ln tln b t,JobOk T pg (e2_4J fr cc cn cl k sa ab tc aw ew fi tf y0 y1 y2 y3 tn0 tn1 tn2 tn3 X ln tln b t) b t
noncomputable def e2_3J (fr cc cn cl:Addr)(k:Nat->Tok)(sa ab:Addr)(tc:Tok)(aw:Addr)(ew:Nat)(fi:Str)(tf:Tok)(y0 y1 y2:Nat)(tn0 tn1 tn2:Tok)(X:Lx)(ln:Int)(tln:Tok)(b t:Nat):KJ:=fun K P=>⟨30,lawC K fr cc cn cl,bT (ifR (lawN K 7)) (lawE K fr cc cn cl),[(fr,frO #[ent P Y48 (k 0) (.ref sa),ent P Y49 (k 1) (.int 3 tc),ent P Y32 (k 2) (.ref ab),ent P Y51 (k 3) (.str fi tf),ent P Y52 (k 4) (.ref aw)] 5),(cl,ceO (some (.ref X.i))),(aw,liO #[.str ⟨#[y0+1]⟩ tn0,.str ⟨#[y1+1]⟩ tn1,.str ⟨#[y2+1]⟩ tn2,.str fi tf] ew),(X.i,X.iO),(X.d,X.dO P (.int ln tln))],hs [5,7,0,0,0,1,7,0,0,0,7,7,0,8,0,0,4,1,6,1,6,6,3] [cIne ln 4 false],[0,1,2,3,4],.ok (.done (.ret (.bool false))),[(fr,frO #[ent P Y48 (k 0) (.ref sa),ent P Y49 (k 1) (.int 3 tc),ent P Y32 (k 2) (.ref ab),ent P Y51 (k 3) (.str fi tf),ent P Y52 (k 4) (.ref aw)] 5),(cl,ceO (some (.ref X.i))),(aw,liO #[.str ⟨#[y0+1]⟩ tn0,.str ⟨#[y1+1]⟩ tn1,.str ⟨#[y2+1]⟩ tn2,.str fi tf] ew),(X.i,X.iO),(X.d,X.dO P (.int ln tln))],0,3,0⟩
def e2_3Run:RP:=fun T pg=>∀fr cc cn cl k sa ab tc aw ew fi tf y0 y1 y2 tn0 tn1 tn2 X ln tln b t,JobOk T pg (e2_3J fr cc cn cl k sa ab tc aw ew fi tf y0 y1 y2 tn0 tn1 tn2 X ln tln b t) b t
noncomputable def s8_4J (fr cc cn cl:Addr)(k:Nat->Tok)(sa ab aw:Addr)(tc:Tok)(fi:Str)(tf:Tok)(X:Lx)(ln:Value)(ep:Nat)(b t:Nat):KJ:=fun K P=>⟨30,lawC K fr cc cn cl,xT (lawS K 8) (lawE K fr cc cn cl),[(fr,frO #[ent P Y48 (k 0) (.ref sa),ent P Y49 (k 1) (.int 4 tc),ent P Y32 (k 2) (.ref ab),ent P Y51 (k 3) (.str fi tf),ent P Y52 (k 4) (.ref aw)] 5),(cl,ceO (some (.ref X.i))),(X.i,X.iO),(X.d,X.dO P ln),(X.p,liO #[] ep)],hs [5,6,0,0,0,6,0,0,0,6,0,0,0,0,6,7,4,3,0,3] [cAdd Y36 fi,.ctr [2,3,4] (fun b' t' c _=>push0Sp X ln ep (Y36++fi) (aT c 1) b' t' K P)],[0,1,2,3,4],.ok (.done .next),[(fr,frO #[ent P Y48 (k 0) (.ref sa),ent P Y49 (k 1) (.int 4 tc),ent P Y32 (k 2) (.ref ab),ent P Y51 (k 3) (.str fi tf),ent P Y52 (k 4) (.ref aw)] 5),(cl,ceO (some (.ref X.i))),(X.i,X.iO),(X.d,X.dO P ln),(X.p,liO #[.str (Y36++fi) (t+1)] (ep+1))],1,5,0⟩
def s8_4Run:RP:=fun T pg=>∀fr cc cn cl k sa ab aw tc fi tf X ln ep b t,JobOk T pg (s8_4J fr cc cn cl k sa ab aw tc fi tf X ln ep b t) b t
noncomputable def s8_3J (fr cc cn cl:Addr)(k:Nat->Tok)(sa ab aw:Addr)(tc:Tok)(fi:Str)(tf:Tok)(X:Lx)(ln:Value)(ep:Nat)(b t:Nat):KJ:=fun K P=>⟨30,lawC K fr cc cn cl,xT (lawS K 8) (lawE K fr cc cn cl),[(fr,frO #[ent P Y48 (k 0) (.ref sa),ent P Y49 (k 1) (.int 3 tc),ent P Y32 (k 2) (.ref ab),ent P Y51 (k 3) (.str fi tf),ent P Y52 (k 4) (.ref aw)] 5),(cl,ceO (some (.ref X.i))),(X.i,X.iO),(X.d,X.dO P ln),(X.p,liO #[] ep)],hs [5,6,0,0,0,6,0,0,0,6,0,0,0,0,6,7,4,3,0,3] [cAdd Y36 fi,.ctr [2,3,4] (fun b' t' c _=>push0Sp X ln ep (Y36++fi) (aT c 1) b' t' K P)],[0,1,2,3,4],.ok (.done .next),[(fr,frO #[ent P Y48 (k 0) (.ref sa),ent P Y49 (k 1) (.int 3 tc),ent P Y32 (k 2) (.ref ab),ent P Y51 (k 3) (.str fi tf),ent P Y52 (k 4) (.ref aw)] 5),(cl,ceO (some (.ref X.i))),(X.i,X.iO),(X.d,X.dO P ln),(X.p,liO #[.str (Y36++fi) (t+1)] (ep+1))],1,5,0⟩
def s8_3Run:RP:=fun T pg=>∀fr cc cn cl k sa ab aw tc fi tf X ln ep b t,JobOk T pg (s8_3J fr cc cn cl k sa ab aw tc fi tf X ln ep b t) b t
noncomputable abbrev wkSp (X:Lx)(ab an:Addr)(ob on od od' op op':Obj)(at_:Addr)(n:Nat)(f:Nat->Tp)(ex da dt gn:Nat):Sp:=⟨100,.call (.ref 124) ⟨[.ref X.i,.ref ab,.ref an],[]⟩,[(X.i,X.iO),(X.d,od),(X.p,op),(ab,ob),(an,on)],.ok (.ret (.ref at_)),[X.iO,od',op',ob,on],(at_,liO (tpRefs n f) ex)::tpLed n f,da,dt,gn⟩
noncomputable def s9_4J (fr cc cn cl:Addr)(k:Nat->Tok)(sa ab aw na:Addr)(tc:Tok)(fi:Str)(tf:Tok)(X:Lx)(ln:Value)(bs ns:Array Value)(eb en e:Nat)(x:Str)(tx:Tok)(GN:Nat)(AT EX AK DK:Nat->Nat->Nat)(PB:Nat->Nat->Obj)(TU:Nat->Nat->Nat->Tp)(b t:Nat):KJ:=fun K P=>⟨116,lawC K fr cc cn cl,xT (lawS K 9) (lawE K fr cc cn cl),[(fr,frO #[ent P Y48 (k 0) (.ref sa),ent P Y49 (k 1) (.int 4 tc),ent P Y32 (k 2) (.ref ab),ent P Y51 (k 3) (.str fi tf),ent P Y52 (k 4) (.ref aw)] 5),(cl,ceO (some (.ref X.i))),(cn,ceO (some (.ref na))),(X.i,X.iO),(X.d,X.dO P ln),(X.p,liO #[.str x tx] e),(ab,liO bs eb),(na,liO ns en)],hs [0,5,4,6,0,3,21,21] [.ctr [3,4,5,6,7] (fun b' t' c _=>wkSp X ab na (liO bs eb) (liO ns en) (X.dO P ln) (X.dO P ln) (liO #[.str x tx] e) (PB b' t') (AT b' t') 16 (TU b' t') (EX b' t') (AK b' t') (DK b' t') GN)],[0,1,2,3,4,5,6,7,8,9,10,11,12,13,14,15,16,17,18,19,20,21,22,23,24],.ok (.done .next),(AT (b+0) (t+0),liO (tpRefs 16 (TU (b+0) (t+0))) (EX (b+0) (t+0)))::(tpLed 16 (TU (b+0) (t+0))++[(fr,frO #[ent P Y48 (k 0) (.ref sa),ent P Y49 (k 1) (.int 4 tc),ent P Y32 (k 2) (.ref ab),ent P Y51 (k 3) (.str fi tf),ent P Y52 (k 4) (.ref aw),ent P Y39 (t+((0+DK (b+0) (t+0))+0)) (.ref (AT (b+0) (t+0)))] 6),(cl,ceO (some (.ref X.i))),(cn,ceO (some (.ref na))),(X.i,X.iO),(X.d,X.dO P ln),(X.p,PB (b+0) (t+0)),(ab,liO bs eb),(na,liO ns en)]),((0+AK (b+0) (t+0))+0),((0+DK (b+0) (t+0))+1),0+GN⟩
def s9_4Run:RP:=fun T pg=>∀fr cc cn cl k sa ab aw na tc fi tf X ln bs ns eb en e x tx GN AT EX AK DK PB TU b t,JobOk T pg (s9_4J fr cc cn cl k sa ab aw na tc fi tf X ln bs ns eb en e x tx GN AT EX AK DK PB TU b t) b t
noncomputable def s9_3J (fr cc cn cl:Addr)(k:Nat->Tok)(sa ab aw na:Addr)(tc:Tok)(fi:Str)(tf:Tok)(X:Lx)(ln:Value)(bs ns:Array Value)(eb en e:Nat)(x:Str)(tx:Tok)(GN:Nat)(AT EX AK DK:Nat->Nat->Nat)(PB:Nat->Nat->Obj)(TU:Nat->Nat->Nat->Tp)(b t:Nat):KJ:=fun K P=>⟨116,lawC K fr cc cn cl,xT (lawS K 9) (lawE K fr cc cn cl),[(fr,frO #[ent P Y48 (k 0) (.ref sa),ent P Y49 (k 1) (.int 3 tc),ent P Y32 (k 2) (.ref ab),ent P Y51 (k 3) (.str fi tf),ent P Y52 (k 4) (.ref aw)] 5),(cl,ceO (some (.ref X.i))),(cn,ceO (some (.ref na))),(X.i,X.iO),(X.d,X.dO P ln),(X.p,liO #[.str x tx] e),(ab,liO bs eb),(na,liO ns en)],hs [0,5,4,6,0,3,13,13] [.ctr [3,4,5,6,7] (fun b' t' c _=>wkSp X ab na (liO bs eb) (liO ns en) (X.dO P ln) (X.dO P ln) (liO #[.str x tx] e) (PB b' t') (AT b' t') 8 (TU b' t') (EX b' t') (AK b' t') (DK b' t') GN)],[0,1,2,3,4,5,6,7,8,9,10,11,12,13,14,15,16],.ok (.done .next),(AT (b+0) (t+0),liO (tpRefs 8 (TU (b+0) (t+0))) (EX (b+0) (t+0)))::(tpLed 8 (TU (b+0) (t+0))++[(fr,frO #[ent P Y48 (k 0) (.ref sa),ent P Y49 (k 1) (.int 3 tc),ent P Y32 (k 2) (.ref ab),ent P Y51 (k 3) (.str fi tf),ent P Y52 (k 4) (.ref aw),ent P Y39 (t+((0+DK (b+0) (t+0))+0)) (.ref (AT (b+0) (t+0)))] 6),(cl,ceO (some (.ref X.i))),(cn,ceO (some (.ref na))),(X.i,X.iO),(X.d,X.dO P ln),(X.p,PB (b+0) (t+0)),(ab,liO bs eb),(na,liO ns en)]),((0+AK (b+0) (t+0))+0),((0+DK (b+0) (t+0))+1),0+GN⟩
def s9_3Run:RP:=fun T pg=>∀fr cc cn cl k sa ab aw na tc fi tf X ln bs ns eb en e x tx GN AT EX AK DK PB TU b t,JobOk T pg (s9_3J fr cc cn cl k sa ab aw na tc fi tf X ln bs ns eb en e x tx GN AT EX AK DK PB TU b t) b t
noncomputable abbrev wySp (an:Addr)(on:Obj)(s:Int)(ts:Tok)(du:Addr)(n:Nat)(f:Nat->Tp)(ex da dt:Nat):Sp:=⟨60,.call (.ref 131) ⟨[.int s ts,.ref an],[]⟩,[(an,on)],.ok (.ret (.ref du)),[on],(du,liO (tpRefs n f) ex)::tpLed n f,da,dt,0⟩
noncomputable def e3_4J (fr cc cn cl:Addr)(k:Nat->Tok)(sa ab aw at_:Addr)(tc:Tok)(fi:Str)(tf:Tok)(b t:Nat):KJ:=fun K P=>⟨10,lawC K fr cc cn cl,eT (ifL (lawN K 10)) (lawE K fr cc cn cl),[(fr,frO #[ent P Y48 (k 0) (.ref sa),ent P Y49 (k 1) (.int 4 tc),ent P Y32 (k 2) (.ref ab),ent P Y51 (k 3) (.str fi tf),ent P Y52 (k 4) (.ref aw),ent P Y39 (k 5) (.ref at_)] 6)],hs [4] [],[0],.ok (.done (.ret (.ref at_))),[(fr,frO #[ent P Y48 (k 0) (.ref sa),ent P Y49 (k 1) (.int 4 tc),ent P Y32 (k 2) (.ref ab),ent P Y51 (k 3) (.str fi tf),ent P Y52 (k 4) (.ref aw),ent P Y39 (k 5) (.ref at_)] 6)],0,0,0⟩
def e3_4Run:RP:=fun T pg=>∀fr cc cn cl k sa ab aw at_ tc fi tf b t,JobOk T pg (e3_4J fr cc cn cl k sa ab aw at_ tc fi tf b t) b t
noncomputable def e4_4J (fr cc cn cl:Addr)(k:Nat->Tok)(sa ab aw na at_:Addr)(tc:Tok)(fi:Str)(tf:Tok)(ns:Array Value)(en et:Nat)(f:Nat->Tp)(DU EX AY DY:Nat->Nat->Nat)(TU:Nat->Nat->Nat->Tp)(b t:Nat):KJ:=fun K P=>⟨100,lawC K fr cc cn cl,eT (ifW (lawN K 10)) (lawE K fr cc cn cl),[(fr,frO #[ent P Y48 (k 0) (.ref sa),ent P Y49 (k 1) (.int 4 tc),ent P Y32 (k 2) (.ref ab),ent P Y51 (k 3) (.str fi tf),ent P Y52 (k 4) (.ref aw),ent P Y39 (k 5) (.ref at_)] 6),(cn,ceO (some (.ref na))),(na,liO ns en),(at_,liO (tpRefs 16 f) et)]++tpLed 16 f,hs [0,4,7,7,7,1,7,7,23,23,23,1,23,23,1,5,0,3] [.ctr [2] (fun b' t' c _=>wySp na (liO ns en) (f 0).v (f 0).tv (DU b' t') 16 (TU b' t') (EX b' t') (AY b' t') (DY b' t'))],[0,1,2,3,4,5,6,7,8,9,10,11,12,13,14,15,16,17,18,19,20,21,22,23,24,25,26,27,28,29,30,31,32,33,34,35,36],.ok (.done (.ret (.ref (DU (b+0) (t+2))))),(DU (b+0) (t+2),liO (tpRefs 16 (TU (b+0) (t+2))) (EX (b+0) (t+2)))::(tpLed 16 (TU (b+0) (t+2))++([(fr,frO #[ent P Y48 (k 0) (.ref sa),ent P Y49 (k 1) (.int 4 tc),ent P Y32 (k 2) (.ref ab),ent P Y51 (k 3) (.str fi tf),ent P Y52 (k 4) (.ref aw),ent P Y39 (k 5) (.ref at_)] 6),(cn,ceO (some (.ref na))),(na,liO ns en),(at_,liO (tpRefs 16 f) et)]++tpLed 16 f)),((0+AY (b+0) (t+2))+0),((2+DY (b+0) (t+2))+0),0⟩
def e4_4Run:RP:=fun T pg=>∀fr cc cn cl k sa ab aw na at_ tc fi tf ns en et f DU EX AY DY TU b t,JobOk T pg (e4_4J fr cc cn cl k sa ab aw na at_ tc fi tf ns en et f DU EX AY DY TU b t) b t
noncomputable def e5_4J (fr cc cn cl:Addr)(k:Nat->Tok)(X:Lx)(S:Sm)(x:Str)(tx:Tok)(ln:Value)(p:Int)(tp:Tok)(ea ep:Nat)(TP TG AG DG:Nat->Nat->Nat)(b t:Nat):KJ:=fun K P=>⟨90,lawC K fr cc cn cl,eT (ifR (lawN K 10)) (lawE K fr cc cn cl),[(cl,ceO (some (.ref X.i))),(X.i,X.iO),(X.d,X.dO P ln),(X.s,S.sO),(S.sd,S.dO P),(S.rf,S.fO K),(S.rc,S.cO),(S.ct,Sm.tO x tx),(S.ca,S.aO),(S.al,liO #[.int p tp] ea),(X.p,liO #[] ep)],hs [4,5,0,0,0,5,0,0,0,5,0,0,0,0,5,6,0,3,1] [.ctr [1,2,3,4,5,6,7,8,9,10] (fun b' t' _ _=>gtSp X S K P x tx ln ln p p tp (TP b' t') ea ep Y2 (TG b' t') (AG b' t') (DG b' t'))],[0,1,2,3,4,5,6,7,8,9,10],.ok (.done (.ret (.bool true))),[(cl,ceO (some (.ref X.i))),(X.i,X.iO),(X.d,X.dO P ln),(X.s,S.sO),(S.sd,S.dO P),(S.rf,S.fO K),(S.rc,S.cO),(S.ct,Sm.tO x tx),(S.ca,S.aO),(S.al,liO #[.int p (TP (b+0) (t+0))] ea),(X.p,liO #[] ep)],((0+AG (b+0) (t+0))+0),((0+DG (b+0) (t+0))+1),0⟩
def e5_4Run:RP:=fun T pg=>∀fr cc cn cl k X S x tx ln p tp ea ep TP TG AG DG b t,JobOk T pg (e5_4J fr cc cn cl k X S x tx ln p tp ea ep TP TG AG DG b t) b t
noncomputable def e3_3J (fr cc cn cl:Addr)(k:Nat->Tok)(sa ab aw at_:Addr)(tc:Tok)(fi:Str)(tf:Tok)(b t:Nat):KJ:=fun K P=>⟨10,lawC K fr cc cn cl,eT (ifL (lawN K 10)) (lawE K fr cc cn cl),[(fr,frO #[ent P Y48 (k 0) (.ref sa),ent P Y49 (k 1) (.int 3 tc),ent P Y32 (k 2) (.ref ab),ent P Y51 (k 3) (.str fi tf),ent P Y52 (k 4) (.ref aw),ent P Y39 (k 5) (.ref at_)] 6)],hs [4] [],[0],.ok (.done (.ret (.ref at_))),[(fr,frO #[ent P Y48 (k 0) (.ref sa),ent P Y49 (k 1) (.int 3 tc),ent P Y32 (k 2) (.ref ab),ent P Y51 (k 3) (.str fi tf),ent P Y52 (k 4) (.ref aw),ent P Y39 (k 5) (.ref at_)] 6)],0,0,0⟩
def e3_3Run:RP:=fun T pg=>∀fr cc cn cl k sa ab aw at_ tc fi tf b t,JobOk T pg (e3_3J fr cc cn cl k sa ab aw at_ tc fi tf b t) b t
noncomputable def e4_3J (fr cc cn cl:Addr)(k:Nat->Tok)(sa ab aw na at_:Addr)(tc:Tok)(fi:Str)(tf:Tok)(ns:Array Value)(en et:Nat)(f:Nat->Tp)(DU EX AY DY:Nat->Nat->Nat)(TU:Nat->Nat->Nat->Tp)(b t:Nat):KJ:=fun K P=>⟨100,lawC K fr cc cn cl,eT (ifW (lawN K 10)) (lawE K fr cc cn cl),[(fr,frO #[ent P Y48 (k 0) (.ref sa),ent P Y49 (k 1) (.int 3 tc),ent P Y32 (k 2) (.ref ab),ent P Y51 (k 3) (.str fi tf),ent P Y52 (k 4) (.ref aw),ent P Y39 (k 5) (.ref at_)] 6),(cn,ceO (some (.ref na))),(na,liO ns en),(at_,liO (tpRefs 8 f) et)]++tpLed 8 f,hs [0,4,7,7,7,1,7,7,15,15,15,1,15,15,1,5,0,3] [.ctr [2] (fun b' t' c _=>wySp na (liO ns en) (f 0).v (f 0).tv (DU b' t') 8 (TU b' t') (EX b' t') (AY b' t') (DY b' t'))],[0,1,2,3,4,5,6,7,8,9,10,11,12,13,14,15,16,17,18,19,20],.ok (.done (.ret (.ref (DU (b+0) (t+2))))),(DU (b+0) (t+2),liO (tpRefs 8 (TU (b+0) (t+2))) (EX (b+0) (t+2)))::(tpLed 8 (TU (b+0) (t+2))++([(fr,frO #[ent P Y48 (k 0) (.ref sa),ent P Y49 (k 1) (.int 3 tc),ent P Y32 (k 2) (.ref ab),ent P Y51 (k 3) (.str fi tf),ent P Y52 (k 4) (.ref aw),ent P Y39 (k 5) (.ref at_)] 6),(cn,ceO (some (.ref na))),(na,liO ns en),(at_,liO (tpRefs 8 f) et)]++tpLed 8 f)),((0+AY (b+0) (t+2))+0),((2+DY (b+0) (t+2))+0),0⟩
def e4_3Run:RP:=fun T pg=>∀fr cc cn cl k sa ab aw na at_ tc fi tf ns en et f DU EX AY DY TU b t,JobOk T pg (e4_3J fr cc cn cl k sa ab aw na at_ tc fi tf ns en et f DU EX AY DY TU b t) b t
noncomputable def e5_3J (fr cc cn cl:Addr)(k:Nat->Tok)(X:Lx)(S:Sm)(x:Str)(tx:Tok)(ln:Value)(p:Int)(tp:Tok)(ea ep:Nat)(TP TG AG DG:Nat->Nat->Nat)(b t:Nat):KJ:=fun K P=>⟨90,lawC K fr cc cn cl,eT (ifR (lawN K 10)) (lawE K fr cc cn cl),[(cl,ceO (some (.ref X.i))),(X.i,X.iO),(X.d,X.dO P ln),(X.s,S.sO),(S.sd,S.dO P),(S.rf,S.fO K),(S.rc,S.cO),(S.ct,Sm.tO x tx),(S.ca,S.aO),(S.al,liO #[.int p tp] ea),(X.p,liO #[] ep)],hs [4,5,0,0,0,5,0,0,0,5,0,0,0,0,5,6,0,3,1] [.ctr [1,2,3,4,5,6,7,8,9,10] (fun b' t' _ _=>gtSp X S K P x tx ln ln p p tp (TP b' t') ea ep Y2 (TG b' t') (AG b' t') (DG b' t'))],[0,1,2,3,4,5,6,7,8,9,10],.ok (.done (.ret (.bool true))),[(cl,ceO (some (.ref X.i))),(X.i,X.iO),(X.d,X.dO P ln),(X.s,S.sO),(S.sd,S.dO P),(S.rf,S.fO K),(S.rc,S.cO),(S.ct,Sm.tO x tx),(S.ca,S.aO),(S.al,liO #[.int p (TP (b+0) (t+0))] ea),(X.p,liO #[] ep)],((0+AG (b+0) (t+0))+0),((0+DG (b+0) (t+0))+1),0⟩
def e5_3Run:RP:=fun T pg=>∀fr cc cn cl k X S x tx ln p tp ea ep TP TG AG DG b t,JobOk T pg (e5_3J fr cc cn cl k X S x tx ln p tp ea ep TP TG AG DG b t) b t
noncomputable def oddI (z:Int):Bool:=Int.fmod z 2==1
abbrev nuF (P:Params)(k:Nat->Tok)(u0:Value)(ab an:Addr)(sh:Str)(tsh:Tok)(nu:Int)(tnu:Tok)(kv:Value):Obj:=frO #[ent P Y31 (k 0) u0,ent P Y32 (k 1) (.ref ab),ent P Y21 (k 2) (.ref an),ent P Y33 (k 3) (.str sh tsh),ent P Y27 (k 4) (.int nu tnu),ent P Y34 (k 5) kv] 6
abbrev nuF0 (P:Params)(k:Nat->Tok)(u0:Value)(ab an:Addr)(sh:Str)(tsh:Tok)(nu:Int)(tnu:Tok):Obj:=frO #[ent P Y31 (k 0) u0,ent P Y32 (k 1) (.ref ab),ent P Y21 (k 2) (.ref an),ent P Y33 (k 3) (.str sh tsh),ent P Y27 (k 4) (.int nu tnu)] 5
section
variable {T:Params->KT}{prog:Program}{w:World}
theorem su1_all (S0:su1_0Run T prog)(S1:su1_1Run T prog)(la:Addr)(z0:Int)(t0:Tok)(h0:z0=0∨z0=1)(b t:Nat):COk (T w.params) prog w b t (fun b' t' c _=>suSp1 la z0 t0 (z0) t'):=fun b' t' _ _ _ _=>by
  rcases h0 with rfl | rfl
  · exact su1_0_ok S0 la t0 b' t'
  · exact su1_1_ok S1 la t0 b' t'
theorem su2_all (S00:su2_00Run T prog)(S01:su2_01Run T prog)(S10:su2_10Run T prog)(S11:su2_11Run T prog)(la:Addr)(z0 z1:Int)(t0 t1:Tok)(h0:z0=0∨z0=1)(h1:z1=0∨z1=1)(b t:Nat):COk (T w.params) prog w b t (fun b' t' c _=>suSp2 la z0 z1 t0 t1 (z0+z1) t'):=fun b' t' _ _ _ _=>by
  rcases h0 with rfl | rfl<;>rcases h1 with rfl | rfl
  · exact su2_00_ok S00 la t0 t1 b' t'
  · exact su2_01_ok S01 la t0 t1 b' t'
  · exact su2_10_ok S10 la t0 t1 b' t'
  · exact su2_11_ok S11 la t0 t1 b' t'
theorem su3_all (S000:su3_000Run T prog)(S001:su3_001Run T prog)(S010:su3_010Run T prog)(S011:su3_011Run T prog)(S100:su3_100Run T prog)(S101:su3_101Run T prog)(S110:su3_110Run T prog)(S111:su3_111Run T prog)(la:Addr)(z0 z1 z2:Int)(t0 t1 t2:Tok)(h0:z0=0∨z0=1)(h1:z1=0∨z1=1)(h2:z2=0∨z2=1)(b t:Nat):COk (T w.params) prog w b t (fun b' t' c _=>suSp3 la z0 z1 z2 t0 t1 t2 (z0+z1+z2) t'):=fun b' t' _ _ _ _=>by
  rcases h0 with rfl | rfl<;>rcases h1 with rfl | rfl<;>rcases h2 with rfl | rfl
  · exact su3_000_ok S000 la t0 t1 t2 b' t'
  · exact su3_001_ok S001 la t0 t1 t2 b' t'
  · exact su3_010_ok S010 la t0 t1 t2 b' t'
  · exact su3_011_ok S011 la t0 t1 t2 b' t'
  · exact su3_100_ok S100 la t0 t1 t2 b' t'
  · exact su3_101_ok S101 la t0 t1 t2 b' t'
  · exact su3_110_ok S110 la t0 t1 t2 b' t'
  · exact su3_111_ok S111 la t0 t1 t2 b' t'
theorem nt4_0_st (Ha:nt4_0aRun T prog)(Hn:nt4_0nRun T prog)(S0:su1_0Run T prog)(S1:su1_1Run T prog)(S00:su2_00Run T prog)(S01:su2_01Run T prog)(S10:su2_10Run T prog)(S11:su2_11Run T prog)(S000:su3_000Run T prog)(S001:su3_001Run T prog)(S010:su3_010Run T prog)(S011:su3_011Run T prog)(S100:su3_100Run T prog)(S101:su3_101Run T prog)(S110:su3_110Run T prog)(S111:su3_111Run T prog)(fr it ab an:Addr)(k:Nat->Tok)(u0 kv:Value)(eb en:Nat)(z0 z1 z2 z3:Int)(tz0 tz1 tz2 tz3:Tok)(n0 n1 n2 n3:Str)(tn0 tn1 tn2 tn3:Tok)(sh:Str)(nu:Int)(tsh tnu:Tok)(hz0:z0=0∨z0=1)(hz1:z1=0∨z1=1)(hz2:z2=0∨z2=1)(hz3:z3=0∨z3=1)(b t:Nat){Gp:Prop}(kp:∀(k5:Tok)(kv':Value)(tnu':Tok)(da dt:Nat),Tr (T w.params) prog w 20 (forOf (bodyOf (T w.params) 110) 2 (.ref it) (envOf (T w.params) 110 fr [])) [(fr,nuF0 w.params k u0 ab an sh tsh nu tnu),(it,riO 0 4),(ab,liO #[.int z0 tz0,.int z1 tz1,.int z2 tz2,.int z3 tz3] eb),(an,liO #[.str n0 tn0,.str n1 tn1,.str n2 tn2,.str n3 tn3] en)] b t (.ok (.again (forOf (bodyOf (T w.params) 110) 2 (.ref it) (envOf (T w.params) 110 fr [])))) [(fr,nuF w.params (fun i=>match i with | 5=>k5 | i=>k i) u0 ab an sh tsh (if inS sh n0==oddI (z1+z2+z3) then nu+1 else nu) tnu' kv'),(it,riO 1 3),(ab,liO #[.int z0 tz0,.int z1 tz1,.int z2 tz2,.int z3 tz3] eb),(an,liO #[.str n0 tn0,.str n1 tn1,.str n2 tn2,.str n3 tn3] en)] da dt 0->Gp):Gp:=by
  revert kp
  cases hc:(inS sh n0==oddI (z1+z2+z3)) with
  | true=>intro kp;exact kp (t+1) (.int 0 (t+0)) (t+13) _ _ (jtr (w:=w) (Ha fr it ab an k (fun i=>match i with | 0=>u0 | _=>kv) eb en z0 z1 z2 z3 tz0 tz1 tz2 tz3 n0 n1 n2 n3 tn0 tn1 tn2 tn3 sh nu tsh tnu (inS sh n0) (oddI (z1+z2+z3)) (z1+z2+z3) b t) rfl ⟨cIn_ok rfl,(su3_all S000 S001 S010 S011 S100 S101 S110 S111 _ z1 z2 z3 tz1 tz2 tz3 hz1 hz2 hz3 b t),cIeq_ok rfl,cBeq_ok hc,trivial⟩)
  | false=>intro kp;exact kp (t+1) (.int 0 (t+0)) tnu _ _ (jtr (w:=w) (Hn fr it ab an k (fun i=>match i with | 0=>u0 | _=>kv) eb en z0 z1 z2 z3 tz0 tz1 tz2 tz3 n0 n1 n2 n3 tn0 tn1 tn2 tn3 sh nu tsh tnu (inS sh n0) (oddI (z1+z2+z3)) (z1+z2+z3) b t) rfl ⟨cIn_ok rfl,(su3_all S000 S001 S010 S011 S100 S101 S110 S111 _ z1 z2 z3 tz1 tz2 tz3 hz1 hz2 hz3 b t),cIeq_ok rfl,cBeq_ok hc,trivial⟩)
theorem nt4_1_st (Ha:nt4_1aRun T prog)(Hn:nt4_1nRun T prog)(S0:su1_0Run T prog)(S1:su1_1Run T prog)(S00:su2_00Run T prog)(S01:su2_01Run T prog)(S10:su2_10Run T prog)(S11:su2_11Run T prog)(S000:su3_000Run T prog)(S001:su3_001Run T prog)(S010:su3_010Run T prog)(S011:su3_011Run T prog)(S100:su3_100Run T prog)(S101:su3_101Run T prog)(S110:su3_110Run T prog)(S111:su3_111Run T prog)(fr it ab an:Addr)(k:Nat->Tok)(u0 kv:Value)(eb en:Nat)(z0 z1 z2 z3:Int)(tz0 tz1 tz2 tz3:Tok)(n0 n1 n2 n3:Str)(tn0 tn1 tn2 tn3:Tok)(sh:Str)(nu:Int)(tsh tnu:Tok)(hz0:z0=0∨z0=1)(hz1:z1=0∨z1=1)(hz2:z2=0∨z2=1)(hz3:z3=0∨z3=1)(b t:Nat){Gp:Prop}(kp:∀(k5:Tok)(kv':Value)(tnu':Tok)(da dt:Nat),Tr (T w.params) prog w 20 (forOf (bodyOf (T w.params) 110) 2 (.ref it) (envOf (T w.params) 110 fr [])) [(fr,nuF w.params k u0 ab an sh tsh nu tnu kv),(it,riO 1 3),(ab,liO #[.int z0 tz0,.int z1 tz1,.int z2 tz2,.int z3 tz3] eb),(an,liO #[.str n0 tn0,.str n1 tn1,.str n2 tn2,.str n3 tn3] en)] b t (.ok (.again (forOf (bodyOf (T w.params) 110) 2 (.ref it) (envOf (T w.params) 110 fr [])))) [(fr,nuF w.params (fun i=>match i with | 5=>k5 | i=>k i) u0 ab an sh tsh (if inS sh n1==oddI (z2+z3) then nu+2 else nu) tnu' kv'),(it,riO 2 2),(ab,liO #[.int z0 tz0,.int z1 tz1,.int z2 tz2,.int z3 tz3] eb),(an,liO #[.str n0 tn0,.str n1 tn1,.str n2 tn2,.str n3 tn3] en)] da dt 0->Gp):Gp:=by
  revert kp
  cases hc:(inS sh n1==oddI (z2+z3)) with
  | true=>intro kp;exact kp (k 5) (.int 1 (t+0)) (t+12) _ _ (jtr (w:=w) (Ha fr it ab an k (fun i=>match i with | 0=>u0 | _=>kv) eb en z0 z1 z2 z3 tz0 tz1 tz2 tz3 n0 n1 n2 n3 tn0 tn1 tn2 tn3 sh nu tsh tnu (inS sh n1) (oddI (z2+z3)) (z2+z3) b t) rfl ⟨cIn_ok rfl,(su2_all S00 S01 S10 S11 _ z2 z3 tz2 tz3 hz2 hz3 b t),cIeq_ok rfl,cBeq_ok hc,trivial⟩)
  | false=>intro kp;exact kp (k 5) (.int 1 (t+0)) tnu _ _ (jtr (w:=w) (Hn fr it ab an k (fun i=>match i with | 0=>u0 | _=>kv) eb en z0 z1 z2 z3 tz0 tz1 tz2 tz3 n0 n1 n2 n3 tn0 tn1 tn2 tn3 sh nu tsh tnu (inS sh n1) (oddI (z2+z3)) (z2+z3) b t) rfl ⟨cIn_ok rfl,(su2_all S00 S01 S10 S11 _ z2 z3 tz2 tz3 hz2 hz3 b t),cIeq_ok rfl,cBeq_ok hc,trivial⟩)
theorem nt4_2_st (Ha:nt4_2aRun T prog)(Hn:nt4_2nRun T prog)(S0:su1_0Run T prog)(S1:su1_1Run T prog)(S00:su2_00Run T prog)(S01:su2_01Run T prog)(S10:su2_10Run T prog)(S11:su2_11Run T prog)(S000:su3_000Run T prog)(S001:su3_001Run T prog)(S010:su3_010Run T prog)(S011:su3_011Run T prog)(S100:su3_100Run T prog)(S101:su3_101Run T prog)(S110:su3_110Run T prog)(S111:su3_111Run T prog)(fr it ab an:Addr)(k:Nat->Tok)(u0 kv:Value)(eb en:Nat)(z0 z1 z2 z3:Int)(tz0 tz1 tz2 tz3:Tok)(n0 n1 n2 n3:Str)(tn0 tn1 tn2 tn3:Tok)(sh:Str)(nu:Int)(tsh tnu:Tok)(hz0:z0=0∨z0=1)(hz1:z1=0∨z1=1)(hz2:z2=0∨z2=1)(hz3:z3=0∨z3=1)(b t:Nat){Gp:Prop}(kp:∀(k5:Tok)(kv':Value)(tnu':Tok)(da dt:Nat),Tr (T w.params) prog w 20 (forOf (bodyOf (T w.params) 110) 2 (.ref it) (envOf (T w.params) 110 fr [])) [(fr,nuF w.params k u0 ab an sh tsh nu tnu kv),(it,riO 2 2),(ab,liO #[.int z0 tz0,.int z1 tz1,.int z2 tz2,.int z3 tz3] eb),(an,liO #[.str n0 tn0,.str n1 tn1,.str n2 tn2,.str n3 tn3] en)] b t (.ok (.again (forOf (bodyOf (T w.params) 110) 2 (.ref it) (envOf (T w.params) 110 fr [])))) [(fr,nuF w.params (fun i=>match i with | 5=>k5 | i=>k i) u0 ab an sh tsh (if inS sh n2==oddI (z3) then nu+4 else nu) tnu' kv'),(it,riO 3 1),(ab,liO #[.int z0 tz0,.int z1 tz1,.int z2 tz2,.int z3 tz3] eb),(an,liO #[.str n0 tn0,.str n1 tn1,.str n2 tn2,.str n3 tn3] en)] da dt 0->Gp):Gp:=by
  revert kp
  cases hc:(inS sh n2==oddI (z3)) with
  | true=>intro kp;exact kp (k 5) (.int 2 (t+0)) (t+11) _ _ (jtr (w:=w) (Ha fr it ab an k (fun i=>match i with | 0=>u0 | _=>kv) eb en z0 z1 z2 z3 tz0 tz1 tz2 tz3 n0 n1 n2 n3 tn0 tn1 tn2 tn3 sh nu tsh tnu (inS sh n2) (oddI (z3)) (z3) b t) rfl ⟨cIn_ok rfl,(su1_all S0 S1 _ z3 tz3 hz3 b t),cIeq_ok rfl,cBeq_ok hc,trivial⟩)
  | false=>intro kp;exact kp (k 5) (.int 2 (t+0)) tnu _ _ (jtr (w:=w) (Hn fr it ab an k (fun i=>match i with | 0=>u0 | _=>kv) eb en z0 z1 z2 z3 tz0 tz1 tz2 tz3 n0 n1 n2 n3 tn0 tn1 tn2 tn3 sh nu tsh tnu (inS sh n2) (oddI (z3)) (z3) b t) rfl ⟨cIn_ok rfl,(su1_all S0 S1 _ z3 tz3 hz3 b t),cIeq_ok rfl,cBeq_ok hc,trivial⟩)
theorem nt4_3_st (Ha:nt4_3aRun T prog)(Hn:nt4_3nRun T prog)(S0:su1_0Run T prog)(S1:su1_1Run T prog)(S00:su2_00Run T prog)(S01:su2_01Run T prog)(S10:su2_10Run T prog)(S11:su2_11Run T prog)(S000:su3_000Run T prog)(S001:su3_001Run T prog)(S010:su3_010Run T prog)(S011:su3_011Run T prog)(S100:su3_100Run T prog)(S101:su3_101Run T prog)(S110:su3_110Run T prog)(S111:su3_111Run T prog)(fr it ab an:Addr)(k:Nat->Tok)(u0 kv:Value)(eb en:Nat)(z0 z1 z2 z3:Int)(tz0 tz1 tz2 tz3:Tok)(n0 n1 n2 n3:Str)(tn0 tn1 tn2 tn3:Tok)(sh:Str)(nu:Int)(tsh tnu:Tok)(hz0:z0=0∨z0=1)(hz1:z1=0∨z1=1)(hz2:z2=0∨z2=1)(hz3:z3=0∨z3=1)(b t:Nat){Gp:Prop}(kp:∀(k5:Tok)(kv':Value)(tnu':Tok)(da dt:Nat),Tr (T w.params) prog w 20 (forOf (bodyOf (T w.params) 110) 2 (.ref it) (envOf (T w.params) 110 fr [])) [(fr,nuF w.params k u0 ab an sh tsh nu tnu kv),(it,riO 3 1),(ab,liO #[.int z0 tz0,.int z1 tz1,.int z2 tz2,.int z3 tz3] eb),(an,liO #[.str n0 tn0,.str n1 tn1,.str n2 tn2,.str n3 tn3] en)] b t (.ok (.again (forOf (bodyOf (T w.params) 110) 2 (.ref it) (envOf (T w.params) 110 fr [])))) [(fr,nuF w.params (fun i=>match i with | 5=>k5 | i=>k i) u0 ab an sh tsh (if inS sh n3==false then nu+8 else nu) tnu' kv'),(it,riO 4 0),(ab,liO #[.int z0 tz0,.int z1 tz1,.int z2 tz2,.int z3 tz3] eb),(an,liO #[.str n0 tn0,.str n1 tn1,.str n2 tn2,.str n3 tn3] en)] da dt 0->Gp):Gp:=by
  revert kp
  cases hc:(inS sh n3==false) with
  | true=>intro kp;exact kp (k 5) (.int 3 (t+0)) (t+10) _ _ (jtr (w:=w) (Ha fr it ab an k (fun i=>match i with | 0=>u0 | _=>kv) eb en z0 z1 z2 z3 tz0 tz1 tz2 tz3 n0 n1 n2 n3 tn0 tn1 tn2 tn3 sh nu tsh tnu (inS sh n3) b t) rfl ⟨cIn_ok rfl,cBeq_ok hc,trivial⟩)
  | false=>intro kp;exact kp (k 5) (.int 3 (t+0)) tnu _ _ (jtr (w:=w) (Hn fr it ab an k (fun i=>match i with | 0=>u0 | _=>kv) eb en z0 z1 z2 z3 tz0 tz1 tz2 tz3 n0 n1 n2 n3 tn0 tn1 tn2 tn3 sh nu tsh tnu (inS sh n3) b t) rfl ⟨cIn_ok rfl,cBeq_ok hc,trivial⟩)
noncomputable def numP4 (sh:Str)(z0 z1 z2 z3:Int)(n0 n1 n2 n3:Str):Int:=
  let a1:=if inS sh n0==oddI (z1+z2+z3) then (0:Int)+1 else (0:Int)
  let a2:=if inS sh n1==oddI (z2+z3) then a1+2 else a1
  let a3:=if inS sh n2==oddI (z3) then a2+4 else a2
  let a4:=if inS sh n3==false then a3+8 else a3
  a4
theorem num4_loop (H0a:nt4_0aRun T prog)(H0n:nt4_0nRun T prog)(H1a:nt4_1aRun T prog)(H1n:nt4_1nRun T prog)(H2a:nt4_2aRun T prog)(H2n:nt4_2nRun T prog)(H3a:nt4_3aRun T prog)(H3n:nt4_3nRun T prog)(HE:nERun T prog)(S0:su1_0Run T prog)(S1:su1_1Run T prog)(S00:su2_00Run T prog)(S01:su2_01Run T prog)(S10:su2_10Run T prog)(S11:su2_11Run T prog)(S000:su3_000Run T prog)(S001:su3_001Run T prog)(S010:su3_010Run T prog)(S011:su3_011Run T prog)(S100:su3_100Run T prog)(S101:su3_101Run T prog)(S110:su3_110Run T prog)(S111:su3_111Run T prog)(fr it ab an:Addr)(k:Nat->Tok)(u0:Value)(eb en:Nat)(z0 z1 z2 z3:Int)(tz0 tz1 tz2 tz3:Tok)(n0 n1 n2 n3:Str)(tn0 tn1 tn2 tn3:Tok)(sh:Str)(tsh tnu:Tok)(hz0:z0=0∨z0=1)(hz1:z1=0∨z1=1)(hz2:z2=0∨z2=1)(hz3:z3=0∨z3=1)(b t:Nat){Gp:Prop}(kp:∀(k5:Tok)(kv':Value)(tnu':Tok)(da dt:Nat),Tr (T w.params) prog w 20 (forOf (bodyOf (T w.params) 110) 2 (.ref it) (envOf (T w.params) 110 fr [])) [(fr,nuF0 w.params k u0 ab an sh tsh 0 tnu),(it,riO 0 4),(ab,liO #[.int z0 tz0,.int z1 tz1,.int z2 tz2,.int z3 tz3] eb),(an,liO #[.str n0 tn0,.str n1 tn1,.str n2 tn2,.str n3 tn3] en)] b t (.ok (.done .next)) [(fr,nuF w.params (fun i=>match i with | 5=>k5 | i=>k i) u0 ab an sh tsh (numP4 sh z0 z1 z2 z3 n0 n1 n2 n3) tnu' kv'),(it,riO 4 0),(ab,liO #[.int z0 tz0,.int z1 tz1,.int z2 tz2,.int z3 tz3] eb),(an,liO #[.str n0 tn0,.str n1 tn1,.str n2 tn2,.str n3 tn3] en)] da dt 0->Gp):Gp:=by
  refine nt4_0_st (w:=w) H0a H0n S0 S1 S00 S01 S10 S11 S000 S001 S010 S011 S100 S101 S110 S111 fr it ab an k u0 .none eb en z0 z1 z2 z3 tz0 tz1 tz2 tz3 n0 n1 n2 n3 tn0 tn1 tn2 tn3 sh 0 tsh tnu hz0 hz1 hz2 hz3 b t fun k05 kv0 tq0 da0 dt0 z0'=>?_
  refine nt4_1_st (w:=w) H1a H1n S0 S1 S00 S01 S10 S11 S000 S001 S010 S011 S100 S101 S110 S111 fr it ab an (fun i=>match i with | 5=>k05 | i=>k i) u0 kv0 eb en z0 z1 z2 z3 tz0 tz1 tz2 tz3 n0 n1 n2 n3 tn0 tn1 tn2 tn3 sh (if inS sh n0==oddI (z1+z2+z3) then 0+1 else 0) tsh tq0 hz0 hz1 hz2 hz3 (b+da0) (t+dt0) fun k15 kv1 tq1 da1 dt1 z1'=>?_
  refine nt4_2_st (w:=w) H2a H2n S0 S1 S00 S01 S10 S11 S000 S001 S010 S011 S100 S101 S110 S111 fr it ab an (fun i=>match i with | 5=>k15 | i=>k i) u0 kv1 eb en z0 z1 z2 z3 tz0 tz1 tz2 tz3 n0 n1 n2 n3 tn0 tn1 tn2 tn3 sh (if inS sh n1==oddI (z2+z3) then (if inS sh n0==oddI (z1+z2+z3) then 0+1 else 0)+2 else (if inS sh n0==oddI (z1+z2+z3) then 0+1 else 0)) tsh tq1 hz0 hz1 hz2 hz3 ((b+da0)+da1) ((t+dt0)+dt1) fun k25 kv2 tq2 da2 dt2 z2'=>?_
  refine nt4_3_st (w:=w) H3a H3n S0 S1 S00 S01 S10 S11 S000 S001 S010 S011 S100 S101 S110 S111 fr it ab an (fun i=>match i with | 5=>k25 | i=>k i) u0 kv2 eb en z0 z1 z2 z3 tz0 tz1 tz2 tz3 n0 n1 n2 n3 tn0 tn1 tn2 tn3 sh (if inS sh n2==oddI (z3) then (if inS sh n1==oddI (z2+z3) then (if inS sh n0==oddI (z1+z2+z3) then 0+1 else 0)+2 else (if inS sh n0==oddI (z1+z2+z3) then 0+1 else 0))+4 else (if inS sh n1==oddI (z2+z3) then (if inS sh n0==oddI (z1+z2+z3) then 0+1 else 0)+2 else (if inS sh n0==oddI (z1+z2+z3) then 0+1 else 0))) tsh tq2 hz0 hz1 hz2 hz3 (((b+da0)+da1)+da2) (((t+dt0)+dt1)+dt2) fun k35 kv3 tq3 da3 dt3 z3'=>?_
  have zE:=nE_tr (w:=w) HE fr it (fun i=>match i with | 5=>k35 | i=>k i) (fun i=>match i with | 0=>u0 | 1=>.ref ab | 2=>.ref an | 3=>.str sh tsh | 4=>.int (numP4 sh z0 z1 z2 z3 n0 n1 n2 n3) tq3 | _=>kv3) 4 ((((b+da0)+da1)+da2)+da3) ((((t+dt0)+dt1)+dt2)+dt3)
  have zE2:=Tr.frame (N:=[(ab,liO #[.int z0 tz0,.int z1 tz1,.int z2 tz2,.int z3 tz3] eb),(an,liO #[.str n0 tn0,.str n1 tn1,.str n2 tn2,.str n3 tn3] en)]) zE
  exact kp k35 kv3 tq3 _ _ (Tr.trans z0' (Tr.trans z1' (Tr.trans z2' (Tr.trans z3' zE2))))
theorem nt3_0_st (Ha:nt3_0aRun T prog)(Hn:nt3_0nRun T prog)(S0:su1_0Run T prog)(S1:su1_1Run T prog)(S00:su2_00Run T prog)(S01:su2_01Run T prog)(S10:su2_10Run T prog)(S11:su2_11Run T prog)(fr it ab an:Addr)(k:Nat->Tok)(u0 kv:Value)(eb en:Nat)(z0 z1 z2:Int)(tz0 tz1 tz2:Tok)(n0 n1 n2:Str)(tn0 tn1 tn2:Tok)(sh:Str)(nu:Int)(tsh tnu:Tok)(hz0:z0=0∨z0=1)(hz1:z1=0∨z1=1)(hz2:z2=0∨z2=1)(b t:Nat){Gp:Prop}(kp:∀(k5:Tok)(kv':Value)(tnu':Tok)(da dt:Nat),Tr (T w.params) prog w 20 (forOf (bodyOf (T w.params) 110) 2 (.ref it) (envOf (T w.params) 110 fr [])) [(fr,nuF0 w.params k u0 ab an sh tsh nu tnu),(it,riO 0 3),(ab,liO #[.int z0 tz0,.int z1 tz1,.int z2 tz2] eb),(an,liO #[.str n0 tn0,.str n1 tn1,.str n2 tn2] en)] b t (.ok (.again (forOf (bodyOf (T w.params) 110) 2 (.ref it) (envOf (T w.params) 110 fr [])))) [(fr,nuF w.params (fun i=>match i with | 5=>k5 | i=>k i) u0 ab an sh tsh (if inS sh n0==oddI (z1+z2) then nu+1 else nu) tnu' kv'),(it,riO 1 2),(ab,liO #[.int z0 tz0,.int z1 tz1,.int z2 tz2] eb),(an,liO #[.str n0 tn0,.str n1 tn1,.str n2 tn2] en)] da dt 0->Gp):Gp:=by
  revert kp
  cases hc:(inS sh n0==oddI (z1+z2)) with
  | true=>intro kp;exact kp (t+1) (.int 0 (t+0)) (t+12) _ _ (jtr (w:=w) (Ha fr it ab an k (fun i=>match i with | 0=>u0 | _=>kv) eb en z0 z1 z2 tz0 tz1 tz2 n0 n1 n2 tn0 tn1 tn2 sh nu tsh tnu (inS sh n0) (oddI (z1+z2)) (z1+z2) b t) rfl ⟨cIn_ok rfl,(su2_all S00 S01 S10 S11 _ z1 z2 tz1 tz2 hz1 hz2 b t),cIeq_ok rfl,cBeq_ok hc,trivial⟩)
  | false=>intro kp;exact kp (t+1) (.int 0 (t+0)) tnu _ _ (jtr (w:=w) (Hn fr it ab an k (fun i=>match i with | 0=>u0 | _=>kv) eb en z0 z1 z2 tz0 tz1 tz2 n0 n1 n2 tn0 tn1 tn2 sh nu tsh tnu (inS sh n0) (oddI (z1+z2)) (z1+z2) b t) rfl ⟨cIn_ok rfl,(su2_all S00 S01 S10 S11 _ z1 z2 tz1 tz2 hz1 hz2 b t),cIeq_ok rfl,cBeq_ok hc,trivial⟩)
theorem nt3_1_st (Ha:nt3_1aRun T prog)(Hn:nt3_1nRun T prog)(S0:su1_0Run T prog)(S1:su1_1Run T prog)(S00:su2_00Run T prog)(S01:su2_01Run T prog)(S10:su2_10Run T prog)(S11:su2_11Run T prog)(fr it ab an:Addr)(k:Nat->Tok)(u0 kv:Value)(eb en:Nat)(z0 z1 z2:Int)(tz0 tz1 tz2:Tok)(n0 n1 n2:Str)(tn0 tn1 tn2:Tok)(sh:Str)(nu:Int)(tsh tnu:Tok)(hz0:z0=0∨z0=1)(hz1:z1=0∨z1=1)(hz2:z2=0∨z2=1)(b t:Nat){Gp:Prop}(kp:∀(k5:Tok)(kv':Value)(tnu':Tok)(da dt:Nat),Tr (T w.params) prog w 20 (forOf (bodyOf (T w.params) 110) 2 (.ref it) (envOf (T w.params) 110 fr [])) [(fr,nuF w.params k u0 ab an sh tsh nu tnu kv),(it,riO 1 2),(ab,liO #[.int z0 tz0,.int z1 tz1,.int z2 tz2] eb),(an,liO #[.str n0 tn0,.str n1 tn1,.str n2 tn2] en)] b t (.ok (.again (forOf (bodyOf (T w.params) 110) 2 (.ref it) (envOf (T w.params) 110 fr [])))) [(fr,nuF w.params (fun i=>match i with | 5=>k5 | i=>k i) u0 ab an sh tsh (if inS sh n1==oddI (z2) then nu+2 else nu) tnu' kv'),(it,riO 2 1),(ab,liO #[.int z0 tz0,.int z1 tz1,.int z2 tz2] eb),(an,liO #[.str n0 tn0,.str n1 tn1,.str n2 tn2] en)] da dt 0->Gp):Gp:=by
  revert kp
  cases hc:(inS sh n1==oddI (z2)) with
  | true=>intro kp;exact kp (k 5) (.int 1 (t+0)) (t+11) _ _ (jtr (w:=w) (Ha fr it ab an k (fun i=>match i with | 0=>u0 | _=>kv) eb en z0 z1 z2 tz0 tz1 tz2 n0 n1 n2 tn0 tn1 tn2 sh nu tsh tnu (inS sh n1) (oddI (z2)) (z2) b t) rfl ⟨cIn_ok rfl,(su1_all S0 S1 _ z2 tz2 hz2 b t),cIeq_ok rfl,cBeq_ok hc,trivial⟩)
  | false=>intro kp;exact kp (k 5) (.int 1 (t+0)) tnu _ _ (jtr (w:=w) (Hn fr it ab an k (fun i=>match i with | 0=>u0 | _=>kv) eb en z0 z1 z2 tz0 tz1 tz2 n0 n1 n2 tn0 tn1 tn2 sh nu tsh tnu (inS sh n1) (oddI (z2)) (z2) b t) rfl ⟨cIn_ok rfl,(su1_all S0 S1 _ z2 tz2 hz2 b t),cIeq_ok rfl,cBeq_ok hc,trivial⟩)
theorem nt3_2_st (Ha:nt3_2aRun T prog)(Hn:nt3_2nRun T prog)(S0:su1_0Run T prog)(S1:su1_1Run T prog)(S00:su2_00Run T prog)(S01:su2_01Run T prog)(S10:su2_10Run T prog)(S11:su2_11Run T prog)(fr it ab an:Addr)(k:Nat->Tok)(u0 kv:Value)(eb en:Nat)(z0 z1 z2:Int)(tz0 tz1 tz2:Tok)(n0 n1 n2:Str)(tn0 tn1 tn2:Tok)(sh:Str)(nu:Int)(tsh tnu:Tok)(hz0:z0=0∨z0=1)(hz1:z1=0∨z1=1)(hz2:z2=0∨z2=1)(b t:Nat){Gp:Prop}(kp:∀(k5:Tok)(kv':Value)(tnu':Tok)(da dt:Nat),Tr (T w.params) prog w 20 (forOf (bodyOf (T w.params) 110) 2 (.ref it) (envOf (T w.params) 110 fr [])) [(fr,nuF w.params k u0 ab an sh tsh nu tnu kv),(it,riO 2 1),(ab,liO #[.int z0 tz0,.int z1 tz1,.int z2 tz2] eb),(an,liO #[.str n0 tn0,.str n1 tn1,.str n2 tn2] en)] b t (.ok (.again (forOf (bodyOf (T w.params) 110) 2 (.ref it) (envOf (T w.params) 110 fr [])))) [(fr,nuF w.params (fun i=>match i with | 5=>k5 | i=>k i) u0 ab an sh tsh (if inS sh n2==false then nu+4 else nu) tnu' kv'),(it,riO 3 0),(ab,liO #[.int z0 tz0,.int z1 tz1,.int z2 tz2] eb),(an,liO #[.str n0 tn0,.str n1 tn1,.str n2 tn2] en)] da dt 0->Gp):Gp:=by
  revert kp
  cases hc:(inS sh n2==false) with
  | true=>intro kp;exact kp (k 5) (.int 2 (t+0)) (t+10) _ _ (jtr (w:=w) (Ha fr it ab an k (fun i=>match i with | 0=>u0 | _=>kv) eb en z0 z1 z2 tz0 tz1 tz2 n0 n1 n2 tn0 tn1 tn2 sh nu tsh tnu (inS sh n2) b t) rfl ⟨cIn_ok rfl,cBeq_ok hc,trivial⟩)
  | false=>intro kp;exact kp (k 5) (.int 2 (t+0)) tnu _ _ (jtr (w:=w) (Hn fr it ab an k (fun i=>match i with | 0=>u0 | _=>kv) eb en z0 z1 z2 tz0 tz1 tz2 n0 n1 n2 tn0 tn1 tn2 sh nu tsh tnu (inS sh n2) b t) rfl ⟨cIn_ok rfl,cBeq_ok hc,trivial⟩)
noncomputable def numP3 (sh:Str)(z0 z1 z2:Int)(n0 n1 n2:Str):Int:=
  let a1:=if inS sh n0==oddI (z1+z2) then (0:Int)+1 else (0:Int)
  let a2:=if inS sh n1==oddI (z2) then a1+2 else a1
  let a3:=if inS sh n2==false then a2+4 else a2
  a3
theorem num3_loop (H0a:nt3_0aRun T prog)(H0n:nt3_0nRun T prog)(H1a:nt3_1aRun T prog)(H1n:nt3_1nRun T prog)(H2a:nt3_2aRun T prog)(H2n:nt3_2nRun T prog)(HE:nERun T prog)(S0:su1_0Run T prog)(S1:su1_1Run T prog)(S00:su2_00Run T prog)(S01:su2_01Run T prog)(S10:su2_10Run T prog)(S11:su2_11Run T prog)(fr it ab an:Addr)(k:Nat->Tok)(u0:Value)(eb en:Nat)(z0 z1 z2:Int)(tz0 tz1 tz2:Tok)(n0 n1 n2:Str)(tn0 tn1 tn2:Tok)(sh:Str)(tsh tnu:Tok)(hz0:z0=0∨z0=1)(hz1:z1=0∨z1=1)(hz2:z2=0∨z2=1)(b t:Nat){Gp:Prop}(kp:∀(k5:Tok)(kv':Value)(tnu':Tok)(da dt:Nat),Tr (T w.params) prog w 20 (forOf (bodyOf (T w.params) 110) 2 (.ref it) (envOf (T w.params) 110 fr [])) [(fr,nuF0 w.params k u0 ab an sh tsh 0 tnu),(it,riO 0 3),(ab,liO #[.int z0 tz0,.int z1 tz1,.int z2 tz2] eb),(an,liO #[.str n0 tn0,.str n1 tn1,.str n2 tn2] en)] b t (.ok (.done .next)) [(fr,nuF w.params (fun i=>match i with | 5=>k5 | i=>k i) u0 ab an sh tsh (numP3 sh z0 z1 z2 n0 n1 n2) tnu' kv'),(it,riO 3 0),(ab,liO #[.int z0 tz0,.int z1 tz1,.int z2 tz2] eb),(an,liO #[.str n0 tn0,.str n1 tn1,.str n2 tn2] en)] da dt 0->Gp):Gp:=by
  refine nt3_0_st (w:=w) H0a H0n S0 S1 S00 S01 S10 S11 fr it ab an k u0 .none eb en z0 z1 z2 tz0 tz1 tz2 n0 n1 n2 tn0 tn1 tn2 sh 0 tsh tnu hz0 hz1 hz2 b t fun k05 kv0 tq0 da0 dt0 z0'=>?_
  refine nt3_1_st (w:=w) H1a H1n S0 S1 S00 S01 S10 S11 fr it ab an (fun i=>match i with | 5=>k05 | i=>k i) u0 kv0 eb en z0 z1 z2 tz0 tz1 tz2 n0 n1 n2 tn0 tn1 tn2 sh (if inS sh n0==oddI (z1+z2) then 0+1 else 0) tsh tq0 hz0 hz1 hz2 (b+da0) (t+dt0) fun k15 kv1 tq1 da1 dt1 z1'=>?_
  refine nt3_2_st (w:=w) H2a H2n S0 S1 S00 S01 S10 S11 fr it ab an (fun i=>match i with | 5=>k15 | i=>k i) u0 kv1 eb en z0 z1 z2 tz0 tz1 tz2 n0 n1 n2 tn0 tn1 tn2 sh (if inS sh n1==oddI (z2) then (if inS sh n0==oddI (z1+z2) then 0+1 else 0)+2 else (if inS sh n0==oddI (z1+z2) then 0+1 else 0)) tsh tq1 hz0 hz1 hz2 ((b+da0)+da1) ((t+dt0)+dt1) fun k25 kv2 tq2 da2 dt2 z2'=>?_
  have zE:=nE_tr (w:=w) HE fr it (fun i=>match i with | 5=>k25 | i=>k i) (fun i=>match i with | 0=>u0 | 1=>.ref ab | 2=>.ref an | 3=>.str sh tsh | 4=>.int (numP3 sh z0 z1 z2 n0 n1 n2) tq2 | _=>kv2) 3 (((b+da0)+da1)+da2) (((t+dt0)+dt1)+dt2)
  have zE2:=Tr.frame (N:=[(ab,liO #[.int z0 tz0,.int z1 tz1,.int z2 tz2] eb),(an,liO #[.str n0 tn0,.str n1 tn1,.str n2 tn2] en)]) zE
  exact kp k25 kv2 tq2 _ _ (Tr.trans z0' (Tr.trans z1' (Tr.trans z2' zE2)))
end
section
variable {T:Params->KT}{prog:Program}{w:World}
theorem num4_fn (H:num4Run T prog)(H0a:nt4_0aRun T prog)(H0n:nt4_0nRun T prog)(H1a:nt4_1aRun T prog)(H1n:nt4_1nRun T prog)(H2a:nt4_2aRun T prog)(H2n:nt4_2nRun T prog)(H3a:nt4_3aRun T prog)(H3n:nt4_3nRun T prog)(HE:nERun T prog)(S0:su1_0Run T prog)(S1:su1_1Run T prog)(S00:su2_00Run T prog)(S01:su2_01Run T prog)(S10:su2_10Run T prog)(S11:su2_11Run T prog)(S000:su3_000Run T prog)(S001:su3_001Run T prog)(S010:su3_010Run T prog)(S011:su3_011Run T prog)(S100:su3_100Run T prog)(S101:su3_101Run T prog)(S110:su3_110Run T prog)(S111:su3_111Run T prog)(ab an:Addr)(eb en:Nat)(z0 z1 z2 z3:Int)(tz0 tz1 tz2 tz3:Tok)(n0 n1 n2 n3:Str)(tn0 tn1 tn2 tn3:Tok)(q sh:Str)(tq:Tok)(GN:Nat)(hz0:z0=0∨z0=1)(hz1:z1=0∨z1=1)(hz2:z2=0∨z2=1)(hz3:z3=0∨z3=1)(hq:q.length≠0)(hq2:q.length<=100)
    (hst:∀b' t',∃tr da dt:Nat,SpOk (T w.params) prog w (stSp (q++Y3) sh (t'-1) tr da dt GN) b' t') (b t:Nat):∃tv da dt:Nat,SpOk (T w.params) prog w (numSp ab an q tq (liO #[.int z0 tz0,.int z1 tz1,.int z2 tz2,.int z3 tz3] eb) (liO #[.str n0 tn0,.str n1 tn1,.str n2 tn2,.str n3 tn3] en) (numP4 sh z0 z1 z2 z3 n0 n1 n2 n3) tv da dt (0+GN)) b t:=by
  have h1:=Classical.axiomOfChoice (r:=fun (p:Nat×Nat) (r:Nat×Nat×Nat)=>SpOk (T w.params) prog w (stSp (q++Y3) sh (p.2-1) r.1 r.2.1 r.2.2 GN) p.1 p.2) (fun p=>by obtain ⟨tr,da,dt,h⟩:=hst p.1 p.2;exact ⟨(tr,da,dt),h⟩)
  obtain ⟨R,hR⟩:=h1
  let TSf:Nat->Nat->Nat:=fun b' t'=>(R (b',t')).1
  let DA0f:Nat->Nat->Nat:=fun b' t'=>(R (b',t')).2.1
  let D0f:Nat->Nat->Nat:=fun b' t'=>(R (b',t')).2.2
  have h2:=Classical.axiomOfChoice (r:=fun (p:Nat×Nat) (r:Tok×Value×Tok×Nat×Nat)=>Tr (T w.params) prog w 20 (forOf (bodyOf (T w.params) 110) 2 (.ref (b+((1+DA0f (b+1) (t+5))+1))) (envOf (T w.params) 110 (b+0) []))
      [((b+0),nuF0 w.params (fun i=>([(t+0),(t+1),(t+2),(t+((5+D0f (b+1) (t+5))+0)),(t+((5+D0f (b+1) (t+5))+2))]:List Tok).getD i 0) (.str q tq) ab an sh (TSf (b+1) (t+5)) 0 (t+((5+D0f (b+1) (t+5))+1))),((b+((1+DA0f (b+1) (t+5))+1)),riO 0 4),(ab,liO #[.int z0 tz0,.int z1 tz1,.int z2 tz2,.int z3 tz3] eb),(an,liO #[.str n0 tn0,.str n1 tn1,.str n2 tn2,.str n3 tn3] en)] p.1 p.2 (.ok (.done .next))
      [((b+0),nuF w.params (fun i=>match i with | 5=>r.1 | i=>(fun i=>([(t+0),(t+1),(t+2),(t+((5+D0f (b+1) (t+5))+0)),(t+((5+D0f (b+1) (t+5))+2))]:List Tok).getD i 0) i) (.str q tq) ab an sh (TSf (b+1) (t+5)) (numP4 sh z0 z1 z2 z3 n0 n1 n2 n3) r.2.2.1 r.2.1),((b+((1+DA0f (b+1) (t+5))+1)),riO 4 0),(ab,liO #[.int z0 tz0,.int z1 tz1,.int z2 tz2,.int z3 tz3] eb),(an,liO #[.str n0 tn0,.str n1 tn1,.str n2 tn2,.str n3 tn3] en)] r.2.2.2.1 r.2.2.2.2 0)
    (fun p=>by
      refine cps fun Gp kp=>?_
      refine num4_loop (w:=w) H0a H0n H1a H1n H2a H2n H3a H3n HE S0 S1 S00 S01 S10 S11 S000 S001 S010 S011 S100 S101 S110 S111 (b+0) (b+((1+DA0f (b+1) (t+5))+1)) ab an (fun i=>([(t+0),(t+1),(t+2),(t+((5+D0f (b+1) (t+5))+0)),(t+((5+D0f (b+1) (t+5))+2))]:List Tok).getD i 0) (.str q tq) eb en z0 z1 z2 z3 tz0 tz1 tz2 tz3 n0 n1 n2 n3 tn0 tn1 tn2 tn3 sh (TSf (b+1) (t+5)) (t+((5+D0f (b+1) (t+5))+1)) hz0 hz1 hz2 hz3 p.1 p.2 fun k5 kv tn da dt z=>?_
      refine kp ?_
      exact ⟨(k5,kv,tn,da,dt),z⟩)
  obtain ⟨R2,hR2⟩:=h2
  exact ⟨_,_,_,num4_ok (w:=w) H ab an eb en z0 z1 z2 z3 tz0 tz1 tz2 tz3 n0 n1 n2 n3 tn0 tn1 tn2 tn3 q sh tq (numP4 sh z0 z1 z2 z3 n0 n1 n2 n3) GN TSf DA0f D0f (fun b' t'=>(R2 (b',t')).2.2.1) (fun b' t'=>(R2 (b',t')).1) (fun b' t'=>(R2 (b',t')).2.2.2.1) (fun b' t'=>(R2 (b',t')).2.2.2.2) (fun b' t'=>(R2 (b',t')).2.1) (fun _ _=>riO 4 0) b t hq (by decide)
    (by rw [Str.length_append,sizeLine_eq];have:Y3.length=1:=rfl;omega) (fun b' t' c l _ _=>hR (b',t')) (fun b' t' _ _ _ _=>Tr.sp (Tr.mono (hR2 (b',t')) (show 20<=40 by decide)) rfl)⟩
theorem num3_fn (H:num3Run T prog)(H0a:nt3_0aRun T prog)(H0n:nt3_0nRun T prog)(H1a:nt3_1aRun T prog)(H1n:nt3_1nRun T prog)(H2a:nt3_2aRun T prog)(H2n:nt3_2nRun T prog)(HE:nERun T prog)(S0:su1_0Run T prog)(S1:su1_1Run T prog)(S00:su2_00Run T prog)(S01:su2_01Run T prog)(S10:su2_10Run T prog)(S11:su2_11Run T prog)(ab an:Addr)(eb en:Nat)(z0 z1 z2:Int)(tz0 tz1 tz2:Tok)(n0 n1 n2:Str)(tn0 tn1 tn2:Tok)(q sh:Str)(tq:Tok)(GN:Nat)(hz0:z0=0∨z0=1)(hz1:z1=0∨z1=1)(hz2:z2=0∨z2=1)(hq:q.length≠0)(hq2:q.length<=100)
    (hst:∀b' t',∃tr da dt:Nat,SpOk (T w.params) prog w (stSp (q++Y3) sh (t'-1) tr da dt GN) b' t') (b t:Nat):∃tv da dt:Nat,SpOk (T w.params) prog w (numSp ab an q tq (liO #[.int z0 tz0,.int z1 tz1,.int z2 tz2] eb) (liO #[.str n0 tn0,.str n1 tn1,.str n2 tn2] en) (numP3 sh z0 z1 z2 n0 n1 n2) tv da dt (0+GN)) b t:=by
  have h1:=Classical.axiomOfChoice (r:=fun (p:Nat×Nat) (r:Nat×Nat×Nat)=>SpOk (T w.params) prog w (stSp (q++Y3) sh (p.2-1) r.1 r.2.1 r.2.2 GN) p.1 p.2) (fun p=>by obtain ⟨tr,da,dt,h⟩:=hst p.1 p.2;exact ⟨(tr,da,dt),h⟩)
  obtain ⟨R,hR⟩:=h1
  let TSf:Nat->Nat->Nat:=fun b' t'=>(R (b',t')).1
  let DA0f:Nat->Nat->Nat:=fun b' t'=>(R (b',t')).2.1
  let D0f:Nat->Nat->Nat:=fun b' t'=>(R (b',t')).2.2
  have h2:=Classical.axiomOfChoice (r:=fun (p:Nat×Nat) (r:Tok×Value×Tok×Nat×Nat)=>Tr (T w.params) prog w 20 (forOf (bodyOf (T w.params) 110) 2 (.ref (b+((1+DA0f (b+1) (t+5))+1))) (envOf (T w.params) 110 (b+0) []))
      [((b+0),nuF0 w.params (fun i=>([(t+0),(t+1),(t+2),(t+((5+D0f (b+1) (t+5))+0)),(t+((5+D0f (b+1) (t+5))+2))]:List Tok).getD i 0) (.str q tq) ab an sh (TSf (b+1) (t+5)) 0 (t+((5+D0f (b+1) (t+5))+1))),((b+((1+DA0f (b+1) (t+5))+1)),riO 0 3),(ab,liO #[.int z0 tz0,.int z1 tz1,.int z2 tz2] eb),(an,liO #[.str n0 tn0,.str n1 tn1,.str n2 tn2] en)] p.1 p.2 (.ok (.done .next))
      [((b+0),nuF w.params (fun i=>match i with | 5=>r.1 | i=>(fun i=>([(t+0),(t+1),(t+2),(t+((5+D0f (b+1) (t+5))+0)),(t+((5+D0f (b+1) (t+5))+2))]:List Tok).getD i 0) i) (.str q tq) ab an sh (TSf (b+1) (t+5)) (numP3 sh z0 z1 z2 n0 n1 n2) r.2.2.1 r.2.1),((b+((1+DA0f (b+1) (t+5))+1)),riO 3 0),(ab,liO #[.int z0 tz0,.int z1 tz1,.int z2 tz2] eb),(an,liO #[.str n0 tn0,.str n1 tn1,.str n2 tn2] en)] r.2.2.2.1 r.2.2.2.2 0)
    (fun p=>by
      refine cps fun Gp kp=>?_
      refine num3_loop (w:=w) H0a H0n H1a H1n H2a H2n HE S0 S1 S00 S01 S10 S11 (b+0) (b+((1+DA0f (b+1) (t+5))+1)) ab an (fun i=>([(t+0),(t+1),(t+2),(t+((5+D0f (b+1) (t+5))+0)),(t+((5+D0f (b+1) (t+5))+2))]:List Tok).getD i 0) (.str q tq) eb en z0 z1 z2 tz0 tz1 tz2 n0 n1 n2 tn0 tn1 tn2 sh (TSf (b+1) (t+5)) (t+((5+D0f (b+1) (t+5))+1)) hz0 hz1 hz2 p.1 p.2 fun k5 kv tn da dt z=>?_
      refine kp ?_
      exact ⟨(k5,kv,tn,da,dt),z⟩)
  obtain ⟨R2,hR2⟩:=h2
  exact ⟨_,_,_,num3_ok (w:=w) H ab an eb en z0 z1 z2 tz0 tz1 tz2 n0 n1 n2 tn0 tn1 tn2 q sh tq (numP3 sh z0 z1 z2 n0 n1 n2) GN TSf DA0f D0f (fun b' t'=>(R2 (b',t')).2.2.1) (fun b' t'=>(R2 (b',t')).1) (fun b' t'=>(R2 (b',t')).2.2.2.1) (fun b' t'=>(R2 (b',t')).2.2.2.2) (fun b' t'=>(R2 (b',t')).2.1) (fun _ _=>riO 3 0) b t hq (by decide)
    (by rw [Str.length_append,sizeLine_eq];have:Y3.length=1:=rfl;omega) (fun b' t' c l _ _=>hR (b',t')) (fun b' t' _ _ _ _=>Tr.sp (Tr.mono (hR2 (b',t')) (show 20<=40 by decide)) rfl)⟩
end
abbrev wkF (P:Params)(k:Nat->Tok)(u5 u6:Value)(X:Lx)(ab an ah at_ ap:Addr)(la:Str)(tl:Tok)(kv:Value):Obj:=frO #[ent P Y37 (k 0) (.ref X.i),ent P Y32 (k 1) (.ref ab),ent P Y21 (k 2) (.ref an),ent P Y38 (k 3) (.ref ah),ent P Y39 (k 4) (.ref at_),ent P Y40 (k 5) u5,ent P Y16 (k 6) u6,ent P Y41 (k 7) (.ref ap),ent P Y42 (k 8) (.str la tl),ent P Y34 (k 9) kv] 10
noncomputable abbrev pbA (pb:List (Str×Tok)):Array Value:=(pb.map fun y=>Value.str y.1 y.2).toArray
abbrev inL (P:Params)(F:Obj)(fr it an ah ap:Addr)(X:Lx)(kk r:Int)(ns hv:Array Value)(en eh ep:Nat)(p q:Str)(tp tq:Tok)(ln:Value)(pb:List (Str×Tok))(e:Nat):Led:=
  [(fr,F),(it,riO kk r),(an,liO ns en),(ah,liO hv eh),(ap,liO #[.str p tp,.str q tq] ep),(X.i,X.iO),(X.d,X.dO P ln),(X.p,liO (pbA pb) e)]
structure Rg where
  x:Str
  tx:Tok
  h:Str
  th:Tok
  sf:Str
  mf:Nat
  m:Bool
  rr:Str
section
variable {T:Params->KT}{prog:Program}{w:World}
structure RgOk (T:Params->KT)(prog:Program)(w:World)(g:Nat->Rg)(cnt:Nat)(ns hv:Array Value)(q:Str)(t0:Nat):Prop where
  nm:∀j,j<cnt->ns[j]?=some (.str (g j).x (g j).tx)
  hg:∀j,j<cnt->hv[j]?=some (.str (g j).h (g j).th)
  xl:∀j,j<cnt->(g j).x.length=1
  no:∀j,j<cnt->(g j).m=false->∀tx ty b t,SpOk (T w.params) prog w (ell0Sp (g j).h q (g j).sf tx ty (g j).mf b t) b t
  yes:∀j,j<cnt->(g j).m=true->∀tx ty b t,SpOk (T w.params) prog w (ell1Sp (g j).h q (g j).sf tx ty (g j).mf b t) b t
  rl:∀j,j<cnt->(g j).m=true->(g j).rr.length≠0/\(g j).rr.length<=100
  tr:∀j,j<cnt->(g j).m=true->∀tx b t,t0<=t->SpOk (T w.params) prog w (trSp q (g j).x (g j).rr tx (g j).tx t) b t
noncomputable def pushes (g:Nat->Rg)(la:Str):Nat->Nat->List Nat
  | _,0=>[]
  | kk,r+1=>(if !eqS (g kk).x la&&(g kk).m then [kk] else [])++pushes g la (kk+1) r
def pushT (g:Nat->Rg)(p:Str)(j:Nat):Str:=(((p++Y30)++(g j).x)++Y36)++(g j).rr
theorem fitP {p x r:Str}(hp:p.length<=100)(hx:x.length=1)(hr:r.length<=100):(p++Y30).length<=sizeLine/\((p++Y30)++x).length<=sizeLine/\(((p++Y30)++x)++Y36).length<=sizeLine/\((((p++Y30)++x)++Y36)++r).length<=sizeLine /\
    (p++Y30).length≠0/\((p++Y30)++x).length≠0/\(((p++Y30)++x)++Y36).length≠0:=by
  have d:Y30.length=1:=rfl
  have c:Y36.length=1:=rfl
  simp only [Str.length_append,hx,d,c,sizeLine_eq]
  omega
end
section
variable {T:Params->KT}{prog:Program}{w:World}
noncomputable abbrev icC (K:KT)(fr it:Addr):Code:=forOf (inner (bodyOf K 124) [2]) 4 (.ref it) (envOf K 124 fr [])
theorem inner_later (Hs:iskipRun T prog)(Hno:inoRun T prog)(H0:imp0Run T prog)(H1:imp1Run T prog)(HE:iERun T prog)(P0:push0Run T prog)(P1:push1Run T prog)
    (X:Lx) (fr it an ah ap ab at_:Addr) (k:Nat->Tok) (u5 u6:Value) (ns hv:Array Value) (en eh ep:Nat) (p q la:Str) (tp tq tl:Tok) (ln:Value) (g:Nat->Rg) (cnt t0:Nat) (hO:RgOk T prog w g cnt ns hv q t0) (hp0:p.length≠0) (hp1:p.length<=100) (hc:cnt<=10) :
    ∀(r kk:Nat)(kv:Value)(pb:List (Str×Tok))(e b t:Nat),kk+r=cnt->t0<=t->pb.length+(pushes g la kk r).length<=2->∀{Gp:Prop},(∀(kv':Value)(tk:List Tok)(e' da dt:Nat),tk.length=(pushes g la kk r).length->Tr (T w.params) prog w 20 (icC (T w.params) fr it) (inL w.params (wkF w.params k u5 u6 X ab an ah at_ ap la tl kv) fr it an ah ap X kk r ns hv en eh ep p q tp tq ln pb e) b t (.ok (.done .next)) (inL w.params (wkF w.params k u5 u6 X ab an ah at_ ap la tl kv') fr it an ah ap X cnt 0 ns hv en eh ep p q tp tq ln (pb++((pushes g la kk r).map (pushT g p)).zip tk) e') da dt 0->Gp)->Gp:=by
  intro r
  induction r with
  | zero=>
    intro kk kv pb e b t hk ht hpb Gp kp
    have:kk=cnt:=by omega
    subst this
    have z:=iE_tr (w:=w) HE X fr it an ah ap ab at_ k (fun i=>match i with | 5=>u5 | 6=>u6 | _=>kv) kk la tl b t
    have z2:=Tr.frame (N:=[(an,liO ns en),(ah,liO hv eh),(ap,liO #[.str p tp,.str q tq] ep),(X.i,X.iO),(X.d,X.dO w.params ln),(X.p,liO (pbA pb) e)]) z
    refine kp kv [] e 2 0 rfl ?_
    · rw [show pb++((pushes g la kk 0).map (pushT g p)).zip []=pb by simp [pushes]]
      exact z2
  | succ r ih=>
    intro kk kv pb e b t hk ht hpb Gp kp
    have hkc:kk<cnt:=by omega
    have hr:¬ ((r+1:Nat):Int)<=0:=by omega
    have cm:((r+1:Nat):Int)-1=(r:Int):=by push_cast;omega
    have k0:(0:Int)<=(kk:Int):=by omega
    have k1:(kk:Int)<2 ^ 63:=by omega
    cases hs:(!eqS (g kk).x la) with
    | false=>
      have hpu:pushes g la kk (r+1)=pushes g la (kk+1) r:=by simp only [pushes,hs];rfl
      have z:=iskip_tr (w:=w) Hs X fr it an ah ap ab at_ k (fun i=>match i with | 5=>u5 | 6=>u6 | _=>kv) kk ((r+1:Nat):Int) ns hv en eh ep p q la (g kk).x (g kk).h tp tq tl (g kk).tx (g kk).th b t hr k0 k1 (hO.nm kk hkc) hs
      have z2:=Tr.frame (N:=[(X.i,X.iO),(X.d,X.dO w.params ln),(X.p,liO (pbA pb) e)]) z
      have z3:Tr (T w.params) prog w 20 (icC (T w.params) fr it) (inL w.params (wkF w.params k u5 u6 X ab an ah at_ ap la tl kv) fr it an ah ap X kk ((r+1:Nat):Int) ns hv en eh ep p q tp tq ln pb e) b t (.ok (.again (icC (T w.params) fr it))) (inL w.params (wkF w.params k u5 u6 X ab an ah at_ ap la tl (.int kk (t+0))) fr it an ah ap X (kk+1) (((r+1:Nat):Int)-1) ns hv en eh ep p q tp tq ln pb e) _ _ 0:=z2
      rw [cm] at z3
      rw [hpu] at hpb kp
      exact ih (kk+1) (.int kk (t+0)) pb e (b+_) (t+_) (by omega) (Nat.le_trans ht (Nat.le_add_right ..)) hpb fun kv' tk e' da dt h1 h2=>kp kv' tk e' _ _ h1 (z3.trans h2)
    | true=>
      cases hm:(g kk).m with
      | false=>
        have hpu:pushes g la kk (r+1)=pushes g la (kk+1) r:=by simp only [pushes,hs,hm];rfl
        have z:=ino_tr (w:=w) Hno X fr it an ah ap ab at_ k (fun i=>match i with | 5=>u5 | 6=>u6 | _=>kv) kk ((r+1:Nat):Int) ns hv en eh ep p q la (g kk).x (g kk).h tp tq tl (g kk).tx (g kk).th (g kk).sf (g kk).mf b t hr k0 k1 (hO.nm kk hkc) hs (hO.hg kk hkc) (fun b' t' c _ _ _=>hO.no kk hkc hm (aT c 0) (aT c 1) b' t')
        have z2:=Tr.frame (N:=[(X.i,X.iO),(X.d,X.dO w.params ln),(X.p,liO (pbA pb) e)]) z
        have z3:Tr (T w.params) prog w 20 (icC (T w.params) fr it) (inL w.params (wkF w.params k u5 u6 X ab an ah at_ ap la tl kv) fr it an ah ap X kk ((r+1:Nat):Int) ns hv en eh ep p q tp tq ln pb e) b t (.ok (.again (icC (T w.params) fr it))) (inL w.params (wkF w.params k u5 u6 X ab an ah at_ ap la tl (.int kk (t+0))) fr it an ah ap X (kk+1) (((r+1:Nat):Int)-1) ns hv en eh ep p q tp tq ln pb e) _ _ 0:=z2
        rw [cm] at z3
        rw [hpu] at hpb kp
        exact ih (kk+1) (.int kk (t+0)) pb e (b+_) (t+_) (by omega) (Nat.le_trans ht (Nat.le_add_right ..)) hpb fun kv' tk e' da dt h1 h2=>kp kv' tk e' _ _ h1 (z3.trans h2)
      | true=>
        have hpu:pushes g la kk (r+1)=kk::pushes g la (kk+1) r:=by simp only [pushes,hs,hm];rfl
        rw [hpu] at hpb kp
        obtain ⟨f1,f2,f3,f4,f5,f6,f7⟩:=fitP hp1 (hO.xl kk hkc) (hO.rl kk hkc hm).2
        have hx0:(g kk).x.length≠0:=by rw [hO.xl kk hkc];decide
        match pb,hpb with
        | [],hpb=>
          have z:=jtr (w:=w) (H0 X fr it an ah ap ab at_ k (fun i=>match i with | 5=>u5 | 6=>u6 | _=>kv) kk ((r+1:Nat):Int) ns hv en eh ep p q la (g kk).x (g kk).h tp tq tl (g kk).tx (g kk).th (g kk).sf (g kk).mf (g kk).rr ln e b t) rfl ⟨cNextR_ok hr,cGetL_ok k0 k1 (hO.nm kk hkc),cNe_ok hs,cGetL_ok k0 k1 (hO.hg kk hkc),(fun b' t' c _ _ _=>hO.yes kk hkc hm (aT c 0) (aT c 1) b' t'),cAdd_ok hp0 (by decide) f1,cGetL_ok k0 k1 (hO.nm kk hkc),cAdd_ok f5 hx0 f2,cAdd_ok f6 (by decide) f3,cGetL_ok k0 k1 (hO.nm kk hkc),(fun b' t' c _ _ h=>hO.tr kk hkc hm (aT c 0) b' t' (Nat.le_trans ht h)),cAdd_ok f7 (hO.rl kk hkc hm).1 f4,(fun b' t' c _ _ _=>push0_ok P0 X ln e _ (aT c 1) b' t'),trivial⟩
          have z3:Tr (T w.params) prog w 20 (icC (T w.params) fr it) (inL w.params (wkF w.params k u5 u6 X ab an ah at_ ap la tl kv) fr it an ah ap X kk ((r+1:Nat):Int) ns hv en eh ep p q tp tq ln [] e) b t (.ok (.again (icC (T w.params) fr it))) (inL w.params (wkF w.params k u5 u6 X ab an ah at_ ap la tl (.int kk (t+0))) fr it an ah ap X (kk+1) (((r+1:Nat):Int)-1) ns hv en eh ep p q tp tq ln [(pushT g p kk,t+54)] (e+1)) _ _ 0:=z
          rw [cm] at z3
          exact ih (kk+1) (.int kk (t+0)) [(pushT g p kk,t+54)] (e+1) (b+_) (t+_) (by omega) (Nat.le_trans ht (Nat.le_add_right ..)) (by simp only [List.length_cons,List.length_nil] at hpb ⊢;omega) fun kv' tk e' da dt h1 h2=>kp kv' ((t+54)::tk) e' _ _ (by simp only [List.length_cons,h1]) (z3.trans h2)
        | [y],hpb=>
          have z:=jtr (w:=w) (H1 X fr it an ah ap ab at_ k (fun i=>match i with | 5=>u5 | 6=>u6 | _=>kv) kk ((r+1:Nat):Int) ns hv en eh ep p q la (g kk).x (g kk).h tp tq tl (g kk).tx (g kk).th (g kk).sf (g kk).mf (g kk).rr ln e y.1 y.2 b t) rfl ⟨cNextR_ok hr,cGetL_ok k0 k1 (hO.nm kk hkc),cNe_ok hs,cGetL_ok k0 k1 (hO.hg kk hkc),(fun b' t' c _ _ _=>hO.yes kk hkc hm (aT c 0) (aT c 1) b' t'),cAdd_ok hp0 (by decide) f1,cGetL_ok k0 k1 (hO.nm kk hkc),cAdd_ok f5 hx0 f2,cAdd_ok f6 (by decide) f3,cGetL_ok k0 k1 (hO.nm kk hkc),(fun b' t' c _ _ h=>hO.tr kk hkc hm (aT c 0) b' t' (Nat.le_trans ht h)),cAdd_ok f7 (hO.rl kk hkc hm).1 f4,(fun b' t' c _ _ _=>push1_ok P1 X ln e y.1 y.2 _ (aT c 1) b' t'),trivial⟩
          have z3:Tr (T w.params) prog w 20 (icC (T w.params) fr it) (inL w.params (wkF w.params k u5 u6 X ab an ah at_ ap la tl kv) fr it an ah ap X kk ((r+1:Nat):Int) ns hv en eh ep p q tp tq ln [y] e) b t (.ok (.again (icC (T w.params) fr it))) (inL w.params (wkF w.params k u5 u6 X ab an ah at_ ap la tl (.int kk (t+0))) fr it an ah ap X (kk+1) (((r+1:Nat):Int)-1) ns hv en eh ep p q tp tq ln [y,(pushT g p kk,t+54)] (e+1)) _ _ 0:=z
          rw [cm] at z3
          exact ih (kk+1) (.int kk (t+0)) [y,(pushT g p kk,t+54)] (e+1) (b+_) (t+_) (by omega) (Nat.le_trans ht (Nat.le_add_right ..)) (by simp only [List.length_cons,List.length_nil] at hpb ⊢;omega) fun kv' tk e' da dt h1 h2=>kp kv' ((t+54)::tk) e' _ _ (by simp only [List.length_cons,h1]) (z3.trans h2)
        | y::y2::l,hpb=>exact absurd hpb (by simp only [List.length_cons];omega)
end
section
variable {T:Params->KT}{prog:Program}{w:World}
def pushT0 (g:Nat->Rg)(j:Nat):Str:=((Y30++(g j).x)++Y36)++(g j).rr
theorem fitE {x r:Str}(hx:x.length=1)(hr:r.length<=100):(Y30++x).length<=sizeLine/\((Y30++x)++Y36).length<=sizeLine/\(((Y30++x)++Y36)++r).length<=sizeLine /\
    (Y30++x).length≠0/\((Y30++x)++Y36).length≠0:=by
  have d:Y30.length=1:=rfl
  have c:Y36.length=1:=rfl
  simp only [Str.length_append,hx,d,c,sizeLine_eq]
  omega
abbrev wkF9 (P:Params)(k:Nat->Tok)(u5 u6:Value)(X:Lx)(ab an ah at_ ap:Addr)(la:Str)(tl:Tok):Obj:=frO #[ent P Y37 (k 0) (.ref X.i),ent P Y32 (k 1) (.ref ab),ent P Y21 (k 2) (.ref an),ent P Y38 (k 3) (.ref ah),ent P Y39 (k 4) (.ref at_),ent P Y40 (k 5) u5,ent P Y16 (k 6) u6,ent P Y41 (k 7) (.ref ap),ent P Y42 (k 8) (.str la tl)] 9
noncomputable abbrev k9 (k:Nat->Tok)(x:Tok):Nat->Tok:=fun i=>match i with | 9=>x | _=>k i
theorem inner_latere (Hs:iskipRun T prog)(Hno:inoRun T prog)(H1:ime1Run T prog)(HE:iERun T prog)(P1:push1Run T prog)
    (X:Lx) (fr it an ah ap ab at_:Addr) (k:Nat->Tok) (u5 u6:Value) (ns hv:Array Value) (en eh ep:Nat) (q la:Str) (tp tq tl:Tok) (ln:Value) (g:Nat->Rg) (cnt t0:Nat) (hO:RgOk T prog w g cnt ns hv q t0) (hc:cnt<=10) :
    ∀(r kk:Nat)(kv:Value)(pb:List (Str×Tok))(e b t:Nat),kk+r=cnt->t0<=t->pb.length≠0->pb.length+(pushes g la kk r).length<=2->∀{Gp:Prop},(∀(kv':Value)(tk:List Tok)(e' da dt:Nat),tk.length=(pushes g la kk r).length->Tr (T w.params) prog w 20 (icC (T w.params) fr it) (inL w.params (wkF w.params k u5 u6 X ab an ah at_ ap la tl kv) fr it an ah ap X kk r ns hv en eh ep Y2 q tp tq ln pb e) b t (.ok (.done .next)) (inL w.params (wkF w.params k u5 u6 X ab an ah at_ ap la tl kv') fr it an ah ap X cnt 0 ns hv en eh ep Y2 q tp tq ln (pb++((pushes g la kk r).map (pushT0 g)).zip tk) e') da dt 0->Gp)->Gp:=by
  intro r
  induction r with
  | zero=>
    intro kk kv pb e b t hk ht hp0 hpb Gp kp
    have:kk=cnt:=by omega
    subst this
    have z:=iE_tr (w:=w) HE X fr it an ah ap ab at_ k (fun i=>match i with | 5=>u5 | 6=>u6 | _=>kv) kk la tl b t
    have z2:=Tr.frame (N:=[(an,liO ns en),(ah,liO hv eh),(ap,liO #[.str Y2 tp,.str q tq] ep),(X.i,X.iO),(X.d,X.dO w.params ln),(X.p,liO (pbA pb) e)]) z
    refine kp kv [] e 2 0 rfl ?_
    · rw [show pb++((pushes g la kk 0).map (pushT0 g)).zip []=pb by simp [pushes]]
      exact z2
  | succ r ih=>
    intro kk kv pb e b t hk ht hp0 hpb Gp kp
    have hkc:kk<cnt:=by omega
    have hr:¬ ((r+1:Nat):Int)<=0:=by omega
    have cm:((r+1:Nat):Int)-1=(r:Int):=by push_cast;omega
    have k0:(0:Int)<=(kk:Int):=by omega
    have k1:(kk:Int)<2 ^ 63:=by omega
    cases hs:(!eqS (g kk).x la) with
    | false=>
      have hpu:pushes g la kk (r+1)=pushes g la (kk+1) r:=by simp only [pushes,hs];rfl
      have z:=iskip_tr (w:=w) Hs X fr it an ah ap ab at_ k (fun i=>match i with | 5=>u5 | 6=>u6 | _=>kv) kk ((r+1:Nat):Int) ns hv en eh ep Y2 q la (g kk).x (g kk).h tp tq tl (g kk).tx (g kk).th b t hr k0 k1 (hO.nm kk hkc) hs
      have z2:=Tr.frame (N:=[(X.i,X.iO),(X.d,X.dO w.params ln),(X.p,liO (pbA pb) e)]) z
      have z3:Tr (T w.params) prog w 20 (icC (T w.params) fr it) (inL w.params (wkF w.params k u5 u6 X ab an ah at_ ap la tl kv) fr it an ah ap X kk ((r+1:Nat):Int) ns hv en eh ep Y2 q tp tq ln pb e) b t (.ok (.again (icC (T w.params) fr it))) (inL w.params (wkF w.params k u5 u6 X ab an ah at_ ap la tl (.int kk (t+0))) fr it an ah ap X (kk+1) (((r+1:Nat):Int)-1) ns hv en eh ep Y2 q tp tq ln pb e) _ _ 0:=z2
      rw [cm] at z3
      rw [hpu] at hpb kp
      exact ih (kk+1) (.int kk (t+0)) pb e (b+_) (t+_) (by omega) (Nat.le_trans ht (Nat.le_add_right ..)) hp0 hpb fun kv' tk e' da dt h1 h2=>kp kv' tk e' _ _ h1 (z3.trans h2)
    | true=>
      cases hm:(g kk).m with
      | false=>
        have hpu:pushes g la kk (r+1)=pushes g la (kk+1) r:=by simp only [pushes,hs,hm];rfl
        have z:=ino_tr (w:=w) Hno X fr it an ah ap ab at_ k (fun i=>match i with | 5=>u5 | 6=>u6 | _=>kv) kk ((r+1:Nat):Int) ns hv en eh ep Y2 q la (g kk).x (g kk).h tp tq tl (g kk).tx (g kk).th (g kk).sf (g kk).mf b t hr k0 k1 (hO.nm kk hkc) hs (hO.hg kk hkc) (fun b' t' c _ _ _=>hO.no kk hkc hm (aT c 0) (aT c 1) b' t')
        have z2:=Tr.frame (N:=[(X.i,X.iO),(X.d,X.dO w.params ln),(X.p,liO (pbA pb) e)]) z
        have z3:Tr (T w.params) prog w 20 (icC (T w.params) fr it) (inL w.params (wkF w.params k u5 u6 X ab an ah at_ ap la tl kv) fr it an ah ap X kk ((r+1:Nat):Int) ns hv en eh ep Y2 q tp tq ln pb e) b t (.ok (.again (icC (T w.params) fr it))) (inL w.params (wkF w.params k u5 u6 X ab an ah at_ ap la tl (.int kk (t+0))) fr it an ah ap X (kk+1) (((r+1:Nat):Int)-1) ns hv en eh ep Y2 q tp tq ln pb e) _ _ 0:=z2
        rw [cm] at z3
        rw [hpu] at hpb kp
        exact ih (kk+1) (.int kk (t+0)) pb e (b+_) (t+_) (by omega) (Nat.le_trans ht (Nat.le_add_right ..)) hp0 hpb fun kv' tk e' da dt h1 h2=>kp kv' tk e' _ _ h1 (z3.trans h2)
      | true=>
        have hpu:pushes g la kk (r+1)=kk::pushes g la (kk+1) r:=by simp only [pushes,hs,hm];rfl
        rw [hpu] at hpb kp
        obtain ⟨f2,f3,f4,f6,f7⟩:=fitE (hO.xl kk hkc) (hO.rl kk hkc hm).2
        have hx0:(g kk).x.length≠0:=by rw [hO.xl kk hkc];decide
        match pb,hp0,hpb with
        | [],hp0,hpb=>exact absurd rfl hp0
        | [y],hp0,hpb=>
          have z:=jtr (w:=w) (H1 X fr it an ah ap ab at_ k (fun i=>match i with | 5=>u5 | 6=>u6 | _=>kv) kk ((r+1:Nat):Int) ns hv en eh ep q la (g kk).x (g kk).h tp tq tl (g kk).tx (g kk).th (g kk).sf (g kk).mf (g kk).rr ln e y.1 y.2 b t) rfl ⟨cNextR_ok hr,cGetL_ok k0 k1 (hO.nm kk hkc),cNe_ok hs,cGetL_ok k0 k1 (hO.hg kk hkc),(fun b' t' c _ _ _=>hO.yes kk hkc hm (aT c 0) (aT c 1) b' t'),cGetL_ok k0 k1 (hO.nm kk hkc),cAdd_ok (by decide) hx0 f2,cAdd_ok f6 (by decide) f3,cGetL_ok k0 k1 (hO.nm kk hkc),(fun b' t' c _ _ h=>hO.tr kk hkc hm (aT c 0) b' t' (Nat.le_trans ht h)),cAdd_ok f7 (hO.rl kk hkc hm).1 f4,(fun b' t' c _ _ _=>push1_ok P1 X ln e y.1 y.2 _ (aT c 1) b' t'),trivial⟩
          have z3:Tr (T w.params) prog w 20 (icC (T w.params) fr it) (inL w.params (wkF w.params k u5 u6 X ab an ah at_ ap la tl kv) fr it an ah ap X kk ((r+1:Nat):Int) ns hv en eh ep Y2 q tp tq ln [y] e) b t (.ok (.again (icC (T w.params) fr it))) (inL w.params (wkF w.params k u5 u6 X ab an ah at_ ap la tl (.int kk (t+0))) fr it an ah ap X (kk+1) (((r+1:Nat):Int)-1) ns hv en eh ep Y2 q tp tq ln [y,(pushT0 g kk,t+53)] (e+1)) _ _ 0:=z
          rw [cm] at z3
          exact ih (kk+1) (.int kk (t+0)) [y,(pushT0 g kk,t+53)] (e+1) (b+_) (t+_) (by omega) (Nat.le_trans ht (Nat.le_add_right ..)) (by simp) (by simp only [List.length_cons,List.length_nil] at hpb ⊢;omega) fun kv' tk e' da dt h1 h2=>kp kv' ((t+53)::tk) e' _ _ (by simp only [List.length_cons,h1]) (z3.trans h2)
        | y::y2::l,hp0,hpb=>exact absurd hpb (by simp only [List.length_cons];omega)
theorem inner_first (Hf:i9mRun T prog)(Hs:iskipRun T prog)(Hno:inoRun T prog)(H1:ime1Run T prog)(HE:iERun T prog)(P0:push0Run T prog)(P1:push1Run T prog)
    (X:Lx) (fr it an ah ap ab at_:Addr) (k:Nat->Tok) (u:Nat->Value) (ns hv:Array Value) (en eh ep:Nat) (q la:Str) (tp tq tl:Tok) (ln:Value) (g:Nat->Rg) (cnt t0:Nat) (hO:RgOk T prog w g cnt ns hv q t0) (hc:cnt<=10) (r:Nat) (hr1:r+1=cnt) (hs:(!eqS (g 0).x la)=true) (hm:(g 0).m=true) (e b t:Nat) (ht:t0<=t) (hpb:(pushes g la 0 (r+1)).length<=2) {Gp:Prop} (kp:∀(k':Tok)(kv':Value)(tk:List Tok)(e' da dt:Nat),tk.length=(pushes g la 0 (r+1)).length->Tr (T w.params) prog w 20 (icC (T w.params) fr it) (inL w.params (wkF9 w.params k (u 5) (u 6) X ab an ah at_ ap la tl) fr it an ah ap X (0:Nat) (r+1:Nat) ns hv en eh ep Y2 q tp tq ln [] e) b t (.ok (.done .next)) (inL w.params (wkF w.params (k9 k k') (u 5) (u 6) X ab an ah at_ ap la tl kv') fr it an ah ap X cnt 0 ns hv en eh ep Y2 q tp tq ln (((pushes g la 0 (r+1)).map (pushT0 g)).zip tk) e') da dt 0->Gp):Gp:=by
  have h0c:0<cnt:=by omega
  have hr:¬ ((r+1:Nat):Int)<=0:=by omega
  have cm:((r+1:Nat):Int)-1=(r:Int):=by push_cast;omega
  have hpu:pushes g la 0 (r+1)=0::pushes g la (0+1) r:=by simp only [pushes,hs,hm];rfl
  rw [hpu] at hpb kp
  obtain ⟨f2,f3,f4,f6,f7⟩:=fitE (hO.xl 0 h0c) (hO.rl 0 h0c hm).2
  have hx0:(g 0).x.length≠0:=by rw [hO.xl 0 h0c];decide
  have z:=jtr (w:=w) (Hf X fr it an ah ap ab at_ k u ((0:Nat):Int) ((r+1:Nat):Int) ns hv en eh ep q la (g 0).x (g 0).h tp tq tl (g 0).tx (g 0).th (g 0).sf (g 0).mf (g 0).rr ln e b t) rfl ⟨cNextR_ok hr,cGetL_ok (by decide) (by decide) (hO.nm 0 h0c),cNe_ok hs,cGetL_ok (by decide) (by decide) (hO.hg 0 h0c),(fun b' t' c _ _ _=>hO.yes 0 h0c hm (aT c 0) (aT c 1) b' t'),cGetL_ok (by decide) (by decide) (hO.nm 0 h0c),cAdd_ok (by decide) hx0 f2,cAdd_ok f6 (by decide) f3,cGetL_ok (by decide) (by decide) (hO.nm 0 h0c),(fun b' t' c _ _ h=>hO.tr 0 h0c hm (aT c 0) b' t' (Nat.le_trans ht h)),cAdd_ok f7 (hO.rl 0 h0c hm).1 f4,(fun b' t' c _ _ _=>push0_ok P0 X ln e _ (aT c 1) b' t'),trivial⟩
  have z3:Tr (T w.params) prog w 20 (icC (T w.params) fr it) (inL w.params (wkF9 w.params k (u 5) (u 6) X ab an ah at_ ap la tl) fr it an ah ap X (0:Nat) ((r+1:Nat):Int) ns hv en eh ep Y2 q tp tq ln [] e) b t (.ok (.again (icC (T w.params) fr it))) (inL w.params (wkF w.params (k9 k (t+1)) (u 5) (u 6) X ab an ah at_ ap la tl (.int ((0:Nat):Int) (t+0))) fr it an ah ap X ((0:Nat)+1) (((r+1:Nat):Int)-1) ns hv en eh ep Y2 q tp tq ln [(pushT0 g 0,t+53)] (e+1)) _ _ 0:=z
  rw [cm] at z3
  exact inner_latere Hs Hno H1 HE P1 X fr it an ah ap ab at_ (k9 k (t+1)) (u 5) (u 6) ns hv en eh ep q la tp tq tl ln g cnt t0 hO hc r (0+1) (.int ((0:Nat):Int) (t+0)) [(pushT0 g 0,t+53)] (e+1) (b+_) (t+_) (by omega) (Nat.le_trans ht (Nat.le_add_right ..)) (by simp) (by simp only [List.length_cons,List.length_nil] at hpb ⊢;omega) fun kv' tk e' da dt h1 h2=>kp (t+1) kv' ((t+53)::tk) e' _ _ (by simp only [List.length_cons,h1]) (z3.trans h2)
end
structure InR where
  k:Tok
  v:Value
  tk:List Tok
  e:Nat
  da:Nat
  dt:Nat
noncomputable abbrev ouC (K:KT)(fr it:Addr):Code:=forOf (bodyOf K 124) 2 (.ref it) (envOf K 124 fr [])
abbrev wkG (P:Params)(k:Nat->Tok)(u:Nat->Value)(X:Lx)(ab an ah at_:Addr):Obj:=frO #[ent P Y37 (k 0) (.ref X.i),ent P Y32 (k 1) (.ref ab),ent P Y21 (k 2) (.ref an),ent P Y38 (k 3) (.ref ah),ent P Y39 (k 4) (.ref at_),ent P Y40 (k 5) (u 5),ent P Y16 (k 6) (u 6),ent P Y41 (k 7) (u 7),ent P Y42 (k 8) (u 8),ent P Y34 (k 9) (u 9)] 10
abbrev wkG5 (P:Params)(k:Nat->Tok)(X:Lx)(ab an ah at_:Addr):Obj:=frO #[ent P Y37 (k 0) (.ref X.i),ent P Y32 (k 1) (.ref ab),ent P Y21 (k 2) (.ref an),ent P Y38 (k 3) (.ref ah),ent P Y39 (k 4) (.ref at_)] 5
abbrev ouL (P:Params)(F:Obj)(fr it at_ an ah ab:Addr)(X:Lx)(kk r:Int)(xs ns hv bs:Array Value)(ex en eh eb:Nat)(ln:Value)(pb:List (Str×Tok))(e:Nat):Led:=
  [(fr,F),(it,riO kk r),(at_,liO xs ex),(an,liO ns en),(ah,liO hv eh),(ab,liO bs eb),(X.i,X.iO),(X.d,X.dO P ln),(X.p,liO (pbA pb) e)]
section
variable {T:Params->KT}{prog:Program}{w:World}
theorem oF_4_st (H:oF_4Run T prog)(Pop:pop1Run T prog)(Hf:i9mRun T prog)(Hs:iskipRun T prog)(Hno:inoRun T prog)(H1:ime1Run T prog)(HE:iERun T prog)(P0:push0Run T prog)(P1:push1Run T prog)(X:Lx)(fr it at_ an ah ab:Addr)(k:Nat->Tok)(u:Nat->Value)(kk r:Int)(xs ns hv bs:Array Value)(ex en eh eb:Nat)(ln:Value)(e:Nat)(x:Str)(tx:Tok)(q la:Str)(nu:Int)(GN:Nat)(g:Nat->Rg)(t0 b t:Nat)(h0:¬ r<=0)(h1:(decide (x.length<Y36.length)||decide (Builtin.Str.strKind x<Builtin.Str.strKind Y36))=false)(h2:(Y36.length==0)=false)(h3:(Builtin.Str.occurrences x Y36 0 x.length (x.length+1)).isEmpty=false)(h4:x.length<=sizeLine)(h5:cutS x Y36=[Y2,q])(h6:([Y2,q]:List Str).length<=sizeLine)(h7:xs.size<=sizeLine)(h8:ns.size=4)
    (hnum:∀(tq:Tok) b' t',∃tv da dt:Nat,SpOk (T w.params) prog w (numSp ab an q tq (liO bs eb) (liO ns en) nu tv da dt GN) b' t') (hst:∀(tx:Tok) b' t',SpOk (T w.params) prog w (s0Sp x la tx t') b' t') (hO:RgOk T prog w g 4 ns hv q t0) (hs0:(!eqS (g 0).x la)=true) (hm0:(g 0).m=true) (ht:t0<=t) (hpb:0+(pushes g la 0 4).length<=2) {Gp:Prop} (kp:∀(k':Nat->Tok)(u':Nat->Value)(tk:List Tok)(tup ta tn e' da dt:Nat),tk.length=(pushes g la 0 4).length->Tr (T w.params) prog w 80 (ouC (T w.params) fr it) (ouL w.params (wkG5 w.params k X ab an ah at_) fr it at_ an ah ab X kk r xs ns hv bs ex en eh eb ln ((x,tx)::[]) e) b t (.ok (.again (ouC (T w.params) fr it))) ([(tup,tuO #[.str Y2 ta,.int nu tn])]++ouL w.params (wkG w.params k' u' X ab an ah at_) fr it at_ an ah ab X (kk+1) (r-1) (xs.push (.ref tup)) ns hv bs (ex+1) en eh eb ln ([]++((pushes g la 0 4).map (pushT0 g)).zip tk) e') da dt (0+GN)->Gp):Gp:=by
  obtain ⟨NR,hNR⟩:=Classical.axiomOfChoice (r:=fun (p:Nat×Nat) (y:Nat×Nat×Nat)=>SpOk (T w.params) prog w (numSp ab an q (t+11) (liO bs eb) (liO ns en) nu y.1 y.2.1 y.2.2 GN) p.1 p.2) (fun p=>by obtain ⟨a,c,d,h⟩:=hnum (t+11) p.1 p.2;exact ⟨(a,c,d),h⟩)
  let TNf:Nat->Nat->Nat:=fun b' t'=>(NR (b',t')).1
  let DAf:Nat->Nat->Nat:=fun b' t'=>(NR (b',t')).2.1
  let Df:Nat->Nat->Nat:=fun b' t'=>(NR (b',t')).2.2
  have hI:∀y:Nat×Nat,∃R:InR,t0<=y.2->(R.tk.length=(pushes g la 0 4).length/\Tr (T w.params) prog w 20 (icC (T w.params) fr (b+((2+DAf (b+2) (t+16))+8))) (inL w.params (wkF9 w.params (fun i=>match i with | 5=>t+1 | 6=>t+8 | 7=>t+12 | 8=>(t+((16+Df (b+2) (t+16))+22)) | i=>k i) (.int kk (t+0)) (.str x tx) X ab an ah at_ (b+1) la (t+((16+Df (b+2) (t+16))+21))) fr (b+((2+DAf (b+2) (t+16))+8)) an ah (b+1) X (0:Nat) (4:Nat) ns hv en eh 0 Y2 q (t+10) (t+11) ln [] (e+1)) y.1 y.2 (.ok (.done .next)) (inL w.params (wkF w.params (k9 (fun i=>match i with | 5=>t+1 | 6=>t+8 | 7=>t+12 | 8=>(t+((16+Df (b+2) (t+16))+22)) | i=>k i) R.k) (.int kk (t+0)) (.str x tx) X ab an ah at_ (b+1) la (t+((16+Df (b+2) (t+16))+21)) R.v) fr (b+((2+DAf (b+2) (t+16))+8)) an ah (b+1) X (4:Nat) 0 ns hv en eh 0 Y2 q (t+10) (t+11) ln (((pushes g la 0 4).map (pushT0 g)).zip R.tk) R.e) R.da R.dt 0):=fun y=>by
    by_cases hy:t0<=y.2
    · refine inner_first (w:=w) Hf Hs Hno H1 HE P0 P1 X fr (b+((2+DAf (b+2) (t+16))+8)) an ah (b+1) ab at_ (fun i=>match i with | 5=>t+1 | 6=>t+8 | 7=>t+12 | 8=>(t+((16+Df (b+2) (t+16))+22)) | i=>k i) (fun i=>match i with | 5=>.int kk (t+0) | 6=>.str x tx | _=>.none) ns hv en eh 0 q la (t+10) (t+11) (t+((16+Df (b+2) (t+16))+21)) ln g 4 t0 hO (by decide) 3 rfl hs0 hm0 (e+1) y.1 y.2 hy (by rw [Nat.zero_add] at hpb;exact hpb) fun k' v' tk e' da dt g1 g2=>?_
      exact ⟨⟨k',v',tk,e',da,dt⟩,fun _=>⟨g1,g2⟩⟩
    · exact ⟨⟨0,.none,[],0,0,0⟩,fun h=>absurd h hy⟩
  obtain ⟨R,hR⟩:=Classical.axiomOfChoice hI
  have z:=jtr (w:=w) (H X fr it at_ an ah ab k u kk r xs ns hv bs ex en eh eb ln e x tx q la nu GN TNf DAf Df (fun b' t'=>(R (b',t')).k) (fun b' t'=>(R (b',t')).da) (fun b' t'=>(R (b',t')).dt) (fun b' t'=>(R (b',t')).v) (fun _ _=>riO 4 0) (fun b' t'=>liO (pbA (((pushes g la 0 4).map (pushT0 g)).zip (R (b',t')).tk)) (R (b',t')).e) b t) rfl ⟨cNextR_ok h0,(fun b' t' c _ _ _=>pop1_ok Pop X ln e x tx b' t'),cSplit_ok h1 h2 h3 h4 h5 h6,(fun b' t' c _ _ _=>hNR (b',t')),cApp_ok h7,(fun b' t' c _ _ _=>hst (aT c 0) b' t'),cLenL_ok h8 (by rw [sizeLine_eq];decide),(fun b' t' _ _ _ h=>by
      refine Tr.sp ?_ rfl
      exact Tr.mono (hR (b',t') (Nat.le_trans ht h)).2 (show 20<=30 by decide)),trivial⟩
  have hq:=(hR ((b+((2+DAf (b+2) (t+16))+9)),(t+((16+Df (b+2) (t+16))+27))) (Nat.le_trans ht (Nat.le_add_right _ _))).1
  exact kp (k9 (fun i=>match i with | 5=>t+1 | 6=>t+8 | 7=>t+12 | 8=>(t+((16+Df (b+2) (t+16))+22)) | i=>k i) (R ((b+((2+DAf (b+2) (t+16))+9)),(t+((16+Df (b+2) (t+16))+27)))).k) (fun i=>match i with | 5=>.int kk (t+0) | 6=>.str x tx | 7=>.ref (b+1) | 8=>.str la (t+((16+Df (b+2) (t+16))+21)) | _=>(R ((b+((2+DAf (b+2) (t+16))+9)),(t+((16+Df (b+2) (t+16))+27)))).v) ((R ((b+((2+DAf (b+2) (t+16))+9)),(t+((16+Df (b+2) (t+16))+27)))).tk) (b+((2+DAf (b+2) (t+16))+0)) (t+10) (TNf (b+2) (t+16)) ((R ((b+((2+DAf (b+2) (t+16))+9)),(t+((16+Df (b+2) (t+16))+27)))).e) _ _ hq z
theorem oF_3_st (H:oF_3Run T prog)(Pop:pop1Run T prog)(Hf:i9mRun T prog)(Hs:iskipRun T prog)(Hno:inoRun T prog)(H1:ime1Run T prog)(HE:iERun T prog)(P0:push0Run T prog)(P1:push1Run T prog)(X:Lx)(fr it at_ an ah ab:Addr)(k:Nat->Tok)(u:Nat->Value)(kk r:Int)(xs ns hv bs:Array Value)(ex en eh eb:Nat)(ln:Value)(e:Nat)(x:Str)(tx:Tok)(q la:Str)(nu:Int)(GN:Nat)(g:Nat->Rg)(t0 b t:Nat)(h0:¬ r<=0)(h1:(decide (x.length<Y36.length)||decide (Builtin.Str.strKind x<Builtin.Str.strKind Y36))=false)(h2:(Y36.length==0)=false)(h3:(Builtin.Str.occurrences x Y36 0 x.length (x.length+1)).isEmpty=false)(h4:x.length<=sizeLine)(h5:cutS x Y36=[Y2,q])(h6:([Y2,q]:List Str).length<=sizeLine)(h7:xs.size<=sizeLine)(h8:ns.size=3)
    (hnum:∀(tq:Tok) b' t',∃tv da dt:Nat,SpOk (T w.params) prog w (numSp ab an q tq (liO bs eb) (liO ns en) nu tv da dt GN) b' t') (hst:∀(tx:Tok) b' t',SpOk (T w.params) prog w (s0Sp x la tx t') b' t') (hO:RgOk T prog w g 3 ns hv q t0) (hs0:(!eqS (g 0).x la)=true) (hm0:(g 0).m=true) (ht:t0<=t) (hpb:0+(pushes g la 0 3).length<=2) {Gp:Prop} (kp:∀(k':Nat->Tok)(u':Nat->Value)(tk:List Tok)(tup ta tn e' da dt:Nat),tk.length=(pushes g la 0 3).length->Tr (T w.params) prog w 80 (ouC (T w.params) fr it) (ouL w.params (wkG5 w.params k X ab an ah at_) fr it at_ an ah ab X kk r xs ns hv bs ex en eh eb ln ((x,tx)::[]) e) b t (.ok (.again (ouC (T w.params) fr it))) ([(tup,tuO #[.str Y2 ta,.int nu tn])]++ouL w.params (wkG w.params k' u' X ab an ah at_) fr it at_ an ah ab X (kk+1) (r-1) (xs.push (.ref tup)) ns hv bs (ex+1) en eh eb ln ([]++((pushes g la 0 3).map (pushT0 g)).zip tk) e') da dt (0+GN)->Gp):Gp:=by
  obtain ⟨NR,hNR⟩:=Classical.axiomOfChoice (r:=fun (p:Nat×Nat) (y:Nat×Nat×Nat)=>SpOk (T w.params) prog w (numSp ab an q (t+11) (liO bs eb) (liO ns en) nu y.1 y.2.1 y.2.2 GN) p.1 p.2) (fun p=>by obtain ⟨a,c,d,h⟩:=hnum (t+11) p.1 p.2;exact ⟨(a,c,d),h⟩)
  let TNf:Nat->Nat->Nat:=fun b' t'=>(NR (b',t')).1
  let DAf:Nat->Nat->Nat:=fun b' t'=>(NR (b',t')).2.1
  let Df:Nat->Nat->Nat:=fun b' t'=>(NR (b',t')).2.2
  have hI:∀y:Nat×Nat,∃R:InR,t0<=y.2->(R.tk.length=(pushes g la 0 3).length/\Tr (T w.params) prog w 20 (icC (T w.params) fr (b+((2+DAf (b+2) (t+16))+8))) (inL w.params (wkF9 w.params (fun i=>match i with | 5=>t+1 | 6=>t+8 | 7=>t+12 | 8=>(t+((16+Df (b+2) (t+16))+22)) | i=>k i) (.int kk (t+0)) (.str x tx) X ab an ah at_ (b+1) la (t+((16+Df (b+2) (t+16))+21))) fr (b+((2+DAf (b+2) (t+16))+8)) an ah (b+1) X (0:Nat) (3:Nat) ns hv en eh 0 Y2 q (t+10) (t+11) ln [] (e+1)) y.1 y.2 (.ok (.done .next)) (inL w.params (wkF w.params (k9 (fun i=>match i with | 5=>t+1 | 6=>t+8 | 7=>t+12 | 8=>(t+((16+Df (b+2) (t+16))+22)) | i=>k i) R.k) (.int kk (t+0)) (.str x tx) X ab an ah at_ (b+1) la (t+((16+Df (b+2) (t+16))+21)) R.v) fr (b+((2+DAf (b+2) (t+16))+8)) an ah (b+1) X (3:Nat) 0 ns hv en eh 0 Y2 q (t+10) (t+11) ln (((pushes g la 0 3).map (pushT0 g)).zip R.tk) R.e) R.da R.dt 0):=fun y=>by
    by_cases hy:t0<=y.2
    · refine inner_first (w:=w) Hf Hs Hno H1 HE P0 P1 X fr (b+((2+DAf (b+2) (t+16))+8)) an ah (b+1) ab at_ (fun i=>match i with | 5=>t+1 | 6=>t+8 | 7=>t+12 | 8=>(t+((16+Df (b+2) (t+16))+22)) | i=>k i) (fun i=>match i with | 5=>.int kk (t+0) | 6=>.str x tx | _=>.none) ns hv en eh 0 q la (t+10) (t+11) (t+((16+Df (b+2) (t+16))+21)) ln g 3 t0 hO (by decide) 2 rfl hs0 hm0 (e+1) y.1 y.2 hy (by rw [Nat.zero_add] at hpb;exact hpb) fun k' v' tk e' da dt g1 g2=>?_
      exact ⟨⟨k',v',tk,e',da,dt⟩,fun _=>⟨g1,g2⟩⟩
    · exact ⟨⟨0,.none,[],0,0,0⟩,fun h=>absurd h hy⟩
  obtain ⟨R,hR⟩:=Classical.axiomOfChoice hI
  have z:=jtr (w:=w) (H X fr it at_ an ah ab k u kk r xs ns hv bs ex en eh eb ln e x tx q la nu GN TNf DAf Df (fun b' t'=>(R (b',t')).k) (fun b' t'=>(R (b',t')).da) (fun b' t'=>(R (b',t')).dt) (fun b' t'=>(R (b',t')).v) (fun _ _=>riO 3 0) (fun b' t'=>liO (pbA (((pushes g la 0 3).map (pushT0 g)).zip (R (b',t')).tk)) (R (b',t')).e) b t) rfl ⟨cNextR_ok h0,(fun b' t' c _ _ _=>pop1_ok Pop X ln e x tx b' t'),cSplit_ok h1 h2 h3 h4 h5 h6,(fun b' t' c _ _ _=>hNR (b',t')),cApp_ok h7,(fun b' t' c _ _ _=>hst (aT c 0) b' t'),cLenL_ok h8 (by rw [sizeLine_eq];decide),(fun b' t' _ _ _ h=>by
      refine Tr.sp ?_ rfl
      exact Tr.mono (hR (b',t') (Nat.le_trans ht h)).2 (show 20<=30 by decide)),trivial⟩
  have hq:=(hR ((b+((2+DAf (b+2) (t+16))+9)),(t+((16+Df (b+2) (t+16))+27))) (Nat.le_trans ht (Nat.le_add_right _ _))).1
  exact kp (k9 (fun i=>match i with | 5=>t+1 | 6=>t+8 | 7=>t+12 | 8=>(t+((16+Df (b+2) (t+16))+22)) | i=>k i) (R ((b+((2+DAf (b+2) (t+16))+9)),(t+((16+Df (b+2) (t+16))+27)))).k) (fun i=>match i with | 5=>.int kk (t+0) | 6=>.str x tx | 7=>.ref (b+1) | 8=>.str la (t+((16+Df (b+2) (t+16))+21)) | _=>(R ((b+((2+DAf (b+2) (t+16))+9)),(t+((16+Df (b+2) (t+16))+27)))).v) ((R ((b+((2+DAf (b+2) (t+16))+9)),(t+((16+Df (b+2) (t+16))+27)))).tk) (b+((2+DAf (b+2) (t+16))+0)) (t+10) (TNf (b+2) (t+16)) ((R ((b+((2+DAf (b+2) (t+16))+9)),(t+((16+Df (b+2) (t+16))+27)))).e) _ _ hq z
theorem oT1_4_st (H:oT1_4Run T prog)(Pop:pop1Run T prog)(Hs:iskipRun T prog)(Hno:inoRun T prog)(H0:imp0Run T prog)(H1:imp1Run T prog)(HE:iERun T prog)(P0:push0Run T prog)(P1:push1Run T prog)(X:Lx)(fr it at_ an ah ab:Addr)(k:Nat->Tok)(u:Nat->Value)(kk r:Int)(xs ns hv bs:Array Value)(ex en eh eb:Nat)(ln:Value)(e:Nat)(x:Str)(tx:Tok)(p:Str)(q la:Str)(nu:Int)(GN:Nat)(g:Nat->Rg)(t0 b t:Nat)(h0:¬ r<=0)(h1:(decide (x.length<Y36.length)||decide (Builtin.Str.strKind x<Builtin.Str.strKind Y36))=false)(h2:(Y36.length==0)=false)(h3:(Builtin.Str.occurrences x Y36 0 x.length (x.length+1)).isEmpty=false)(h4:x.length<=sizeLine)(h5:cutS x Y36=[p,q])(h6:([p,q]:List Str).length<=sizeLine)(h7:xs.size<=sizeLine)(h8:ns.size=4)
    (hnum:∀(tq:Tok) b' t',∃tv da dt:Nat,SpOk (T w.params) prog w (numSp ab an q tq (liO bs eb) (liO ns en) nu tv da dt GN) b' t') (hst:∀(tx:Tok) b' t',SpOk (T w.params) prog w (s1Sp x la tx t') b' t') (hO:RgOk T prog w g 4 ns hv q t0) (hp0:p.length≠0) (hp1:p.length<=100) (ht:t0<=t) (hpb:0+(pushes g la 0 4).length<=2) {Gp:Prop} (kp:∀(k':Nat->Tok)(u':Nat->Value)(tk:List Tok)(tup ta tn e' da dt:Nat),tk.length=(pushes g la 0 4).length->Tr (T w.params) prog w 80 (ouC (T w.params) fr it) (ouL w.params (wkG w.params k u X ab an ah at_) fr it at_ an ah ab X kk r xs ns hv bs ex en eh eb ln ((x,tx)::[]) e) b t (.ok (.again (ouC (T w.params) fr it))) ([(tup,tuO #[.str p ta,.int nu tn])]++ouL w.params (wkG w.params k' u' X ab an ah at_) fr it at_ an ah ab X (kk+1) (r-1) (xs.push (.ref tup)) ns hv bs (ex+1) en eh eb ln ([]++((pushes g la 0 4).map (pushT g p)).zip tk) e') da dt (0+GN)->Gp):Gp:=by
  obtain ⟨NR,hNR⟩:=Classical.axiomOfChoice (r:=fun (p:Nat×Nat) (y:Nat×Nat×Nat)=>SpOk (T w.params) prog w (numSp ab an q (t+11) (liO bs eb) (liO ns en) nu y.1 y.2.1 y.2.2 GN) p.1 p.2) (fun p=>by obtain ⟨a,c,d,h⟩:=hnum (t+11) p.1 p.2;exact ⟨(a,c,d),h⟩)
  let TNf:Nat->Nat->Nat:=fun b' t'=>(NR (b',t')).1
  let DAf:Nat->Nat->Nat:=fun b' t'=>(NR (b',t')).2.1
  let Df:Nat->Nat->Nat:=fun b' t'=>(NR (b',t')).2.2
  have hI:∀y:Nat×Nat,∃R:InR,t0<=y.2->(R.tk.length=(pushes g la 0 4).length/\Tr (T w.params) prog w 20 (icC (T w.params) fr (b+((2+DAf (b+2) (t+16))+8))) (inL w.params (wkF w.params k (.int kk (t+0)) (.str x tx) X ab an ah at_ (b+1) la (t+((16+Df (b+2) (t+16))+24)) (u 9)) fr (b+((2+DAf (b+2) (t+16))+8)) an ah (b+1) X (0:Nat) (4:Nat) ns hv en eh 0 p q (t+10) (t+11) ln [] (e+1)) y.1 y.2 (.ok (.done .next)) (inL w.params (wkF w.params k (.int kk (t+0)) (.str x tx) X ab an ah at_ (b+1) la (t+((16+Df (b+2) (t+16))+24)) R.v) fr (b+((2+DAf (b+2) (t+16))+8)) an ah (b+1) X (4:Nat) 0 ns hv en eh 0 p q (t+10) (t+11) ln ([]++((pushes g la 0 4).map (pushT g p)).zip R.tk) R.e) R.da R.dt 0):=fun y=>by
    by_cases hy:t0<=y.2
    · refine inner_later (w:=w) Hs Hno H0 H1 HE P0 P1 X fr (b+((2+DAf (b+2) (t+16))+8)) an ah (b+1) ab at_ k (.int kk (t+0)) (.str x tx) ns hv en eh 0 p q la (t+10) (t+11) (t+((16+Df (b+2) (t+16))+24)) ln g 4 t0 hO hp0 hp1 (by decide) 4 0 (u 9) [] (e+1) y.1 y.2 rfl hy hpb fun v' tk e' da dt g1 g2=>?_
      exact ⟨⟨0,v',tk,e',da,dt⟩,fun _=>⟨g1,g2⟩⟩
    · exact ⟨⟨0,.none,[],0,0,0⟩,fun h=>absurd h hy⟩
  obtain ⟨R,hR⟩:=Classical.axiomOfChoice hI
  have z:=jtr (w:=w) (H X fr it at_ an ah ab k u kk r xs ns hv bs ex en eh eb ln e x tx p q la nu GN TNf DAf Df (fun _ _=>k 9) (fun b' t'=>(R (b',t')).da) (fun b' t'=>(R (b',t')).dt) (fun b' t'=>(R (b',t')).v) (fun _ _=>riO 4 0) (fun b' t'=>liO (pbA ([]++((pushes g la 0 4).map (pushT g p)).zip (R (b',t')).tk)) (R (b',t')).e) b t) rfl ⟨cNextR_ok h0,(fun b' t' c _ _ _=>pop1_ok Pop X ln e x tx b' t'),cSplit_ok h1 h2 h3 h4 h5 h6,(fun b' t' c _ _ _=>hNR (b',t')),cApp_ok h7,(fun b' t' c _ _ _=>hst (aT c 0) b' t'),cLenL_ok h8 (by rw [sizeLine_eq];decide),(fun b' t' _ _ _ h=>by
      refine Tr.sp ?_ rfl
      exact Tr.mono (hR (b',t') (Nat.le_trans ht h)).2 (show 20<=30 by decide)),trivial⟩
  have hq:=(hR ((b+((2+DAf (b+2) (t+16))+9)),(t+((16+Df (b+2) (t+16))+30))) (Nat.le_trans ht (Nat.le_add_right _ _))).1
  exact kp k (fun i=>match i with | 5=>.int kk (t+0) | 6=>.str x tx | 7=>.ref (b+1) | 8=>.str la (t+((16+Df (b+2) (t+16))+24)) | _=>(R ((b+((2+DAf (b+2) (t+16))+9)),(t+((16+Df (b+2) (t+16))+30)))).v) ((R ((b+((2+DAf (b+2) (t+16))+9)),(t+((16+Df (b+2) (t+16))+30)))).tk) (b+((2+DAf (b+2) (t+16))+0)) (t+10) (TNf (b+2) (t+16)) ((R ((b+((2+DAf (b+2) (t+16))+9)),(t+((16+Df (b+2) (t+16))+30)))).e) _ _ hq z
theorem oT2_4_st (H:oT2_4Run T prog)(Pop:pop2Run T prog)(Hs:iskipRun T prog)(Hno:inoRun T prog)(H0:imp0Run T prog)(H1:imp1Run T prog)(HE:iERun T prog)(P0:push0Run T prog)(P1:push1Run T prog)(X:Lx)(fr it at_ an ah ab:Addr)(k:Nat->Tok)(u:Nat->Value)(kk r:Int)(xs ns hv bs:Array Value)(ex en eh eb:Nat)(ln:Value)(e:Nat)(x:Str)(tx:Tok)(y1:Str)(u1:Tok)(p:Str)(q la:Str)(nu:Int)(GN:Nat)(g:Nat->Rg)(t0 b t:Nat)(h0:¬ r<=0)(h1:(decide (x.length<Y36.length)||decide (Builtin.Str.strKind x<Builtin.Str.strKind Y36))=false)(h2:(Y36.length==0)=false)(h3:(Builtin.Str.occurrences x Y36 0 x.length (x.length+1)).isEmpty=false)(h4:x.length<=sizeLine)(h5:cutS x Y36=[p,q])(h6:([p,q]:List Str).length<=sizeLine)(h7:xs.size<=sizeLine)(h8:ns.size=4)
    (hnum:∀(tq:Tok) b' t',∃tv da dt:Nat,SpOk (T w.params) prog w (numSp ab an q tq (liO bs eb) (liO ns en) nu tv da dt GN) b' t') (hst:∀(tx:Tok) b' t',SpOk (T w.params) prog w (s1Sp x la tx t') b' t') (hO:RgOk T prog w g 4 ns hv q t0) (hp0:p.length≠0) (hp1:p.length<=100) (ht:t0<=t) (hpb:1+(pushes g la 0 4).length<=2) {Gp:Prop} (kp:∀(k':Nat->Tok)(u':Nat->Value)(tk:List Tok)(tup ta tn e' da dt:Nat),tk.length=(pushes g la 0 4).length->Tr (T w.params) prog w 80 (ouC (T w.params) fr it) (ouL w.params (wkG w.params k u X ab an ah at_) fr it at_ an ah ab X kk r xs ns hv bs ex en eh eb ln ((x,tx)::[(y1,u1)]) e) b t (.ok (.again (ouC (T w.params) fr it))) ([(tup,tuO #[.str p ta,.int nu tn])]++ouL w.params (wkG w.params k' u' X ab an ah at_) fr it at_ an ah ab X (kk+1) (r-1) (xs.push (.ref tup)) ns hv bs (ex+1) en eh eb ln ([(y1,u1)]++((pushes g la 0 4).map (pushT g p)).zip tk) e') da dt (0+GN)->Gp):Gp:=by
  obtain ⟨NR,hNR⟩:=Classical.axiomOfChoice (r:=fun (p:Nat×Nat) (y:Nat×Nat×Nat)=>SpOk (T w.params) prog w (numSp ab an q (t+11) (liO bs eb) (liO ns en) nu y.1 y.2.1 y.2.2 GN) p.1 p.2) (fun p=>by obtain ⟨a,c,d,h⟩:=hnum (t+11) p.1 p.2;exact ⟨(a,c,d),h⟩)
  let TNf:Nat->Nat->Nat:=fun b' t'=>(NR (b',t')).1
  let DAf:Nat->Nat->Nat:=fun b' t'=>(NR (b',t')).2.1
  let Df:Nat->Nat->Nat:=fun b' t'=>(NR (b',t')).2.2
  have hI:∀y:Nat×Nat,∃R:InR,t0<=y.2->(R.tk.length=(pushes g la 0 4).length/\Tr (T w.params) prog w 20 (icC (T w.params) fr (b+((2+DAf (b+2) (t+16))+8))) (inL w.params (wkF w.params k (.int kk (t+0)) (.str x tx) X ab an ah at_ (b+1) la (t+((16+Df (b+2) (t+16))+24)) (u 9)) fr (b+((2+DAf (b+2) (t+16))+8)) an ah (b+1) X (0:Nat) (4:Nat) ns hv en eh 0 p q (t+10) (t+11) ln [(y1,u1)] (e+1)) y.1 y.2 (.ok (.done .next)) (inL w.params (wkF w.params k (.int kk (t+0)) (.str x tx) X ab an ah at_ (b+1) la (t+((16+Df (b+2) (t+16))+24)) R.v) fr (b+((2+DAf (b+2) (t+16))+8)) an ah (b+1) X (4:Nat) 0 ns hv en eh 0 p q (t+10) (t+11) ln ([(y1,u1)]++((pushes g la 0 4).map (pushT g p)).zip R.tk) R.e) R.da R.dt 0):=fun y=>by
    by_cases hy:t0<=y.2
    · refine inner_later (w:=w) Hs Hno H0 H1 HE P0 P1 X fr (b+((2+DAf (b+2) (t+16))+8)) an ah (b+1) ab at_ k (.int kk (t+0)) (.str x tx) ns hv en eh 0 p q la (t+10) (t+11) (t+((16+Df (b+2) (t+16))+24)) ln g 4 t0 hO hp0 hp1 (by decide) 4 0 (u 9) [(y1,u1)] (e+1) y.1 y.2 rfl hy hpb fun v' tk e' da dt g1 g2=>?_
      exact ⟨⟨0,v',tk,e',da,dt⟩,fun _=>⟨g1,g2⟩⟩
    · exact ⟨⟨0,.none,[],0,0,0⟩,fun h=>absurd h hy⟩
  obtain ⟨R,hR⟩:=Classical.axiomOfChoice hI
  have z:=jtr (w:=w) (H X fr it at_ an ah ab k u kk r xs ns hv bs ex en eh eb ln e x tx y1 u1 p q la nu GN TNf DAf Df (fun _ _=>k 9) (fun b' t'=>(R (b',t')).da) (fun b' t'=>(R (b',t')).dt) (fun b' t'=>(R (b',t')).v) (fun _ _=>riO 4 0) (fun b' t'=>liO (pbA ([(y1,u1)]++((pushes g la 0 4).map (pushT g p)).zip (R (b',t')).tk)) (R (b',t')).e) b t) rfl ⟨cNextR_ok h0,(fun b' t' c _ _ _=>pop2_ok Pop X ln e x tx y1 u1 b' t'),cSplit_ok h1 h2 h3 h4 h5 h6,(fun b' t' c _ _ _=>hNR (b',t')),cApp_ok h7,(fun b' t' c _ _ _=>hst (aT c 0) b' t'),cLenL_ok h8 (by rw [sizeLine_eq];decide),(fun b' t' _ _ _ h=>by
      refine Tr.sp ?_ rfl
      exact Tr.mono (hR (b',t') (Nat.le_trans ht h)).2 (show 20<=30 by decide)),trivial⟩
  have hq:=(hR ((b+((2+DAf (b+2) (t+16))+9)),(t+((16+Df (b+2) (t+16))+30))) (Nat.le_trans ht (Nat.le_add_right _ _))).1
  exact kp k (fun i=>match i with | 5=>.int kk (t+0) | 6=>.str x tx | 7=>.ref (b+1) | 8=>.str la (t+((16+Df (b+2) (t+16))+24)) | _=>(R ((b+((2+DAf (b+2) (t+16))+9)),(t+((16+Df (b+2) (t+16))+30)))).v) ((R ((b+((2+DAf (b+2) (t+16))+9)),(t+((16+Df (b+2) (t+16))+30)))).tk) (b+((2+DAf (b+2) (t+16))+0)) (t+10) (TNf (b+2) (t+16)) ((R ((b+((2+DAf (b+2) (t+16))+9)),(t+((16+Df (b+2) (t+16))+30)))).e) _ _ hq z
theorem oT1_3_st (H:oT1_3Run T prog)(Pop:pop1Run T prog)(Hs:iskipRun T prog)(Hno:inoRun T prog)(H0:imp0Run T prog)(H1:imp1Run T prog)(HE:iERun T prog)(P0:push0Run T prog)(P1:push1Run T prog)(X:Lx)(fr it at_ an ah ab:Addr)(k:Nat->Tok)(u:Nat->Value)(kk r:Int)(xs ns hv bs:Array Value)(ex en eh eb:Nat)(ln:Value)(e:Nat)(x:Str)(tx:Tok)(p:Str)(q la:Str)(nu:Int)(GN:Nat)(g:Nat->Rg)(t0 b t:Nat)(h0:¬ r<=0)(h1:(decide (x.length<Y36.length)||decide (Builtin.Str.strKind x<Builtin.Str.strKind Y36))=false)(h2:(Y36.length==0)=false)(h3:(Builtin.Str.occurrences x Y36 0 x.length (x.length+1)).isEmpty=false)(h4:x.length<=sizeLine)(h5:cutS x Y36=[p,q])(h6:([p,q]:List Str).length<=sizeLine)(h7:xs.size<=sizeLine)(h8:ns.size=3)
    (hnum:∀(tq:Tok) b' t',∃tv da dt:Nat,SpOk (T w.params) prog w (numSp ab an q tq (liO bs eb) (liO ns en) nu tv da dt GN) b' t') (hst:∀(tx:Tok) b' t',SpOk (T w.params) prog w (s1Sp x la tx t') b' t') (hO:RgOk T prog w g 3 ns hv q t0) (hp0:p.length≠0) (hp1:p.length<=100) (ht:t0<=t) (hpb:0+(pushes g la 0 3).length<=2) {Gp:Prop} (kp:∀(k':Nat->Tok)(u':Nat->Value)(tk:List Tok)(tup ta tn e' da dt:Nat),tk.length=(pushes g la 0 3).length->Tr (T w.params) prog w 80 (ouC (T w.params) fr it) (ouL w.params (wkG w.params k u X ab an ah at_) fr it at_ an ah ab X kk r xs ns hv bs ex en eh eb ln ((x,tx)::[]) e) b t (.ok (.again (ouC (T w.params) fr it))) ([(tup,tuO #[.str p ta,.int nu tn])]++ouL w.params (wkG w.params k' u' X ab an ah at_) fr it at_ an ah ab X (kk+1) (r-1) (xs.push (.ref tup)) ns hv bs (ex+1) en eh eb ln ([]++((pushes g la 0 3).map (pushT g p)).zip tk) e') da dt (0+GN)->Gp):Gp:=by
  obtain ⟨NR,hNR⟩:=Classical.axiomOfChoice (r:=fun (p:Nat×Nat) (y:Nat×Nat×Nat)=>SpOk (T w.params) prog w (numSp ab an q (t+11) (liO bs eb) (liO ns en) nu y.1 y.2.1 y.2.2 GN) p.1 p.2) (fun p=>by obtain ⟨a,c,d,h⟩:=hnum (t+11) p.1 p.2;exact ⟨(a,c,d),h⟩)
  let TNf:Nat->Nat->Nat:=fun b' t'=>(NR (b',t')).1
  let DAf:Nat->Nat->Nat:=fun b' t'=>(NR (b',t')).2.1
  let Df:Nat->Nat->Nat:=fun b' t'=>(NR (b',t')).2.2
  have hI:∀y:Nat×Nat,∃R:InR,t0<=y.2->(R.tk.length=(pushes g la 0 3).length/\Tr (T w.params) prog w 20 (icC (T w.params) fr (b+((2+DAf (b+2) (t+16))+8))) (inL w.params (wkF w.params k (.int kk (t+0)) (.str x tx) X ab an ah at_ (b+1) la (t+((16+Df (b+2) (t+16))+24)) (u 9)) fr (b+((2+DAf (b+2) (t+16))+8)) an ah (b+1) X (0:Nat) (3:Nat) ns hv en eh 0 p q (t+10) (t+11) ln [] (e+1)) y.1 y.2 (.ok (.done .next)) (inL w.params (wkF w.params k (.int kk (t+0)) (.str x tx) X ab an ah at_ (b+1) la (t+((16+Df (b+2) (t+16))+24)) R.v) fr (b+((2+DAf (b+2) (t+16))+8)) an ah (b+1) X (3:Nat) 0 ns hv en eh 0 p q (t+10) (t+11) ln ([]++((pushes g la 0 3).map (pushT g p)).zip R.tk) R.e) R.da R.dt 0):=fun y=>by
    by_cases hy:t0<=y.2
    · refine inner_later (w:=w) Hs Hno H0 H1 HE P0 P1 X fr (b+((2+DAf (b+2) (t+16))+8)) an ah (b+1) ab at_ k (.int kk (t+0)) (.str x tx) ns hv en eh 0 p q la (t+10) (t+11) (t+((16+Df (b+2) (t+16))+24)) ln g 3 t0 hO hp0 hp1 (by decide) 3 0 (u 9) [] (e+1) y.1 y.2 rfl hy hpb fun v' tk e' da dt g1 g2=>?_
      exact ⟨⟨0,v',tk,e',da,dt⟩,fun _=>⟨g1,g2⟩⟩
    · exact ⟨⟨0,.none,[],0,0,0⟩,fun h=>absurd h hy⟩
  obtain ⟨R,hR⟩:=Classical.axiomOfChoice hI
  have z:=jtr (w:=w) (H X fr it at_ an ah ab k u kk r xs ns hv bs ex en eh eb ln e x tx p q la nu GN TNf DAf Df (fun _ _=>k 9) (fun b' t'=>(R (b',t')).da) (fun b' t'=>(R (b',t')).dt) (fun b' t'=>(R (b',t')).v) (fun _ _=>riO 3 0) (fun b' t'=>liO (pbA ([]++((pushes g la 0 3).map (pushT g p)).zip (R (b',t')).tk)) (R (b',t')).e) b t) rfl ⟨cNextR_ok h0,(fun b' t' c _ _ _=>pop1_ok Pop X ln e x tx b' t'),cSplit_ok h1 h2 h3 h4 h5 h6,(fun b' t' c _ _ _=>hNR (b',t')),cApp_ok h7,(fun b' t' c _ _ _=>hst (aT c 0) b' t'),cLenL_ok h8 (by rw [sizeLine_eq];decide),(fun b' t' _ _ _ h=>by
      refine Tr.sp ?_ rfl
      exact Tr.mono (hR (b',t') (Nat.le_trans ht h)).2 (show 20<=30 by decide)),trivial⟩
  have hq:=(hR ((b+((2+DAf (b+2) (t+16))+9)),(t+((16+Df (b+2) (t+16))+30))) (Nat.le_trans ht (Nat.le_add_right _ _))).1
  exact kp k (fun i=>match i with | 5=>.int kk (t+0) | 6=>.str x tx | 7=>.ref (b+1) | 8=>.str la (t+((16+Df (b+2) (t+16))+24)) | _=>(R ((b+((2+DAf (b+2) (t+16))+9)),(t+((16+Df (b+2) (t+16))+30)))).v) ((R ((b+((2+DAf (b+2) (t+16))+9)),(t+((16+Df (b+2) (t+16))+30)))).tk) (b+((2+DAf (b+2) (t+16))+0)) (t+10) (TNf (b+2) (t+16)) ((R ((b+((2+DAf (b+2) (t+16))+9)),(t+((16+Df (b+2) (t+16))+30)))).e) _ _ hq z
theorem oT2_3_st (H:oT2_3Run T prog)(Pop:pop2Run T prog)(Hs:iskipRun T prog)(Hno:inoRun T prog)(H0:imp0Run T prog)(H1:imp1Run T prog)(HE:iERun T prog)(P0:push0Run T prog)(P1:push1Run T prog)(X:Lx)(fr it at_ an ah ab:Addr)(k:Nat->Tok)(u:Nat->Value)(kk r:Int)(xs ns hv bs:Array Value)(ex en eh eb:Nat)(ln:Value)(e:Nat)(x:Str)(tx:Tok)(y1:Str)(u1:Tok)(p:Str)(q la:Str)(nu:Int)(GN:Nat)(g:Nat->Rg)(t0 b t:Nat)(h0:¬ r<=0)(h1:(decide (x.length<Y36.length)||decide (Builtin.Str.strKind x<Builtin.Str.strKind Y36))=false)(h2:(Y36.length==0)=false)(h3:(Builtin.Str.occurrences x Y36 0 x.length (x.length+1)).isEmpty=false)(h4:x.length<=sizeLine)(h5:cutS x Y36=[p,q])(h6:([p,q]:List Str).length<=sizeLine)(h7:xs.size<=sizeLine)(h8:ns.size=3)
    (hnum:∀(tq:Tok) b' t',∃tv da dt:Nat,SpOk (T w.params) prog w (numSp ab an q tq (liO bs eb) (liO ns en) nu tv da dt GN) b' t') (hst:∀(tx:Tok) b' t',SpOk (T w.params) prog w (s1Sp x la tx t') b' t') (hO:RgOk T prog w g 3 ns hv q t0) (hp0:p.length≠0) (hp1:p.length<=100) (ht:t0<=t) (hpb:1+(pushes g la 0 3).length<=2) {Gp:Prop} (kp:∀(k':Nat->Tok)(u':Nat->Value)(tk:List Tok)(tup ta tn e' da dt:Nat),tk.length=(pushes g la 0 3).length->Tr (T w.params) prog w 80 (ouC (T w.params) fr it) (ouL w.params (wkG w.params k u X ab an ah at_) fr it at_ an ah ab X kk r xs ns hv bs ex en eh eb ln ((x,tx)::[(y1,u1)]) e) b t (.ok (.again (ouC (T w.params) fr it))) ([(tup,tuO #[.str p ta,.int nu tn])]++ouL w.params (wkG w.params k' u' X ab an ah at_) fr it at_ an ah ab X (kk+1) (r-1) (xs.push (.ref tup)) ns hv bs (ex+1) en eh eb ln ([(y1,u1)]++((pushes g la 0 3).map (pushT g p)).zip tk) e') da dt (0+GN)->Gp):Gp:=by
  obtain ⟨NR,hNR⟩:=Classical.axiomOfChoice (r:=fun (p:Nat×Nat) (y:Nat×Nat×Nat)=>SpOk (T w.params) prog w (numSp ab an q (t+11) (liO bs eb) (liO ns en) nu y.1 y.2.1 y.2.2 GN) p.1 p.2) (fun p=>by obtain ⟨a,c,d,h⟩:=hnum (t+11) p.1 p.2;exact ⟨(a,c,d),h⟩)
  let TNf:Nat->Nat->Nat:=fun b' t'=>(NR (b',t')).1
  let DAf:Nat->Nat->Nat:=fun b' t'=>(NR (b',t')).2.1
  let Df:Nat->Nat->Nat:=fun b' t'=>(NR (b',t')).2.2
  have hI:∀y:Nat×Nat,∃R:InR,t0<=y.2->(R.tk.length=(pushes g la 0 3).length/\Tr (T w.params) prog w 20 (icC (T w.params) fr (b+((2+DAf (b+2) (t+16))+8))) (inL w.params (wkF w.params k (.int kk (t+0)) (.str x tx) X ab an ah at_ (b+1) la (t+((16+Df (b+2) (t+16))+24)) (u 9)) fr (b+((2+DAf (b+2) (t+16))+8)) an ah (b+1) X (0:Nat) (3:Nat) ns hv en eh 0 p q (t+10) (t+11) ln [(y1,u1)] (e+1)) y.1 y.2 (.ok (.done .next)) (inL w.params (wkF w.params k (.int kk (t+0)) (.str x tx) X ab an ah at_ (b+1) la (t+((16+Df (b+2) (t+16))+24)) R.v) fr (b+((2+DAf (b+2) (t+16))+8)) an ah (b+1) X (3:Nat) 0 ns hv en eh 0 p q (t+10) (t+11) ln ([(y1,u1)]++((pushes g la 0 3).map (pushT g p)).zip R.tk) R.e) R.da R.dt 0):=fun y=>by
    by_cases hy:t0<=y.2
    · refine inner_later (w:=w) Hs Hno H0 H1 HE P0 P1 X fr (b+((2+DAf (b+2) (t+16))+8)) an ah (b+1) ab at_ k (.int kk (t+0)) (.str x tx) ns hv en eh 0 p q la (t+10) (t+11) (t+((16+Df (b+2) (t+16))+24)) ln g 3 t0 hO hp0 hp1 (by decide) 3 0 (u 9) [(y1,u1)] (e+1) y.1 y.2 rfl hy hpb fun v' tk e' da dt g1 g2=>?_
      exact ⟨⟨0,v',tk,e',da,dt⟩,fun _=>⟨g1,g2⟩⟩
    · exact ⟨⟨0,.none,[],0,0,0⟩,fun h=>absurd h hy⟩
  obtain ⟨R,hR⟩:=Classical.axiomOfChoice hI
  have z:=jtr (w:=w) (H X fr it at_ an ah ab k u kk r xs ns hv bs ex en eh eb ln e x tx y1 u1 p q la nu GN TNf DAf Df (fun _ _=>k 9) (fun b' t'=>(R (b',t')).da) (fun b' t'=>(R (b',t')).dt) (fun b' t'=>(R (b',t')).v) (fun _ _=>riO 3 0) (fun b' t'=>liO (pbA ([(y1,u1)]++((pushes g la 0 3).map (pushT g p)).zip (R (b',t')).tk)) (R (b',t')).e) b t) rfl ⟨cNextR_ok h0,(fun b' t' c _ _ _=>pop2_ok Pop X ln e x tx y1 u1 b' t'),cSplit_ok h1 h2 h3 h4 h5 h6,(fun b' t' c _ _ _=>hNR (b',t')),cApp_ok h7,(fun b' t' c _ _ _=>hst (aT c 0) b' t'),cLenL_ok h8 (by rw [sizeLine_eq];decide),(fun b' t' _ _ _ h=>by
      refine Tr.sp ?_ rfl
      exact Tr.mono (hR (b',t') (Nat.le_trans ht h)).2 (show 20<=30 by decide)),trivial⟩
  have hq:=(hR ((b+((2+DAf (b+2) (t+16))+9)),(t+((16+Df (b+2) (t+16))+30))) (Nat.le_trans ht (Nat.le_add_right _ _))).1
  exact kp k (fun i=>match i with | 5=>.int kk (t+0) | 6=>.str x tx | 7=>.ref (b+1) | 8=>.str la (t+((16+Df (b+2) (t+16))+24)) | _=>(R ((b+((2+DAf (b+2) (t+16))+9)),(t+((16+Df (b+2) (t+16))+30)))).v) ((R ((b+((2+DAf (b+2) (t+16))+9)),(t+((16+Df (b+2) (t+16))+30)))).tk) (b+((2+DAf (b+2) (t+16))+0)) (t+10) (TNf (b+2) (t+16)) ((R ((b+((2+DAf (b+2) (t+16))+9)),(t+((16+Df (b+2) (t+16))+30)))).e) _ _ hq z
end
structure TkR where
  tw:Tok
  tp:Tok
  tl:Tok
  ch:Value
  da:Nat
  dt:Nat
noncomputable abbrev toC (K:KT)(fr ci:Addr):Code:=forOf (bodyOf K 70) 3 (.ref ci) (envOf K 70 fr [])
abbrev tkF3 (P:Params)(k:Nat->Tok)(X:Lx)(ci:Addr)(tk:Str)(ttk:Tok):Obj:=frO #[ent P Y15 (k 0) (.ref X.i),ent P Y16 (k 1) (.str tk ttk),ent P Y17 (k 2) (.ref ci)] 3
section
variable {T:Params->KT}{prog:Program}{w:World}
theorem oQ3_st (O:t_oQ3rRun T prog)(Q1:t_q1Run T prog)(Q2:t_q2Run T prog)(Q2e:t_q2eRun T prog)(Q3:t_q3Run T prog)(Q3e:t_q3eRun T prog)(RB:rBRun T prog)(RD:rDRun T prog)
    (X:Lx) (S:Sm) (x:Str) (tx:Tok) (ea:Nat) (ln:Value) (fr ci bm:Addr) (k:Nat->Tok) (ttk ts tp:Tok) {p p':Int} {wd:Str} (hc:ChR x p 33) (h:QRel x (p+1) Y2 p' wd) (b t:Nat) :
    ∃(k':Nat->Tok)(r:TkR),Tr (T w.params) prog w 60 (toC (T w.params) fr ci) (tkS (T w.params) w.params (tkF3 w.params k X ci Y2 ttk) (ciO bm ts) fr ci bm X S x tx ln p tp ea) b t (.ok (.done (.ret (.str wd r.tw))))
      (tkS (T w.params) w.params (tkF w.params k' X ci wd r.tw r.ch) (ciO bm ts) fr ci bm X S x tx ln p' r.tp ea) r.da r.dt 0:=by
  have hI:∀y:Nat×Nat,∃r:TkR,Tr (T w.params) prog w 40 (tqC (T w.params) fr ci) (tkS (T w.params) w.params (tkF w.params (k9 (fun i=>match i with | 3=>t+17 | i=>k i) 0) X ci Y2 ttk (.str (⟨#[33+1]⟩:Str) (t+8))) (ciO bm ts) fr ci bm X S x tx ln (p+1) (t+13) ea) y.1 y.2 (.ok (.done (.ret (.str wd r.tw)))) (tkS (T w.params) w.params (tkF w.params (k9 (fun i=>match i with | 3=>t+17 | i=>k i) 0) X ci wd r.tw r.ch) (ciO bm ts) fr ci bm X S x tx ln p' r.tp ea) r.da r.dt 0:=fun y=>by
    refine cps fun Gp kp=>?_
    obtain ⟨a,c,d,da,dt,z⟩:=q_loop (w:=w) Q1 Q2 Q2e Q3 Q3e RB RD X S x tx ea ln fr ci bm (k9 (fun i=>match i with | 3=>t+17 | i=>k i) 0) ts _ _ _ _ h ttk (t+13) (.str (⟨#[33+1]⟩:Str) (t+8)) y.1 y.2
    refine kp ?_
    exact ⟨⟨a,c,0,d,da,dt⟩,z⟩
  obtain ⟨R,hR⟩:=Classical.axiomOfChoice hI
  have z:=jtr (w:=w) (O X S x tx p tp ea ln fr ci bm k ttk ts 33 wd (fun b' t'=>(R (b',t')).tw) (fun b' t'=>(R (b',t')).da) (fun b' t'=>(R (b',t')).dt) (fun b' t'=>(R (b',t')).tp) (fun _ _=>ln) (fun _ _=>p') (fun _ _=>ciO bm ts) (fun b' t'=>(R (b',t')).ch) b t) rfl ⟨(fun b' t' _ _ _ _=>hc.rB (by decide) RB X S bm tx tp ea ln b' t'),cEq_ok (eqS_none _),cIn_ok (by decide +kernel),cEq_ok (eqS_same _),(fun b' t' _ _ _ _=>Tr.sp (hR (b',t')) rfl),trivial⟩
  exact ⟨(fun i=>match i with | 3=>t+17 | i=>k i),⟨(R (b+3,t+20)).tw,(R (b+3,t+20)).tp,0,(R (b+3,t+20)).ch,_,_⟩,z⟩
theorem oQ4_st (ON:t_oNRun T prog)(O:t_oQ4rRun T prog)(Q1:t_q1Run T prog)(Q2:t_q2Run T prog)(Q2e:t_q2eRun T prog)(Q3:t_q3Run T prog)(Q3e:t_q3eRun T prog)(RA:rARun T prog)(RB:rBRun T prog)(RD:rDRun T prog)
    (X:Lx) (S:Sm) (x:Str) (tx:Tok) (ea:Nat) (ln:Int) (tln:Tok) (fr ci bm:Addr) (k:Nat->Tok) (ttk ts tp:Tok) {p p':Int} {wd:Str} (hn:ChR x p 9) (hc:ChR x (p+1) 33) (h:QRel x ((p+1)+1) Y2 p' wd) (b t:Nat) :
    ∃(k':Nat->Tok)(r:TkR),Tr (T w.params) prog w 60 (toC (T w.params) fr ci) (tkS (T w.params) w.params (tkF3 w.params k X ci Y2 ttk) (ciO bm ts) fr ci bm X S x tx (.int ln tln) p tp ea) b t (.ok (.done (.ret (.str wd r.tw))))
      (tkS (T w.params) w.params (tkF w.params k' X ci wd r.tw r.ch) (ciO bm ts) fr ci bm X S x tx (.int (ln+1) r.tl) p' r.tp ea) r.da r.dt 0:=by
  have z0:=jtr (w:=w) (ON X S x tx p tp ea ln tln fr ci bm k ttk ts 9 b t) rfl ⟨(fun b' t' _ _ _ _=>rA_ok RA X S bm x tx p tp ea _ ln tln b' t' hn.le hn.ne hn.eq (by rw [sizeLine_eq];show 1<=_;decide) (eqS_same _)),cEq_ok (eqS_none _),cIn_ok (by decide +kernel),trivial⟩
  have hI:∀y:Nat×Nat,∃r:TkR,Tr (T w.params) prog w 40 (tqC (T w.params) fr ci) (tkS (T w.params) w.params (tkF w.params (fun i=>match i with | 3=>t+22 | i=>k i) X ci Y2 ttk (.str (⟨#[33+1]⟩:Str) ((t+24)+8))) (ciO bm ts) fr ci bm X S x tx (.int (ln+1) (t+19)) ((p+1)+1) ((t+24)+13) ea) y.1 y.2 (.ok (.done (.ret (.str wd r.tw)))) (tkS (T w.params) w.params (tkF w.params (fun i=>match i with | 3=>t+22 | i=>k i) X ci wd r.tw r.ch) (ciO bm ts) fr ci bm X S x tx (.int (ln+1) (t+19)) p' r.tp ea) r.da r.dt 0:=fun y=>by
    refine cps fun Gp kp=>?_
    obtain ⟨a,c,d,da,dt,z⟩:=q_loop (w:=w) Q1 Q2 Q2e Q3 Q3e RB RD X S x tx ea (.int (ln+1) (t+19)) fr ci bm (fun i=>match i with | 3=>t+22 | i=>k i) ts _ _ _ _ h ttk ((t+24)+13) (.str (⟨#[33+1]⟩:Str) ((t+24)+8)) y.1 y.2
    refine kp ?_
    exact ⟨⟨a,c,0,d,da,dt⟩,z⟩
  obtain ⟨R,hR⟩:=Classical.axiomOfChoice hI
  have z:=jtr (w:=w) (O X S x tx (p+1) (t+13) ea (.int (ln+1) (t+19)) fr ci bm (fun i=>match i with | 3=>t+22 | i=>k i) (fun _=>.str (⟨#[9+1]⟩:Str) (t+8)) ttk ts 33 wd (fun b' t'=>(R (b',t')).tw) (fun b' t'=>(R (b',t')).da) (fun b' t'=>(R (b',t')).dt) (fun b' t'=>(R (b',t')).tp) (fun _ _=>.int (ln+1) (t+19)) (fun _ _=>p') (fun _ _=>ciO bm ts) (fun b' t'=>(R (b',t')).ch) (b+3) (t+24)) rfl ⟨(fun b' t' _ _ _ _=>hc.rB (by decide) RB X S bm tx (t+13) ea (.int (ln+1) (t+19)) b' t'),cEq_ok (eqS_none _),cIn_ok (by decide +kernel),cEq_ok (eqS_same _),(fun b' t' _ _ _ _=>Tr.sp (hR (b',t')) rfl),trivial⟩
  have y:=Tr.trans (g:=0) (g2:=0) (M:=tkS (T w.params) w.params (tkF w.params (fun i=>match i with | 3=>t+22 | i=>k i) X ci Y2 ttk (.str (⟨#[9+1]⟩:Str) (t+8))) (ciO bm ts) fr ci bm X S x tx (.int (ln+1) (t+19)) (p+1) (t+13) ea) z0 z
  exact ⟨(fun i=>match i with | 3=>t+22 | i=>k i),⟨_,_,t+19,_,_,_⟩,y⟩
theorem oB3_st (O:t_oB3rRun T prog)(B1:t_b1Run T prog)(B2:t_b2Run T prog)(RA:rARun T prog)(RB:rBRun T prog)(RD:rDRun T prog)
    (X:Lx) (S:Sm) (x:Str) (tx:Tok) (ea:Nat) (ln:Int) (tln:Tok) (fr ci bm:Addr) (k:Nat->Tok) (ttk ts tp:Tok) {p p':Int} {wd:Str} {z2:Nat} (h1:ChR x p 91) (h2:ChR x (p+1) z2) (hz:z2≠9) (h:ERel x ((p+1)+1) (⟨#[z2+1]⟩:Str) p' wd) (hc:ChR x p' 9) (b t:Nat) :
    ∃(k':Nat->Tok)(r:TkR),Tr (T w.params) prog w 60 (toC (T w.params) fr ci) (tkS (T w.params) w.params (tkF3 w.params k X ci Y2 ttk) (ciO bm ts) fr ci bm X S x tx (.int ln tln) p tp ea) b t (.ok (.done (.ret (.str wd r.tw))))
      (tkS (T w.params) w.params (tkF w.params k' X ci wd r.tw r.ch) (ciO bm ts) fr ci bm X S x tx (.int (ln+1) r.tl) (p'+1) r.tp ea) r.da r.dt 0:=by
  have hI:∀y:Nat×Nat,∃r:TkR,Tr (T w.params) prog w 40 (tbC (T w.params) fr ci) (tkS (T w.params) w.params (tkF w.params (fun i=>match i with | 3=>t+17 | i=>k i) X ci (⟨#[z2+1]⟩:Str) (t+29) (.str (⟨#[z2+1]⟩:Str) (t+29))) (ciO bm ts) fr ci bm X S x tx (.int ln tln) ((p+1)+1) (t+34) ea) y.1 y.2 (.ok (.done (.ret (.str wd r.tw)))) (tkS (T w.params) w.params (tkF w.params (fun i=>match i with | 3=>t+17 | i=>k i) X ci wd r.tw r.ch) (ciO bm ts) fr ci bm X S x tx (.int (ln+1) r.tl) (p'+1) r.tp ea) r.da r.dt 0:=fun y=>by
    refine cps fun Gp kp=>?_
    obtain ⟨a,c,l,d,da,dt,z⟩:=b_line (w:=w) B1 B2 RA RB RD X S x tx ea ln tln fr ci bm (fun i=>match i with | 3=>t+17 | i=>k i) ts h hc (t+29) (t+34) (.str (⟨#[z2+1]⟩:Str) (t+29)) y.1 y.2
    refine kp ?_
    exact ⟨⟨a,c,l,d,da,dt⟩,z⟩
  obtain ⟨R,hR⟩:=Classical.axiomOfChoice hI
  have z:=jtr (w:=w) (O X S x tx p tp ea (.int ln tln) fr ci bm k ttk ts 91 z2 wd (fun b' t'=>(R (b',t')).tw) (fun b' t'=>(R (b',t')).da) (fun b' t'=>(R (b',t')).dt) (fun b' t'=>(R (b',t')).tp) (fun b' t'=>.int (ln+1) (R (b',t')).tl) (fun _ _=>p'+1) (fun _ _=>ciO bm ts) (fun b' t'=>(R (b',t')).ch) b t) rfl ⟨(fun b' t' _ _ _ _=>h1.rB (by decide) RB X S bm tx tp ea (.int ln tln) b' t'),cEq_ok (eqS_none _),cIn_ok (by decide +kernel),cEq_ok (eqS_sign (by decide)),cEq_ok (eqS_same _),(fun b' t' _ _ _ _=>h2.rD hz RD X S tx (t+13) ea (.int ln tln) b' t'),cAddL_ok,(fun b' t' _ _ _ _=>Tr.sp (hR (b',t')) rfl),trivial⟩
  exact ⟨(fun i=>match i with | 3=>t+17 | i=>k i),⟨(R (b+6,t+40)).tw,(R (b+6,t+40)).tp,(R (b+6,t+40)).tl,(R (b+6,t+40)).ch,((6+(R (b+6,t+40)).da)+0),((40+(R (b+6,t+40)).dt)+0)⟩,z⟩
theorem oBn_st (O:t_oB3nRun T prog)(OE:t_oE4Run T prog)(B3:t_b3Run T prog)(B2:t_b2Run T prog)(RB:rBRun T prog)(RD:rDRun T prog)
    (X:Lx) (S:Sm) (x:Str) (tx:Tok) (ea:Nat) (ln:Value) (fr ci bm:Addr) (k:Nat->Tok) (ttk ts tp:Tok) {p p':Int} {wd:Str} {z2:Nat} (h1:ChR x p 91) (h2:ChR x (p+1) z2) (hz:z2≠9) (h:ERel x ((p+1)+1) (⟨#[z2+1]⟩:Str) p' wd) (he:∀tp b' t',SpOk (T w.params) prog w (endSp X S (T w.params) w.params ci bm ts x tx ln p' tp ea b' t') b' t') (b t:Nat) :
    ∃(k3:Tok)(r:TkR),Tr (T w.params) prog w 60 (toC (T w.params) fr ci) (tkS (T w.params) w.params (tkF3 w.params k X ci Y2 ttk) (ciO bm ts) fr ci bm X S x tx ln p tp ea) b t (.ok (.done .next))
      (tkS (T w.params) w.params (tkF w.params (fun i=>match i with | 3=>k3 | i=>k i) X ci wd r.tw r.ch) ciE fr ci bm X S x tx ln p' r.tp ea) r.da r.dt 0:=by
  have hI:∀y:Nat×Nat,∃r:TkR,Tr (T w.params) prog w 40 (tbC (T w.params) fr ci) (tkS (T w.params) w.params (tkF w.params (fun i=>match i with | 3=>t+17 | i=>k i) X ci (⟨#[z2+1]⟩:Str) (t+29) (.str (⟨#[z2+1]⟩:Str) (t+29))) (ciO bm ts) fr ci bm X S x tx ln ((p+1)+1) (t+34) ea) y.1 y.2 (.ok (.done .next)) (tkS (T w.params) w.params (tkF w.params (fun i=>match i with | 3=>t+17 | i=>k i) X ci wd r.tw r.ch) ciE fr ci bm X S x tx ln p' r.tp ea) r.da r.dt 0:=fun y=>by
    refine cps fun Gp kp=>?_
    obtain ⟨a,c,d,da,dt,z⟩:=b_end (w:=w) B3 B2 RB RD X S x tx ea ln fr ci bm (fun i=>match i with | 3=>t+17 | i=>k i) ts h he (t+29) (t+34) (.str (⟨#[z2+1]⟩:Str) (t+29)) y.1 y.2
    refine kp ?_
    exact ⟨⟨a,c,0,d,da,dt⟩,z⟩
  obtain ⟨R,hR⟩:=Classical.axiomOfChoice hI
  have z:=jtr (w:=w) (O X S x tx p tp ea ln fr ci bm k ttk ts 91 z2 wd (fun b' t'=>(R (b',t')).tw) (fun b' t'=>(R (b',t')).da) (fun b' t'=>(R (b',t')).dt) (fun b' t'=>(R (b',t')).tp) (fun b' t'=>ln) (fun _ _=>p') (fun _ _=>ciE) (fun b' t'=>(R (b',t')).ch) b t) rfl ⟨(fun b' t' _ _ _ _=>h1.rB (by decide) RB X S bm tx tp ea ln b' t'),cEq_ok (eqS_none _),cIn_ok (by decide +kernel),cEq_ok (eqS_sign (by decide)),cEq_ok (eqS_same _),(fun b' t' _ _ _ _=>h2.rD hz RD X S tx (t+13) ea ln b' t'),cAddL_ok,(fun b' t' _ _ _ _=>Tr.sp (hR (b',t')) rfl),trivial⟩
  have y:=jtr (w:=w) (OE X S x tx p' (R (b+6,t+40)).tp ea ln fr ci bm (fun i=>match i with | 3=>t+17 | i=>k i) (fun _=>(R (b+6,t+40)).ch) (R (b+6,t+40)).tw ts wd (b+(6+(R (b+6,t+40)).da)) (t+(40+(R (b+6,t+40)).dt))) rfl trivial
  have u:=Tr.trans (g:=0) (g2:=0) (M:=tkS (T w.params) w.params (tkF w.params (fun i=>match i with | 3=>t+17 | i=>k i) X ci wd (R (b+6,t+40)).tw (R (b+6,t+40)).ch) ciE fr ci bm X S x tx ln p' (R (b+6,t+40)).tp ea) z y
  exact ⟨t+17,⟨_,_,0,_,_,_⟩,u⟩
end
section
variable {T:Params->KT}{prog:Program}{w:World}
theorem gt_Q3 (G:t_GrRun T prog)(O:t_oQ3rRun T prog)(Q1:t_q1Run T prog)(Q2:t_q2Run T prog)(Q2e:t_q2eRun T prog)(Q3:t_q3Run T prog)(Q3e:t_q3eRun T prog)(RB:rBRun T prog)(RD:rDRun T prog)
    (X:Lx) (S:Sm) (x:Str) (tx:Tok) (ea ep:Nat) (ln:Value) (tp:Tok) {p p':Int} {wd:Str} (hc:ChR x p 33) (h:QRel x (p+1) Y2 p' wd) (b t:Nat) :
    ∃tp' tw da dt:Nat,SpOk (T w.params) prog w (gtSp X S (T w.params) w.params x tx ln ln p p' tp tp' ea ep wd tw da dt) b t:=by
  have hI:∀y:Nat×Nat,∃r:(Nat->Tok)×TkR,Tr (T w.params) prog w 60 (toC (T w.params) (b+0) (b+2)) (tkS (T w.params) w.params (tkF3 w.params (fun i=>([t+0,t+5,t+8]:List Tok).getD i 0) X (b+2) Y2 (t+4)) (ciO (b+1) (t+7)) (b+0) (b+2) (b+1) X S x tx ln p tp ea) y.1 y.2 (.ok (.done (.ret (.str wd r.2.tw))))
      (tkS (T w.params) w.params (tkF w.params r.1 X (b+2) wd r.2.tw r.2.ch) (ciO (b+1) (t+7)) (b+0) (b+2) (b+1) X S x tx ln p' r.2.tp ea) r.2.da r.2.dt 0:=fun y=>by
    obtain ⟨k',r,z⟩:=oQ3_st (w:=w) O Q1 Q2 Q2e Q3 Q3e RB RD X S x tx ea ln (b+0) (b+2) (b+1) (fun i=>([t+0,t+5,t+8]:List Tok).getD i 0) (t+4) (t+7) tp hc h y.1 y.2
    exact ⟨(k',r),z⟩
  obtain ⟨R,hR⟩:=Classical.axiomOfChoice hI
  have z:=t_Gr_ok (w:=w) G X S x tx p tp ea ln ep wd (fun b' t'=>(R (b',t')).2.tw) (fun b' t'=>(R (b',t')).2.da) (fun b' t'=>(R (b',t')).2.dt) (fun b' t'=>(R (b',t')).2.tp) (fun _ _=>ln) (fun _ _=>p') (fun _ _=>ciO (b+1) (t+7)) (fun b' t'=>tkF w.params (R (b',t')).1 X (b+2) wd (R (b',t')).2.tw (R (b',t')).2.ch) b t
    (fun b' t' _ _ _ _=>Tr.sp (hR (b',t')) rfl)
  exact ⟨_,_,_,_,z⟩
theorem gt_Q4 (G:t_GrRun T prog)(ON:t_oNRun T prog)(O:t_oQ4rRun T prog)(Q1:t_q1Run T prog)(Q2:t_q2Run T prog)(Q2e:t_q2eRun T prog)(Q3:t_q3Run T prog)(Q3e:t_q3eRun T prog)(RA:rARun T prog)(RB:rBRun T prog)(RD:rDRun T prog)
    (X:Lx) (S:Sm) (x:Str) (tx:Tok) (ea ep:Nat) (ln:Int) (tln:Tok) (tp:Tok) {p p':Int} {wd:Str} (hn:ChR x p 9) (hc:ChR x (p+1) 33) (h:QRel x ((p+1)+1) Y2 p' wd) (b t:Nat) :
    ∃tp' tl tw da dt:Nat,SpOk (T w.params) prog w (gtSp X S (T w.params) w.params x tx (.int ln tln) (.int (ln+1) tl) p p' tp tp' ea ep wd tw da dt) b t:=by
  have hI:∀y:Nat×Nat,∃r:(Nat->Tok)×TkR,Tr (T w.params) prog w 60 (toC (T w.params) (b+0) (b+2)) (tkS (T w.params) w.params (tkF3 w.params (fun i=>([t+0,t+5,t+8]:List Tok).getD i 0) X (b+2) Y2 (t+4)) (ciO (b+1) (t+7)) (b+0) (b+2) (b+1) X S x tx (.int ln tln) p tp ea) y.1 y.2 (.ok (.done (.ret (.str wd r.2.tw))))
      (tkS (T w.params) w.params (tkF w.params r.1 X (b+2) wd r.2.tw r.2.ch) (ciO (b+1) (t+7)) (b+0) (b+2) (b+1) X S x tx (.int (ln+1) r.2.tl) p' r.2.tp ea) r.2.da r.2.dt 0:=fun y=>by
    obtain ⟨k',r,z⟩:=oQ4_st (w:=w) ON O Q1 Q2 Q2e Q3 Q3e RA RB RD X S x tx ea ln tln (b+0) (b+2) (b+1) (fun i=>([t+0,t+5,t+8]:List Tok).getD i 0) (t+4) (t+7) tp hn hc h y.1 y.2
    exact ⟨(k',r),z⟩
  obtain ⟨R,hR⟩:=Classical.axiomOfChoice hI
  have z:=t_Gr_ok (w:=w) G X S x tx p tp ea (.int ln tln) ep wd (fun b' t'=>(R (b',t')).2.tw) (fun b' t'=>(R (b',t')).2.da) (fun b' t'=>(R (b',t')).2.dt) (fun b' t'=>(R (b',t')).2.tp) (fun b' t'=>.int (ln+1) (R (b',t')).2.tl) (fun _ _=>p') (fun _ _=>ciO (b+1) (t+7)) (fun b' t'=>tkF w.params (R (b',t')).1 X (b+2) wd (R (b',t')).2.tw (R (b',t')).2.ch) b t
    (fun b' t' _ _ _ _=>Tr.sp (hR (b',t')) rfl)
  exact ⟨_,_,_,_,_,z⟩
theorem gt_B3 (G:t_GrRun T prog)(O:t_oB3rRun T prog)(B1:t_b1Run T prog)(B2:t_b2Run T prog)(RA:rARun T prog)(RB:rBRun T prog)(RD:rDRun T prog)
    (X:Lx) (S:Sm) (x:Str) (tx:Tok) (ea ep:Nat) (ln:Int) (tln:Tok) (tp:Tok) {p p':Int} {wd:Str} {z2:Nat} (h1:ChR x p 91) (h2:ChR x (p+1) z2) (hz:z2≠9) (h:ERel x ((p+1)+1) (⟨#[z2+1]⟩:Str) p' wd) (hc:ChR x p' 9) (b t:Nat) :
    ∃tp' tl tw da dt:Nat,SpOk (T w.params) prog w (gtSp X S (T w.params) w.params x tx (.int ln tln) (.int (ln+1) tl) p (p'+1) tp tp' ea ep wd tw da dt) b t:=by
  have hI:∀y:Nat×Nat,∃r:(Nat->Tok)×TkR,Tr (T w.params) prog w 60 (toC (T w.params) (b+0) (b+2)) (tkS (T w.params) w.params (tkF3 w.params (fun i=>([t+0,t+5,t+8]:List Tok).getD i 0) X (b+2) Y2 (t+4)) (ciO (b+1) (t+7)) (b+0) (b+2) (b+1) X S x tx (.int ln tln) p tp ea) y.1 y.2 (.ok (.done (.ret (.str wd r.2.tw))))
      (tkS (T w.params) w.params (tkF w.params r.1 X (b+2) wd r.2.tw r.2.ch) (ciO (b+1) (t+7)) (b+0) (b+2) (b+1) X S x tx (.int (ln+1) r.2.tl) (p'+1) r.2.tp ea) r.2.da r.2.dt 0:=fun y=>by
    obtain ⟨k',r,z⟩:=oB3_st (w:=w) O B1 B2 RA RB RD X S x tx ea ln tln (b+0) (b+2) (b+1) (fun i=>([t+0,t+5,t+8]:List Tok).getD i 0) (t+4) (t+7) tp h1 h2 hz h hc y.1 y.2
    exact ⟨(k',r),z⟩
  obtain ⟨R,hR⟩:=Classical.axiomOfChoice hI
  have z:=t_Gr_ok (w:=w) G X S x tx p tp ea (.int ln tln) ep wd (fun b' t'=>(R (b',t')).2.tw) (fun b' t'=>(R (b',t')).2.da) (fun b' t'=>(R (b',t')).2.dt) (fun b' t'=>(R (b',t')).2.tp) (fun b' t'=>.int (ln+1) (R (b',t')).2.tl) (fun _ _=>(p'+1)) (fun _ _=>ciO (b+1) (t+7)) (fun b' t'=>tkF w.params (R (b',t')).1 X (b+2) wd (R (b',t')).2.tw (R (b',t')).2.ch) b t
    (fun b' t' _ _ _ _=>Tr.sp (hR (b',t')) rfl)
  exact ⟨_,_,_,_,_,z⟩
end
section
variable {T:Params->KT}{prog:Program}{w:World}
theorem gt_Bn (G:t_GnRun T prog)(O:t_oB3nRun T prog)(OE:t_oE4Run T prog)(B3:t_b3Run T prog)(B2:t_b2Run T prog)(RB:rBRun T prog)(RD:rDRun T prog)
    (X:Lx) (S:Sm) (x:Str) (tx:Tok) (ea ep:Nat) (ln:Value) (tp:Tok) {p p':Int} {wd:Str} {z2:Nat} (h1:ChR x p 91) (h2:ChR x (p+1) z2) (hz:z2≠9) (h:ERel x ((p+1)+1) (⟨#[z2+1]⟩:Str) p' wd) (he:∀ci bm ts tp b' t',SpOk (T w.params) prog w (endSp X S (T w.params) w.params ci bm ts x tx ln p' tp ea b' t') b' t') (b t:Nat) :
    ∃tp' tw da dt:Nat,SpOk (T w.params) prog w (gtSp X S (T w.params) w.params x tx ln ln p p' tp tp' ea ep wd tw da dt) b t:=by
  have hI:∀y:Nat×Nat,∃r:Tok×TkR,Tr (T w.params) prog w 60 (toC (T w.params) (b+0) (b+2)) (tkS (T w.params) w.params (tkF3 w.params (fun i=>([t+0,t+5,t+8]:List Tok).getD i 0) X (b+2) Y2 (t+4)) (ciO (b+1) (t+7)) (b+0) (b+2) (b+1) X S x tx ln p tp ea) y.1 y.2 (.ok (.done .next))
      (tkS (T w.params) w.params (tkF w.params (fun i=>match i with | 3=>r.1 | i=>([t+0,t+5,t+8]:List Tok).getD i 0) X (b+2) wd r.2.tw r.2.ch) ciE (b+0) (b+2) (b+1) X S x tx ln p' r.2.tp ea) r.2.da r.2.dt 0:=fun y=>by
    obtain ⟨k',r,z⟩:=oBn_st (w:=w) O OE B3 B2 RB RD X S x tx ea ln (b+0) (b+2) (b+1) (fun i=>([t+0,t+5,t+8]:List Tok).getD i 0) (t+4) (t+7) tp h1 h2 hz h (he (b+2) (b+1) (t+7)) y.1 y.2
    exact ⟨(k',r),z⟩
  obtain ⟨R,hR⟩:=Classical.axiomOfChoice hI
  have z:=t_Gn_ok (w:=w) G X S x tx p tp ea ln ep wd (fun b' t'=>(R (b',t')).2.tw) (fun b' t'=>(R (b',t')).2.da) (fun b' t'=>(R (b',t')).2.dt) (fun b' t'=>(R (b',t')).2.tp) (fun _ _=>ln) (fun _ _=>p') (fun _ _=>ciE) (fun b' t'=>(R (b',t')).1) (fun b' t'=>(R (b',t')).2.ch) b t
    (fun b' t' _ _ _ _=>Tr.sp (hR (b',t')) rfl)
  exact ⟨_,_,_,_,z⟩
theorem gt_Z (G:t_GzRun T prog)(O:t_oE3Run T prog)
    (X:Lx) (S:Sm) (x:Str) (tx:Tok) (ea ep:Nat) (ln:Value) (tp:Tok) {p:Int} (he:∀ci bm ts tp b' t',SpOk (T w.params) prog w (endSp X S (T w.params) w.params ci bm ts x tx ln p tp ea b' t') b' t') (b t:Nat) :
    ∃tp' tw da dt:Nat,SpOk (T w.params) prog w (gtSp X S (T w.params) w.params x tx ln ln p p tp tp' ea ep Y2 tw da dt) b t:=by
  have z:=t_Gz_ok (w:=w) G X S x tx p tp ea ln ep Y2 (fun b' t'=>t+4) (fun b' t'=>_) (fun b' t'=>_) (fun b' t'=>t'+13) (fun _ _=>ln) (fun _ _=>p) (fun _ _=>ciE) b t
    (fun b' t' _ _ _ _=>Tr.sp (jtr (w:=w) (O X S x tx p tp ea ln (b+0) (b+2) (b+1) (fun i=>([t+0,t+5,t+8]:List Tok).getD i 0) (t+4) (t+7) b' t') rfl ⟨(fun b' t' _ _ _ _=>he (b+2) (b+1) (t+7) tp b' t'),trivial⟩) rfl)
  exact ⟨_,_,_,_,z⟩
end
theorem slot_ci:Slot "callable_iterator" "__next__" "callable_iterator.__next__":=
  .of (owner:="callable_iterator") (n:="__next__") (by rw [typeLookup_type,builtinLookup_eq_fast];kernel_rfl) (by decide +kernel) (by decide +kernel) (by decide +kernel)
    (by first | exact .inl (by decide +kernel) | exact .inr (by decide +kernel)) (by rw [isSubtype_type];kernel_rfl)
theorem entry_ci:entryFor table "callable_iterator.__next__"=some Builtin.«callable_iterator.__next__»:=entryFor_of_tree (by kernel_rfl)
theorem args_ci (a:Value):argsOk "callable_iterator.__next__" ⟨[a],[]⟩:=by
  unfold argsOk
  rw [signature?_of (id:="callable_iterator.__next__") (n:=['_','_','t','x','e','n','_','_']) (o:="callable_iterator".toList.reverse) (by kernel_rfl) (show Manifest.owners.lookup _=some Manifest.sig_callable_iterator by kernel_rfl)];kernel_rfl
noncomputable abbrev ciC (ci:Addr):Code:=.builtin "callable_iterator.__next__" ⟨[.ref ci],[]⟩
noncomputable def endC (X:Lx)(S:Sm)(bm:Addr)(x:Str)(tx:Tok)(ln:Value)(p:Int)(tp:Tok)(ea:Nat)(K:KT)(P:Params):List Hint:=[.ctr [2,3,4,5,6,7,8,9,10,1] (fun b' t' _ _=>rBSp X S bm x tx p tp ea Y2 ln b' t' K P)]
noncomputable def endJ (X:Lx)(S:Sm)(x:Str)(tx:Tok)(ln:Value)(p:Int)(tp:Tok)(ea:Nat)(fr ci bm:Addr)(ts:Tok)(b t:Nat)(K:KT)(P:Params):Job:=
  ⟨29,ciC ci,PySem.W.R.bindR (callOutOfASlot (.ref bm)) fun v=>.pure (.done (.ret v)),(ci,ciO bm ts)::(bm,bmO X)::tkL X S K P x tx ln p tp ea,hs [5,0,3] (endC X S bm x tx ln p tp ea K P),[0,1,2,3,4,5,6,7,8,9,10],.ok (.done (.ret (.str Y2 (t+8)))),(ci,ciO bm ts)::(bm,bmO X)::tkL X S K P x tx ln (p+(Y2.length:Int)) (t+13) ea,3,17,0⟩
def endRun (T:Params->KT)(prog:Program):Prop:=∀(X:Lx)(S:Sm)(x:Str)(tx:Tok)(ln:Value)(p:Int)(tp:Tok)(ea:Nat)(fr ci bm:Addr)(ts:Tok)(b t:Nat),JobOk T prog (fun K P=>endJ X S x tx ln p tp ea fr ci bm ts b t K P) b t
section
variable {T:Params->KT}{prog:Program}{w:World}
noncomputable def isFn (K:KT)(a:Nat):Bool:=match K.get a with
  | some o=>match o.data with
    | .func _=>true
    | _=>false
  | none=>false
theorem isFn_get {K:KT}{a:Nat}(h:isFn K a=true):∃o fd,K.get a=some o/\o.data=.func fd:=by
  unfold isFn at h
  split at h
  · rename_i o e
    split at h
    · rename_i fd e2
      exact ⟨o,fd,e,e2⟩
    · cases h
  · cases h
theorem Room.pre {n:Nat}{A:Around}(h:Room (n+1) A):Room n A:=h.mono (Nat.le_succ n)
theorem Inv.upd0 {kt:KT}{s:Shared}{a:Addr}{o:Obj}{L:Led}{sz tk:Nat}{G:Array GenState}(I:Inv kt s ((a,o)::L) sz tk G){f:Obj->Obj}{o':Obj}(e:f o=o')(hf:o'.isFreed=false):Inv kt { s with heap:=s.heap.update a f } ((a,o')::L) sz tk G:=by
  subst e;exact I.update (d:=0) (p:=(a,o)) (f:=f) rfl hf
theorem Step.upd {X:List Addr}{s0 s:Shared}(h:Step X s0 s){a:Addr}(ha:a∈X)(f:Obj->Obj):Step X s0 { s with heap:=s.heap.update a f }:=by
  have hs:Heap.SameBut a s.heap (s.heap.update a f):=Heap.SameBut.update ..
  refine ⟨fun x o h1 h2=>?_,h.os,by show _<=(s.heap.update a f).objs.size;rw [hs.1];exact h.grow⟩
  exact (hs.2 x fun z=>h1 (z▸ha)).trans (h.keep x o h1 h2)
theorem end_ok (H:endRun T prog)(h63:isFn (T w.params) 63=true)(X:Lx)(S:Sm)(x:Str)(tx:Tok)(ln:Value)(p:Int)(tp:Tok)(ea:Nat)(ci bm:Addr)(ts:Tok)(b t:Nat)
    (hB:∀b' t',SpOk (T w.params) prog w (rBSp X S bm x tx p tp ea Y2 ln b' t' (T w.params) w.params) b' t'):SpOk (T w.params) prog w (endSp X S (T w.params) w.params ci bm ts x tx ln p tp ea b t) b t:=by
  refine ⟨rfl,fun G A R s hr hi hfin=>?_⟩
  have h':=H X S x tx ln p tp ea 0 ci bm ts b t w.params (w.params.followText "special-get-raises") (w.params.followText "comprehension-iter-twice")
  rw [PR_eq] at h'
  have htr:(endJ X S x tx ln p tp ea 0 ci bm ts b t (T w.params) w.params).tr=callOutOfASlot (.ref bm) >>= fun v=>Sem.pure (.done (.ret v)):=by
    show PySem.W.R.bindR (callOutOfASlot (.ref bm)) (fun v=>Sem.pure (Fin.done (.ret v)))=_
    rw [<- PySem.W.R.bindR_eq];rfl
  have ho:=hi.has _ List.mem_cons_self
  refine codeAny_call_builtin_at (plainId_quiet slot_ci.plain _) entry_ci (slot_ci.check _ _ _ _ _ _ _ _ ⟨_,ho,rfl⟩ (args_ci _) ?_)
  show wpAny _ _ (field (.ref ci) 2 >>= _) _ _ s
  refine wpAny_bind (wpAny_field ho rfl (x:=.bool false) rfl ?_)
  show wpAny _ _ (field (.ref ci) 0 >>= _) _ _ s
  refine wpAny_bind (wpAny_field ho rfl (x:=.ref bm) rfl ?_)
  show wpAny _ _ ((callOutOfASlot (.ref bm)).attempt >>= _) _ _ s
  refine wpAny_bind (wpAny_attempt ?_)
  refine run_tree (m:=callOutOfASlot (.ref bm)) (enc:=fun v=>.done (.ret v)) (A:=A) h' htr (show nodupB [0,1,2,3,4,5,6,7,8,9,10]=true by decide) (fun ds q hm=>(hs_ok _ (C:=endC X S bm x tx ln p tp ea (T w.params) w.params) ⟨fun b' t' _ _ _ _=>hB b' t',trivial⟩).all ds q hm) hr.pre hi (fun s1 I1 S1 N1=>?_) (fun c h=>by cases h) (fun a c h=>by cases h)
  intro a ha
  injection ha with ha;injection ha with ha
  subst ha
  have e0:p+(Y2.length:Int)=p:=by simp [Str.length]
  have I1':Inv (T w.params) s1 ((ci,ciO bm ts)::(bm,bmO X)::tkL X S (T w.params) w.params x tx ln p (t+13) ea) (b+3) (t+17) G:=by
    have:=I1
    rw [show (endJ X S x tx ln p tp ea 0 ci bm ts b t (T w.params) w.params).M=(ci,ciO bm ts)::(bm,bmO X)::tkL X S (T w.params) w.params x tx ln (p+(Y2.length:Int)) (t+13) ea from rfl,e0] at this
    exact this
  have o1:=I1'.has _ List.mem_cons_self
  show wpAny _ _ (field (.ref ci) 2 >>= _) _ _ s1
  refine wpAny_bind (wpAny_field o1 rfl (x:=.bool false) rfl ?_)
  show wpAny _ _ (field (.ref ci) 1 >>= _) _ _ s1
  refine wpAny_bind (wpAny_field o1 rfl (x:=.str Y2 ts) rfl ?_)
  show wpAny _ _ (holding _ (eqBool (.str Y2 ts) (.str Y2 (t+8))) >>= _) _ _ s1
  refine wpAny_bind (wpAny_holding (wpAny_eqBool_str ?_))
  show wpAny _ _ (rule _ >>= _) _ _ s1
  refine wpAny_bind (wpAny_rule ?_)
  refine cps fun Gp kp=>?_
  obtain ⟨o63,fd63,e63,d63⟩:=isFn_get h63
  refine kp ?_
  have g63:s1.heap.get? 63=some o63:=I1'.base 63 o63 rfl e63
  have ob:=I1'.has _ (List.mem_cons_of_mem _ List.mem_cons_self)
  show wpAny _ _ ((field (.ref ci) 0 >>= fun x=>slotLetsGo _ x _ >>= fun _=>setField (.ref ci) 0 .none >>= fun _=>setField (.ref ci) 1 .none >>= fun _=>setField (.ref ci) 2 (.bool true)) >>= fun _=>(Builtin.SmallTypes.stopIteration:Sem Fin)) _ _ s1
  refine wpAny_bind (wpAny_bind (wpAny_field o1 rfl (x:=.ref bm) rfl ?_))
  refine wpAny_bind (m:=slotLetsGo _ _ _) ?_
  unfold slotLetsGo
  show wpAny _ _ (borrowsExactly (.ref bm) >>= _) _ _ s1
  refine wpAny_bind ?_
  unfold borrowsExactly
  refine wpAny_bind (wpAny_load ob ?_)
  show wpAny _ _ (load 63 >>= _) _ _ s1
  refine wpAny_bind (wpAny_load g63 ?_)
  rw [d63]
  refine wpAny_pure ?_
  refine wpAny_pure ?_
  refine wpAny_bind (wpAny_setField o1 rfl (by simp) ?_)
  have I2:=I1'.upd0 (f:=Obj.mapFields (·.setIfInBounds 0 .none)) (o':=⟨.type "callable_iterator",none,.fields #[.none,.str Y2 ts,.bool false],#[]⟩) rfl rfl
  refine wpAny_bind (wpAny_setField (I2.has _ List.mem_cons_self) rfl (by simp) ?_)
  have I3:=I2.upd0 (f:=Obj.mapFields (·.setIfInBounds 1 .none)) (o':=⟨.type "callable_iterator",none,.fields #[.none,.none,.bool false],#[]⟩) rfl rfl
  refine wpAny_setField (I3.has _ List.mem_cons_self) rfl (by simp) ?_
  have I4:=I3.upd0 (f:=Obj.mapFields (·.setIfInBounds 2 (.bool true))) (o':=⟨.type "callable_iterator",none,.fields #[.none,.none,.bool true],#[]⟩) rfl rfl
  have S4:Step (ci::bm::(tkL X S (T w.params) w.params x tx ln p tp ea).map (·.1)) s _:=((S1.upd (List.mem_cons_self) (Obj.mapFields (·.setIfInBounds 0 .none))).upd (List.mem_cons_self) (Obj.mapFields (·.setIfInBounds 1 .none))).upd (List.mem_cons_self) (Obj.mapFields (·.setIfInBounds 2 (.bool true)))
  have I5:=I4.alloc (o:=tuO #[]) rfl
  have I6:=I5.alloc (o:=⟨.type "StopIteration",none,.fields #[.ref (b+3),.none,.none,.none,.bool false,.none],#[]⟩) rfl
  have fin:=hfin _ (I6.sub (L':=(b+4,⟨.type "StopIteration",none,.fields #[.ref (b+3),.none,.none,.none,.bool false,.none],#[]⟩)::_) (fun q hq=>?_) ?_) ((S4.alloc _).alloc _) (fun q hq=>?_)
  · show wpAny _ _ (newExc (.type "StopIteration") [] >>= fun e=>(raiseNew e:Sem Fin)) _ _ _
    refine wpAny_bind ?_
    simp only [newExc,newTuple]
    refine wpAny_bind (wpAny_newObj_type ?_ (by size_fits))
    refine wpAny_bind (m:=firstArgMember _ _) (wpAny_of_eq (a:=Value.none) (by first | rfl | (simp only [firstArgMember];rfl)) ?_)
    refine wpAny_newObj_type ?_ (by size_fits)
    refine wpAny_raiseNew_none hr.handled ?_
    have esz:∀(h:Heap) o,(h.push o).objs.size=h.objs.size+1:=Heap.size_push
    have e4:=I4.size
    simp only [esz] at fin ⊢
    rw [e4]
    exact fin
  · rcases List.mem_cons.mp hq with rfl | hq
    · exact List.mem_cons_self
    · exact List.mem_cons_of_mem _ (List.mem_cons_of_mem _ hq)
  · have nd:=I6.nd
    rw [List.map_cons,List.map_cons] at nd
    have a:=List.nodup_cons.mp nd
    exact List.nodup_cons.mpr ⟨fun m=>a.1 (List.mem_cons_of_mem _ m),(List.nodup_cons.mp a.2).2⟩
  · rw [List.mem_singleton.mp hq];exact Nat.le_add_right ..
end
noncomputable def hinge4Sp (ab an:Addr)(eb en:Nat)(b0 b1 b2 b3:Int)(tb0 tb1 tb2 tb3 tn0 tn1 tn2 tn3:Tok)(n0 n1 n2 n3 q1 r1 q2 r2 q3 r3:Str)(v0 v1 v2 v3 w0 w1 w2 w3:Tok)(b t:Nat):Sp:=⟨8,.call (.ref 103) ⟨[.ref ab,.ref an],[]⟩,[(ab,liO #[.int b0 tb0,.int b1 tb1,.int b2 tb2,.int b3 tb3] eb),(an,liO #[.str n0 tn0,.str n1 tn1,.str n2 tn2,.str n3 tn3] en)],.ok (.ret (.ref (b+2))),[liO #[.int b0 tb0,.int b1 tb1,.int b2 tb2,.int b3 tb3] eb,liO #[.str n0 tn0,.str n1 tn1,.str n2 tn2,.str n3 tn3] en],[(b+2,liO #[.str (Y35++n0) (t+13),.str ((Y35++n1)++q1) (t+25),.str ((Y35++n2)++q2) (t+37),.str ((Y35++n3)++q3) (t+49)] 4)],11,55,0⟩
def hinge4Run:RP:=fun T pg=>∀ab an eb en b0 b1 b2 b3 tb0 tb1 tb2 tb3 tn0 tn1 tn2 tn3 n0 n1 n2 n3 q1 r1 q2 r2 q3 r3 v0 v1 v2 v3 w0 w1 w2 w3 b t,JobOk T pg (fun K P=>jobTF (hinge4Sp ab an eb en b0 b1 b2 b3 tb0 tb1 tb2 tb3 tn0 tn1 tn2 tn3 n0 n1 n2 n3 q1 r1 q2 r2 q3 r3 v0 v1 v2 v3 w0 w1 w2 w3 b t) [0,0,4,4,4,4,0,1,5,5,6,6,0,0,0,0,6,1,8,1,8,8,1,1,4,4,1,4,4,4,4,1,4,4,4,4,4,1,4,1,4,4,4,4,4,4,4,4,8,8,8,6,6,6,6,8,8,10,10,10,1,10,10,3,8,8,8,9,9,9,1,9,9,1,7,7,7,3,3,1,6,6,6,6,8,8,10,10,10,1,10,10,8,8,8,9,9,9,1,9,9,7,7,7,3,3,8,8,10,10,10,1,10,10,3,8,8,8,9,9,9,1,9,9,7,7,7,3,3,9,9,5,1,5,5,5,5,5,5,5,5,9,9,9,7,7,7,7,9,9,11,11,11,1,11,11,3,9,9,9,10,10,10,1,10,10,1,4,4,4,3,3,1,7,7,7,7,9,9,11,11,11,1,11,11,9,9,9,10,10,10,1,10,10,4,4,4,3,3,9,9,11,11,11,1,11,11,3,9,9,9,10,10,10,1,10,10,4,4,4,3,3,10,10,6,1,6,6,6,6,6,6,6,6,10,10,10,8,8,8,8,10,10,12,12,12,1,12,12,3,10,10,10,11,11,11,1,11,11,1,4,4,4,3,3,1,8,8,8,8,10,10,12,12,12,1,12,12,10,10,10,11,11,11,1,11,11,4,4,4,3,3,10,10,12,12,12,1,12,12,3,10,10,10,11,11,11,1,11,11,4,4,4,3,3,11,11,7,1,7,7,7,7,7,7,7,7,11,11,11,9,9,9,9,11,11,13,13,13,1,13,13,3,11,11,11,12,12,12,1,12,12,1,4,4,4,3,3,1,9,9,9,9,11,11,13,13,13,1,13,13,11,11,11,12,12,12,1,12,12,4,4,4,3,3,11,11,13,13,13,1,13,13,3,11,11,11,12,12,12,1,12,12,4,4,4,3,3,12,12,8,1,8,8,8,8,4,14] [cAdd Y35 n0,cGetL (b+1) (#[(.str Y2 (t+2)),(.str Y2 (t+3))]:Array Value) 0 (1-b0) (.str Y2 v0) 3,cAddR (Y35++n0),cGetL (b+1) (#[(.str Y2 (t+2)),(.str Y2 (t+3))]:Array Value) 0 b0 (.str Y2 w0) 3,cAddR n0,cAdd Y3 n0,cGetL (b+1) (#[(.str Y2 (t+2)),(.str Y2 (t+3))]:Array Value) 0 b0 (.str Y2 w0) 3,cAddR (Y3++n0),cAdd Y35 n1,cGetL (b+5) (#[(.str n0 tn0),(.str (Y3++n0) (t+17))]:Array Value) 0 (1-b1) (.str q1 v1) 0,cAdd (Y35++n1) q1,cGetL (b+5) (#[(.str n0 tn0),(.str (Y3++n0) (t+17))]:Array Value) 0 b1 (.str r1 w1) 0,cAdd n1 r1,cAdd Y3 n1,cGetL (b+5) (#[(.str n0 tn0),(.str (Y3++n0) (t+17))]:Array Value) 0 b1 (.str r1 w1) 0,cAdd (Y3++n1) r1,cAdd Y35 n2,cGetL (b+6) (#[(.str (n1++r1) (t+26)),(.str ((Y3++n1)++r1) (t+29))]:Array Value) 0 (1-b2) (.str q2 v2) 0,cAdd (Y35++n2) q2,cGetL (b+6) (#[(.str (n1++r1) (t+26)),(.str ((Y3++n1)++r1) (t+29))]:Array Value) 0 b2 (.str r2 w2) 0,cAdd n2 r2,cAdd Y3 n2,cGetL (b+6) (#[(.str (n1++r1) (t+26)),(.str ((Y3++n1)++r1) (t+29))]:Array Value) 0 b2 (.str r2 w2) 0,cAdd (Y3++n2) r2,cAdd Y35 n3,cGetL (b+7) (#[(.str (n2++r2) (t+38)),(.str ((Y3++n2)++r2) (t+41))]:Array Value) 0 (1-b3) (.str q3 v3) 0,cAdd (Y35++n3) q3,cGetL (b+7) (#[(.str (n2++r2) (t+38)),(.str ((Y3++n2)++r2) (t+41))]:Array Value) 0 b3 (.str r3 w3) 0,cAdd n3 r3,cAdd Y3 n3,cGetL (b+7) (#[(.str (n2++r2) (t+38)),(.str ((Y3++n2)++r2) (t+41))]:Array Value) 0 b3 (.str r3 w3) 0,cAdd (Y3++n3) r3] [8,11,12]) b t
theorem hinge4_ok {T:Params->KT}{prog:Program}{w:World}(H:hinge4Run T prog)(ab an:Addr)(eb en:Nat)(b0 b1 b2 b3:Int)(tb0 tb1 tb2 tb3 tn0 tn1 tn2 tn3:Tok)(n0 n1 n2 n3 q1 r1 q2 r2 q3 r3:Str)(v0 v1 v2 v3 w0 w1 w2 w3:Tok)(b t:Nat)(h0:Y35.length≠0)(h1:n0.length≠0)(h2:(Y35++n0).length<=sizeLine)(h3:(0:Int)<=(1-b0))(h4:(1-b0)<2 ^ 63)(h5:(#[(.str Y2 (t+2)),(.str Y2 (t+3))]:Array Value)[((1-b0)).toNat]?=some (.str Y2 v0))(h6:(Y35++n0).length≠0)(h7:(0:Int)<=b0)(h8:b0<2 ^ 63)(h9:(#[(.str Y2 (t+2)),(.str Y2 (t+3))]:Array Value)[(b0).toNat]?=some (.str Y2 w0))(h10:Y3.length≠0)(h11:(Y3++n0).length<=sizeLine)(h12:(Y3++n0).length≠0)(h13:n1.length≠0)(h14:(Y35++n1).length<=sizeLine)(h15:(0:Int)<=(1-b1))(h16:(1-b1)<2 ^ 63)(h17:(#[(.str n0 tn0),(.str (Y3++n0) (t+17))]:Array Value)[((1-b1)).toNat]?=some (.str q1 v1))(h18:(Y35++n1).length≠0)(h19:q1.length≠0)(h20:((Y35++n1)++q1).length<=sizeLine)(h21:(0:Int)<=b1)(h22:b1<2 ^ 63)(h23:(#[(.str n0 tn0),(.str (Y3++n0) (t+17))]:Array Value)[(b1).toNat]?=some (.str r1 w1))(h24:r1.length≠0)(h25:(n1++r1).length<=sizeLine)(h26:(Y3++n1).length<=sizeLine)(h27:(Y3++n1).length≠0)(h28:((Y3++n1)++r1).length<=sizeLine)(h29:n2.length≠0)(h30:(Y35++n2).length<=sizeLine)(h31:(0:Int)<=(1-b2))(h32:(1-b2)<2 ^ 63)(h33:(#[(.str (n1++r1) (t+26)),(.str ((Y3++n1)++r1) (t+29))]:Array Value)[((1-b2)).toNat]?=some (.str q2 v2))(h34:(Y35++n2).length≠0)(h35:q2.length≠0)(h36:((Y35++n2)++q2).length<=sizeLine)(h37:(0:Int)<=b2)(h38:b2<2 ^ 63)(h39:(#[(.str (n1++r1) (t+26)),(.str ((Y3++n1)++r1) (t+29))]:Array Value)[(b2).toNat]?=some (.str r2 w2))(h40:r2.length≠0)(h41:(n2++r2).length<=sizeLine)(h42:(Y3++n2).length<=sizeLine)(h43:(Y3++n2).length≠0)(h44:((Y3++n2)++r2).length<=sizeLine)(h45:n3.length≠0)(h46:(Y35++n3).length<=sizeLine)(h47:(0:Int)<=(1-b3))(h48:(1-b3)<2 ^ 63)(h49:(#[(.str (n2++r2) (t+38)),(.str ((Y3++n2)++r2) (t+41))]:Array Value)[((1-b3)).toNat]?=some (.str q3 v3))(h50:(Y35++n3).length≠0)(h51:q3.length≠0)(h52:((Y35++n3)++q3).length<=sizeLine)(h53:(0:Int)<=b3)(h54:b3<2 ^ 63)(h55:(#[(.str (n2++r2) (t+38)),(.str ((Y3++n2)++r2) (t+41))]:Array Value)[(b3).toNat]?=some (.str r3 w3))(h56:r3.length≠0)(h57:(n3++r3).length<=sizeLine)(h58:(Y3++n3).length<=sizeLine)(h59:(Y3++n3).length≠0)(h60:((Y3++n3)++r3).length<=sizeLine):SpOk (T w.params) prog w (hinge4Sp ab an eb en b0 b1 b2 b3 tb0 tb1 tb2 tb3 tn0 tn1 tn2 tn3 n0 n1 n2 n3 q1 r1 q2 r2 q3 r3 v0 v1 v2 v3 w0 w1 w2 w3 b t) b t:=jobOf_ok (sp:=fun _ _=>hinge4Sp ab an eb en b0 b1 b2 b3 tb0 tb1 tb2 tb3 tn0 tn1 tn2 tn3 n0 n1 n2 n3 q1 r1 q2 r2 q3 r3 v0 v1 v2 v3 w0 w1 w2 w3 b t) (H ab an eb en b0 b1 b2 b3 tb0 tb1 tb2 tb3 tn0 tn1 tn2 tn3 n0 n1 n2 n3 q1 r1 q2 r2 q3 r3 v0 v1 v2 v3 w0 w1 w2 w3 b t) (.inr rfl) rfl (by decide) ⟨cAdd_ok h0 h1 h2,cGetL_ok h3 h4 h5,cAddR_ok h6,cGetL_ok h7 h8 h9,cAddR_ok h1,cAdd_ok h10 h1 h11,cGetL_ok h7 h8 h9,cAddR_ok h12,cAdd_ok h0 h13 h14,cGetL_ok h15 h16 h17,cAdd_ok h18 h19 h20,cGetL_ok h21 h22 h23,cAdd_ok h13 h24 h25,cAdd_ok h10 h13 h26,cGetL_ok h21 h22 h23,cAdd_ok h27 h24 h28,cAdd_ok h0 h29 h30,cGetL_ok h31 h32 h33,cAdd_ok h34 h35 h36,cGetL_ok h37 h38 h39,cAdd_ok h29 h40 h41,cAdd_ok h10 h29 h42,cGetL_ok h37 h38 h39,cAdd_ok h43 h40 h44,cAdd_ok h0 h45 h46,cGetL_ok h47 h48 h49,cAdd_ok h50 h51 h52,cGetL_ok h53 h54 h55,cAdd_ok h45 h56 h57,cAdd_ok h10 h45 h58,cGetL_ok h53 h54 h55,cAdd_ok h59 h56 h60,trivial⟩
noncomputable def hinge3Sp (ab an:Addr)(eb en:Nat)(b0 b1 b2:Int)(tb0 tb1 tb2 tn0 tn1 tn2:Tok)(n0 n1 n2 q1 r1 q2 r2:Str)(v0 v1 v2 w0 w1 w2:Tok)(b t:Nat):Sp:=⟨8,.call (.ref 103) ⟨[.ref ab,.ref an],[]⟩,[(ab,liO #[.int b0 tb0,.int b1 tb1,.int b2 tb2] eb),(an,liO #[.str n0 tn0,.str n1 tn1,.str n2 tn2] en)],.ok (.ret (.ref (b+2))),[liO #[.int b0 tb0,.int b1 tb1,.int b2 tb2] eb,liO #[.str n0 tn0,.str n1 tn1,.str n2 tn2] en],[(b+2,liO #[.str (Y35++n0) (t+13),.str ((Y35++n1)++q1) (t+25),.str ((Y35++n2)++q2) (t+37)] 3)],10,43,0⟩
def hinge3Run:RP:=fun T pg=>∀ab an eb en b0 b1 b2 tb0 tb1 tb2 tn0 tn1 tn2 n0 n1 n2 q1 r1 q2 r2 v0 v1 v2 w0 w1 w2 b t,JobOk T pg (fun K P=>jobTF (hinge3Sp ab an eb en b0 b1 b2 tb0 tb1 tb2 tn0 tn1 tn2 n0 n1 n2 q1 r1 q2 r2 v0 v1 v2 w0 w1 w2 b t) [0,0,4,4,4,4,0,1,5,5,6,6,0,0,0,0,6,1,8,1,8,8,1,1,4,4,1,4,4,4,4,1,4,4,4,4,4,1,4,1,4,4,4,4,4,4,4,4,8,8,8,6,6,6,6,8,8,10,10,10,1,10,10,3,8,8,8,9,9,9,1,9,9,1,7,7,7,3,3,1,6,6,6,6,8,8,10,10,10,1,10,10,8,8,8,9,9,9,1,9,9,7,7,7,3,3,8,8,10,10,10,1,10,10,3,8,8,8,9,9,9,1,9,9,7,7,7,3,3,9,9,5,1,5,5,5,5,5,5,5,5,9,9,9,7,7,7,7,9,9,11,11,11,1,11,11,3,9,9,9,10,10,10,1,10,10,1,4,4,4,3,3,1,7,7,7,7,9,9,11,11,11,1,11,11,9,9,9,10,10,10,1,10,10,4,4,4,3,3,9,9,11,11,11,1,11,11,3,9,9,9,10,10,10,1,10,10,4,4,4,3,3,10,10,6,1,6,6,6,6,6,6,6,6,10,10,10,8,8,8,8,10,10,12,12,12,1,12,12,3,10,10,10,11,11,11,1,11,11,1,4,4,4,3,3,1,8,8,8,8,10,10,12,12,12,1,12,12,10,10,10,11,11,11,1,11,11,4,4,4,3,3,10,10,12,12,12,1,12,12,3,10,10,10,11,11,11,1,11,11,4,4,4,3,3,11,11,7,1,7,7,7,7,4,13] [cAdd Y35 n0,cGetL (b+1) (#[(.str Y2 (t+2)),(.str Y2 (t+3))]:Array Value) 0 (1-b0) (.str Y2 v0) 3,cAddR (Y35++n0),cGetL (b+1) (#[(.str Y2 (t+2)),(.str Y2 (t+3))]:Array Value) 0 b0 (.str Y2 w0) 3,cAddR n0,cAdd Y3 n0,cGetL (b+1) (#[(.str Y2 (t+2)),(.str Y2 (t+3))]:Array Value) 0 b0 (.str Y2 w0) 3,cAddR (Y3++n0),cAdd Y35 n1,cGetL (b+5) (#[(.str n0 tn0),(.str (Y3++n0) (t+17))]:Array Value) 0 (1-b1) (.str q1 v1) 0,cAdd (Y35++n1) q1,cGetL (b+5) (#[(.str n0 tn0),(.str (Y3++n0) (t+17))]:Array Value) 0 b1 (.str r1 w1) 0,cAdd n1 r1,cAdd Y3 n1,cGetL (b+5) (#[(.str n0 tn0),(.str (Y3++n0) (t+17))]:Array Value) 0 b1 (.str r1 w1) 0,cAdd (Y3++n1) r1,cAdd Y35 n2,cGetL (b+6) (#[(.str (n1++r1) (t+26)),(.str ((Y3++n1)++r1) (t+29))]:Array Value) 0 (1-b2) (.str q2 v2) 0,cAdd (Y35++n2) q2,cGetL (b+6) (#[(.str (n1++r1) (t+26)),(.str ((Y3++n1)++r1) (t+29))]:Array Value) 0 b2 (.str r2 w2) 0,cAdd n2 r2,cAdd Y3 n2,cGetL (b+6) (#[(.str (n1++r1) (t+26)),(.str ((Y3++n1)++r1) (t+29))]:Array Value) 0 b2 (.str r2 w2) 0,cAdd (Y3++n2) r2] [7,10,11]) b t
theorem hinge3_ok {T:Params->KT}{prog:Program}{w:World}(H:hinge3Run T prog)(ab an:Addr)(eb en:Nat)(b0 b1 b2:Int)(tb0 tb1 tb2 tn0 tn1 tn2:Tok)(n0 n1 n2 q1 r1 q2 r2:Str)(v0 v1 v2 w0 w1 w2:Tok)(b t:Nat)(h0:Y35.length≠0)(h1:n0.length≠0)(h2:(Y35++n0).length<=sizeLine)(h3:(0:Int)<=(1-b0))(h4:(1-b0)<2 ^ 63)(h5:(#[(.str Y2 (t+2)),(.str Y2 (t+3))]:Array Value)[((1-b0)).toNat]?=some (.str Y2 v0))(h6:(Y35++n0).length≠0)(h7:(0:Int)<=b0)(h8:b0<2 ^ 63)(h9:(#[(.str Y2 (t+2)),(.str Y2 (t+3))]:Array Value)[(b0).toNat]?=some (.str Y2 w0))(h10:Y3.length≠0)(h11:(Y3++n0).length<=sizeLine)(h12:(Y3++n0).length≠0)(h13:n1.length≠0)(h14:(Y35++n1).length<=sizeLine)(h15:(0:Int)<=(1-b1))(h16:(1-b1)<2 ^ 63)(h17:(#[(.str n0 tn0),(.str (Y3++n0) (t+17))]:Array Value)[((1-b1)).toNat]?=some (.str q1 v1))(h18:(Y35++n1).length≠0)(h19:q1.length≠0)(h20:((Y35++n1)++q1).length<=sizeLine)(h21:(0:Int)<=b1)(h22:b1<2 ^ 63)(h23:(#[(.str n0 tn0),(.str (Y3++n0) (t+17))]:Array Value)[(b1).toNat]?=some (.str r1 w1))(h24:r1.length≠0)(h25:(n1++r1).length<=sizeLine)(h26:(Y3++n1).length<=sizeLine)(h27:(Y3++n1).length≠0)(h28:((Y3++n1)++r1).length<=sizeLine)(h29:n2.length≠0)(h30:(Y35++n2).length<=sizeLine)(h31:(0:Int)<=(1-b2))(h32:(1-b2)<2 ^ 63)(h33:(#[(.str (n1++r1) (t+26)),(.str ((Y3++n1)++r1) (t+29))]:Array Value)[((1-b2)).toNat]?=some (.str q2 v2))(h34:(Y35++n2).length≠0)(h35:q2.length≠0)(h36:((Y35++n2)++q2).length<=sizeLine)(h37:(0:Int)<=b2)(h38:b2<2 ^ 63)(h39:(#[(.str (n1++r1) (t+26)),(.str ((Y3++n1)++r1) (t+29))]:Array Value)[(b2).toNat]?=some (.str r2 w2))(h40:r2.length≠0)(h41:(n2++r2).length<=sizeLine)(h42:(Y3++n2).length<=sizeLine)(h43:(Y3++n2).length≠0)(h44:((Y3++n2)++r2).length<=sizeLine):SpOk (T w.params) prog w (hinge3Sp ab an eb en b0 b1 b2 tb0 tb1 tb2 tn0 tn1 tn2 n0 n1 n2 q1 r1 q2 r2 v0 v1 v2 w0 w1 w2 b t) b t:=jobOf_ok (sp:=fun _ _=>hinge3Sp ab an eb en b0 b1 b2 tb0 tb1 tb2 tn0 tn1 tn2 n0 n1 n2 q1 r1 q2 r2 v0 v1 v2 w0 w1 w2 b t) (H ab an eb en b0 b1 b2 tb0 tb1 tb2 tn0 tn1 tn2 n0 n1 n2 q1 r1 q2 r2 v0 v1 v2 w0 w1 w2 b t) (.inr rfl) rfl (by decide) ⟨cAdd_ok h0 h1 h2,cGetL_ok h3 h4 h5,cAddR_ok h6,cGetL_ok h7 h8 h9,cAddR_ok h1,cAdd_ok h10 h1 h11,cGetL_ok h7 h8 h9,cAddR_ok h12,cAdd_ok h0 h13 h14,cGetL_ok h15 h16 h17,cAdd_ok h18 h19 h20,cGetL_ok h21 h22 h23,cAdd_ok h13 h24 h25,cAdd_ok h10 h13 h26,cGetL_ok h21 h22 h23,cAdd_ok h27 h24 h28,cAdd_ok h0 h29 h30,cGetL_ok h31 h32 h33,cAdd_ok h34 h35 h36,cGetL_ok h37 h38 h39,cAdd_ok h29 h40 h41,cAdd_ok h10 h29 h42,cGetL_ok h37 h38 h39,cAdd_ok h43 h40 h44,trivial⟩
noncomputable def pk {α:Type}(z:Int)(a c:α):α:=if z=0 then a else c
def hr1 (z1:Int)(n0:Str):Str:=pk z1 n0 (Y3++n0)
def hq1 (z1:Int)(n0:Str):Str:=pk z1 (Y3++n0) n0
def hr2 (z1 z2:Int)(n0 n1:Str):Str:=pk z2 (n1++hr1 z1 n0) ((Y3++n1)++hr1 z1 n0)
def hq2 (z1 z2:Int)(n0 n1:Str):Str:=pk z2 ((Y3++n1)++hr1 z1 n0) (n1++hr1 z1 n0)
def hr3 (z1 z2 z3:Int)(n0 n1 n2:Str):Str:=pk z3 (n2++hr2 z1 z2 n0 n1) ((Y3++n2)++hr2 z1 z2 n0 n1)
def hq3 (z1 z2 z3:Int)(n0 n1 n2:Str):Str:=pk z3 ((Y3++n2)++hr2 z1 z2 n0 n1) (n2++hr2 z1 z2 n0 n1)
theorem hlen1 {n0:Str}(h0:n0.length=1)(z1:Int):(1<=(hr1 z1 n0).length/\(hr1 z1 n0).length<=2)/\(1<=(hq1 z1 n0).length/\(hq1 z1 n0).length<=2):=by
  have d:Y3.length=1:=rfl
  unfold hr1 hq1 pk
  split<;>simp only [Str.length_append,d,h0]<;>omega
theorem hlen2 {n0 n1:Str}(h0:n0.length=1)(h1:n1.length=1)(z1 z2:Int):(1<=(hr2 z1 z2 n0 n1).length/\(hr2 z1 z2 n0 n1).length<=4)/\(1<=(hq2 z1 z2 n0 n1).length/\(hq2 z1 z2 n0 n1).length<=4):=by
  have d:Y3.length=1:=rfl
  have a:=hlen1 h0 z1
  unfold hr2 hq2 pk
  split<;>simp only [Str.length_append,d,h1]<;>omega
theorem hlen3 {n0 n1 n2:Str}(h0:n0.length=1)(h1:n1.length=1)(h2:n2.length=1)(z1 z2 z3:Int):(1<=(hr3 z1 z2 z3 n0 n1 n2).length/\(hr3 z1 z2 z3 n0 n1 n2).length<=6)/\(1<=(hq3 z1 z2 z3 n0 n1 n2).length/\(hq3 z1 z2 z3 n0 n1 n2).length<=6):=by
  have d:Y3.length=1:=rfl
  have a:=hlen2 h0 h1 z1 z2
  unfold hr3 hq3 pk
  split<;>simp only [Str.length_append,d,h2]<;>omega
section
variable {T:Params->KT}{prog:Program}{w:World}
def hvA4 (z0 z1 z2 z3:Int)(n0 n1 n2 n3:Str)(t:Nat):Array Value:=#[.str (Y35++n0) (t+13),.str ((Y35++n1)++(hq1 z1 n0)) (t+25),.str ((Y35++n2)++(hq2 z1 z2 n0 n1)) (t+37),.str ((Y35++n3)++(hq3 z1 z2 z3 n0 n1 n2)) (t+49)]
theorem hinge4_fn (H:hinge4Run T prog)(ab an:Addr)(eb en:Nat)(z0 z1 z2 z3:Int)(tz0 tz1 tz2 tz3 tn0 tn1 tn2 tn3:Tok)(n0 n1 n2 n3:Str)(y0:z0=0∨z0=1)(y1:z1=0∨z1=1)(y2:z2=0∨z2=1)(y3:z3=0∨z3=1)(l0:n0.length=1)(l1:n1.length=1)(l2:n2.length=1)(l3:n3.length=1)(b t:Nat):
    SpOk (T w.params) prog w ⟨8,.call (.ref 103) ⟨[.ref ab,.ref an],[]⟩,[(ab,liO #[.int z0 tz0,.int z1 tz1,.int z2 tz2,.int z3 tz3] eb),(an,liO #[.str n0 tn0,.str n1 tn1,.str n2 tn2,.str n3 tn3] en)],.ok (.ret (.ref (b+2))),[liO #[.int z0 tz0,.int z1 tz1,.int z2 tz2,.int z3 tz3] eb,liO #[.str n0 tn0,.str n1 tn1,.str n2 tn2,.str n3 tn3] en],[(b+2,liO (hvA4 z0 z1 z2 z3 n0 n1 n2 n3 t) 4)],11,55,0⟩ b t:=by
  have d34:Y3.length=1:=rfl
  have d3:Y35.length=3:=rfl
  have a1:=hlen1 l0 z1
  have a2:=hlen2 l0 l1 z1 z2
  have a3:=hlen3 l0 l1 l2 z1 z2 z3
  have z:=hinge4_ok (w:=w) H ab an eb en z0 z1 z2 z3 tz0 tz1 tz2 tz3 tn0 tn1 tn2 tn3 n0 n1 n2 n3 (hq1 z1 n0) (hr1 z1 n0) (hq2 z1 z2 n0 n1) (hr2 z1 z2 n0 n1) (hq3 z1 z2 z3 n0 n1 n2) (hr3 z1 z2 z3 n0 n1 n2) (pk z0 (t+3) (t+2)) (pk z1 (t+17) tn0) (pk z2 (t+29) (t+26)) (pk z3 (t+41) (t+38)) (pk z0 (t+2) (t+3)) (pk z1 tn0 (t+17)) (pk z2 (t+26) (t+29)) (pk z3 (t+38) (t+41)) b t
    (by first | omega | (simp only [Str.length_append,d34,d3,l0,l1,l2,l3];omega)) (by first | omega | (simp only [Str.length_append,d34,d3,l0,l1,l2,l3];omega)) (by simp only [Str.length_append,d34,d3,l0,l1,l2,l3,sizeLine_eq];omega) (by rcases y0 with e | e<;>subst e<;>decide) (by rcases y0 with e | e<;>subst e<;>decide) (by rcases y0 with e | e<;>subst e<;>rfl) (by first | omega | (simp only [Str.length_append,d34,d3,l0,l1,l2,l3];omega)) (by rcases y0 with e | e<;>subst e<;>decide) (by rcases y0 with e | e<;>subst e<;>decide) (by rcases y0 with e | e<;>subst e<;>rfl) (by first | omega | (simp only [Str.length_append,d34,d3,l0,l1,l2,l3];omega)) (by simp only [Str.length_append,d34,d3,l0,l1,l2,l3,sizeLine_eq];omega) (by first | omega | (simp only [Str.length_append,d34,d3,l0,l1,l2,l3];omega)) (by first | omega | (simp only [Str.length_append,d34,d3,l0,l1,l2,l3];omega)) (by simp only [Str.length_append,d34,d3,l0,l1,l2,l3,sizeLine_eq];omega) (by rcases y1 with e | e<;>subst e<;>decide) (by rcases y1 with e | e<;>subst e<;>decide) (by rcases y1 with e | e<;>subst e<;>rfl) (by first | omega | (simp only [Str.length_append,d34,d3,l0,l1,l2,l3];omega)) (by first | omega | (simp only [Str.length_append,d34,d3,l0,l1,l2,l3];omega)) (by simp only [Str.length_append,d34,d3,l0,l1,l2,l3,sizeLine_eq];omega) (by rcases y1 with e | e<;>subst e<;>decide) (by rcases y1 with e | e<;>subst e<;>decide) (by rcases y1 with e | e<;>subst e<;>rfl) (by first | omega | (simp only [Str.length_append,d34,d3,l0,l1,l2,l3];omega)) (by simp only [Str.length_append,d34,d3,l0,l1,l2,l3,sizeLine_eq];omega) (by simp only [Str.length_append,d34,d3,l0,l1,l2,l3,sizeLine_eq];omega) (by first | omega | (simp only [Str.length_append,d34,d3,l0,l1,l2,l3];omega)) (by simp only [Str.length_append,d34,d3,l0,l1,l2,l3,sizeLine_eq];omega) (by first | omega | (simp only [Str.length_append,d34,d3,l0,l1,l2,l3];omega)) (by simp only [Str.length_append,d34,d3,l0,l1,l2,l3,sizeLine_eq];omega) (by rcases y2 with e | e<;>subst e<;>decide) (by rcases y2 with e | e<;>subst e<;>decide) (by rcases y2 with e | e<;>subst e<;>rfl) (by first | omega | (simp only [Str.length_append,d34,d3,l0,l1,l2,l3];omega)) (by first | omega | (simp only [Str.length_append,d34,d3,l0,l1,l2,l3];omega)) (by simp only [Str.length_append,d34,d3,l0,l1,l2,l3,sizeLine_eq];omega) (by rcases y2 with e | e<;>subst e<;>decide) (by rcases y2 with e | e<;>subst e<;>decide) (by rcases y2 with e | e<;>subst e<;>rfl) (by first | omega | (simp only [Str.length_append,d34,d3,l0,l1,l2,l3];omega)) (by simp only [Str.length_append,d34,d3,l0,l1,l2,l3,sizeLine_eq];omega) (by simp only [Str.length_append,d34,d3,l0,l1,l2,l3,sizeLine_eq];omega) (by first | omega | (simp only [Str.length_append,d34,d3,l0,l1,l2,l3];omega)) (by simp only [Str.length_append,d34,d3,l0,l1,l2,l3,sizeLine_eq];omega) (by first | omega | (simp only [Str.length_append,d34,d3,l0,l1,l2,l3];omega)) (by simp only [Str.length_append,d34,d3,l0,l1,l2,l3,sizeLine_eq];omega) (by rcases y3 with e | e<;>subst e<;>decide) (by rcases y3 with e | e<;>subst e<;>decide) (by rcases y3 with e | e<;>subst e<;>rfl) (by first | omega | (simp only [Str.length_append,d34,d3,l0,l1,l2,l3];omega)) (by first | omega | (simp only [Str.length_append,d34,d3,l0,l1,l2,l3];omega)) (by simp only [Str.length_append,d34,d3,l0,l1,l2,l3,sizeLine_eq];omega) (by rcases y3 with e | e<;>subst e<;>decide) (by rcases y3 with e | e<;>subst e<;>decide) (by rcases y3 with e | e<;>subst e<;>rfl) (by first | omega | (simp only [Str.length_append,d34,d3,l0,l1,l2,l3];omega)) (by simp only [Str.length_append,d34,d3,l0,l1,l2,l3,sizeLine_eq];omega) (by simp only [Str.length_append,d34,d3,l0,l1,l2,l3,sizeLine_eq];omega) (by first | omega | (simp only [Str.length_append,d34,d3,l0,l1,l2,l3];omega)) (by simp only [Str.length_append,d34,d3,l0,l1,l2,l3,sizeLine_eq];omega)
  exact z
def hvA3 (z0 z1 z2:Int)(n0 n1 n2:Str)(t:Nat):Array Value:=#[.str (Y35++n0) (t+13),.str ((Y35++n1)++(hq1 z1 n0)) (t+25),.str ((Y35++n2)++(hq2 z1 z2 n0 n1)) (t+37)]
theorem hinge3_fn (H:hinge3Run T prog)(ab an:Addr)(eb en:Nat)(z0 z1 z2:Int)(tz0 tz1 tz2 tn0 tn1 tn2:Tok)(n0 n1 n2:Str)(y0:z0=0∨z0=1)(y1:z1=0∨z1=1)(y2:z2=0∨z2=1)(l0:n0.length=1)(l1:n1.length=1)(l2:n2.length=1)(b t:Nat):
    SpOk (T w.params) prog w ⟨8,.call (.ref 103) ⟨[.ref ab,.ref an],[]⟩,[(ab,liO #[.int z0 tz0,.int z1 tz1,.int z2 tz2] eb),(an,liO #[.str n0 tn0,.str n1 tn1,.str n2 tn2] en)],.ok (.ret (.ref (b+2))),[liO #[.int z0 tz0,.int z1 tz1,.int z2 tz2] eb,liO #[.str n0 tn0,.str n1 tn1,.str n2 tn2] en],[(b+2,liO (hvA3 z0 z1 z2 n0 n1 n2 t) 3)],10,43,0⟩ b t:=by
  have d34:Y3.length=1:=rfl
  have d3:Y35.length=3:=rfl
  have a1:=hlen1 l0 z1
  have a2:=hlen2 l0 l1 z1 z2
  have z:=hinge3_ok (w:=w) H ab an eb en z0 z1 z2 tz0 tz1 tz2 tn0 tn1 tn2 n0 n1 n2 (hq1 z1 n0) (hr1 z1 n0) (hq2 z1 z2 n0 n1) (hr2 z1 z2 n0 n1) (pk z0 (t+3) (t+2)) (pk z1 (t+17) tn0) (pk z2 (t+29) (t+26)) (pk z0 (t+2) (t+3)) (pk z1 tn0 (t+17)) (pk z2 (t+26) (t+29)) b t
    (by first | omega | (simp only [Str.length_append,d34,d3,l0,l1,l2];omega)) (by first | omega | (simp only [Str.length_append,d34,d3,l0,l1,l2];omega)) (by simp only [Str.length_append,d34,d3,l0,l1,l2,sizeLine_eq];omega) (by rcases y0 with e | e<;>subst e<;>decide) (by rcases y0 with e | e<;>subst e<;>decide) (by rcases y0 with e | e<;>subst e<;>rfl) (by first | omega | (simp only [Str.length_append,d34,d3,l0,l1,l2];omega)) (by rcases y0 with e | e<;>subst e<;>decide) (by rcases y0 with e | e<;>subst e<;>decide) (by rcases y0 with e | e<;>subst e<;>rfl) (by first | omega | (simp only [Str.length_append,d34,d3,l0,l1,l2];omega)) (by simp only [Str.length_append,d34,d3,l0,l1,l2,sizeLine_eq];omega) (by first | omega | (simp only [Str.length_append,d34,d3,l0,l1,l2];omega)) (by first | omega | (simp only [Str.length_append,d34,d3,l0,l1,l2];omega)) (by simp only [Str.length_append,d34,d3,l0,l1,l2,sizeLine_eq];omega) (by rcases y1 with e | e<;>subst e<;>decide) (by rcases y1 with e | e<;>subst e<;>decide) (by rcases y1 with e | e<;>subst e<;>rfl) (by first | omega | (simp only [Str.length_append,d34,d3,l0,l1,l2];omega)) (by first | omega | (simp only [Str.length_append,d34,d3,l0,l1,l2];omega)) (by simp only [Str.length_append,d34,d3,l0,l1,l2,sizeLine_eq];omega) (by rcases y1 with e | e<;>subst e<;>decide) (by rcases y1 with e | e<;>subst e<;>decide) (by rcases y1 with e | e<;>subst e<;>rfl) (by first | omega | (simp only [Str.length_append,d34,d3,l0,l1,l2];omega)) (by simp only [Str.length_append,d34,d3,l0,l1,l2,sizeLine_eq];omega) (by simp only [Str.length_append,d34,d3,l0,l1,l2,sizeLine_eq];omega) (by first | omega | (simp only [Str.length_append,d34,d3,l0,l1,l2];omega)) (by simp only [Str.length_append,d34,d3,l0,l1,l2,sizeLine_eq];omega) (by first | omega | (simp only [Str.length_append,d34,d3,l0,l1,l2];omega)) (by simp only [Str.length_append,d34,d3,l0,l1,l2,sizeLine_eq];omega) (by rcases y2 with e | e<;>subst e<;>decide) (by rcases y2 with e | e<;>subst e<;>decide) (by rcases y2 with e | e<;>subst e<;>rfl) (by first | omega | (simp only [Str.length_append,d34,d3,l0,l1,l2];omega)) (by first | omega | (simp only [Str.length_append,d34,d3,l0,l1,l2];omega)) (by simp only [Str.length_append,d34,d3,l0,l1,l2,sizeLine_eq];omega) (by rcases y2 with e | e<;>subst e<;>decide) (by rcases y2 with e | e<;>subst e<;>decide) (by rcases y2 with e | e<;>subst e<;>rfl) (by first | omega | (simp only [Str.length_append,d34,d3,l0,l1,l2];omega)) (by simp only [Str.length_append,d34,d3,l0,l1,l2,sizeLine_eq];omega) (by simp only [Str.length_append,d34,d3,l0,l1,l2,sizeLine_eq];omega) (by first | omega | (simp only [Str.length_append,d34,d3,l0,l1,l2];omega)) (by simp only [Str.length_append,d34,d3,l0,l1,l2,sizeLine_eq];omega)
  exact z
end
end
structure SOut where
  t:Sem Fin
  L:Led
  off:Nat
  toff:Nat
  xs:List Ob
  ys:List Ob
abbrev ST:=List Hint->Sem Fin->Led->Nat->Nat->List Ob->List Ob->Option SOut
noncomputable def ctrS (ih:ST)(c':Code)(k:Result->Sem Fin)(ds:List Nat)(l:Led)(p:Sp)(n:Nat)(H:List Hint)(L:Led)(i j:Nat)(xs ys:List Ob):Option SOut:=match Nat.ble p.n n with
  | false=>none
  | true=>match Nat.beq p.gn 0 with
    | false=>none
    | true=>match puts L ds p.L' with
      | none=>none
      | some L2=>ih H (k p.res) (p.new++L2) (i+p.da) (j+p.dt) (.c c'::.l l::xs) (.c p.c::.l p.L::ys)
noncomputable def stepS (kt:KT)(P:Params)(prog:Program)(b tb n:Nat)(ih:ST):ST:=fun H t L i j xs ys=>match t with
  | .rule _ k=>ih H (k ()) L i j xs ys
  | .at _ k=>ih H (k ()) L i j xs ys
  | .point _ k=>ih H (k ()) L i j xs ys
  | .ask k=>ih H (k ⟨prog,P⟩) L i j xs ys
  | .load a q k=>match H with
    | .top::H=>match topB a with
      | false=>none
      | true=>match kt.get a with
        | some o=>ih H (k o) L i j xs ys
        | none=>none
    | .own d::H=>match lget L d with
      | some p=>ih H (k p.2) L i j (.n a::xs) (.n p.1::ys)
      | none=>none
    | _=>some ⟨t,L,i,j,xs,ys⟩
  | .alloc o k=>match o.isFreed with
    | true=>none
    | false=>ih H (k (b+i)) ((b+i,o)::L) (i+1) j xs ys
  | .update a _ f k=>match H with
    | .own d::H=>match lget L d with
      | some p=>match (f p.2).isFreed with
        | true=>none
        | false=>ih H (k ()) (lmod f L d) i j (.n a::xs) (.n p.1::ys)
      | none=>none
    | _=>some ⟨t,L,i,j,xs,ys⟩
  | .fresh k=>ih H (k (tb+j)) L i (j+1) xs ys
  | .handled own k=>match own with
    | false=>ih H (k none) L i j xs ys
    | true=>none
  | .call c' hd _ _ k=>match H with
    | .ctr ds sp::H=>match hd with
      | some _=>none
      | none=>match nodupB ds with
        | false=>none
        | true=>match gets L ds with
          | none=>none
          | some l=>ctrS ih c' k ds l (sp (b+i) (tb+j) c' l) n H L i j xs ys
    | _=>some ⟨t,L,i,j,xs,ys⟩
  | _=>some ⟨t,L,i,j,xs,ys⟩
noncomputable def runS (kt:KT)(P:Params)(prog:Program)(b tb n:Nat)(m:Nat):ST:=Nat.rec (fun _ _ _ _ _ _ _=>none) (fun _ ih=>stepS kt P prog b tb n ih) m
theorem runS_succ (kt P prog b tb n m H t L i j xs ys):runS kt P prog b tb n (m+1) H t L i j xs ys=stepS kt P prog b tb n (runS kt P prog b tb n m) H t L i j xs ys:=rfl
def AccS (o:SOut)(xs ys:List Ob):Prop:=∃xs' ys',o.xs=xs'++xs/\o.ys=ys'++ys/\xs'.length=ys'.length
theorem AccS.refl (f L i j xs ys):AccS ⟨f,L,i,j,xs,ys⟩ xs ys:=⟨[],[],rfl,rfl,rfl⟩
theorem AccS.cons {o x y xs ys}(h:AccS o (x::xs) (y::ys)):AccS o xs ys:=by
  obtain ⟨a,b,h1,h2,h3⟩:=h
  exact ⟨a++[x],b++[y],by simp [h1],by simp [h2],by simp [h3]⟩
theorem AccS.eq {o xs ys}(h:AccS o xs ys)(e:o.xs=o.ys):xs=ys:=by
  obtain ⟨a,b,h1,h2,h3⟩:=h
  rw [h1,h2] at e
  exact (List.append_inj e h3).2
structure Zc (prog:Program)(w:World)(B:Around)(Z:Sem Fin->Shared->Prop):Prop where
  bind:∀{α:Type}(m:Sem α)(k:α->Sem Fin)(s:Shared),(∀E,wpAny (model prog w) B m (fun a s'=>Z (k a) s') E s)->Z (m.bind k) s
  point:∀(l:List Value)(k:Unit->Sem Fin)(s:Shared),Z (k ()) s->Z (.point l k) s
  call:∀(c:Code)(g:Bool)(l:List Value)(k:Result->Sem Fin)(s:Shared),codeAny (model prog w) (B.mark none) c (fun r s'=>Z (k r) s') s->Z (.call c none g l k) s
abbrev RunSOk (kt:KT)(prog:Program)(w:World)(b tb:Nat)(s0:Shared)(X:List Addr)(G:Array GenState)(Z:Sem Fin->Shared->Prop)(H:List Hint)(t:Sem Fin)(L:Led)(i j:Nat)(o:SOut):Prop:=
      (∀ds sp,Hint.ctr ds sp∈H->COk kt prog w b tb sp) ->
      ∀s,Inv kt s L (b+i) (tb+j) G->Step X s0 s->Own X b L ->
        (∀s',Inv kt s' o.L (b+o.off) (tb+o.toff) G->Step X s0 s'->Own X b o.L->Z o.t s')->Z t s
theorem runS_sound' {kt:KT}{prog:Program}{w:World}{b tb n:Nat}{s0:Shared}{X:List Addr}{G:Array GenState}(hs0:s0.heap.objs.size=b){B:Around}{Z:Sem Fin->Shared->Prop}(hZ:Zc prog w B Z)(hr:Room n (B.mark none)):
    ∀m H t L i j xs ys o,runS kt w.params prog b tb n m H t L i j xs ys=some o->AccS o xs ys/\(o.xs=o.ys->RunSOk kt prog w b tb s0 X G Z H t L i j o):=by
  intro m
  induction m with
  | zero=>intro H t L i j xs ys o h;cases h
  | succ m ih=>
    intro H t L i j xs ys o h
    rw [runS_succ] at h
    unfold stepS at h
    split at h
    · rename_i k
      have q:=ih _ _ _ _ _ _ _ _ h
      exact ⟨q.1,fun hob hsp s hi hst hown hfin=>hZ.bind (rule _) k s fun E=>wpAny_rule (q.2 hob hsp s hi hst hown hfin)⟩
    · rename_i p k
      have q:=ih _ _ _ _ _ _ _ _ h
      exact ⟨q.1,fun hob hsp s hi hst hown hfin=>hZ.bind (standAt p) k s fun E=>wpAny_standAt (q.2 hob hsp s hi hst hown hfin)⟩
    · rename_i l k
      have q:=ih _ _ _ _ _ _ _ _ h
      exact ⟨q.1,fun hob hsp s hi hst hown hfin=>hZ.point l k s (q.2 hob hsp s hi hst hown hfin)⟩
    · rename_i k
      have q:=ih _ _ _ _ _ _ _ _ h
      exact ⟨q.1,fun hob hsp s hi hst hown hfin=>hZ.bind ask k s fun E=>wpAny_askSetting (q.2 hob hsp s hi hst hown hfin)⟩
    ·
      rename_i a p k
      split at h
      · split at h
        · cases h
        · rename_i ht
          split at h
          · rename_i o' ho
            have q:=ih _ _ _ _ _ _ _ _ h
            exact ⟨q.1,fun hob hsp s hi hst hown hfin=>hZ.bind (loadPart a p) k s fun E=>wpAny_loadPart (hi.base a o' ht ho) (q.2 hob (tl hsp) s hi hst hown hfin)⟩
          · cases h
      · split at h
        · rename_i r hp
          have q:=ih _ _ _ _ _ _ _ _ h
          refine ⟨q.1.cons,fun hob hsp s hi hst hown hfin=>?_⟩
          have ea:a=r.1:=by have e:=q.1.eq hob;injection e with e1 e2;injection e1
          rw [ea]
          exact hZ.bind (loadPart r.1 p) k s fun E=>wpAny_loadPart (hi.has r (lget_mem hp)) (q.2 hob (tl hsp) s hi hst hown hfin)
        · cases h
      · cases h
        exact ⟨AccS.refl ..,fun _ _ s hi hst hown hfin=>hfin s hi hst hown⟩
    ·
      rename_i o' k
      split at h
      · cases h
      · rename_i hf
        have q:=ih _ _ _ _ _ _ _ _ h
        exact ⟨q.1,fun hob hsp s hi hst hown hfin=>hZ.bind (alloc o') k s fun E=>wpAny_alloc (by rw [hi.size];exact q.2 hob hsp { s with heap:=s.heap.push o' } (hi.alloc hf) (hst.alloc o') (hown.alloc o' (Nat.le_add_right ..)) hfin)⟩
    ·
      rename_i a p f k
      split at h
      · split at h
        · rename_i r hp
          split at h
          · cases h
          · rename_i hf
            have q:=ih _ _ _ _ _ _ _ _ h
            refine ⟨q.1.cons,fun hob hsp s hi hst hown hfin=>?_⟩
            have ea:a=r.1:=by have e:=q.1.eq hob;injection e with e1 e2;injection e1
            rw [ea]
            exact hZ.bind (updatePart r.1 p f) k s fun E=>wpAny_updatePart (hi.has r (lget_mem hp)) (q.2 hob (tl hsp) { s with heap:=s.heap.update r.1 f } (hi.update hp hf) (hst.update hown hs0 hp f) (hown.mod f _) hfin)
        · cases h
      · cases h
        exact ⟨AccS.refl ..,fun _ _ s hi hst hown hfin=>hfin s hi hst hown⟩
    ·
      rename_i k
      have q:=ih _ _ _ _ _ _ _ _ h
      refine ⟨q.1,fun hob hsp s hi hst hown hfin=>hZ.bind fresh k s fun E=>wpAny_fresh ?_⟩
      rw [hi.toks]
      exact q.2 hob hsp { s with toks:=tb+j+1 } hi.fresh (hst.toks _) hown hfin
    ·
      split at h
      · rename_i k _
        have q:=ih _ _ _ _ _ _ _ _ h
        refine ⟨q.1,fun hob hsp s hi hst hown hfin=>hZ.bind handled k s fun E=>wpAny_handled ?_⟩
        rw [show B.handled=none from hr.handled]
        exact q.2 hob hsp s hi hst hown hfin
      · cases h
    ·
      rename_i c' hd gd l k
      split at h
      · rename_i ds sp H'
        split at h
        · cases h
        · split at h
          · cases h
          · rename_i hd
            split at h
            · cases h
            · rename_i l' hg
              generalize hP:sp (b+i) (tb+j) c' l'=P at h
              unfold ctrS at h
              split at h
              · cases h
              · rename_i hn
                split at h
                · cases h
                · rename_i hg0
                  split at h
                  · cases h
                  · rename_i L2 hp
                    have q:=ih _ _ _ _ _ _ _ _ h
                    refine ⟨q.1.cons.cons,fun hob hsp s hi hst hown hfin=>?_⟩
                    have hok:=hsp ds sp List.mem_cons_self (b+i) (tb+j) c' l' (Nat.le_add_right ..) (Nat.le_add_right ..)
                    rw [hP] at hok
                    have e:=q.1.eq hob
                    have e1:c'=P.c:=by injection e with e1 e2;injection e1
                    have e2:l'=P.L:=by injection e with e1 e2;injection e2 with e3 e4;injection e3
                    rw [e1]
                    rw [e2] at hg
                    refine hZ.call _ gd l k s (hok.2 G _ _ s (hr.mono (Nat.le_of_ble_eq_true hn)) (hi.part hd hg) fun s' J S hnew=>?_)
                    rw [show P.gn=0 from Nat.eq_of_beq_eq_true hg0] at J
                    refine q.2 hob (tl hsp) s' ?_ (hst.whole hown hs0 hg S) (hown.whole hp (Nat.le_add_right ..) hnew) hfin
                    rw [<- Nat.add_assoc,<- Nat.add_assoc]
                    exact hi.whole hd hg hp J S hnew
      · cases h
        exact ⟨AccS.refl ..,fun _ _ s hi hst hown hfin=>hfin s hi hst hown⟩
    · cases h
      exact ⟨AccS.refl ..,fun _ _ s hi hst hown hfin=>hfin s hi hst hown⟩
theorem runS_sound {kt:KT}{prog:Program}{w:World}{b tb n:Nat}{s0:Shared}{X:List Addr}{G:Array GenState}(hs0:s0.heap.objs.size=b){B:Around}{Z:Sem Fin->Shared->Prop}(hZ:Zc prog w B Z)(hr:Room n (B.mark none))(m H t L i j xs ys o)(h:runS kt w.params prog b tb n m H t L i j xs ys=some o)(hob:o.xs=o.ys):RunSOk kt prog w b tb s0 X G Z H t L i j o:=(runS_sound' hs0 hZ hr m H t L i j xs ys o h).2 hob
section
open Builtin Builtin.Str
noncomputable abbrev enO (it:Addr)(i:Int)(old own:Value):Obj:=⟨.type "enumerate",none,.fields #[own,.bool false,.ref it,.int i 0,.none,old],#[]⟩
noncomputable abbrev exO (a:Addr):Obj:=⟨.type "StopIteration",none,.fields #[.ref a,.none,.none,.none,.bool false,.none],#[]⟩
noncomputable abbrev e35 (K:KT)(fr:Addr):Env:=envOf K 35 fr []
noncomputable abbrev F35 (K:KT)(fr:Addr):Code:=.func (bodyOf K 35) (e35 K fr)
noncomputable abbrev L35 (K:KT)(fr en:Addr):Code:=forOf (bodyOf K 35) 2 (.ref en) (e35 K fr)
noncomputable def tgOf (b:List Stmt)(i:Nat):Expr:=match nth b i with
  | some (.For tg _ _ _ _)=>tg
  | _=>.Constant .none 0 default
noncomputable def bdOf (b:List Stmt)(i:Nat):List Stmt:=match nth b i with
  | some (.For _ _ bd _ _)=>bd
  | _=>[]
noncomputable abbrev turnT (tg:Expr)(it:Value)(bd el:List Stmt)(env:Env)(v:Value):Sem Fin:=
  PySem.W.R.onRaiseR (PySem.W.R.bindR (PySem.W.Fast.tw17772580674575903948 tg env v) fun _=>PySem.W.R.bindR (PySem.W.Fast.tw12563942051412417395 bd env) fun f=>match f with
    | .next=>.pure (.again (.forLoop tg it bd el env))
    | .cont=>.pure (.again (.forLoop tg it bd el env))
    | .brk=>.pure (.done .next)
    | .ret v=>.pure (.done (.ret v))) (fun x=>noteFrame x env >>= fun _=>theTreesLotGoes x)
section
variable {kt:KT}{prog:Program}{w:World}{b t:Nat}
noncomputable abbrev cEnew (x:Str)(tx:Tok):Hint:=.ctr [] fun b t c _=>prE "enumerate.__new__" [.type "enumerate",.str x tx] (.ref (b+1)) 0 [] [] [(b+1,enO b 0 .none .none),(b,siO x tx 0)] 2
theorem cEnew_ok {x:Str}{tx:Tok}(hx:x.cps.all (·<128)=true):COk kt prog w b t fun b t c _=>prE "enumerate.__new__" [.type "enumerate",.str x tx] (.ref (b+1)) 0 [] [] [(b+1,enO b 0 .none .none),(b,siO x tx 0)] 2:=fun b' t' c l _ _=>by
  refine ⟨rfl,fun G A R s hr hi hfin=>?_⟩
  refine codeAny_call_builtin (by decide +kernel) F.entry_enumerate_new (wpAny_of_eq (F.newCall_enumerate_1 _) (meets_enumerate_newS x tx prog w A R s ?_))
  have e:strIterType x="str_ascii_iterator":=by unfold strIterType;rw [if_pos hx]
  rw [e]
  have a:=hi.alloc (o:=siO x tx 0) rfl
  have a2:=a.alloc (o:=enO b' 0 .none .none) rfl
  have:=hfin _ a2 (((Step.refl _ _).alloc _).alloc _) (fun q hq=>by
    rcases List.mem_cons.mp hq with rfl | hq
    · exact Nat.le_succ _
    · rw [List.mem_singleton.mp hq];exact Nat.le_refl _)
  have es:(s.heap.push { cls:=.type "str_ascii_iterator",data:=.fields #[.str x tx,.int 0 0] }).objs.size=b'+1:=by rw [Heap.size_push,hi.size]
  show R (.ok (.ret (.ref (s.heap.push { cls:=.type "str_ascii_iterator",data:=.fields #[.str x tx,.int 0 0] }).objs.size))) { s with heap:=(s.heap.push { cls:=.type "str_ascii_iterator",data:=.fields #[.str x tx,.int 0 0] }).push { cls:=.type "enumerate",data:=.fields #[.none,.bool false,.ref s.heap.objs.size,rawInt 0,.none,.none] } }
  rw [es,hi.size]
  exact this
end
noncomputable def enumSp (x:Str)(tx:Tok)(b t:Nat):Sp:=⟨8,.call (.type "enumerate") ⟨[.str x tx],[]⟩,[],.ok (.ret (.ref (b+1))),[],[(b+1,enO b 0 .none .none),(b,siO x tx 0)],2,0,0⟩
def enumRun (T:Params->KT)(prog:Program):Prop:=∀(x:Str)(tx:Tok)(b t:Nat),JobOk T prog (fun K P=>jobOf (enumSp x tx b t) (FD (enumSp x tx b t).c) [1,3,4,4,1,4,4] [cEnew x tx] [0,1]) b t
theorem enum_ok {T:Params->KT}{prog:Program}{w:World}(H:enumRun T prog)(x:Str)(tx:Tok)(b t:Nat)(hx:x.cps.all (·<128)=true):SpOk (T w.params) prog w (enumSp x tx b t) b t:=
  jobOf_ok (sp:=fun K P=>enumSp x tx b t) (C:=fun K P=>[cEnew x tx]) (H x tx b t) (.inl rfl) rfl (by decide) ⟨cEnew_ok hx,trivial⟩
noncomputable def enitSp (en:Addr)(o:Obj)(b t:Nat):Sp:=⟨8,.call (.builtin "enumerate.__iter__") ⟨[.ref en],[]⟩,[(en,o)],.ok (.ret (.ref en)),[o],[],0,0,0⟩
def enitRun (T:Params->KT)(prog:Program):Prop:=∀(en it:Addr)(i:Int)(old:Value)(b t:Nat),JobOk T prog (fun K P=>jobOf (enitSp en (enO it i old .none) b t) (FD (enitSp en (enO it i old .none) b t).c) [4,1] [] [0]) b t
theorem enit_ok {T:Params->KT}{prog:Program}{w:World}(H:enitRun T prog)(en it:Addr)(i:Int)(old:Value)(b t:Nat):SpOk (T w.params) prog w (enitSp en (enO it i old .none) b t) b t:=
  jobOf_ok (sp:=fun K P=>enitSp en (enO it i old .none) b t) (C:=fun K P=>[]) (H en it i old b t) (.inl rfl) rfl (by decide) trivial
noncomputable def tpitSp (tp:Addr)(o:Obj)(b t:Nat):Sp:=⟨8,.call (.builtin "tuple.__iter__") ⟨[.ref tp],[]⟩,[(tp,o)],.ok (.ret (.ref b)),[o],[(b,tiO (.ref tp) 0)],1,0,0⟩
def tpitRun (T:Params->KT)(prog:Program):Prop:=∀(tp:Addr)(v0 v1:Value)(b t:Nat),JobOk T prog (fun K P=>jobOf (tpitSp tp (tuO #[v0,v1]) b t) (FD (tpitSp tp (tuO #[v0,v1]) b t).c) [4,1] [] [0,1]) b t
theorem tpit_ok {T:Params->KT}{prog:Program}{w:World}(H:tpitRun T prog)(tp:Addr)(v0 v1:Value)(b t:Nat):SpOk (T w.params) prog w (tpitSp tp (tuO #[v0,v1]) b t) b t:=
  jobOf_ok (sp:=fun K P=>tpitSp tp (tuO #[v0,v1]) b t) (C:=fun K P=>[]) (H tp v0 v1 b t) (.inl rfl) rfl (by decide) trivial
noncomputable def tpn0Sp (a tp:Addr)(v0 v1:Value)(b t:Nat):Sp:=⟨8,.call (.builtin "tuple_iterator.__next__") ⟨[.ref a],[]⟩,[(a,tiO (.ref tp) 0),(tp,tuO #[v0,v1])],.ok (.ret v0),[tiO (.ref tp) 1,tuO #[v0,v1]],[],0,0,0⟩
def tpn0Run (T:Params->KT)(prog:Program):Prop:=∀(a tp:Addr)(v0 v1:Value)(b t:Nat),JobOk T prog (fun K P=>jobOf (tpn0Sp a tp v0 v1 b t) (FD (tpn0Sp a tp v0 v1 b t).c) [4,1,4,4,5,4,4] [] [0,1]) b t
theorem tpn0_ok {T:Params->KT}{prog:Program}{w:World}(H:tpn0Run T prog)(a tp:Addr)(v0 v1:Value)(b t:Nat):SpOk (T w.params) prog w (tpn0Sp a tp v0 v1 b t) b t:=
  jobOf_ok (sp:=fun K P=>tpn0Sp a tp v0 v1 b t) (C:=fun K P=>[]) (H a tp v0 v1 b t) (.inl rfl) rfl (by decide) trivial
noncomputable def tpn1Sp (a tp:Addr)(v0 v1:Value)(b t:Nat):Sp:=⟨8,.call (.builtin "tuple_iterator.__next__") ⟨[.ref a],[]⟩,[(a,tiO (.ref tp) 1),(tp,tuO #[v0,v1])],.ok (.ret v1),[tiO (.ref tp) 2,tuO #[v0,v1]],[],0,0,0⟩
def tpn1Run (T:Params->KT)(prog:Program):Prop:=∀(a tp:Addr)(v0 v1:Value)(b t:Nat),JobOk T prog (fun K P=>jobOf (tpn1Sp a tp v0 v1 b t) (FD (tpn1Sp a tp v0 v1 b t).c) [4,1,4,4,5,4,4] [] [0,1]) b t
theorem tpn1_ok {T:Params->KT}{prog:Program}{w:World}(H:tpn1Run T prog)(a tp:Addr)(v0 v1:Value)(b t:Nat):SpOk (T w.params) prog w (tpn1Sp a tp v0 v1 b t) b t:=
  jobOf_ok (sp:=fun K P=>tpn1Sp a tp v0 v1 b t) (C:=fun K P=>[]) (H a tp v0 v1 b t) (.inl rfl) rfl (by decide) trivial
noncomputable def tpnESp (a tp:Addr)(v0 v1:Value)(b t:Nat):Sp:=⟨8,.call (.builtin "tuple_iterator.__next__") ⟨[.ref a],[]⟩,[(a,tiO (.ref tp) 2),(tp,tuO #[v0,v1])],.error (.ref (b+1)),[tiO .none 2,tuO #[v0,v1]],[(b+1,exO b)],2,0,0⟩
def tpnERun (T:Params->KT)(prog:Program):Prop:=∀(a tp:Addr)(v0 v1:Value)(b t:Nat),JobOk T prog (fun K P=>jobOf (tpnESp a tp v0 v1 b t) (FD (tpnESp a tp v0 v1 b t).c) [4,1,4,4,5,4,4] [] [0,2,3]) b t
theorem tpnE_ok {T:Params->KT}{prog:Program}{w:World}(H:tpnERun T prog)(a tp:Addr)(v0 v1:Value)(b t:Nat):SpOk (T w.params) prog w (tpnESp a tp v0 v1 b t) b t:=
  jobOf_ok (sp:=fun K P=>tpnESp a tp v0 v1 b t) (C:=fun K P=>[]) (H a tp v0 v1 b t) (.inl rfl) rfl (by decide) trivial
abbrev nmAddr:Str:=Y53
abbrev nmPos:Str:=Y54
abbrev nmEsc:Str:=Y55
abbrev nmCh:Str:=Y18
abbrev g3F (P:Params)(k:Nat->Tok)(x:Str)(tx:Tok)(pv:Value):Obj:=frO #[ent P nmAddr (k 0) (.str x tx),ent P nmPos (k 1) pv,ent P nmEsc (k 2) (.bool false)] 3
abbrev g4F (P:Params)(k:Nat->Tok)(x:Str)(tx:Tok)(pv cv:Value):Obj:=frO #[ent P nmAddr (k 0) (.str x tx),ent P nmPos (k 1) pv,ent P nmEsc (k 2) (.bool false),ent P nmCh (k 3) cv] 4
noncomputable def outEnd (ks:List Nat):Option SOut->Option (Option Fin×List Ob×Option Led×Nat×Nat)
  | some o=>match o.t with
    | .pure f=>some (some f,o.xs,gets o.L ks,o.off,o.toff)
    | _=>none
  | none=>none
noncomputable def outEnd' (ks:List Nat)(f:Fin)(M:Led)(da dt:Nat):Option SOut->Option (Option Fin×List Ob×Option Led×Nat×Nat)
  | some o=>some (some f,o.ys,some M,da,dt)
  | none=>some (none,[],none,0,0)
noncomputable def g0H (x:Str)(tx:Tok)(b:Nat):List Hint:=hs [4,4,4,4,0,0,4,3,4,4,3,4] [.ctr [] (fun b t _ _=>enumSp x tx b t),.ctr [0] (fun b' t' _ _=>enitSp (b+1) (enO b 0 .none .none) b' t')]
noncomputable def g0run (x:Str)(tx:Tok)(fr:Addr)(k:Nat->Tok)(b t:Nat)(K:KT)(P:Params)(prog:Program):Option SOut:=
  runS K P prog b t 20 100000 (g0H x tx b) (FD (F35 K fr)) [(fr,frO #[ent P nmAddr (k 0) (.str x tx)] 1)] 0 0 [] []
noncomputable def gErun (x:Str)(tx:Tok)(fr:Addr)(k:Nat->Tok)(pv cv:Value)(T0:Sem Fin)(b t:Nat)(K:KT)(P:Params)(prog:Program):Option SOut:=
  runS K P prog b t 20 100000 (hs [4] []) T0 [(fr,g4F P k x tx pv cv)] 0 0 [] []
noncomputable def g0L (x:Str)(tx:Tok)(fr:Addr)(k k':Nat->Tok)(pv cv:Value)(b t b2 t2:Nat)(K:KT)(P:Params)(prog:Program):Option SOut->Option (Code×Option Value×Bool×List Ob×Option Led×Nat×Nat×Option (Option Fin×List Ob×Option Led×Nat×Nat))
  | some o=>match o.t with
    | .call c hd g _ kk=>some (c,hd,g,o.xs,gets o.L [0,1,2],o.off,o.toff,outEnd [0] (gErun x tx fr k' pv cv (kk (.ok .next)) b2 t2 K P prog))
    | _=>none
  | none=>none
noncomputable def g0R (x:Str)(tx:Tok)(fr:Addr)(k k':Nat->Tok)(pv cv:Value)(b t b2 t2:Nat)(K:KT)(P:Params)(prog:Program):Option SOut->Option (Code×Option Value×Bool×List Ob×Option Led×Nat×Nat×Option (Option Fin×List Ob×Option Led×Nat×Nat))
  | some o=>match o.t with
    | .call c hd g _ kk=>some (L35 K fr (b+1),none,false,o.ys,some [(b+1,enO b 0 .none .none),(b,siO x tx 0),(fr,g3F P (fun i=>([k 0,t+1,t+2]:List Tok).getD i 0) x tx (.int 0 t))],2,3,outEnd' [0] (.done (.ret .none)) [(fr,g4F P k' x tx pv cv)] 0 0 (gErun x tx fr k' pv cv (kk (.ok .next)) b2 t2 K P prog))
    | _=>some (default,none,false,[],none,0,0,none)
  | none=>some (default,none,false,[],none,0,0,none)
def g0Run (T:Params->KT)(prog:Program):Prop:=∀(x:Str)(tx:Tok)(fr:Addr)(k k':Nat->Tok)(pv cv:Value)(b t b2 t2:Nat)(Q:Params)(b1 b2':Bool),
  g0L x tx fr k k' pv cv b t b2 t2 (T (PR Q b1 b2')) (PR Q b1 b2') prog (g0run x tx fr k b t (T (PR Q b1 b2')) (PR Q b1 b2') prog)=g0R x tx fr k k' pv cv b t b2 t2 (T (PR Q b1 b2')) (PR Q b1 b2') prog (g0run x tx fr k b t (T (PR Q b1 b2')) (PR Q b1 b2') prog)
noncomputable def gTH (ch:Str)(tp:Addr)(v0 v1:Value):List Hint:=hs [5,5,5,3,4,4,3,4,3,4,3,4,6,6,6,6,6,6,3,6,6]
  [.ctr [1] (fun b t _ _=>tpitSp tp (tuO #[v0,v1]) b t),.ctr [0,2] (fun b t c l=>tpn0Sp (match l with | p::_=>p.1 | []=>0) tp v0 v1 b t),.ctr [0,2] (fun b t c l=>tpn1Sp (match l with | p::_=>p.1 | []=>0) tp v0 v1 b t),.ctr [0,2] (fun b t c l=>tpnESp (match l with | p::_=>p.1 | []=>0) tp v0 v1 b t),cEq ch Y19 false]
noncomputable abbrev gTree (K:KT)(fr en tp:Addr):Sem Fin:=turnT (tgOf (bodyOf K 35) 2) (.ref en) (bdOf (bodyOf K 35) 2) [] (e35 K fr) (.ref tp)
noncomputable def gTrun (F EO SO:Obj)(fr en si tp:Addr)(i:Int)(ti:Tok)(ch:Str)(tc:Tok)(b t:Nat)(K:KT)(P:Params)(prog:Program):Option SOut:=
  runS K P prog b t 20 100000 (gTH ch tp (.int i ti) (.str ch tc)) (gTree K fr en tp) [(fr,F),(tp,tuO #[.int i ti,.str ch tc]),(en,EO),(si,SO)] 0 0 [] []
noncomputable def gTL:Option SOut->Option (Value×Bool×Sem Fin×List Ob×Option Led×Nat×Nat)
  | some o=>match o.t with
    | .yield v g _ kk=>some (v,g,kk (.send .none),o.xs,gets o.L [0,3,5,6],o.off,o.toff)
    | _=>none
  | none=>none
noncomputable def gTR (F' EO SO:Obj)(fr en si:Addr)(i:Int)(ti:Tok)(ch:Str)(tc:Tok)(b t:Nat)(K:KT):Option SOut->Option (Value×Bool×Sem Fin×List Ob×Option Led×Nat×Nat)
  | some o=>some (.ref (b+3),false,.pure (.again (L35 K fr en)),o.ys,some [(b+3,tuO #[.int i ti,.str ch tc]),(fr,F'),(en,EO),(si,SO)],4,3)
  | none=>some (.none,false,.pure (.done .next),[],none,0,0)
def gT3Run (T:Params->KT)(prog:Program):Prop:=∀(EO SO:Obj)(x:Str)(tx:Tok)(fr en si tp:Addr)(k:Nat->Tok)(pv:Value)(i:Int)(ti:Tok)(ch:Str)(tc:Tok)(b t:Nat)(Q:Params)(b1 b2:Bool),
  gTL (gTrun (g3F (PR Q b1 b2) k x tx pv) EO SO fr en si tp i ti ch tc b t (T (PR Q b1 b2)) (PR Q b1 b2) prog)=gTR (g4F (PR Q b1 b2) (fun j=>match j with | 3=>t+1 | j=>k j) x tx (.int i ti) (.str ch tc)) EO SO fr en si i ti ch tc b t (T (PR Q b1 b2)) (gTrun (g3F (PR Q b1 b2) k x tx pv) EO SO fr en si tp i ti ch tc b t (T (PR Q b1 b2)) (PR Q b1 b2) prog)
def gT4Run (T:Params->KT)(prog:Program):Prop:=∀(EO SO:Obj)(x:Str)(tx:Tok)(fr en si tp:Addr)(k:Nat->Tok)(pv cv:Value)(i:Int)(ti:Tok)(ch:Str)(tc:Tok)(b t:Nat)(Q:Params)(b1 b2:Bool),
  gTL (gTrun (g4F (PR Q b1 b2) k x tx pv cv) EO SO fr en si tp i ti ch tc b t (T (PR Q b1 b2)) (PR Q b1 b2) prog)=gTR (g4F (PR Q b1 b2) k x tx (.int i ti) (.str ch tc)) EO SO fr en si i ti ch tc b t (T (PR Q b1 b2)) (gTrun (g4F (PR Q b1 b2) k x tx pv cv) EO SO fr en si tp i ti ch tc b t (T (PR Q b1 b2)) (PR Q b1 b2) prog)
section
variable {kt:KT}{prog:Program}{w:World}{b t:Nat}
noncomputable abbrev cSn (si:Addr)(x:Str)(tx:Tok)(i z:Nat)(d:Nat):Hint:=.ctr [d] fun _ t _ _=>prE "str_ascii_iterator.__next__" [.ref si] (.str ⟨#[z]⟩ t) 1 [(si,siO x tx i)] [siO x tx (i+1)] [] 0
theorem cSn_ok {si:Addr}{x:Str}{tx:Tok}{i z:Nat}(hz:x.cps[i]?=some z):COk kt prog w b t fun _ t _ _=>prE "str_ascii_iterator.__next__" [.ref si] (.str ⟨#[z]⟩ t) 1 [(si,siO x tx i)] [siO x tx (i+1)] [] 0:=fun b' t' c l _ _=>by
  refine ⟨rfl,fun G A R s hr hi hfin=>?_⟩
  have ho:=hi.has _ List.mem_cons_self
  refine codeAny_call_builtin F.slot_str_ascii_iterator_next.plain F.entry_str_ascii_iterator_next (F.slot_str_ascii_iterator_next.check _ _ _ _ _ _ _ _ ⟨_,ho,rfl⟩ (F.args_str_ascii_iterator_next_1 _) ?_)
  show wpAny _ _ (field (.ref si) 0 >>= _) _ _ s
  refine wpAny_bind (wpAny_field ho rfl (x:=.str x tx) rfl ?_)
  show wpAny _ _ (field (.ref si) 1 >>= _) _ _ s
  refine wpAny_bind (wpAny_field ho rfl (x:=.int i 0) rfl ?_)
  simp only [Int.toNat_natCast,hz]
  have I2:=hi.upd0 (f:=Obj.mapFields (·.setIfInBounds 1 (rawInt (i+1)))) (o':=siO x tx (i+1)) rfl rfl
  have S2:=(Step.refl [si] s).upd List.mem_cons_self (Obj.mapFields (·.setIfInBounds 1 (rawInt (i+1))))
  have fin:=hfin _ (I2.toks' (t'+1)) (S2.toks _) (fun _ h=>by cases h)
  refine wpAny_bind (wpAny_setField ho rfl (by simp) (wpAny_bind (wpAny_mkStr (wpAny_pure ?_))))
  have et:=I2.toks
  simp only at et
  rw [et]
  exact fin
noncomputable abbrev cSe (si:Addr)(x:Str)(tx:Tok)(i:Nat)(d:Nat):Hint:=.ctr [d] fun b _ _ _=>⟨0,.call (.builtin "str_ascii_iterator.__next__") ⟨[.ref si],[]⟩,[(si,siO x tx i)],.error (.ref (b+1)),[⟨.type "str_ascii_iterator",none,.fields #[.none,.int i 0],#[]⟩],[(b+1,exO b)],2,0,0⟩
theorem cSe_ok {si:Addr}{x:Str}{tx:Tok}{i:Nat}(hz:x.cps[i]?=none):COk kt prog w b t fun b _ _ _=>⟨0,.call (.builtin "str_ascii_iterator.__next__") ⟨[.ref si],[]⟩,[(si,siO x tx i)],.error (.ref (b+1)),[⟨.type "str_ascii_iterator",none,.fields #[.none,.int i 0],#[]⟩],[(b+1,exO b)],2,0,0⟩:=fun b' t' c l _ _=>by
  refine ⟨rfl,fun G A R s hr hi hfin=>?_⟩
  have ho:=hi.has _ List.mem_cons_self
  refine codeAny_call_builtin F.slot_str_ascii_iterator_next.plain F.entry_str_ascii_iterator_next (F.slot_str_ascii_iterator_next.check _ _ _ _ _ _ _ _ ⟨_,ho,rfl⟩ (F.args_str_ascii_iterator_next_1 _) ?_)
  show wpAny _ _ (field (.ref si) 0 >>= _) _ _ s
  refine wpAny_bind (wpAny_field ho rfl (x:=.str x tx) rfl ?_)
  show wpAny _ _ (field (.ref si) 1 >>= _) _ _ s
  refine wpAny_bind (wpAny_field ho rfl (x:=.int i 0) rfl ?_)
  simp only [Int.toNat_natCast,hz]
  have I2:=hi.upd0 (f:=Obj.mapFields (·.setIfInBounds 0 .none)) (o':=⟨.type "str_ascii_iterator",none,.fields #[.none,.int i 0],#[]⟩) rfl rfl
  have S2:=(Step.refl [si] s).upd List.mem_cons_self (Obj.mapFields (·.setIfInBounds 0 .none))
  have I5:=I2.alloc (o:=tuO #[]) rfl
  have I6:=I5.alloc (o:=exO b') rfl
  have fin:=hfin _ (I6.sub (L':=(b'+1,exO b')::_) (fun q hq=>?_) ?_) ((S2.alloc _).alloc _) (fun q hq=>?_)
  · refine wpAny_bind (wpAny_rule (wpAny_bind (wpAny_setField ho rfl (by simp) (wpAny_bind (wpAny_letGo ?_)))))
    show wpAny _ _ (newExc (.type "StopIteration") [] >>= fun e=>(raiseNew e:Sem Fin)) _ _ _
    refine wpAny_bind ?_
    simp only [newExc,newTuple]
    refine wpAny_bind (wpAny_newObj_type ?_ (by size_fits))
    refine wpAny_bind (m:=firstArgMember _ _) (wpAny_of_eq (a:=Value.none) (by first | rfl | (simp only [firstArgMember];rfl)) ?_)
    refine wpAny_newObj_type ?_ (by size_fits)
    refine wpAny_raiseNew_none hr.handled ?_
    have esz:∀(h:Heap) o,(h.push o).objs.size=h.objs.size+1:=Heap.size_push
    have e4:=I2.size
    simp only [esz] at fin ⊢
    rw [e4]
    exact fin
  · rcases List.mem_cons.mp hq with rfl | hq
    · exact List.mem_cons_self
    · exact List.mem_cons_of_mem _ (List.mem_cons_of_mem _ hq)
  · have nd:=I6.nd
    rw [List.map_cons,List.map_cons] at nd
    have a:=List.nodup_cons.mp nd
    exact List.nodup_cons.mpr ⟨fun m=>a.1 (List.mem_cons_of_mem _ m),(List.nodup_cons.mp a.2).2⟩
  · rw [List.mem_singleton.mp hq];exact Nat.le_add_right ..
end
noncomputable abbrev gNtree (en:Addr):Sem Fin:=PySem.W.R.bindR (PySem.W.Fast.tw9404975358583537561 (.ref en)) fun r=>match r with
  | some v=>.pure (.done (.ret v))
  | none=>.pure (.done .next)
noncomputable def gN1J (x:Str)(tx:Tok)(en si:Addr)(i z:Nat)(old:Value)(fr:Addr)(F:Obj)(c:Code)(b t:Nat):Job:=
  ⟨20,c,gNtree en,[(en,enO si i old .none),(si,siO x tx i),(fr,F)],hs [4,1,4,4,5,3,4,4,4,4,4,4,5,5,5,5,5,5,5,5] [cSn si x tx i z 1],[0,1,2,3],.ok (.done (.ret (.ref b))),[(b,tuO #[.int i (t+1),.str ⟨#[z]⟩ t]),(en,enO si (i+1) (.str ⟨#[z]⟩ t) (rawInt b)),(si,siO x tx (i+1)),(fr,F)],1,2,0⟩
noncomputable def gN0J (x:Str)(tx:Tok)(en si:Addr)(i:Nat)(old:Value)(fr:Addr)(F:Obj)(c:Code)(b t:Nat):Job:=
  ⟨20,c,gNtree en,[(en,enO si i old .none),(si,siO x tx i),(fr,F)],hs [4,1,4,4,5,3,4] [cSe si x tx i 1],[3],.ok (.done .next),[(fr,F)],2,0,0⟩
def gN1Run (T:Params->KT)(prog:Program):Prop:=∀(x:Str)(tx:Tok)(en si fr:Addr)(i z:Nat)(old:Value)(F:Obj)(b t:Nat),JobOk T prog (fun K P=>gN1J x tx en si i z old fr F (L35 K fr en) b t) b t
def gN0Run (T:Params->KT)(prog:Program):Prop:=∀(x:Str)(tx:Tok)(en si fr:Addr)(i:Nat)(old:Value)(F:Obj)(b t:Nat),JobOk T prog (fun K P=>gN0J x tx en si i old fr F (L35 K fr en) b t) b t
noncomputable def isTup:Expr->Bool
  | .Tuple _ _ _=>true
  | _=>false
theorem isTup_ex {e:Expr}(h:isTup e=true):∃elts x1 pos,e=.Tuple elts x1 pos:=by
  unfold isTup at h
  split at h
  · exact ⟨_,_,_,rfl⟩
  · cases h
def forOk (K:KT):Prop:=(∀fr en,L35 K fr en=.forLoop (tgOf (bodyOf K 35) 2) (.ref en) (bdOf (bodyOf K 35) 2) [] (e35 K fr))/\isTup (tgOf (bodyOf K 35) 2)=true
noncomputable def segA (A:Around)(fs:List Frame):Around:=⟨(marksOver fs (A.handled,A.handled)).1,A.depth+frameCount (fs.map Frame.where_),pushEnvs (envsOf (fs.map Frame.where_)) A.frames,pushGuards (guardsOf (fs.map Frame.where_)) A.guards,A.units+PySem.unitsOf (fs.map Frame.where_)⟩
theorem segA_under (A:Around)(fs:List Frame)(c:Code):(segA A fs).under c=A.over c fs:=rfl
theorem segA_nil {n:Nat}{A:Around}(h:Room n A):Room n (segA A []):=⟨h.handled,h.depth,h.units⟩
theorem segA_one {n:Nat}{A:Around}{kk g l c p kp}(h:Room (n+1) A)(hc:cl c=false):Room n (segA A [.ret kk none g l c p kp]):=by
  have w:=weight_le (c:=c) (by rw [cl_eq];exact hc)
  have u:=units_le c
  refine ⟨h.handled,?_,?_⟩
  · show A.depth+frameCount [(c,p)]+6*n<1000
    have:=h.depth
    rw [frameCount_cons,show frameCount []=0 from rfl]
    omega
  · show A.units+PySem.unitsOf [(c,p)]+11*n<9900
    have:=h.units
    rw [unitsOf_cons,show PySem.unitsOf []=0 from rfl]
    omega
section
variable {prog:Program}{w:World}
theorem zc_wp {B:Around}{Q:Fin->Shared->Prop}{E:Value->Shared->Prop}:Zc prog w B (fun t s=>wpAny (model prog w) B t Q E s) where
  bind:=fun m k s h=>wpAny_bind (m:=m) (f:=k) (h E)
  point:=fun l k s z=>fun Γ p hΓ=>z Γ p hΓ
  call:=fun c g l k s h=>y_start _ _ _ _ _ _ s c none g l k (by intro e;cases e) h
theorem zc_seg {A:Around}{c:Code}{fs:List Frame}{P:End->Shared->Prop}:Zc prog w (A.over c fs) (fun t s=>SegX (model prog w) A c t fs s P) where
  bind:=fun m k s h=>by
    show SegX _ A c (m.bind k) fs s P
    rw [Sem.bind_eq_wrap]
    exact s_cmd prog w A c fs P (h _)
  point:=fun l k s z=>s_skim prog w A c fs P s (.point l k) 1 z
  call:=fun c' g l k s h=>by
    have:SegX (model prog w) A c ((Sem.call c' none g l Sem.pure).wrap k .raise id id) fs s P:=
      s_cmd prog w A c fs P (m:=Sem.call c' none g l Sem.pure) (k:=k) (y_start _ _ _ _ _ _ s c' none g l _ (by intro e;cases e) (codeAny_mono h fun r s' h'=>wpAny_pure h'))
    exact this
theorem s_wrap {α:Type}{A:Around}{c:Code}{fs:List Frame}{P:End->Shared->Prop}{m:Sem α}{K:α->Sem Fin}{H:Value->Sem Fin}{gd lv}{s:Shared}
    (h:wpAny (model prog w) (A.over c fs) m (fun a s'=>SegX (model prog w) A c (K a) fs s' P) (fun x s'=>SegX (model prog w) A c (H x) fs s' P) s):SegX (model prog w) A c (m.wrap K H gd lv) fs s P:=by
  rintro Γ p rfl hΓ
  obtain ⟨e,s',hr,hq⟩:=runs_wrap_of_wp (Φ:=fun e s'=>e.quiet=true/\P e s') K H gd lv m (h (Γ.over fs) p (hΓ.over fs)) (fun a p' s' h'=>h' Γ p' rfl hΓ) (fun x p' s' h'=>h' Γ p' rfl hΓ)
  exact ⟨e,s',hr,hq⟩
theorem SameBut_inv {kt:KT}{s:Shared}{L:Led}{e:Addr}{o o':Obj}{h':Heap}{sz tk:Nat}{G:Array GenState}(I:Inv kt s ((e,o)::L) sz tk G)(hs:Heap.SameBut e s.heap h')(he:h'.get? e=some o'):Inv kt { s with heap:=h' } ((e,o')::L) sz tk G where
  base:=fun a x h1 h2=>(hs.2 a fun z=>by
    have:=I.off _ List.mem_cons_self
    rw [z] at h1;rw [h1] at this;cases this).trans (I.base a x h1 h2)
  gens:=I.gens
  has:=fun p hp=>by
    rcases List.mem_cons.mp hp with rfl | hp
    · exact he
    · refine (hs.2 p.1 fun z=>?_).trans (I.has p (List.mem_cons_of_mem _ hp))
      have:=(List.nodup_cons.mp I.nd).1
      exact this (List.mem_map.mpr ⟨p,hp,z⟩)
  nd:=I.nd
  off:=fun p hp=>by
    rcases List.mem_cons.mp hp with rfl | hp
    · exact I.off (e,o) List.mem_cons_self
    · exact I.off p (List.mem_cons_of_mem _ hp)
  size:=by rw [<- I.size];exact hs.1
  toks:=I.toks
  big:=I.big
theorem Step.same {X:List Addr}{s0 s:Shared}(h:Step X s0 s){a:Addr}{h':Heap}(ha:a∈X)(hs:Heap.SameBut a s.heap h'):Step X s0 { s with heap:=h' }:=by
  refine ⟨fun x o h1 h2=>?_,h.os,by show _<=h'.objs.size;rw [hs.1];exact h.grow⟩
  exact (hs.2 x fun z=>h1 (z▸ha)).trans (h.keep x o h1 h2)
theorem Inv.perm {kt:KT}{s:Shared}{L L':Led}{sz tk:Nat}{G:Array GenState}(I:Inv kt s L sz tk G)(h:L.Perm L'):Inv kt s L' sz tk G:=
  I.sub (fun p hp=>h.mem_iff.mpr hp) ((h.map (·.1)).nodup_iff.mp I.nd)
end
section
variable {T:Params->KT}{prog:Program}{w:World}
theorem gen_yield {K:KT}{F F' EO SO:Obj}{fr en si tp:Addr}{i:Int}{ti:Tok}{ch:Str}{tc:Tok}{b t:Nat}
    (heq:gTL (gTrun F EO SO fr en si tp i ti ch tc b t K w.params prog)=gTR F' EO SO fr en si i ti ch tc b t K (gTrun F EO SO fr en si tp i ti ch tc b t K w.params prog))
    (h1:∀tp v0 v1 b t,SpOk K prog w (tpitSp tp (tuO #[v0,v1]) b t) b t) (h2:∀a tp v0 v1 b t,SpOk K prog w (tpn0Sp a tp v0 v1 b t) b t) (h3:∀a tp v0 v1 b t,SpOk K prog w (tpn1Sp a tp v0 v1 b t) b t) (h4:∀a tp v0 v1 b t,SpOk K prog w (tpnESp a tp v0 v1 b t) b t)
    (hch:eqS ch Y19=false) {A:Around} {fs:List Frame} {P:End->Shared->Prop} {G:Array GenState} {s:Shared} (hr:Room 21 (segA A fs)) (hcl:cl (L35 K fr en)=false) (hf1:splitAtGen fs=none) (hf2:fs.any Frame.guarded=false)
    (hi:Inv K s [(fr,F),(tp,tuO #[.int i ti,.str ch tc]),(en,EO),(si,SO)] b t G)
    (hfin:∀s' l k p,Inv K s' [(b+3,tuO #[.int i ti,.str ch tc]),(fr,F'),(en,EO),(si,SO)] (b+4) (t+3) G->Step [fr,tp,en,si] s s'->k (.send .none)=.pure (.again (L35 K fr en))->P (.susp (.ref (b+3)) false l k (L35 K fr en) p fs) s') :
    SegX (model prog w) A (L35 K fr en) (gTree K fr en tp) fs s P:=by
  generalize hx:gTrun F EO SO fr en si tp i ti ch tc b t K w.params prog=x at heq
  cases x with
  | none=>cases heq
  | some o=>
    unfold gTrun at hx
    simp only [gTL,gTR] at heq
    split at heq
    · rename_i v g l kk e
      simp only [Option.some.injEq,Prod.mk.injEq] at heq
      obtain ⟨e1,e2,e3,e4,e5,e6,e7⟩:=heq
      refine runS_sound (s0:=s) (X:=[fr,tp,en,si]) (G:=G) hi.size (zc_seg (A:=A) (c:=L35 K fr en) (fs:=fs) (P:=P)) (hr.call hcl) 100000 _ _ _ _ _ _ _ o hx e4 (fun ds sp hm=>(hs_ok _ (C:=[.ctr [1] (fun b t _ _=>tpitSp tp (tuO #[.int i ti,.str ch tc]) b t),.ctr [0,2] (fun b t c l=>tpn0Sp (match l with | p::_=>p.1 | []=>0) tp (.int i ti) (.str ch tc) b t),.ctr [0,2] (fun b t c l=>tpn1Sp (match l with | p::_=>p.1 | []=>0) tp (.int i ti) (.str ch tc) b t),.ctr [0,2] (fun b t c l=>tpnESp (match l with | p::_=>p.1 | []=>0) tp (.int i ti) (.str ch tc) b t),cEq ch Y19 false]) ⟨fun b' t' c l _ _=>h1 ..,fun b' t' c l _ _=>h2 ..,fun b' t' c l _ _=>h3 ..,fun b' t' c l _ _=>h4 ..,cEq_ok hch,trivial⟩).all ds sp hm) s hi (Step.refl _ _) ⟨[],rfl,fun _ h=>by cases h⟩ fun s' I S O=>?_
      rw [e]
      have I':=I.part (ds:=[0,3,5,6]) rfl e5
      rw [e6,e7] at I'
      rw [e1,e2]
      exact s_yield prog w A (L35 K fr en) fs P s' (.ref (b+3)) l kk hf1 hf2 fun p=>hfin s' l kk p I' S e3
    · cases heq
end
theorem Step.weak {X Y:List Addr}{s s':Shared}(h:Step X s s')(hY:∀a∈X,a∈Y):Step Y s s':=⟨fun a o ha ho=>h.keep a o (fun m=>ha (hY a m)) ho,h.os,h.grow⟩
theorem turnT_eq (tg:Expr)(it:Value)(bd el:List Stmt)(env:Env)(v:Value):turnT tg it bd el env v=(assign tg env v >>= fun _=>execs bd env >>= fun f=>match f with
    | .next | .cont=>again (.forLoop tg it bd el env)
    | .brk=>pure (.done .next)
    | .ret v=>pure (.done (.ret v))).onRaise (fun x=>do noteFrame x env;theTreesLotGoes x):=by
  unfold turnT
  rw [<- PySem.W.R.onRaiseR_eq,<- PySem.W.R.bindR_eq,<- PySem.W.Fast.te17772580674575903948,<- PySem.W.Fast.te12563942051412417395]
  refine congrArg (fun m=>Sem.onRaise m _) ?_
  show Sem.bind _ _=Sem.bind _ _
  refine congrArg (Sem.bind _) (funext fun _=>congrArg (Sem.bind _) (funext fun f=>?_))
  cases f<;>rfl
theorem gNtree_eq (en:Addr):gNtree en=pyNext (.ref en) >>= fun r=>Sem.pure (match r with | some v=>.done (.ret v) | none=>.done .next):=by
  unfold gNtree
  rw [<- PySem.W.R.bindR_eq,<- PySem.W.Fast.te9404975358583537561]
  refine congrArg (Sem.bind _) (funext fun r=>?_)
  cases r<;>rfl
section
variable {T:Params->KT}{prog:Program}{w:World}
theorem gen_item (HN:gN1Run T prog)(HF:forOk (T w.params)){x:Str}{tx:Tok}{fr en si:Addr}{i z:Nat}{old:Value}{F:Obj}{b t:Nat}(hz:x.cps[i]?=some z)
    {A:Around} {fs:List Frame} {P:End->Shared->Prop} {G:Array GenState} {s:Shared} (hr:Room 22 (segA A fs)) (hcl:cl (L35 (T w.params) fr en)=false)
    (hi:Inv (T w.params) s [(fr,F),(en,enO si i old .none),(si,siO x tx i)] b t G)
    (hy:∀s',Inv (T w.params) s' [(fr,F),(b,tuO #[.int i (t+1),.str ⟨#[z]⟩ t]),(en,enO si (i+1) (.str ⟨#[z]⟩ t) .none),(si,siO x tx (i+1))] (b+1) (t+2) G->Step [fr,en,si] s s'->SegX (model prog w) A (L35 (T w.params) fr en) (gTree (T w.params) fr en b) fs s' P) :
    SegX (model prog w) A (L35 (T w.params) fr en) (denote table (L35 (T w.params) fr en)) fs s P:=by
  refine cps fun Gp kp=>?_
  obtain ⟨elts,x1,pos,htg⟩:=isTup_ex HF.2
  refine kp ?_
  have hd:denote table (L35 (T w.params) fr en)=(forTurn (tgOf (bodyOf (T w.params) 35) 2) (.ref en) (bdOf (bodyOf (T w.params) 35) 2) [] (e35 (T w.params) fr)).onRaise (fun x=>do noteFrame x (e35 (T w.params) fr);theTreesLotGoes x):=by
    rw [HF.1 fr en];rfl
  rw [hd,Sem.onRaise_eq_wrap]
  unfold forTurn
  rw [Sem.bind_eq_wrap',Sem.wrap_wrap]
  refine s_wrap (wpAny_standAt ?_)
  rw [Sem.bind_eq_wrap',Sem.wrap_wrap]
  refine s_wrap (wpAny_onRaise ?_)
  have h':=HN x tx en si fr i z old F b t w.params (w.params.followText "special-get-raises") (w.params.followText "comprehension-iter-twice")
  rw [PR_eq] at h'
  rw [<- segA_under]
  refine run_tree (m:=pyNext (.ref en)) (enc:=fun r=>match r with | some v=>.done (.ret v) | none=>.done .next) (A:=segA A fs) h' (gNtree_eq en) (show nodupB [0,1,2,3]=true by decide) (fun ds q hm=>(hs_ok _ (C:=[cSn si x tx i z 1]) ⟨cSn_ok hz,trivial⟩).all ds q hm) (hr.mono (show 20<=22 by decide)) (hi.perm (List.perm_append_comm (l₁:=[(fr,F)]))) (fun s1 I1 S1 N1=>?_) (fun c h=>by cases h) (fun a c h=>by cases a<;>cases h)
  intro a ha
  cases a with
  | none=>cases ha
  | some v=>
    injection ha with ha;injection ha with ha
    subst ha
    show SegX _ A _ ((letOwnedTupleGo _ (.ref en) (.ref b) >>= _).wrap _ _ _ _) fs s1 P
    rw [Sem.bind_eq_wrap',Sem.wrap_wrap]
    refine s_wrap ?_
    have I1':Inv (T w.params) s1 [(b,tuO #[.int i (t+1),.str ⟨#[z]⟩ t]),(en,enO si (i+1) (.str ⟨#[z]⟩ t) (rawInt b)),(si,siO x tx (i+1)),(fr,F)] (b+1) (t+2) G:=I1
    have S1':Step [en,si,fr] s s1:=S1
    have I2:=I1'.perm (L':=(en,enO si (i+1) (.str ⟨#[z]⟩ t) (rawInt b))::[(b,tuO #[.int i (t+1),.str ⟨#[z]⟩ t]),(si,siO x tx (i+1)),(fr,F)]) (List.Perm.swap _ _ _)
    rw [htg]
    refine wpAny_letOwnedTupleGo_enum (I2.has _ List.mem_cons_self) fun h3 he3 hs3=>?_
    have I3:=SameBut_inv I2 hs3 he3
    have S3:=(S1'.same (a:=en) (by simp) hs3)
    have z:=hy _ (I3.perm (L':=[(fr,F),(b,tuO #[.int i (t+1),.str ⟨#[z]⟩ t]),(en,enO si (i+1) (.str ⟨#[z]⟩ t) .none),(si,siO x tx (i+1))]) ?_) ?_
    · rw [<- htg]
      rw [show (gTree (T w.params) fr en b)=_ from turnT_eq ..,Sem.onRaise_eq_wrap] at z
      exact z
    · exact (List.perm_append_comm (l₁:=[(en,enO si (i+1) (.str ⟨#[z]⟩ t) .none),(b,tuO #[.int i (t+1),.str ⟨#[z]⟩ t]),(si,siO x tx (i+1))]) (l₂:=[(fr,F)])).trans (List.Perm.cons _ (List.Perm.swap _ _ _))
    · exact S3.weak (by simp)
def FrEnd (K:KT)(P:Params)(prog:Program)(x:Str)(tx:Tok)(fr:Addr)(kk:Result->Sem Fin):Prop:=∀(k':Nat->Tok)(pv cv:Value)(b2 t2:Nat),
  outEnd [0] (gErun x tx fr k' pv cv (kk (.ok .next)) b2 t2 K P prog)=outEnd' [0] (.done (.ret .none)) [(fr,g4F P k' x tx pv cv)] 0 0 (gErun x tx fr k' pv cv (kk (.ok .next)) b2 t2 K P prog)
theorem gen_end (HN:gN0Run T prog)(HF:forOk (T w.params)){x:Str}{tx:Tok}{fr en si:Addr}{i:Nat}{old:Value}{k:Nat->Tok}{pv cv:Value}{b t:Nat}(hz:x.cps[i]?=none){kk:Result->Sem Fin}(hk:FrEnd (T w.params) w.params prog x tx fr kk)
    {A:Around} {g:Bool} {l:List Value} {p:Pos} {kp:List Value} {P:End->Shared->Prop} {G:Array GenState} {s:Shared} (hr:Room 22 (segA A [.ret kk none g l (F35 (T w.params) fr) p kp])) (hr0:Room 22 A) (hcl:cl (L35 (T w.params) fr en)=false) (hcf:cl (F35 (T w.params) fr)=false) (hqb:∀e,(Code.block [] e).quiet=true)
    (hi:Inv (T w.params) s [(fr,g4F w.params k x tx pv cv),(en,enO si i old .none),(si,siO x tx i)] b t G)
    (hy:∀s',Inv (T w.params) s' [(fr,g4F w.params k x tx pv cv)] (b+2) t G->Step [fr,en,si] s s'->P (.ret (.ok (.ret .none))) s') :
    SegX (model prog w) A (L35 (T w.params) fr en) (denote table (L35 (T w.params) fr en)) [.ret kk none g l (F35 (T w.params) fr) p kp] s P:=by
  have hd:denote table (L35 (T w.params) fr en)=(forTurn (tgOf (bodyOf (T w.params) 35) 2) (.ref en) (bdOf (bodyOf (T w.params) 35) 2) [] (e35 (T w.params) fr)).onRaise (fun x=>do noteFrame x (e35 (T w.params) fr);theTreesLotGoes x):=by
    rw [HF.1 fr en];rfl
  rw [hd,Sem.onRaise_eq_wrap]
  unfold forTurn
  rw [Sem.bind_eq_wrap',Sem.wrap_wrap]
  refine s_wrap (wpAny_standAt ?_)
  rw [Sem.bind_eq_wrap',Sem.wrap_wrap]
  refine s_wrap (wpAny_onRaise ?_)
  have h':=HN x tx en si fr i old (g4F w.params k x tx pv cv) b t w.params (w.params.followText "special-get-raises") (w.params.followText "comprehension-iter-twice")
  rw [PR_eq] at h'
  rw [<- segA_under]
  refine run_tree (m:=pyNext (.ref en)) (enc:=fun r=>match r with | some v=>.done (.ret v) | none=>.done .next) (A:=segA A _) h' (gNtree_eq en) (show nodupB [3]=true by decide) (fun ds q hm=>(hs_ok _ (C:=[cSe si x tx i 1]) ⟨cSe_ok hz,trivial⟩).all ds q hm) (hr.mono (show 20<=22 by decide)) (hi.perm (List.perm_append_comm (l₁:=[(fr,g4F w.params k x tx pv cv)]))) (fun s1 I1 S1 N1=>?_) (fun c h=>by cases h) (fun a c h=>by cases a<;>cases h)
  intro a ha
  cases a with
  | some v=>cases ha
  | none=>
    have I1':Inv (T w.params) s1 [(fr,g4F w.params k x tx pv cv)] (b+2) t G:=I1
    have S1':Step [en,si,fr] s s1:=S1
    show SegX _ A _ (.pure (.again (.block [] (e35 (T w.params) fr)))) _ s1 P
    refine s_again prog w A _ _ P s1 _ (hqb _) ?_
    show SegX _ A _ (.pure (.done .next)) _ s1 P
    refine s_pop prog w A _ _ P s1 (.ok .next) _ rfl kk none g l _ p kp ?_
    have he:=hk k pv cv (b+2) t
    generalize hx:gErun x tx fr k pv cv (kk (.ok .next)) (b+2) t (T w.params) w.params prog=y at he
    cases y with
    | none=>cases he
    | some o=>
      unfold gErun at hx
      simp only [outEnd,outEnd'] at he
      split at he
      · rename_i f e
        simp only [Option.some.injEq,Prod.mk.injEq] at he
        refine cps fun Gp kp=>?_
        obtain ⟨e1,e4,e5,e6,e7⟩:=he
        refine kp ?_
        refine runS_sound (s0:=s1) (X:=[fr]) (G:=G) I1'.size (zc_seg (A:=A) (c:=F35 (T w.params) fr) (fs:=[]) (P:=P)) ((segA_nil hr0).call hcf |>.mono (show 20<=21 by decide)) 100000 _ _ _ _ _ _ _ o hx e4 (fun ds sp hm=>(hs_ok _ (C:=[]) trivial).all ds sp hm) s1 I1' (Step.refl _ _) ⟨[],rfl,fun _ h=>by cases h⟩ fun s2 I S O=>?_
        have I':=I.part (ds:=[0]) rfl e5
        rw [e6,e7] at I'
        rw [e,e1]
        refine s_end prog w A _ P s2 (.ok (.ret .none)) _ rfl (hy s2 I' ?_)
        exact ((S1'.weak (Y:=[fr,en,si]) (by simp)).trans S hi.size (fun a ha=>.inl (by simp at ha ⊢;exact .inl ha)))
      · cases he
end
noncomputable abbrev geO (gz:Nat)(nm qn:Value):Obj:=⟨.type "generator",none,.fields #[.int gz 0,nm,qn],#[]⟩
noncomputable def isNoLim (K:KT):Bool:=match K.get 2 with
  | some o=>match o.data with
    | .dict es _=>es.isEmpty
    | _=>false
  | none=>false
theorem Inv.noLimit {kt:KT}{s:Shared}{L:Led}{sz tk:Nat}{G:Array GenState}(I:Inv kt s L sz tk G)(h:isNoLim kt=true):s.heap.NoLimit:=by
  unfold isNoLim at h
  split at h
  · rename_i o e
    split at h
    · rename_i es n e2
      have he:es=#[]:=by simpa using h
      subst he
      exact ⟨fun _=>none,⟨o,#[],n,I.base 2 o rfl e,e2,by intro e he;simp at he,fun name=>rfl⟩,rfl⟩
    · cases h
  · cases h
def wkQ (Q:Option Value->Shared->Prop)(gz:Nat):End->Shared->Prop:=fun e s₁=>match e with
  | .susp v g l k c p fs=>Q (some v) (s₁.setGen gz (.suspended k l c p fs (g||fs.any Frame.guarded)))
  | .ret r=>r=Except.ok (Flow.ret .none)/\Q none { s₁.setGen gz .finished with heap:=(s₁.heap.push (tuO #[])).push (exO s₁.heap.objs.size) }
section
variable {prog:Program}{w:World}
theorem pyNext_wake {A:Around}{Q:Option Value->Shared->Prop}{E:Value->Shared->Prop}{s:Shared}{ge gz:Nat}{nm qn:Value}{gs:GenState}{c₀:Code}{t₀:Sem Fin}{fs₀:List Frame}(hh:A.handled=none)
    (hl:s.heap.NoLimit) (hroom:A.depth<recursionLimit) (ho:s.heap.get? ge=some (geO gz nm qn)) (hgs:s.gens[gz]?=some gs)
    (hw:(gs=.fresh c₀/\t₀=denote table c₀/\fs₀=[])∨(∃k₀ l₀ p₀ cl,gs=.suspended k₀ l₀ c₀ p₀ fs₀ cl/\t₀=k₀ (.send .none)))
    (x:SegX (model prog w) A.in1 c₀ t₀ fs₀ (s.setGen gz .running) (wkQ Q gz)) :
    wpAny (model prog w) A (pyNext (.ref ge)) Q E s:=by
  have hg:s.heap.IsGen ge gz:=⟨_,nm,qn,ho,rfl,rfl,rfl⟩
  unfold pyNext
  refine wpAny_bind (wpAny_attempt (wpAny_callSpecial?_slot (name:=Str.ofString "__next__") hg.typeIs slot_gen_next
    (wpAny_call_entry slot_gen_next hg.typeIs entry_gen_next ?_ (args_gen_next _))))
  show wpAny _ _ (Builtin.Generator.genWake (.ref ge) (.send .none)) _ _ s
  unfold Builtin.Generator.genWake
  refine wpAny_bind (wpAny_holding (wpAny_genNumber hg (wpAny_bind (wpAny_genState hgs ?_))))
  have key:∀(l:List Value)(k:GenResult->Sem Fin)(Q':Fin->Shared->Prop)(E':Value->Shared->Prop),
      (∀e s₁,wkQ Q gz e s₁->wpAny (model prog w) A.in1 (k (End.result e)) Q' E' (s₁.setGen gz (End.genState e))) ->
      wpAny (model prog w) A.in1 (.resume gz (.send .none) l k) Q' E' s:=fun l k Q' E' hq=>by
    refine wake_any (A:=A.in1) Fin prog w hgs (c₀:=c₀) (t₀:=t₀) (fs₀:=fs₀) ?_ (fun Γ=>Γ.In A.in1) (fun _ h=>h) (x.mono fun e s₁ h Γ p hΓ=>hq e s₁ h Γ p hΓ)
    rcases hw with ⟨a,c,d⟩ | ⟨k₀,l₀,p₀,cl,a,c⟩
    · exact .inl ⟨a,rfl,c,d⟩
    · exact .inr ⟨k₀,l₀,p₀,cl,a,c⟩
  cases gs with
  | running=>rcases hw with ⟨a,_⟩ | ⟨_,_,_,_,a,_⟩<;>cases a
  | finished=>rcases hw with ⟨a,_⟩ | ⟨_,_,_,_,a,_⟩<;>cases a
  | _=>
    refine wpAny_bind (wpAny_roomToWake hl hroom ?_)
    show wpAny _ _ (.resume gz (.send .none) [] _) _ _ s
    refine key _ _ _ _ fun e s₁ he=>?_
    cases e with
    | susp v g l k c p fs=>exact wpAny_pure ⟨v,rfl,wpAny_pure he⟩
    | ret r=>
      obtain ⟨rfl,he⟩:=he
      show wpAny _ _ (newExc (.type "StopIteration") [] >>= _) _ _ _
      refine wpAny_bind ?_
      simp only [newExc,newTuple]
      refine wpAny_bind (wpAny_newObj_type ?_ (by size_fits))
      refine wpAny_bind (m:=firstArgMember _ _) (wpAny_of_eq (a:=Value.none) (by first | rfl | (simp only [firstArgMember];rfl)) ?_)
      refine wpAny_newObj_type ?_ (by size_fits)
      simp only [raiseNew]
      refine wpAny_bind (wpAny_bind (wpAny_handled ?_))
      rw [show A.in1.handled=none from hh]
      refine wpAny_throw ?_
      refine wpAny_bind (wpAny_isInstance (T:="StopIteration") (b:=true) ⟨_,Heap.get?_push_size _ rfl,rfl⟩ isSubtype_stop ?_)
      exact wpAny_pure he
end
abbrev nmStart:Str:=Y20
abbrev nmOpen:Str:=Y56
abbrev nmRes:Str:=Y57
noncomputable abbrev e42 (K:KT)(fr:Addr):Env:=envOf K 42 fr []
noncomputable abbrev F42 (K:KT)(fr:Addr):Code:=.func (bodyOf K 42) (e42 K fr)
noncomputable abbrev L42 (K:KT)(fr ge:Addr):Code:=forOf (bodyOf K 42) 4 (.ref ge) (e42 K fr)
abbrev f4F (P:Params)(k:Nat->Tok)(x:Str)(tx:Tok)(st op:Value)(rs:Addr):Obj:=frO #[ent P nmAddr (k 0) (.str x tx),ent P nmStart (k 1) st,ent P nmOpen (k 2) op,ent P nmRes (k 3) (.ref rs)] 4
abbrev f6F (P:Params)(k:Nat->Tok)(x:Str)(tx:Tok)(st op:Value)(rs:Addr)(pv cv:Value):Obj:=frO #[ent P nmAddr (k 0) (.str x tx),ent P nmStart (k 1) st,ent P nmOpen (k 2) op,ent P nmRes (k 3) (.ref rs),ent P nmPos (k 4) pv,ent P nmCh (k 5) cv] 6
noncomputable abbrev mTree (tg:Expr)(it:Value)(bd:List Stmt)(env:Env)(v:Value):Sem Fin:=
  PySem.W.R.bindR (PySem.W.Fast.tw1578499551869305889 tg it v) fun _=>PySem.W.R.bindR (PySem.W.Fast.tw17772580674575903948 tg env v) fun _=>PySem.W.R.bindR (PySem.W.Fast.tw12563942051412417395 bd env) fun f=>.pure (.done f)
structure Sx where
  x:Str
  tx:Tok
  fr:Addr
  ge:Addr
  rs:Addr
  gf:Addr
  en:Addr
  si:Addr
  gz:Nat
  nm:Value
  qn:Value
  GF:Obj
  EO:Obj
  SO:Obj
noncomputable abbrev Sx.GO (X:Sx):Obj:=geO X.gz X.nm X.qn
noncomputable abbrev sxC (i:Int)(ti:Tok)(z:Nat)(tc:Tok)(yt:Addr)(v:Bool):List Hint:=[.ctr [2] (fun b t _ _=>tpitSp yt (tuO #[.int i ti,.str ⟨#[z]⟩ tc]) b t),.ctr [0,3] (fun b t c l=>tpn0Sp (match l with | p::_=>p.1 | []=>0) yt (.int i ti) (.str ⟨#[z]⟩ tc) b t),.ctr [0,3] (fun b t c l=>tpn1Sp (match l with | p::_=>p.1 | []=>0) yt (.int i ti) (.str ⟨#[z]⟩ tc) b t),.ctr [0,3] (fun b t c l=>tpnESp (match l with | p::_=>p.1 | []=>0) yt (.int i ti) (.str ⟨#[z]⟩ tc) b t),cEq ⟨#[z]⟩ Y3 v]
noncomputable abbrev Sx.L (X:Sx)(F:Obj)(yt:Addr)(Y:Obj)(xs:Array Value)(e:Nat):Led:=[(X.fr,F),(X.ge,X.GO),(yt,Y),(X.rs,liO xs e),(X.gf,X.GF),(X.en,X.EO),(X.si,X.SO)]
noncomputable abbrev Sx.M (X:Sx)(F:Obj)(xs:Array Value)(e:Nat):Led:=[(X.fr,F),(X.ge,X.GO),(X.rs,liO xs e),(X.gf,X.GF),(X.en,X.EO),(X.si,X.SO)]
noncomputable def sxJ (X:Sx)(K:KT)(h:List Nat)(C:List Hint)(ks:List Nat)(F F':Obj)(yt:Addr)(i:Int)(ti:Tok)(z:Nat)(tc:Tok)(xs xs':Array Value)(e e':Nat)(da dt:Nat):Job:=
  ⟨30,L42 K X.fr X.ge,mTree (tgOf (bodyOf K 42) 4) (.ref X.ge) (bdOf (bodyOf K 42) 4) (e42 K X.fr) (.ref yt),X.L F yt (tuO #[.int i ti,.str ⟨#[z]⟩ tc]) xs e,hs h C,ks,.ok (.done .next),X.M F' xs' e',da,dt,0⟩
noncomputable abbrev kpc (k:Nat->Tok)(t:Nat):Nat->Tok:=fun j=>match j with | 4=>t | 5=>t+1 | j=>k j
noncomputable def hN:List Nat:=[5,6,6,6,3,4,4,3,4,3,4,3,4,6,6,6,6,6,3]
noncomputable def hO:List Nat:=hN++[6,6,6,6]
noncomputable def hC:List Nat:=hN++[6,6,6,3,6,9,9,9,9,6,6,6,3,3,7,3,7,7,7,7]
noncomputable def hD:List Nat:=hN++[6,6,6,3,6,3,6,6,6,6]
def sN4Run (T:Params->KT)(prog:Program):Prop:=∀(X:Sx)(k:Nat->Tok)(st op:Value)(yt:Addr)(i:Int)(ti:Tok)(z:Nat)(tc:Tok)(xs:Array Value)(e b t:Nat),JobOk T prog (fun K P=>sxJ X K hN (sxC i ti z tc yt false) [2,3,5,6,7,8] (f4F P k X.x X.tx st op X.rs) (f6F P (kpc k t) X.x X.tx st op X.rs (.int i ti) (.str ⟨#[z]⟩ tc)) yt i ti z tc xs xs e e 3 3) b t
def sN6Run (T:Params->KT)(prog:Program):Prop:=∀(X:Sx)(k:Nat->Tok)(st op pv cv:Value)(yt:Addr)(i:Int)(ti:Tok)(z:Nat)(tc:Tok)(xs:Array Value)(e b t:Nat),JobOk T prog (fun K P=>sxJ X K hN (sxC i ti z tc yt false) [2,3,5,6,7,8] (f6F P k X.x X.tx st op X.rs pv cv) (f6F P k X.x X.tx st op X.rs (.int i ti) (.str ⟨#[z]⟩ tc)) yt i ti z tc xs xs e e 3 3) b t
def sO4Run (T:Params->KT)(prog:Program):Prop:=∀(X:Sx)(k:Nat->Tok)(st:Value)(yt:Addr)(i:Int)(ti:Tok)(z:Nat)(tc:Tok)(xs:Array Value)(e b t:Nat),JobOk T prog (fun K P=>sxJ X K hO (sxC i ti z tc yt true) [2,3,5,6,7,8] (f4F P k X.x X.tx st .none X.rs) (f6F P (kpc k t) X.x X.tx st (.int i ti) X.rs (.int i ti) (.str ⟨#[z]⟩ tc)) yt i ti z tc xs xs e e 3 4) b t
def sO6Run (T:Params->KT)(prog:Program):Prop:=∀(X:Sx)(k:Nat->Tok)(st pv cv:Value)(yt:Addr)(i:Int)(ti:Tok)(z:Nat)(tc:Tok)(xs:Array Value)(e b t:Nat),JobOk T prog (fun K P=>sxJ X K hO (sxC i ti z tc yt true) [2,3,5,6,7,8] (f6F P k X.x X.tx st .none X.rs pv cv) (f6F P k X.x X.tx st (.int i ti) X.rs (.int i ti) (.str ⟨#[z]⟩ tc)) yt i ti z tc xs xs e e 3 4) b t
noncomputable abbrev sxCC (X:Sx)(i:Int)(ti:Tok)(z:Nat)(tc:Tok)(yt:Addr)(st op:Int)(ts to:Tok)(c:Str)(xs:Array Value)(e b t:Nat):List Hint:=sxC i ti z tc yt true++[cIne st op true,cSliceE X.x (b+3) (some (st,ts)) (some (op,to)) c 0,cApp X.rs xs e 6,cIadd i 1 (i+1)]
def sC6Run (T:Params->KT)(prog:Program):Prop:=∀(X:Sx)(k:Nat->Tok)(st op:Int)(ts to:Tok)(pv cv:Value)(c:Str)(yt:Addr)(i:Int)(ti:Tok)(z:Nat)(tc:Tok)(xs:Array Value)(e b t:Nat),JobOk T prog (fun K P=>sxJ X K hC (sxCC X i ti z tc yt st op ts to c xs e b t) [3,4,6,7,8,9] (f6F P k X.x X.tx (.int st ts) (.int op to) X.rs pv cv) (f6F P k X.x X.tx (.int (i+1) (t+5)) .none X.rs (.int i ti) (.str ⟨#[z]⟩ tc)) yt i ti z tc xs (xs.push (.str c (t+3))) e (e+1) 4 8) b t
noncomputable abbrev sxCD (X:Sx)(i:Int)(ti:Tok)(z:Nat)(tc:Tok)(yt:Addr)(st op:Int):List Hint:=sxC i ti z tc yt true++[cIne st op false,cIadd i 1 (i+1)]
def sD6Run (T:Params->KT)(prog:Program):Prop:=∀(X:Sx)(k:Nat->Tok)(st op:Int)(ts to:Tok)(pv cv:Value)(yt:Addr)(i:Int)(ti:Tok)(z:Nat)(tc:Tok)(xs:Array Value)(e b t:Nat),JobOk T prog (fun K P=>sxJ X K hD (sxCD X i ti z tc yt st op) [2,3,5,6,7,8] (f6F P k X.x X.tx (.int st ts) (.int op to) X.rs pv cv) (f6F P k X.x X.tx (.int (i+1) (t+4)) .none X.rs (.int i ti) (.str ⟨#[z]⟩ tc)) yt i ti z tc xs xs e e 3 7) b t
abbrev f1F (P:Params)(k:Tok)(x:Str)(tx:Tok):Obj:=frO #[ent P nmAddr k (.str x tx)] 1
noncomputable def sAJ (x:Str)(tx:Tok)(b t:Nat)(K:KT)(P:Params):Job:=⟨40,.call (.ref 42) ⟨[.str x tx],[]⟩,TF (.call (.ref 42) ⟨[.str x tx],[]⟩),[],hs [0,0,4,4,0] [],[0],.ok (.again (F42 K (b+0))),[(b+0,f1F P (t+0) x tx)],1,1,0⟩
def sARun (T:Params->KT)(prog:Program):Prop:=∀(x:Str)(tx:Tok)(b t:Nat),JobOk T prog (fun K P=>sAJ x tx b t K P) b t
noncomputable def genitSp (ge:Addr)(gz:Nat)(nm qn:Value)(b t:Nat):Sp:=⟨8,.call (.builtin "generator.__iter__") ⟨[.ref ge],[]⟩,[(ge,geO gz nm qn)],.ok (.ret (.ref ge)),[geO gz nm qn],[],0,0,0⟩
def genitRun (T:Params->KT)(prog:Program):Prop:=∀(ge:Addr)(gz:Nat)(nm qn:Value)(b t:Nat),JobOk T prog (fun K P=>jobOf (genitSp ge gz nm qn b t) (FD (genitSp ge gz nm qn b t).c) [4,1] [] [0]) b t
theorem genit_ok {T:Params->KT}{prog:Program}{w:World}(H:genitRun T prog)(ge:Addr)(gz:Nat)(nm qn:Value)(b t:Nat):SpOk (T w.params) prog w (genitSp ge gz nm qn b t) b t:=
  jobOf_ok (sp:=fun K P=>genitSp ge gz nm qn b t) (C:=fun K P=>[]) (H ge gz nm qn b t) (.inl rfl) rfl (by decide) trivial
noncomputable abbrev slE (x:Str)(tx:Tok)(sa:Addr)(st:Int)(ts:Tok)(c:Str)(TC:Nat->Nat->Tok)(dc:Nat)(b t:Nat):Sp:=prE "str.__getitem__" [.str x tx,.ref sa] (.str c (TC b t)) dc [(sa,slO (.int st ts) .none)] [slO (.int st ts) .none] [] 0
abbrev joE (tj:Tok)(rs:Addr)(xs:Array Value)(e:Nat)(r:Str)(TR:Nat->Nat->Tok)(dj:Nat)(b t:Nat):Sp:=prE "str.join" [.str Y2 tj,.ref rs] (.str r (TR b t)) dj [(rs,liO xs e)] [liO xs e] [] 0
structure Ex where
  k:Nat->Tok
  st:Int
  ts:Tok
  op:Value
  pv:Value
  cv:Value
  xs:Array Value
  e:Nat
  c:Str
  TC:Nat->Nat->Tok
  dc:Nat
  r:Str
  TR:Nat->Nat->Tok
  dj:Nat
noncomputable abbrev Ex.C1 (E:Ex)(x:Str)(tx:Tok)(rs:Addr)(b t:Nat):List Hint:=[cLenT x,cLt E.st (x.length:Int) true,.ctr [0] (fun b' t' _ _=>slE x tx (b+0) E.st E.ts E.c E.TC E.dc b' t'),cApp rs E.xs E.e 2,.ctr [2] (fun b' t' cd _=>joE (aT cd 0) rs (E.xs.push (.str E.c (E.TC (b+1) (t+2)))) (E.e+1) E.r E.TR E.dj b' t')]
noncomputable abbrev Ex.C0 (E:Ex)(x:Str)(rs:Addr):List Hint:=[cLenT x,cLt E.st (x.length:Int) false,.ctr [1] (fun b' t' cd _=>joE (aT cd 0) rs E.xs E.e E.r E.TR E.dj b' t')]
abbrev Ex.L (E:Ex)(P:Params)(x:Str)(tx:Tok)(fr rs:Addr):Led:=[(fr,f6F P E.k x tx (.int E.st E.ts) E.op rs E.pv E.cv),(rs,liO E.xs E.e)]
noncomputable def run1 (E:Ex)(x:Str)(tx:Tok)(fr rs:Addr)(T0:Sem Fin)(b t:Nat)(K:KT)(P:Params)(prog:Program):Option SOut:=
  runS K P prog b t 20 100000 (hs [4,0,0,4,3,3,4,5,5,5,5,4,4,3,3,5,3] (E.C1 x tx rs b t)) T0 (E.L P x tx fr rs) 0 0 [] []
noncomputable def run0 (E:Ex)(x:Str)(tx:Tok)(fr rs:Addr)(T0:Sem Fin)(b t:Nat)(K:KT)(P:Params)(prog:Program):Option SOut:=
  runS K P prog b t 20 100000 (hs [4,0,0,4,3,3,4,3] (E.C0 x rs)) T0 (E.L P x tx fr rs) 0 0 [] []
noncomputable abbrev End1 (K:KT)(P:Params)(prog:Program)(x:Str)(tx:Tok)(fr rs:Addr)(T0:Sem Fin)(E:Ex)(b t:Nat):Option (Option Fin×List Ob×Option Led×Nat×Nat)×Option (Option Fin×List Ob×Option Led×Nat×Nat):=
  (outEnd [] (run1 E x tx fr rs T0 b t K P prog),outEnd [] (run0 E x tx fr rs T0 b t K P prog))
noncomputable abbrev End2 (K:KT)(P:Params)(prog:Program)(x:Str)(tx:Tok)(fr rs:Addr)(T0:Sem Fin)(E:Ex)(b t:Nat):Option (Option Fin×List Ob×Option Led×Nat×Nat)×Option (Option Fin×List Ob×Option Led×Nat×Nat):=
  (outEnd' [] (.done (.ret (.str E.r (E.TR (b+1) (t+(2+E.dc+1)))))) [] 1 (2+E.dc+1+E.dj) (run1 E x tx fr rs T0 b t K P prog),outEnd' [] (.done (.ret (.str E.r (E.TR (b+0) (t+3))))) [] 0 (3+E.dj) (run0 E x tx fr rs T0 b t K P prog))
structure Sy where
  x:Str
  tx:Tok
  fr:Addr
  k:Nat->Tok
  ge:Addr
  gz:Nat
  nm:Value
  qn:Value
  b:Nat
  t:Nat
  b2:Nat
  t2:Nat
  b3:Nat
  t3:Nat
  E:Ex
abbrev Sy.F (Y:Sy)(P:Params):Obj:=f4F P (fun j=>([Y.k 0,Y.t+2,Y.t+3,Y.t+4]:List Tok).getD j 0) Y.x Y.tx (.int 0 (Y.t+1)) .none (Y.b+0)
noncomputable def runA (Y:Sy)(K:KT)(P:Params)(prog:Program):Option SOut:=
  runS K P prog Y.b Y.t 20 100000 (hs [4,3,4,4,4,4,5,5,0,5,0] [cIn Y.x Y3 true]) (FD (F42 K Y.fr)) [(Y.fr,f1F P (Y.k 0) Y.x Y.tx)] 0 0 [] []
noncomputable def runB (Y:Sy)(T0:Sem Fin)(K:KT)(P:Params)(prog:Program):Option SOut:=
  runS K P prog Y.b2 Y.t2 20 100000 (hs [5,5,3,5] [.ctr [1] (fun b t _ _=>genitSp Y.ge Y.gz Y.nm Y.qn b t)]) T0 [(Y.fr,Y.F P),(Y.ge,geO Y.gz Y.nm Y.qn),(Y.b+0,liO #[] 0)] 0 0 [] []
abbrev BT1:=Option (Code×Option Value×List Ob×Option Led×Nat×Nat×Option (Option Fin×List Ob×Option Led×Nat×Nat)×Option (Option Fin×List Ob×Option Led×Nat×Nat))
noncomputable def sBL (Y:Sy)(K:KT)(P:Params)(prog:Program):Option SOut->BT1
  | some o=>match o.t with
    | .call c hd _ _ kk=>some (c,hd,o.xs,gets o.L [0,1,2],o.off,o.toff,End1 K P prog Y.x Y.tx Y.fr (Y.b+0) (kk (.ok .next)) Y.E Y.b3 Y.t3)
    | _=>none
  | none=>none
noncomputable def sBR (Y:Sy)(K:KT)(P:Params)(prog:Program):Option SOut->BT1
  | some o=>match o.t with
    | .call c hd _ _ kk=>some (L42 K Y.fr Y.ge,none,o.ys,some [(Y.fr,Y.F P),(Y.ge,geO Y.gz Y.nm Y.qn),(Y.b+0,liO #[] 0)],0,0,End2 K P prog Y.x Y.tx Y.fr (Y.b+0) (kk (.ok .next)) Y.E Y.b3 Y.t3)
    | _=>some (default,none,[],none,0,0,none,none)
  | none=>some (default,none,[],none,0,0,none,none)
noncomputable def sAL (Y:Sy)(K:KT)(P:Params)(prog:Program):Option SOut->Option (Code×Option Value×List Ob×Option Led×Nat×Nat×BT1)
  | some o=>match o.t with
    | .call c hd _ _ kk=>some (c,hd,o.xs,gets o.L [0,1],o.off,o.toff,sBL Y K P prog (runB Y (kk (.ok (.ret (.ref Y.ge)))) K P prog))
    | _=>none
  | none=>none
noncomputable def sAR (Y:Sy)(K:KT)(P:Params)(prog:Program):Option SOut->Option (Code×Option Value×List Ob×Option Led×Nat×Nat×BT1)
  | some o=>match o.t with
    | .call c hd _ _ kk=>some (.call (.ref 35) ⟨[.str Y.x Y.tx],[]⟩,none,o.ys,some [(Y.b+0,liO #[] 0),(Y.fr,Y.F P)],1,5,sBR Y K P prog (runB Y (kk (.ok (.ret (.ref Y.ge)))) K P prog))
    | _=>some (default,none,[],none,0,0,none)
  | none=>some (default,none,[],none,0,0,none)
def sBodyRun (T:Params->KT)(prog:Program):Prop:=∀(Y:Sy)(Q:Params)(b1 b2:Bool),sAL Y (T (PR Q b1 b2)) (PR Q b1 b2) prog (runA Y (T (PR Q b1 b2)) (PR Q b1 b2) prog)=sAR Y (T (PR Q b1 b2)) (PR Q b1 b2) prog (runA Y (T (PR Q b1 b2)) (PR Q b1 b2) prog)
noncomputable def gMtree (x:Str)(tx:Tok)(K:KT):Sem Fin:=PySem.W.R.bindR (PySem.W.Fast.tw11113344188204177931 (fdOf K 35).scope (fdOf K 35).globals (fdOf K 35).closure [(nmAddr,.str x tx)] ((fdOf K 35).qualname++Y0) (some 35) (fdOf K 35).code none (fdOf K 35).builtins) fun env=>.newGen (.func (bodyOf K 35) env) fun _=>.pure (.done .next)
def bindOk (K:KT):Prop:=∀(x:Str)(tx:Tok),PySem.W.Fast.tw9782568553167038054 (fdOf K 35) ⟨[.str x tx],[]⟩=.pure [(nmAddr,.str x tx)]
noncomputable def codeTop (K:KT)(a:Nat):Bool:=match (fdOf K a).code with
  | .ref c=>topB c
  | _=>false
noncomputable def gMrun (x:Str)(tx:Tok)(b t:Nat)(K:KT)(P:Params)(prog:Program):Option SOut:=runS K P prog b t 20 100000 (hs [4,4] []) (gMtree x tx K) [] 0 0 [] []
noncomputable def gML (n:Nat):Option SOut->Option (Code×Sem Fin×List Ob×Option Led×Nat×Nat)
  | some o=>match o.t with
    | .newGen c kk=>some (c,kk n,o.xs,gets o.L [0],o.off,o.toff)
    | _=>none
  | none=>none
noncomputable def gMR (x:Str)(tx:Tok)(b t:Nat)(K:KT)(P:Params):Option SOut->Option (Code×Sem Fin×List Ob×Option Led×Nat×Nat)
  | some o=>some (F35 K (b+0),.pure (.done .next),o.ys,some [(b+0,f1F P (t+0) x tx)],1,1)
  | none=>some (default,.pure (.done .next),[],none,0,0)
def gMRun (T:Params->KT)(prog:Program):Prop:=∀(n:Nat)(x:Str)(tx:Tok)(b t:Nat)(Q:Params)(b1 b2:Bool),gML n (gMrun x tx b t (T (PR Q b1 b2)) (PR Q b1 b2) prog)=gMR x tx b t (T (PR Q b1 b2)) (PR Q b1 b2) (gMrun x tx b t (T (PR Q b1 b2)) (PR Q b1 b2) prog)
noncomputable def isGenFn (K:KT)(a:Nat):Bool:=match K.get a with
  | some o=>match o.data with
    | .func fd=>match fd.scope.isCoroutine with
      | true=>false
      | false=>match fd.scope.isGenerator with
        | false=>false
        | true=>match fd.body with
          | .stmts _=>match fd.code with
            | .ref c=>match K.get c with
              | some oc=>match oc.data with
                | .fields vs=>match (vs[1]?:Option Value) with
                  | some (Value.str q _)=>decide (q=fd.qualname)
                  | _=>false
                | _=>false
              | none=>false
            | _=>false
          | _=>false
    | _=>false
  | none=>false
theorem push_set (G:Array GenState)(a c:GenState):(G.push a).setIfInBounds G.size c=G.push c:=by
  apply Array.ext'
  simp
theorem push_get (G:Array GenState)(a:GenState):(G.push a)[G.size]?=some a:=by simp
section
variable {kt:KT}{s s':Shared}{L L' N:Led}{sz tk sz' tk':Nat}{G G':Array GenState}
theorem Inv.setG {st st':GenState}{gz:Nat}(I:Inv kt s L sz tk (G.push st))(hg:G.size=gz):Inv kt (s.setGen gz st') L sz tk (G.push st') where
  base:=I.base
  gens:=by show s.gens.setIfInBounds gz st'=_;rw [I.gens,<- hg,push_set]
  has:=I.has
  nd:=I.nd
  off:=I.off
  size:=I.size
  toks:=I.toks
  big:=I.big
theorem Step.setG {X:List Addr}{s0 s:Shared}(h:Step X s0 s)(g:Nat)(st:GenState):Step X s0 (s.setGen g st):=⟨h.keep,h.os,h.grow⟩
theorem Step.setG' {X:List Addr}{s0 s:Shared}{g:Nat}{st:GenState}(h:Step X (s0.setGen g st) s):Step X s0 s:=⟨h.keep,h.os,h.grow⟩
theorem Inv.frame (I:Inv kt s (L++N) sz tk G)(J:Inv kt s' L' sz' tk' G')(S:Step (L.map (·.1)) s s')(hn:∀q∈L',q.1∈L.map (·.1)∨sz<=q.1):Inv kt s' (L'++N) sz' tk' G':=by
  have nd:=I.nd
  rw [List.map_append] at nd
  have nd':=List.nodup_append.mp nd
  refine ⟨J.base,J.gens,fun p hp=>?_,?_,fun p hp=>?_,J.size,J.toks,J.big⟩
  · rcases List.mem_append.mp hp with m | m
    · exact J.has p m
    · refine S.keep _ _ (fun z=>?_) (I.has p (List.mem_append_right _ m))
      exact nd'.2.2 _ z _ (List.mem_map_of_mem m) rfl
  · rw [List.map_append]
    refine List.nodup_append.mpr ⟨J.nd,nd'.2.1,fun a ha c hc e=>?_⟩
    subst e
    refine cps fun Gp kp=>?_
    obtain ⟨q,hq,e1⟩:=List.mem_map.mp ha
    obtain ⟨r,hr,e2⟩:=List.mem_map.mp hc
    refine kp ?_
    rcases hn q hq with m | m
    · exact nd'.2.2 _ (e1▸m) _ hc rfl
    · have lt:=Heap.lt_size (I.has r (List.mem_append_right _ hr))
      rw [I.size] at lt
      have e3:q.1=r.1:=e1.trans e2.symm
      rw [e3] at m
      exact absurd m (Nat.not_le.mpr lt)
  · rcases List.mem_append.mp hp with m | m
    · exact J.off p m
    · exact I.off p (List.mem_append_right _ m)
end
def Susp (K:KT)(P:Params)(prog:Program)(x:Str)(tx:Tok)(fr en:Addr)(st:GenState):Prop:=
  ∃k l p kk lv p2 kp c,st=.suspended k l (L35 K fr en) p [.ret kk none false lv (F35 K fr) p2 kp] c/\k (.send .none)=.pure (.again (L35 K fr en))/\FrEnd K P prog x tx fr kk
structure GenHyp (T:Params->KT)(prog:Program)(w:World):Prop where
  n1:gN1Run T prog
  n0:gN0Run T prog
  y3:gT3Run T prog
  y4:gT4Run T prog
  g0:g0Run T prog
  fo:forOk (T w.params)
  it:tpitRun T prog
  x0:tpn0Run T prog
  x1:tpn1Run T prog
  xE:tpnERun T prog
  en:enumRun T prog
  ei:enitRun T prog
  nl:isNoLim (T w.params)=true
  c1:∀fr en,cl (L35 (T w.params) fr en)=false
  c2:∀fr,cl (F35 (T w.params) fr)=false
  q1:∀fr en,(L35 (T w.params) fr en).quiet=true
  qb:∀e,(Code.block [] e).quiet=true
section
variable {T:Params->KT}{prog:Program}{w:World}
theorem yield4 (Hy:GenHyp T prog w){x:Str}{tx:Tok}{EO SO:Obj}{fr en si tp:Addr}{k:Nat->Tok}{pv cv:Value}{i:Int}{ti:Tok}{ch:Str}{tc:Tok}{b t:Nat}(hch:eqS ch Y19=false){A:Around}{fs:List Frame}{P:End->Shared->Prop}{G:Array GenState}{s:Shared}(hr:Room 21 (segA A fs))(hf1:splitAtGen fs=none)(hf2:fs.any Frame.guarded=false)
    (hi:Inv (T w.params) s [(fr,g4F w.params k x tx pv cv),(tp,tuO #[.int i ti,.str ch tc]),(en,EO),(si,SO)] b t G)
    (hfin:∀s' l kk p,Inv (T w.params) s' [(b+3,tuO #[.int i ti,.str ch tc]),(fr,g4F w.params k x tx (.int i ti) (.str ch tc)),(en,EO),(si,SO)] (b+4) (t+3) G->Step [fr,tp,en,si] s s'->kk (.send .none)=.pure (.again (L35 (T w.params) fr en))->P (.susp (.ref (b+3)) false l kk (L35 (T w.params) fr en) p fs) s') :
    SegX (model prog w) A (L35 (T w.params) fr en) (gTree (T w.params) fr en tp) fs s P:=by
  have h':=Hy.y4 EO SO x tx fr en si tp k pv cv i ti ch tc b t w.params (w.params.followText "special-get-raises") (w.params.followText "comprehension-iter-twice")
  rw [PR_eq] at h'
  exact gen_yield h' (fun _ _ _ _ _=>tpit_ok Hy.it _ _ _ _ _) (fun _ _ _ _ _ _=>tpn0_ok Hy.x0 _ _ _ _ _ _) (fun _ _ _ _ _ _=>tpn1_ok Hy.x1 _ _ _ _ _ _) (fun _ _ _ _ _ _=>tpnE_ok Hy.xE _ _ _ _ _ _) hch hr (Hy.c1 _ _) hf1 hf2 hi hfin
theorem yield3 (Hy:GenHyp T prog w){x:Str}{tx:Tok}{EO SO:Obj}{fr en si tp:Addr}{k:Nat->Tok}{pv:Value}{i:Int}{ti:Tok}{ch:Str}{tc:Tok}{b t:Nat}(hch:eqS ch Y19=false){A:Around}{fs:List Frame}{P:End->Shared->Prop}{G:Array GenState}{s:Shared}(hr:Room 21 (segA A fs))(hf1:splitAtGen fs=none)(hf2:fs.any Frame.guarded=false)
    (hi:Inv (T w.params) s [(fr,g3F w.params k x tx pv),(tp,tuO #[.int i ti,.str ch tc]),(en,EO),(si,SO)] b t G)
    (hfin:∀s' l kk p,Inv (T w.params) s' [(b+3,tuO #[.int i ti,.str ch tc]),(fr,g4F w.params (fun j=>match j with | 3=>t+1 | j=>k j) x tx (.int i ti) (.str ch tc)),(en,EO),(si,SO)] (b+4) (t+3) G->Step [fr,tp,en,si] s s'->kk (.send .none)=.pure (.again (L35 (T w.params) fr en))->P (.susp (.ref (b+3)) false l kk (L35 (T w.params) fr en) p fs) s') :
    SegX (model prog w) A (L35 (T w.params) fr en) (gTree (T w.params) fr en tp) fs s P:=by
  have h':=Hy.y3 EO SO x tx fr en si tp k pv i ti ch tc b t w.params (w.params.followText "special-get-raises") (w.params.followText "comprehension-iter-twice")
  rw [PR_eq] at h'
  exact gen_yield h' (fun _ _ _ _ _=>tpit_ok Hy.it _ _ _ _ _) (fun _ _ _ _ _ _=>tpn0_ok Hy.x0 _ _ _ _ _ _) (fun _ _ _ _ _ _=>tpn1_ok Hy.x1 _ _ _ _ _ _) (fun _ _ _ _ _ _=>tpnE_ok Hy.xE _ _ _ _ _ _) hch hr (Hy.c1 _ _) hf1 hf2 hi hfin
theorem nx_mid (Hy:GenHyp T prog w){x:Str}{tx:Tok}{fr en si ge gz:Nat}{nm qn:Value}{k:Nat->Tok}{pv cv old:Value}{i z:Nat}{N:Led}{st:GenState}{b t:Nat}(hz:x.cps[i]?=some z)(hch:eqS (⟨#[z]⟩:Str) Y19=false)(hs:Susp (T w.params) w.params prog x tx fr en st)
    {A:Around} {Q:Option Value->Shared->Prop} {E:Value->Shared->Prop} {G:Array GenState} {s:Shared} (hG:G.size=gz) (hr:Room 24 A)
    (hi:Inv (T w.params) s ([(fr,g4F w.params k x tx pv cv),(en,enO si i old .none),(si,siO x tx i)]++(ge,geO gz nm qn)::N) b t (G.push st))
    (hfin:∀s' st',Susp (T w.params) w.params prog x tx fr en st'->Inv (T w.params) s' ([(b+4,tuO #[.int i (t+1),.str ⟨#[z]⟩ t]),(fr,g4F w.params k x tx (.int i (t+1)) (.str ⟨#[z]⟩ t)),(en,enO si (i+1) (.str ⟨#[z]⟩ t) .none),(si,siO x tx (i+1))]++(ge,geO gz nm qn)::N) (b+5) (t+5) (G.push st')->Step [fr,en,si] s s'->Q (some (.ref (b+4))) s') :
    wpAny (model prog w) A (pyNext (.ref ge)) Q E s:=by
  obtain ⟨k0,l,p,kk,lv,p2,kp,c,rfl,hk,he⟩:=hs
  have hroom:A.depth<recursionLimit:=by have:=hr.depth;show _<1000;omega
  refine pyNext_wake hr.handled (hi.noLimit Hy.nl) hroom (hi.has (ge,geO gz nm qn) (by simp)) (by rw [hi.gens,<- hG];exact push_get ..) (.inr ⟨k0,l,p,c,rfl,hk.symm⟩) ?_
  have hr1:Room 23 A.in1:=⟨hr.handled,by have:=hr.depth;show A.depth+_<_;omega,by have:=hr.units;show A.units+1+_<_;omega⟩
  have hseg:=segA_one (kk:=kk) (g:=false) (l:=lv) (p:=p2) (kp:=kp) hr1 (Hy.c2 fr)
  refine s_again prog w A.in1 _ _ _ _ _ (Hy.q1 fr en) ?_
  have hi0:=(hi.setG (st':=.running) hG)
  refine gen_item Hy.n1 Hy.fo hz hseg (Hy.c1 _ _) (hi0.sub (fun q hq=>List.mem_append_left _ hq) (by have:=hi0.nd;rw [List.map_append] at this;exact (List.nodup_append.mp this).1)) fun s1 I1 S1=>?_
  refine yield4 Hy hch (hseg.mono (by decide)) rfl rfl I1 fun s2 l2 k2 pp I2 S2 hk2=>?_
  have S12:Step [fr,en,si] s s2:=(S1.setG').trans S2 hi.size (AllIn.mem ⟨.inl (by simp),.inr (Nat.le_refl _),.inl (by simp),.inl (by simp),trivial⟩)
  have J:=hi.frame (L':=[(b+1+3,tuO #[.int i (t+1),.str ⟨#[z]⟩ t]),(fr,g4F w.params k x tx (.int i (t+1)) (.str ⟨#[z]⟩ t)),(en,enO si (i+1) (.str ⟨#[z]⟩ t) .none),(si,siO x tx (i+1))]) I2 S12 (AllIn.led ⟨.inr (by show b<=b+1+3;omega),.inl (by simp),.inl (by simp),.inl (by simp),trivial⟩)
  exact hfin _ _ ⟨k2,l2,pp,kk,lv,p2,kp,_,rfl,hk2,he⟩ (J.setG hG) (S12.setG _ _)
theorem nx_last (Hy:GenHyp T prog w){x:Str}{tx:Tok}{fr en si ge gz:Nat}{nm qn:Value}{k:Nat->Tok}{pv cv old:Value}{i:Nat}{N:Led}{st:GenState}{b t:Nat}(hz:x.cps[i]?=none)(hs:Susp (T w.params) w.params prog x tx fr en st)
    {A:Around} {Q:Option Value->Shared->Prop} {E:Value->Shared->Prop} {G:Array GenState} {s:Shared} (hG:G.size=gz) (hr:Room 24 A)
    (hi:Inv (T w.params) s ([(fr,g4F w.params k x tx pv cv),(en,enO si i old .none),(si,siO x tx i)]++(ge,geO gz nm qn)::N) b t (G.push st))
    (hfin:∀s',Inv (T w.params) s' ([(fr,g4F w.params k x tx pv cv)]++(ge,geO gz nm qn)::N) (b+4) t (G.push .finished)->Step [fr,en,si] s s'->Q none s') :
    wpAny (model prog w) A (pyNext (.ref ge)) Q E s:=by
  obtain ⟨k0,l,p,kk,lv,p2,kp,c,rfl,hk,he⟩:=hs
  have hroom:A.depth<recursionLimit:=by have:=hr.depth;show _<1000;omega
  refine pyNext_wake hr.handled (hi.noLimit Hy.nl) hroom (hi.has (ge,geO gz nm qn) (by simp)) (by rw [hi.gens,<- hG];exact push_get ..) (.inr ⟨k0,l,p,c,rfl,hk.symm⟩) ?_
  have hr1:Room 23 A.in1:=⟨hr.handled,by have:=hr.depth;show A.depth+_<_;omega,by have:=hr.units;show A.units+1+_<_;omega⟩
  have hseg:=segA_one (kk:=kk) (g:=false) (l:=lv) (p:=p2) (kp:=kp) hr1 (Hy.c2 fr)
  refine s_again prog w A.in1 _ _ _ _ _ (Hy.q1 fr en) ?_
  have hi0:=(hi.setG (st':=.running) hG)
  refine gen_end Hy.n0 Hy.fo hz he hseg (hr1.mono (by decide)) (Hy.c1 _ _) (Hy.c2 _) Hy.qb (hi0.sub (fun q hq=>List.mem_append_left _ hq) (by have:=hi0.nd;rw [List.map_append] at this;exact (List.nodup_append.mp this).1)) fun s1 I1 S1=>⟨rfl,?_⟩
  have S1':=S1.setG'
  have J:=hi.frame (L':=[(fr,g4F w.params k x tx pv cv)]) I1 S1' (fun q hq=>.inl (by simp at hq;subst hq;simp))
  have J2:=(J.setG (st':=.finished) hG)
  have J3:=(J2.alloc (o:=tuO #[]) rfl).alloc (o:=exO (b+2)) rfl
  have e4:s1.heap.objs.size=b+2:=J.size
  rw [e4]
  refine hfin _ (J3.sub (fun q hq=>List.mem_cons_of_mem _ (List.mem_cons_of_mem _ hq)) ?_) (((S1'.setG gz .finished).alloc _).alloc _)
  have nd:=J3.nd
  rw [List.map_cons,List.map_cons] at nd
  exact (List.nodup_cons.mp (List.nodup_cons.mp nd).2).2
theorem nx_first (Hy:GenHyp T prog w){x:Str}{tx:Tok}{fr ge gz:Nat}{nm qn:Value}{k:Nat->Tok}{z:Nat}{N:Led}{b t:Nat}(hz:x.cps[0]?=some z)(hx:x.cps.all (·<128)=true)(hch:eqS (⟨#[z]⟩:Str) Y19=false)
    {A:Around} {Q:Option Value->Shared->Prop} {E:Value->Shared->Prop} {G:Array GenState} {s:Shared} (hG:G.size=gz) (hr:Room 24 A)
    (hi:Inv (T w.params) s ([(fr,frO #[ent w.params nmAddr (k 0) (.str x tx)] 1)]++(ge,geO gz nm qn)::N) b t (G.push (.fresh (F35 (T w.params) fr))))
    (hfin:∀s' st',Susp (T w.params) w.params prog x tx fr (b+1) st'->Inv (T w.params) s' ([(b+6,tuO #[.int (0:Nat) (t+4),.str ⟨#[z]⟩ (t+3)]),(fr,g4F w.params (fun j=>match j with | 3=>t+6 | j=>([k 0,t+1,t+2]:List Tok).getD j 0) x tx (.int (0:Nat) (t+4)) (.str ⟨#[z]⟩ (t+3))),(b+1,enO b ((0:Nat)+1) (.str ⟨#[z]⟩ (t+3)) .none),(b,siO x tx ((0:Nat)+1))]++(ge,geO gz nm qn)::N) (b+7) (t+8) (G.push st')->Step [fr] s s'->Q (some (.ref (b+6))) s') :
    wpAny (model prog w) A (pyNext (.ref ge)) Q E s:=by
  have hroom:A.depth<recursionLimit:=by have:=hr.depth;show _<1000;omega
  refine pyNext_wake hr.handled (hi.noLimit Hy.nl) hroom (hi.has (ge,geO gz nm qn) (by simp)) (by rw [hi.gens,<- hG];exact push_get ..) (.inl ⟨rfl,rfl,rfl⟩) ?_
  have hr1:Room 23 A.in1:=⟨hr.handled,by have:=hr.depth;show A.depth+_<_;omega,by have:=hr.units;show A.units+1+_<_;omega⟩
  have hi0:=(hi.setG (st':=.running) hG)
  have hi1:Inv (T w.params) (s.setGen gz .running) [(fr,frO #[ent w.params nmAddr (k 0) (.str x tx)] 1)] b t (G.push .running):=hi0.sub (fun q hq=>List.mem_append_left _ hq) (by have:=hi0.nd;rw [List.map_append] at this;exact (List.nodup_append.mp this).1)
  have h':=fun k' pv cv b2 t2=>Hy.g0 x tx fr k k' pv cv b t b2 t2 w.params (w.params.followText "special-get-raises") (w.params.followText "comprehension-iter-twice")
  rw [PR_eq] at h'
  generalize hx0:g0run x tx fr k b t (T w.params) w.params prog=y at h'
  cases y with
  | none=>cases h' k .none .none 0 0
  | some o=>
    unfold g0run at hx0
    simp only [g0L,g0R] at h'
    split at h'
    · rename_i c hd g l kk e
      have h0:=h' k .none .none 0 0
      simp only [Option.some.injEq,Prod.mk.injEq] at h0
      refine cps fun Gp kp=>?_
      obtain ⟨e1,e2,e3,e4,e5,e6,e7,_⟩:=h0
      refine kp ?_
      have hE:FrEnd (T w.params) w.params prog x tx fr kk:=fun k' pv cv b2 t2=>by
        have:=h' k' pv cv b2 t2
        simp only [Option.some.injEq,Prod.mk.injEq] at this
        exact this.2.2.2.2.2.2.2
      show SegX (model prog w) A.in1 (F35 (T w.params) fr) (denote table (F35 (T w.params) fr)) [] _ _
      rw [FD_eq]
      refine runS_sound (s0:=s.setGen gz .running) (X:=[fr]) (G:=G.push .running) hi1.size (zc_seg (A:=A.in1) (c:=F35 (T w.params) fr) (fs:=[]) (P:=wkQ Q gz)) (((segA_nil hr1).call (Hy.c2 fr)).mono (show 20<=22 by decide)) 100000 _ _ _ _ _ _ _ o hx0 e4 (fun ds sp hm=>(hs_ok _ (C:=[.ctr [] (fun b t _ _=>enumSp x tx b t),.ctr [0] (fun b' t' _ _=>enitSp (b+1) (enO b 0 .none .none) b' t')]) ⟨fun b' t' _ _ _ _=>enum_ok Hy.en x tx b' t' hx,fun b' t' c l _ _=>enit_ok Hy.ei _ _ _ _ _ _,trivial⟩).all ds sp hm) _ hi1 (Step.refl _ _) ⟨[],rfl,fun _ h=>by cases h⟩ fun s1 I S O=>?_
      rw [e,e2,e3]
      have I1:=I.part (ds:=[0,1,2]) rfl e5
      rw [e6,e7] at I1
      subst e1
      refine s_call prog w A.in1 _ [] _ s1 _ none false l kk fun p=>?_
      have hseg:=segA_one (kk:=kk) (g:=false) (l:=l) (c:=F35 (T w.params) fr) (p:=p) (kp:=[]) hr1 (Hy.c2 fr)
      have I1':=I1.perm (L':=[(fr,g3F w.params (fun i=>([k 0,t+1,t+2]:List Tok).getD i 0) x tx (.int 0 t)),(b+1,enO b (0:Nat) .none .none),(b,siO x tx (0:Nat))]) (List.perm_append_comm (l₁:=[(b+1,enO b (0:Nat) .none .none),(b,siO x tx (0:Nat))]))
      refine gen_item Hy.n1 Hy.fo hz hseg (Hy.c1 _ _) I1' fun s2 I2 S2=>?_
      refine yield3 Hy hch (hseg.mono (by decide)) rfl rfl I2 fun s3 l3 k3 pp I3 S3 hk3=>?_
      have Sa:Step [fr] s s1:=Step.setG' S
      have Sb:Step [fr] s s2:=Sa.trans S2 hi.size (AllIn.mem ⟨.inl (by simp),.inr (Nat.le_succ _),.inr (Nat.le_refl _),trivial⟩)
      have Sc:Step [fr] s s3:=Sb.trans S3 hi.size (AllIn.mem ⟨.inl (by simp),.inr (Nat.le_add_right _ _),.inr (Nat.le_succ _),.inr (Nat.le_refl _),trivial⟩)
      have J:=hi.frame I3 Sc (AllIn.led ⟨.inr (by show b<=b+2+1+3;omega),.inl (by simp),.inr (Nat.le_succ _),.inr (Nat.le_refl _),trivial⟩)
      have J':=J.setG (st':=.suspended k3 l3 (L35 (T w.params) fr (b+1)) pp [.ret kk none false l (F35 (T w.params) fr) p []] (false||[Frame.ret kk none false l (F35 (T w.params) fr) p []].any Frame.guarded)) hG
      exact hfin _ _ ⟨k3,l3,pp,kk,l,p,[],_,rfl,hk3,hE⟩ J' (Sc.setG _ _)
    · cases h' k .none .none 0 0
end
theorem mTree_eq (tg:Expr)(it:Value)(bd:List Stmt)(env:Env)(v:Value):mTree tg it bd env v=(letOwnedTupleGo tg it v >>= fun _=>assign tg env v >>= fun _=>execs bd env) >>= fun f=>Sem.pure (.done f):=by
  unfold mTree
  rw [<- PySem.W.R.bindR_eq,<- PySem.W.Fast.te17772580674575903948,<- PySem.W.Fast.te12563942051412417395,<- PySem.W.Fast.te1578499551869305889]
  show Sem.bind _ _=Sem.bind (Sem.bind _ _) _
  rw [show ∀{α β γ:Type}(m:Sem α)(f:α->Sem β)(g:β->Sem γ),Sem.bind (Sem.bind m f) g=Sem.bind m fun x=>Sem.bind (f x) g from fun m f g=>bind_assoc (m:=Sem) m f g]
  refine congrArg (Sem.bind _) (funext fun _=>?_)
  exact (bind_assoc (m:=Sem) _ _ _).symm
section
variable {prog:Program}{w:World}
theorem for_step {tg:Expr}{it:Value}{bd el:List Stmt}{env:Env}{A:Around}{R:Result->Shared->Prop}{s:Shared}(hq:(Code.forLoop tg it bd el env).quiet=true)(hb:(Code.block el env).quiet=true)
    (h:∀E,wpAny (model prog w) (A.under (.forLoop tg it bd el env)) (pyNext it) (fun r s₁=>match r with
      | none=>codeAny (model prog w) A (.block el env) R s₁
      | some v=>∀E,wpAny (model prog w) (A.under (.forLoop tg it bd el env)) (letOwnedTupleGo tg it v >>= fun _=>assign tg env v >>= fun _=>execs bd env) (fun f s₂=>f=.next/\codeAny (model prog w) A (.forLoop tg it bd el env) R s₂) E s₁) E s) :
    codeAny (model prog w) A (.forLoop tg it bd el env) R s:=by
  refine codeAny_of_tree ?_
  show wpAny _ _ ((forTurn tg it bd el env).onRaise (fun x=>do noteFrame x env;theTreesLotGoes x)) _ _ s
  refine wpAny_onRaise ?_
  unfold forTurn
  refine wpAny_bind (wpAny_standAt (wpAny_bind (wpAny_onRaise (wpAny_mono (h _) (fun r s₁ h₁=>?_) fun _ _ x=>x))))
  cases r with
  | none=>exact wpAny_pure ⟨hb,h₁⟩
  | some v=>
    show wpAny _ _ (letOwnedTupleGo tg it v >>= fun _=>assign tg env v >>= fun _=>execs bd env >>= _) _ _ s₁
    have h2:=h₁ (fun e s'=>wpAny (model prog w) (A.under (.forLoop tg it bd el env)) (do noteFrame e env;theTreesLotGoes e) (fun _ s''=>R (.error e) s'') (fun e s'=>R (.error e) s') s')
    have e:(letOwnedTupleGo tg it v >>= fun _=>assign tg env v >>= fun _=>execs bd env >>= fun f=>(match f with
        | .next | .cont=>again (.forLoop tg it bd el env)
        | .brk=>pure (.done .next)
        | .ret v=>pure (.done (.ret v)):Sem Fin))=(letOwnedTupleGo tg it v >>= fun _=>assign tg env v >>= fun _=>execs bd env) >>= fun f=>(match f with
        | .next | .cont=>again (.forLoop tg it bd el env)
        | .brk=>pure (.done .next)
        | .ret v=>pure (.done (.ret v)):Sem Fin):=by
      simp only [bind_assoc]
    refine Eq.mp (congrArg (fun t=>wpAny _ _ t _ _ s₁) e.symm) (wpAny_bind (wpAny_mono h2 (fun f s₂ hf=>?_) fun _ _ x=>x))
    obtain ⟨rfl,hf⟩:=hf
    exact wpAny_pure ⟨hq,hf⟩
theorem block_nil {env:Env}{A:Around}{R:Result->Shared->Prop}{s:Shared}(h:R (.ok .next) s):codeAny (model prog w) A (.block [] env) R s:=
  codeAny_block (wpAny_execs_nil h)
end
inductive SRel (x:Str):Nat->Int->Option Int->List Str->Int->List Str->Prop where
  | done {i:Nat} {st:Int} {op:Option Int} {items:List Str} (h:x.cps[i]?=none):SRel x i st op items st items
  | n {i z:Nat} {st st':Int} {op:Option Int} {items items':List Str} (h:x.cps[i]?=some z) (hb:eqS (⟨#[z]⟩:Str) Y19=false) (hq:eqS (⟨#[z]⟩:Str) Y3=false) (r:SRel x (i+1) st op items st' items'):SRel x i st op items st' items'
  | o {i z:Nat} {st st':Int} {items items':List Str} (h:x.cps[i]?=some z) (hb:eqS (⟨#[z]⟩:Str) Y19=false) (hq:eqS (⟨#[z]⟩:Str) Y3=true) (r:SRel x (i+1) st (some i) items st' items'):SRel x i st none items st' items'
  | c {i z:Nat} {st st' o:Int} {c:Str} {items items':List Str} (h:x.cps[i]?=some z) (hb:eqS (⟨#[z]⟩:Str) Y19=false) (hq:eqS (⟨#[z]⟩:Str) Y3=true) (hne:((st:Int) != o)=true) (h1:x.length<=sizeLine) (h2:(strSliceIndices (some st) (some o) 1 x.length).length≠x.length) (h3:sliceS x (some st) (some o)=c) (h4:items.length<=100)
      (r:SRel x (i+1) ((i:Int)+1) none (items++[c]) st' items'):SRel x i st (some o) items st' items'
  | d {i z:Nat} {st st' o:Int} {items items':List Str} (h:x.cps[i]?=some z) (hb:eqS (⟨#[z]⟩:Str) Y19=false) (hq:eqS (⟨#[z]⟩:Str) Y3=true) (hne:((st:Int) != o)=false)
      (r:SRel x (i+1) ((i:Int)+1) none items st' items'):SRel x i st (some o) items st' items'
noncomputable def opV:Option Int->Tok->Value
  | none,_=>.none
  | some o,t=>.int o t
structure LR where
  k:Nat->Tok
  ts:Tok
  op:Value
  pv:Value
  cv:Value
  p:List (Str×Tok)
  e:Nat
  da:Nat
  dt:Nat
structure StrHyp (T:Params->KT)(prog:Program)(w:World):Prop where
  g:GenHyp T prog w
  n4:sN4Run T prog
  n6:sN6Run T prog
  o4:sO4Run T prog
  o6:sO6Run T prog
  c6:sC6Run T prog
  d6:sD6Run T prog
  fo:∀fr ge,L42 (T w.params) fr ge=.forLoop (tgOf (bodyOf (T w.params) 42) 4) (.ref ge) (bdOf (bodyOf (T w.params) 42) 4) [] (e42 (T w.params) fr)
  q:∀fr ge,(L42 (T w.params) fr ge).quiet=true
noncomputable abbrev Sx.put (X:Sx)(GF EO SO:Obj):Sx:={ X with GF:=GF,EO:=EO,SO:=SO }
noncomputable abbrev Sx.wz (X:Sx)(gz:Nat):Sx:={ X with gz:=gz }
theorem strValues_snoc (p:List (Str×Tok))(c:Str)(t:Tok):(strValues p).toArray.push (.str c t)=(strValues (p++[(c,t)])).toArray:=by
  unfold strValues
  simp
theorem strValues_size (p:List (Str×Tok)):(strValues p).toArray.size=p.length:=by simp [strValues]
section
variable {T:Params->KT}{prog:Program}{w:World}
theorem s_turn (Hy:StrHyp T prog w)(X:Sx){F F':Obj}{kg:Nat->Tok}{gpv gcv old:Value}{i z:Nat}{xs xs':Array Value}{e e' da dt b t:Nat}{h:List Nat}{C:List Hint}{ks:List Nat}(hz:X.x.cps[i]?=some z)(hb:eqS (⟨#[z]⟩:Str) Y19=false)
    (hks:nodupB ks=true)
    (hj:(sxJ (X.put (g4F w.params kg X.x X.tx (.int i (t+1)) (.str ⟨#[z]⟩ t)) (enO X.si (i+1) (.str ⟨#[z]⟩ t) .none) (siO X.x X.tx (i+1))) (T w.params) h C ks F F' (b+4) i (t+1) z t xs xs' e e' da dt).Eqn (T w.params) w.params prog (b+5) (t+5))
    (hC:HOk (T w.params) prog w (b+5) (t+5) C)
    {G:Array GenState} {A:Around} {R:Result->Shared->Prop} {s:Shared} {st:GenState} (hG:G.size=X.gz) (hr:Room 36 A) (hs:Susp (T w.params) w.params prog X.x X.tx X.gf X.en st)
    (hi:Inv (T w.params) s ((X.put (g4F w.params kg X.x X.tx gpv gcv) (enO X.si i old .none) (siO X.x X.tx i)).M F xs e) b t (G.push st))
    (hfin:∀s' st',Susp (T w.params) w.params prog X.x X.tx X.gf X.en st'->Inv (T w.params) s' ((X.put (g4F w.params kg X.x X.tx (.int i (t+1)) (.str ⟨#[z]⟩ t)) (enO X.si (i+1:Nat) (.str ⟨#[z]⟩ t) .none) (siO X.x X.tx (i+1:Nat))).M F' xs' e') (b+5+da) (t+5+dt) (G.push st')->Step [X.fr,X.ge,X.rs,X.gf,X.en,X.si] s s'->codeAny (model prog w) A (L42 (T w.params) X.fr X.ge) R s') :
    codeAny (model prog w) A (L42 (T w.params) X.fr X.ge) R s:=by
  have hcl:cl (L42 (T w.params) X.fr X.ge)=false:=by rw [Hy.fo];rfl
  rw [Hy.fo]
  refine for_step (by rw [<- Hy.fo];exact Hy.q ..) rfl fun E=>?_
  rw [<- Hy.fo]
  have hrU:Room 35 (A.under (L42 (T w.params) X.fr X.ge)):=hr.call hcl
  have e1:(X.put (g4F w.params kg X.x X.tx gpv gcv) (enO X.si i old .none) (siO X.x X.tx i)).M F xs e=[(X.fr,F),(X.ge,X.GO),(X.rs,liO xs e)]++[(X.gf,g4F w.params kg X.x X.tx gpv gcv),(X.en,enO X.si i old .none),(X.si,siO X.x X.tx i)]:=rfl
  rw [e1] at hi
  refine nx_mid Hy.g hz hb hs hG (hrU.mono (by decide)) ((hi.perm List.perm_append_comm).perm (L':=[(X.gf,g4F w.params kg X.x X.tx gpv gcv),(X.en,enO X.si i old .none),(X.si,siO X.x X.tx i)]++(X.ge,X.GO)::[(X.fr,F),(X.rs,liO xs e)]) (List.Perm.append_left _ (List.Perm.swap _ _ _))) fun s1 st1 hs1 I1 S1=>?_
  intro E2
  have I1':=I1.perm (L':=(X.put (g4F w.params kg X.x X.tx (.int i (t+1)) (.str ⟨#[z]⟩ t)) (enO X.si (i+1) (.str ⟨#[z]⟩ t) .none) (siO X.x X.tx (i+1))).L F (b+4) (tuO #[.int i (t+1),.str ⟨#[z]⟩ t]) xs e) (by
    show List.Perm ([(b+4,_),(X.gf,_),(X.en,_),(X.si,_)]++[(X.ge,_),(X.fr,F),(X.rs,_)]) ([(X.fr,F),(X.ge,_),(b+4,_),(X.rs,_)]++[(X.gf,_),(X.en,_),(X.si,_)])
    refine (List.perm_append_comm (l₁:=[(b+4,_),(X.gf,_),(X.en,_),(X.si,_)])).trans ?_
    show List.Perm ((X.ge,_)::(X.fr,F)::(X.rs,_)::(b+4,_)::[(X.gf,_),(X.en,_),(X.si,_)]) ((X.fr,F)::(X.ge,_)::(b+4,_)::(X.rs,_)::[(X.gf,_),(X.en,_),(X.si,_)])
    exact (List.Perm.swap _ _ _).trans (List.Perm.cons _ (List.Perm.cons _ (List.Perm.swap _ _ _))))
  refine run_tree (m:=letOwnedTupleGo _ (.ref X.ge) (.ref (b+4)) >>= fun _=>assign _ _ (.ref (b+4)) >>= fun _=>execs _ _) (enc:=fun f=>.done f) (A:=A) hj (mTree_eq ..) hks (fun ds q hm=>(hs_ok _ hC).all ds q hm) (hr.mono (show 30<=36 by decide)) I1' (fun s2 I2 S2 N2=>?_) (fun c h=>by cases h) (fun a c h=>by cases h)
  intro f hf
  injection hf with hf
  subst hf
  refine ⟨rfl,?_⟩
  have ec:((i+1:Nat):Int)=(i:Int)+1:=by push_cast;rfl
  have z:=hfin s2 st1 hs1 (by rw [ec];exact I2) ((S1.weak (Y:=[X.fr,X.ge,X.rs,X.gf,X.en,X.si]) (by simp)).trans (show Step [X.fr,X.ge,b+4,X.rs,X.gf,X.en,X.si] s1 s2 from S2) hi.size (AllIn.mem ⟨.inl (by simp),.inl (by simp),.inr (Nat.le_add_right ..),.inl (by simp),.inl (by simp),.inl (by simp),.inl (by simp),trivial⟩))
  exact z
end
section
variable {T:Params->KT}{prog:Program}{w:World}
theorem sxC_ok (Hy:StrHyp T prog w){i:Int}{ti:Tok}{z:Nat}{tc:Tok}{yt:Addr}{v:Bool}{b t:Nat}{C:List Hint}(hq:eqS (⟨#[z]⟩:Str) Y3=v)(hC:HOk (T w.params) prog w b t C):HOk (T w.params) prog w b t (sxC i ti z tc yt v++C):=
  ⟨fun _ _ _ _ _ _=>tpit_ok Hy.g.it _ _ _ _ _,fun _ _ _ _ _ _=>tpn0_ok Hy.g.x0 _ _ _ _ _ _,fun _ _ _ _ _ _=>tpn1_ok Hy.g.x1 _ _ _ _ _ _,fun _ _ _ _ _ _=>tpnE_ok Hy.g.xE _ _ _ _ _ _,cEq_ok hq,hC⟩
def LoopOk (T:Params->KT)(prog:Program)(w:World)(X:Sx)(F:Obj)(gpv gcv old:Value)(kg:Nat->Tok)(i:Nat)(xs:Array Value)(e b t:Nat)(st':Int)(r:LR):Prop:=
  ∀(gz:Nat)(G:Array GenState)(A:Around)(R:Result->Shared->Prop)(s:Shared)(stt:GenState),G.size=gz->Room 36 A->Susp (T w.params) w.params prog X.x X.tx X.gf X.en stt ->
    Inv (T w.params) s (((X.wz gz).put (g4F w.params kg X.x X.tx gpv gcv) (enO X.si i old .none) (siO X.x X.tx i)).M F xs e) b t (G.push stt) ->
    (∀s',Inv (T w.params) s' [(X.fr,f6F w.params r.k X.x X.tx (.int st' r.ts) r.op X.rs r.pv r.cv),(X.rs,liO (strValues r.p).toArray r.e)] (b+r.da) (t+r.dt) (G.push .finished)->Step [X.fr,X.ge,X.rs,X.gf,X.en,X.si] s s'->R (.ok .next) s') ->
    codeAny (model prog w) A (L42 (T w.params) X.fr X.ge) R s
theorem LoopOk.step {X:Sx}{F F':Obj}{gpv gcv gpv' gcv' old old':Value}{kg:Nat->Tok}{i:Nat}{xs xs':Array Value}{e e' b t da dt:Nat}{st':Int}{r:LR}
    (hs:∀(gz:Nat)(G:Array GenState)(A:Around)(R:Result->Shared->Prop)(s:Shared)(stt:GenState),G.size=gz->Room 36 A->Susp (T w.params) w.params prog X.x X.tx X.gf X.en stt ->
      Inv (T w.params) s (((X.wz gz).put (g4F w.params kg X.x X.tx gpv gcv) (enO X.si i old .none) (siO X.x X.tx i)).M F xs e) b t (G.push stt) ->
      (∀s' st',Susp (T w.params) w.params prog X.x X.tx X.gf X.en st'->Inv (T w.params) s' (((X.wz gz).put (g4F w.params kg X.x X.tx gpv' gcv') (enO X.si (i+1:Nat) old' .none) (siO X.x X.tx (i+1:Nat))).M F' xs' e') (b+5+da) (t+5+dt) (G.push st')->Step [X.fr,X.ge,X.rs,X.gf,X.en,X.si] s s'->codeAny (model prog w) A (L42 (T w.params) X.fr X.ge) R s')->codeAny (model prog w) A (L42 (T w.params) X.fr X.ge) R s)
    (h:LoopOk T prog w X F' gpv' gcv' old' kg (i+1) xs' e' (b+5+da) (t+5+dt) st' r):LoopOk T prog w X F gpv gcv old kg i xs e b t st' { r with da:=5+da+r.da,dt:=5+dt+r.dt }:=by
  intro gz G A R s stt hG hr hS hi hfin
  refine hs gz G A R s stt hG hr hS hi fun s1 st1 hS1 I1 S1=>?_
  refine h gz G A R s1 st1 hG hr hS1 I1 fun s2 I2 S2=>hfin s2 ?_ (S1.trans S2 hi.size fun a ha=>.inl ha)
  have e1:b+(5+da+r.da)=b+5+da+r.da:=by omega
  have e2:t+(5+dt+r.dt)=t+5+dt+r.dt:=by omega
  show Inv _ s2 _ (b+(5+da+r.da)) (t+(5+dt+r.dt)) _
  rw [e1,e2]
  exact I2
theorem s_loop (Hy:StrHyp T prog w)(X:Sx)(kg:Nat->Tok){i:Nat}{st st':Int}{op:Option Int}{items items':List Str}(h:SRel X.x i st op items st' items'):
    ∀(k:Nat->Tok)(ts to:Tok)(pv cv gpv gcv old:Value)(p:List (Str×Tok))(e b t:Nat),p.map (·.1)=items ->
      ∃r:LR,r.p.map (·.1)=items'/\LoopOk T prog w X (f6F w.params k X.x X.tx (.int st ts) (opV op to) X.rs pv cv) gpv gcv old kg i (strValues p).toArray e b t st' r:=by
  induction h with
  | @done i st op items hz=>
    intro k ts to pv cv gpv gcv old p e b t hp
    refine ⟨⟨k,ts,opV op to,pv,cv,p,e,4,0⟩,hp,fun gz G A R s stt hG hr hS hi hfin=>?_⟩
    have hcl:cl (L42 (T w.params) X.fr X.ge)=false:=by rw [Hy.fo];rfl
    rw [Hy.fo]
    refine for_step (by rw [<- Hy.fo];exact Hy.q ..) rfl fun E=>?_
    rw [<- Hy.fo]
    have hrU:Room 35 (A.under (L42 (T w.params) X.fr X.ge)):=hr.call hcl
    have hi':Inv (T w.params) s ([(X.fr,f6F w.params k X.x X.tx (.int st ts) (opV op to) X.rs pv cv),(X.ge,(X.wz gz).GO),(X.rs,liO (strValues p).toArray e)]++[(X.gf,g4F w.params kg X.x X.tx gpv gcv),(X.en,enO X.si i old .none),(X.si,siO X.x X.tx i)]) b t (G.push stt):=hi
    refine nx_last Hy.g hz hS hG (hrU.mono (by decide)) ((hi'.perm List.perm_append_comm).perm (L':=[(X.gf,g4F w.params kg X.x X.tx gpv gcv),(X.en,enO X.si i old .none),(X.si,siO X.x X.tx i)]++(X.ge,(X.wz gz).GO)::[(X.fr,f6F w.params k X.x X.tx (.int st ts) (opV op to) X.rs pv cv),(X.rs,liO (strValues p).toArray e)]) (List.Perm.append_left _ (List.Perm.swap _ _ _))) fun s1 I1 S1=>?_
    refine block_nil (hfin s1 (I1.sub (fun q hq=>?_) ?_) (S1.weak (by simp)))
    · exact List.mem_append_right _ (List.mem_cons_of_mem _ hq)
    · have nd:=I1.nd
      rw [List.map_append] at nd
      have:=(List.nodup_append.mp nd).2.1
      rw [List.map_cons] at this
      exact (List.nodup_cons.mp this).2
  | @n i z st st' op items items' hz hb hq hr ih=>
    intro k ts to pv cv gpv gcv old p e b t hp
    obtain ⟨r,h1,h2⟩:=ih k ts to (.int i (t+1)) (.str ⟨#[z]⟩ t) (.int i (t+1)) (.str ⟨#[z]⟩ t) (.str ⟨#[z]⟩ t) p e (b+5+3) (t+5+3) hp
    refine ⟨{ r with da:=5+3+r.da,dt:=5+3+r.dt },h1,LoopOk.step (fun gz G A R s stt hG hr hS hi hfin=>?_) h2⟩
    exact s_turn Hy (X.wz gz) hz hb rfl (jobQ (J:=fun K P=>sxJ _ K hN _ _ _ _ _ _ _ _ _ _ _ _ _ _ _) (Hy.n6 ((X.wz gz).put _ _ _) k (.int st ts) (opV op to) pv cv (b+4) i (t+1) z t (strValues p).toArray e (b+5) (t+5))) (sxC_ok (C:=[]) Hy hq trivial) hG hr hS hi hfin
  | @o i z st st' items items' hz hb hq hr ih=>
    intro k ts to pv cv gpv gcv old p e b t hp
    obtain ⟨r,h1,h2⟩:=ih k ts (t+1) (.int i (t+1)) (.str ⟨#[z]⟩ t) (.int i (t+1)) (.str ⟨#[z]⟩ t) (.str ⟨#[z]⟩ t) p e (b+5+3) (t+5+4) hp
    refine ⟨{ r with da:=5+3+r.da,dt:=5+4+r.dt },h1,LoopOk.step (fun gz G A R s stt hG hr hS hi hfin=>?_) h2⟩
    exact s_turn Hy (X.wz gz) hz hb rfl (jobQ (J:=fun K P=>sxJ _ K hO _ _ _ _ _ _ _ _ _ _ _ _ _ _ _) (Hy.o6 ((X.wz gz).put _ _ _) k (.int st ts) pv cv (b+4) i (t+1) z t (strValues p).toArray e (b+5) (t+5))) (sxC_ok (C:=[]) Hy hq trivial) hG hr hS hi hfin
  | @c i z st st' o c items items' hz hb hq hne q1 q2 q3 q4 hr ih=>
    intro k ts to pv cv gpv gcv old p e b t hp
    obtain ⟨r,h1,h2⟩:=ih k (t+5+5) to (.int i (t+1)) (.str ⟨#[z]⟩ t) (.int i (t+1)) (.str ⟨#[z]⟩ t) (.str ⟨#[z]⟩ t) (p++[(c,t+5+3)]) (e+1) (b+5+4) (t+5+8) (by rw [List.map_append,hp];rfl)
    rw [<- strValues_snoc] at h2
    refine ⟨{ r with da:=5+4+r.da,dt:=5+8+r.dt },h1,LoopOk.step (fun gz G A R s stt hG hr hS hi hfin=>?_) h2⟩
    refine s_turn Hy (X.wz gz) hz hb rfl (jobQ (J:=fun K P=>sxJ _ K hC _ _ _ _ _ _ _ _ _ _ _ _ _ _ _) (Hy.c6 ((X.wz gz).put _ _ _) k st o ts to pv cv c (b+4) i (t+1) z t (strValues p).toArray e (b+5) (t+5))) (sxC_ok Hy hq ⟨cIne_ok hne,cSliceE_ok q1 q2 q3,cApp_ok ?_,cIadd_ok rfl,trivial⟩) hG hr hS hi hfin
    rw [strValues_size,show p.length=items.length by rw [<- hp,List.length_map],sizeLine_eq];omega
  | @d i z st st' o items items' hz hb hq hne hr ih=>
    intro k ts to pv cv gpv gcv old p e b t hp
    obtain ⟨r,h1,h2⟩:=ih k (t+5+4) to (.int i (t+1)) (.str ⟨#[z]⟩ t) (.int i (t+1)) (.str ⟨#[z]⟩ t) (.str ⟨#[z]⟩ t) p e (b+5+3) (t+5+7) hp
    refine ⟨{ r with da:=5+3+r.da,dt:=5+7+r.dt },h1,LoopOk.step (fun gz G A R s stt hG hr hS hi hfin=>?_) h2⟩
    exact s_turn Hy (X.wz gz) hz hb rfl (jobQ (J:=fun K P=>sxJ _ K hD _ _ _ _ _ _ _ _ _ _ _ _ _ _ _) (Hy.d6 ((X.wz gz).put _ _ _) k st o ts to pv cv (b+4) i (t+1) z t (strValues p).toArray e (b+5) (t+5))) (sxC_ok Hy hq ⟨cIne_ok hne,cIadd_ok rfl,trivial⟩) hG hr hS hi hfin
end
theorem Room.mark {n:Nat}{A:Around}(h:Room n A):Room n (A.mark none):=⟨h.handled,h.depth,h.units⟩
theorem isGen_ex {K:KT}{a:Nat}(h:isGenFn K a=true):∃o fd body c oc vs q tq,K.get a=some o/\o.data=.func fd/\fd.scope.isCoroutine=false/\fd.scope.isGenerator=true/\fd.body=.stmts body/\fd.code=.ref c/\K.get c=some oc/\oc.data=.fields vs/\vs[1]?=some (.str q tq)/\q=fd.qualname:=by
  unfold isGenFn at h
  repeat' split at h
  all_goals first | (cases h;done) | skip
  rename_i o e1 _ fd e2 _ e3 _ e4 _ body e5 _ c e6 _ oc e7 _ vs e8 _ q tq e9
  exact ⟨o,fd,body,c,oc,vs,q,tq,e1,e2,e3,e4,e5,e6,e7,e8,e9,of_decide_eq_true h⟩
structure MakeHyp (T:Params->KT)(prog:Program)(w:World):Prop where
  m:gMRun T prog
  g:isGenFn (T w.params) 35=true
  b:bindOk (T w.params)
  c:codeTop (T w.params) 35=true
section
variable {T:Params->KT}{prog:Program}{w:World}
theorem gen_make (Hm:MakeHyp T prog w)(hn:isNoLim (T w.params)=true)(x:Str)(tx:Tok){L:Led}{b t:Nat}{G:Array GenState}{A:Around}{R:Result->Shared->Prop}{s:Shared}(hr:Room 25 A)(hi:Inv (T w.params) s L b t G)
    (hfin:∀s',Inv (T w.params) s' ((b+1,geO G.size (.str (fdOf (T w.params) 35).name (t+1)) (.str (fdOf (T w.params) 35).qualname (t+2)))::(b+0,f1F w.params (t+0) x tx)::L) (b+2) (t+3) (G.push (.fresh (F35 (T w.params) (b+0))))->Step [] s s'->R (.ok (.ret (.ref (b+1)))) s') :
    codeAny (model prog w) A (.call (.ref 35) ⟨[.str x tx],[]⟩) R s:=by
  refine cps fun Gp kp=>?_
  obtain ⟨o,fd,body,c,oc,vs,q,tq,e1,e2,e3,e4,e5,e6,e7,e8,e9,e10⟩:=isGen_ex Hm.g
  refine kp ?_
  have hfd:fdOf (T w.params) 35=fd:=by unfold fdOf;rw [e1];simp only [];rw [e2]
  have hbd:bodyOf (T w.params) 35=body:=by unfold bodyOf;rw [hfd,e5]
  have ht:topB c=true:=by have:=Hm.c;unfold codeTop at this;rw [hfd,e6] at this;exact this
  have hroom:A.depth<recursionLimit:=by have:=hr.depth;show _<1000;omega
  refine codeAny_call_generator hroom (hi.base 35 o rfl e1) e2 e3 e4 e5 ⟨c,oc,vs,tq,e6,hi.base c oc ht e7,e8,by rw [e9,e10]⟩ ?_
  have hb:=Hm.b x tx
  rw [<- PySem.W.Fast.te9782568553167038054,hfd] at hb
  refine wpAny_of_eq hb ?_
  have hm:=fun n=>Hm.m n x tx b t w.params (w.params.followText "special-get-raises") (w.params.followText "comprehension-iter-twice")
  rw [PR_eq] at hm
  generalize hx:gMrun x tx b t (T w.params) w.params prog=y at hm
  cases y with
  | none=>cases hm 0
  | some o2=>
    unfold gMrun at hx
    simp only [gML,gMR] at hm
    split at hm
    · rename_i cc kk e
      simp only [Option.some.injEq,Prod.mk.injEq] at hm
      refine cps fun Gp kp=>?_
      obtain ⟨f1,-,f2,f3,f4,f5⟩:=hm 0
      refine kp ?_
      have hr1:Room 24 A.in1:=⟨hr.handled,by have:=hr.depth;show A.depth+_<_;omega,by have:=hr.units;show A.units+1+_<_;omega⟩
      have hi0:Inv (T w.params) s [] b t G:=hi.sub (fun q hq=>by cases hq) List.nodup_nil
      have z:=runS_sound (s0:=s) (X:=[]) (G:=G) hi.size (zc_wp (B:=A.in1) (Q:=fun _ s'=>∃cd s2,s'={ s2 with gens:=s2.gens.push (.fresh cd) }/\cd=F35 (T w.params) (b+0)/\Inv (T w.params) s2 [(b+0,f1F w.params (t+0) x tx)] (b+1) (t+1) G/\Step [] s s2) (E:=fun e s'=>R (.error e) s')) (hr1.mark.mono (show 20<=24 by decide)) 100000 _ _ _ _ _ _ _ o2 hx f2 (fun ds sp hm=>(hs_ok _ (C:=[]) trivial).all ds sp hm) s hi0 (Step.refl _ _) ⟨[],rfl,fun _ h=>by cases h⟩ (fun s' I S O=>by
        rw [e]
        have I':=I.part (ds:=[0]) rfl f3
        rw [f4,f5] at I'
        intro Γ p hΓ
        show Sem.wp _ Γ (kk s'.gens.size) _ _ p { s' with gens:=s'.gens.push (.fresh cc) }
        rw [(hm s'.gens.size).2.1]
        exact ⟨cc,s',rfl,f1,I',S⟩)
      unfold gMtree at z
      rw [hfd,<- PySem.W.R.bindR_eq,<- PySem.W.Fast.te11113344188204177931] at z
      intro Γ p hΓ
      have z':=z Γ p hΓ
      rw [show ∀{α:Type}(m:Sem α)(k:α->Sem Fin),Sem.bind m k=m >>= k from fun _ _=>rfl,Sem.wp_bind'] at z'
      refine Sem.wp_mono _ Γ _ (fun env p' s2 h2=>?_) (fun _ _ _ h'=>h') p s z'
      refine cps fun Gp kp=>?_
      obtain ⟨cd,s3,g1,g2,g3,g4⟩:=h2
      obtain ⟨h2,d2,gg2,t2,os2⟩:=s2
      obtain ⟨h3,d3,gg3,t3,os3⟩:=s3
      refine kp ?_
      simp only [Shared.mk.injEq] at g1
      refine cps fun Gp kp=>?_
      obtain ⟨k1,k2,k3,k4,k5⟩:=g1
      refine kp ?_
      have kp:=Array.push_eq_push.mp k2
      have k6:Code.func (bodyOf (T w.params) 35) env=cd:=by have:=kp.1;injection this
      rw [hbd,g2] at k6
      have k7:d2=d3:=kp.2
      subst k1 k3 k4 k5 k7
      have hG:d2=G:=g3.gens
      subst hG
      have hs2:h2.objs.size=b+1:=g3.size
      have ht2:t2=t+1:=g3.toks
      have ff:=Inv.frame (L:=[]) (N:=L) hi g3 g4 (fun q hq=>by
        rw [List.mem_singleton.mp hq];exact .inr (Nat.le_refl _))
      have hI:=ff.alloc (o:=geO d2.size (.str fd.name (t+1)) (.str fd.qualname (t+2))) rfl
      refine ⟨g3.noLimit hn,?_⟩
      have z3:=hfin { heap:=h2.push (geO d2.size (.str fd.name (t+1)) (.str fd.qualname (t+2))),gens:=d2.push (.fresh (F35 (T w.params) (b+0))),drawn:=gg2,toks:=t+3,os:=os2 } ?_ ?_
      · show R (.ok (.ret (.ref h2.objs.size))) { heap:=h2.push (geO d2.size (.str fd.name t2) (.str fd.qualname (t2+1))),gens:=d2.push (.fresh (.func body env)),drawn:=gg2,toks:=t2+1+1,os:=os2 }
        rw [hs2,ht2,k6]
        exact z3
      · rw [hfd]
        exact ⟨hI.base,rfl,hI.has,hI.nd,hI.off,hI.size,rfl,hI.big⟩
      · exact ⟨(g4.alloc _).keep,g4.os,(g4.alloc (geO d2.size (.str fd.name (t+1)) (.str fd.qualname (t+2)))).grow⟩
    · cases hm 0
end
section
variable {T:Params->KT}{prog:Program}{w:World}
theorem s_first (Hy:StrHyp T prog w){x:Str}{tx:Tok}{fr ge rs gf:Nat}{nm qn:Value}{kg:Nat->Tok}{st':Int}{items':List Str}(h:SRel x 0 0 none [] st' items')(h0:x.cps[0]?≠none)(hx:x.cps.all (·<128)=true)
    (k:Nat->Tok) (ts:Tok) (e b t:Nat) :
    ∃r:LR,r.p.map (·.1)=items'/\∀(gz:Nat)(G:Array GenState)(A:Around)(R:Result->Shared->Prop)(s:Shared),G.size=gz->Room 36 A ->
      Inv (T w.params) s [(fr,f4F w.params k x tx (.int 0 ts) .none rs),(ge,geO gz nm qn),(rs,liO #[] e),(gf,f1F w.params (kg 0) x tx)] b t (G.push (.fresh (F35 (T w.params) gf))) ->
      (∀s',Inv (T w.params) s' [(fr,f6F w.params r.k x tx (.int st' r.ts) r.op rs r.pv r.cv),(rs,liO (strValues r.p).toArray r.e)] (b+r.da) (t+r.dt) (G.push .finished)->Step [fr,ge,rs,gf] s s'->R (.ok .next) s') ->
      codeAny (model prog w) A (L42 (T w.params) fr ge) R s:=by
  have main:∀{z:Nat}(hz:x.cps[0]?=some z)(hb:eqS (⟨#[z]⟩:Str) Y19=false){F':Obj}{k':Nat->Tok}{opv:Value}{r:LR}{dt:Nat}{h':List Nat}{C:List Hint}{ks:List Nat}{op' pv cv:Value}(hks:nodupB ks=true)
      (hj:∀gz,(sxJ ⟨x,tx,fr,ge,rs,gf,b+1,b,gz,nm,qn,g4F w.params (fun j=>match j with | 3=>t+6 | j=>([kg 0,t+1,t+2]:List Tok).getD j 0) x tx (.int (0:Nat) (t+4)) (.str ⟨#[z]⟩ (t+3)),enO b ((0:Nat)+1) (.str ⟨#[z]⟩ (t+3)) .none,siO x tx ((0:Nat)+1)⟩ (T w.params) h' C ks (f4F w.params k x tx (.int 0 ts) .none rs) F' (b+6) (0:Nat) (t+4) z (t+3) #[] #[] e e 3 dt).Eqn (T w.params) w.params prog (b+7) (t+8))
      (hC:HOk (T w.params) prog w (b+7) (t+8) C)
      (hl:LoopOk T prog w ⟨x,tx,fr,ge,rs,gf,b+1,b,0,nm,qn,default,default,default⟩ F' (.int (0:Nat) (t+4)) (.str ⟨#[z]⟩ (t+3)) (.str ⟨#[z]⟩ (t+3)) (fun j=>match j with | 3=>t+6 | j=>([kg 0,t+1,t+2]:List Tok).getD j 0) 1 #[] e (b+7+3) (t+8+dt) st' r),
      ∀(gz:Nat)(G:Array GenState)(A:Around)(R:Result->Shared->Prop)(s:Shared),G.size=gz->Room 36 A ->
      Inv (T w.params) s [(fr,f4F w.params k x tx (.int 0 ts) .none rs),(ge,geO gz nm qn),(rs,liO #[] e),(gf,f1F w.params (kg 0) x tx)] b t (G.push (.fresh (F35 (T w.params) gf))) ->
      (∀s',Inv (T w.params) s' [(fr,f6F w.params r.k x tx (.int st' r.ts) r.op rs r.pv r.cv),(rs,liO (strValues r.p).toArray r.e)] (b+(7+3+r.da)) (t+(8+dt+r.dt)) (G.push .finished)->Step [fr,ge,rs,gf] s s'->R (.ok .next) s') ->
      codeAny (model prog w) A (L42 (T w.params) fr ge) R s:=by
    intro z hz hb F' k' opv r dt h' C ks op' pv cv hks hj hC hl gz G A R s hG hr hi hfin
    have hcl:cl (L42 (T w.params) fr ge)=false:=by rw [Hy.fo];rfl
    rw [Hy.fo]
    refine for_step (by rw [<- Hy.fo];exact Hy.q ..) rfl fun E=>?_
    rw [<- Hy.fo]
    have hrU:Room 35 (A.under (L42 (T w.params) fr ge)):=hr.call hcl
    refine nx_first Hy.g (k:=kg) hz hx hb hG (hrU.mono (by decide)) (hi.perm (L':=[(gf,f1F w.params (kg 0) x tx)]++(ge,geO gz nm qn)::[(fr,f4F w.params k x tx (.int 0 ts) .none rs),(rs,liO #[] e)]) ?_) fun s1 st1 hs1 I1 S1=>?_
    · exact (List.perm_append_comm (l₁:=[(fr,f4F w.params k x tx (.int 0 ts) .none rs),(ge,geO gz nm qn),(rs,liO #[] e)]) (l₂:=[(gf,f1F w.params (kg 0) x tx)])).trans (List.Perm.cons _ (List.Perm.swap _ _ _))
    intro E2
    refine run_tree (m:=letOwnedTupleGo _ (.ref ge) (.ref (b+6)) >>= fun _=>assign _ _ (.ref (b+6)) >>= fun _=>execs _ _) (enc:=fun f=>.done f) (A:=A) (hj gz) (mTree_eq ..) hks (fun ds q hm=>(hs_ok _ hC).all ds q hm) (hr.mono (show 30<=36 by decide)) (I1.perm ?_) (fun s2 I2 S2 N2=>?_) (fun c h=>by cases h) (fun a c h=>by cases h)
    · show List.Perm ([(b+6,_),(gf,_),(b+1,_),(b,_)]++[(ge,_),(fr,_),(rs,_)]) ([(fr,_),(ge,_),(b+6,_),(rs,_)]++[(gf,_),(b+1,_),(b,_)])
      refine (List.perm_append_comm (l₁:=[(b+6,_),(gf,_),(b+1,_),(b,_)])).trans ?_
      show List.Perm ((ge,_)::(fr,_)::(rs,_)::(b+6,_)::[(gf,_),(b+1,_),(b,_)]) ((fr,_)::(ge,_)::(b+6,_)::(rs,_)::[(gf,_),(b+1,_),(b,_)])
      exact (List.Perm.swap _ _ _).trans (List.Perm.cons _ (List.Perm.cons _ (List.Perm.swap _ _ _)))
    intro f hf
    injection hf with hf
    subst hf
    refine ⟨rfl,?_⟩
    have S12:Step [fr,ge,rs,gf] s s2:=(S1.weak (Y:=[fr,ge,rs,gf]) (by simp)).trans (show Step [fr,ge,b+6,rs,gf,b+1,b] s1 s2 from S2) hi.size (AllIn.mem ⟨.inl (by simp),.inl (by simp),.inr (Nat.le_add_right ..),.inl (by simp),.inl (by simp),.inr (Nat.le_succ _),.inr (Nat.le_refl _),trivial⟩)
    refine hl gz G A R s2 st1 hG hr hs1 I2 fun s3 I3 S3=>hfin s3 ?_ (S12.trans S3 hi.size fun a ha=>?_)
    · have e1:b+(7+3+r.da)=b+7+3+r.da:=by omega
      have e2:t+(8+dt+r.dt)=t+8+dt+r.dt:=by omega
      rw [e1,e2]
      exact I3
    · exact (AllIn.mem ⟨.inl (by simp),.inl (by simp),.inl (by simp),.inl (by simp),.inr (Nat.le_succ _),.inr (Nat.le_refl _),trivial⟩:∀a∈[fr,ge,rs,gf,b+1,b],a∈[fr,ge,rs,gf]∨b<=a) a ha
  cases h with
  | done hz=>exact absurd hz h0
  | @n _ z _ _ _ _ _ hz hb hq hr=>
    obtain ⟨r,h1,h2⟩:=s_loop Hy ⟨x,tx,fr,ge,rs,gf,b+1,b,0,nm,qn,default,default,default⟩ (fun j=>match j with | 3=>t+6 | j=>([kg 0,t+1,t+2]:List Tok).getD j 0) hr (kpc k (t+8)) ts 0 (.int (0:Nat) (t+4)) (.str ⟨#[z]⟩ (t+3)) (.int (0:Nat) (t+4)) (.str ⟨#[z]⟩ (t+3)) (.str ⟨#[z]⟩ (t+3)) [] e (b+7+3) (t+8+3) rfl
    refine ⟨{ r with da:=7+3+r.da,dt:=8+3+r.dt },h1,?_⟩
    exact main hz hb (k':=k) (opv:=.none) (op':=.none) (pv:=.none) (cv:=.none) rfl (fun gz=>by have hjob:=Hy.n4 (Sx.mk x tx fr ge rs gf (b+1) b gz nm qn (g4F w.params (fun j=>match j with | 3=>t+6 | j=>([kg 0,t+1,t+2]:List Tok).getD j 0) x tx (.int (0:Nat) (t+4)) (.str ⟨#[z]⟩ (t+3))) (enO b ((0:Nat)+1) (.str ⟨#[z]⟩ (t+3)) .none) (siO x tx ((0:Nat)+1))) k (.int 0 ts) .none (b+6) (0:Nat) (t+4) z (t+3) #[] e (b+7) (t+8);exact jobQ hjob) (sxC_ok (C:=[]) Hy hq trivial) h2
  | @o _ z _ _ _ _ hz hb hq hr=>
    obtain ⟨r,h1,h2⟩:=s_loop Hy ⟨x,tx,fr,ge,rs,gf,b+1,b,0,nm,qn,default,default,default⟩ (fun j=>match j with | 3=>t+6 | j=>([kg 0,t+1,t+2]:List Tok).getD j 0) hr (kpc k (t+8)) ts (t+4) (.int (0:Nat) (t+4)) (.str ⟨#[z]⟩ (t+3)) (.int (0:Nat) (t+4)) (.str ⟨#[z]⟩ (t+3)) (.str ⟨#[z]⟩ (t+3)) [] e (b+7+3) (t+8+4) rfl
    refine ⟨{ r with da:=7+3+r.da,dt:=8+4+r.dt },h1,?_⟩
    exact main hz hb (k':=k) (opv:=.none) (op':=.none) (pv:=.none) (cv:=.none) rfl (fun gz=>by have hjob:=Hy.o4 (Sx.mk x tx fr ge rs gf (b+1) b gz nm qn (g4F w.params (fun j=>match j with | 3=>t+6 | j=>([kg 0,t+1,t+2]:List Tok).getD j 0) x tx (.int (0:Nat) (t+4)) (.str ⟨#[z]⟩ (t+3))) (enO b ((0:Nat)+1) (.str ⟨#[z]⟩ (t+3)) .none) (siO x tx ((0:Nat)+1))) k (.int 0 ts) (b+6) (0:Nat) (t+4) z (t+3) #[] e (b+7) (t+8);exact jobQ hjob) (sxC_ok (C:=[]) Hy hq trivial) h2
end
inductive JoinRel (items:List Str)(res:Str):Prop where
  | one (h:items=[res]) (h2:tooLong (items.toArray.foldl (·+·.length+Y2.length) 0)=false)
  | more (h1:items.length≠1) (h2:tooLong (items.toArray.foldl (·+·.length+Y2.length) 0)=false) (h3:(glued Y2 items).length<=sizeLine) (h4:glued Y2 items=res)
inductive EndRel (x:Str)(st:Int)(items:List Str)(res:Str):Prop where
  | app (c:Str) (hlt:decide ((st:Int)<(x.length:Int))=true) (hl:items.length<=100) (hc:(st=0/\c=x/\(strSliceIndices (some 0) none 1 x.length).length=x.length)∨((strSliceIndices (some st) none 1 x.length).length≠x.length/\sliceS x (some st) none=c)) (hj:JoinRel (items++[c]) res)
  | no (hlt:decide ((st:Int)<(x.length:Int))=false) (hj:JoinRel items res)
section
variable {kt:KT}{prog:Program}{w:World}{b t:Nat}
theorem join_ex (rs:Addr)(p:List (Str×Tok))(e:Nat){res:Str}(h:JoinRel (p.map (·.1)) res):∃(TR:Nat->Nat->Tok)(dj:Nat),∀b t,COk kt prog w b t fun b' t' cd _=>joE (aT cd 0) rs (strValues p).toArray e res TR dj b' t':=by
  cases h with
  | one h h2=>
    match p,h,h2 with
    | [(c,tc)],h,h2=>
      have hc:c=res:=by simpa using h
      subst hc
      refine ⟨fun _ _=>tc,0,fun b t b' t' cd l _ _=>?_⟩
      refine prim_meets rfl F.slot_str_join (fun _=>typeIs_str _ _ _) F.entry_str_join (F.args_str_join_2 _ _) (meets_str_join_list Y2 (aT cd 0) rs [(c,tc)] h2) fun G A R s hi' hfin=>?_
      refine ⟨⟨_,hi'.has _ List.mem_cons_self,rfl,_,rfl⟩,?_⟩
      have:=hfin s hi' (Step.refl _ _) (fun _ h=>by cases h)
      exact this
    | [],h,_=>simp at h
    | _::_::_,h,_=>simp at h
  | more h1 h2 h3 h4=>
    refine ⟨fun _ t=>t,1,fun b t=>?_⟩
    exact cJoinE_ok (by simpa using h1) h2 h3 h4
theorem slice_ex (x:Str)(tx:Tok)(sa:Addr)(st:Int)(ts:Tok){c:Str}(hx:x.length<=sizeLine)(hc:(st=0/\c=x/\(strSliceIndices (some 0) none 1 x.length).length=x.length)∨((strSliceIndices (some st) none 1 x.length).length≠x.length/\sliceS x (some st) none=c)):
    ∃(TC:Nat->Nat->Tok)(dc:Nat),∀b t,COk kt prog w b t fun b' t' _ _=>slE x tx sa st ts c TC dc b' t':=by
  rcases hc with ⟨rfl,rfl,h⟩ | ⟨h1,h2⟩
  · refine ⟨fun _ _=>tx,0,fun b t b' t' cd l _ _=>?_⟩
    refine prim_meets rfl F.slot_str_getitem (fun _=>typeIs_str _ _ _) F.entry_str_getitem (F.args_str_getitem_2 _ _) (meets_str_getitem_slice c tx sa (some (0,ts)) none none rfl) fun G A R s hi' hfin=>?_
    refine ⟨⟨_,hi'.has _ List.mem_cons_self,rfl,rfl⟩,?_⟩
    unfold sliceMade
    have he:((((none:Option (Int×Tok)).map (·.1)).getD 1==1)&&(slicePicked c (some (0,ts)) none none).length==c.length)=true:=by
      unfold slicePicked
      simp only [Option.map_some,Option.map_none,Option.getD_none]
      rw [h];simp
    rw [if_pos he]
    have:=hfin s hi' (Step.refl _ _) (fun _ h=>by cases h)
    exact this
  · refine ⟨fun _ t=>t,1,fun b t b' t' cd l hb ht=>?_⟩
    exact cSliceE_ok (b:=b) (t:=t) (a:=sa) (lo:=some (st,ts)) (hi:=none) (c:=c) hx h1 h2 b' t' (.call .none ⟨[.str x tx],[]⟩) l hb ht
end
structure BodyHyp (T:Params->KT)(prog:Program)(w:World):Prop where
  s:StrHyp T prog w
  m:MakeHyp T prog w
  a:sARun T prog
  b:sBodyRun T prog
  i:genitRun T prog
  c42:∀fr,cl (F42 (T w.params) fr)=false
section
variable {T:Params->KT}{prog:Program}{w:World}
theorem opt_some {α:Type}{x:Option α}{f:α->Prop}(h:∃y,x=some y/\f y):∃y,x=some y/\f y:=h
end
section
variable {T:Params->KT}{prog:Program}{w:World}
theorem end_run {x:Str}{tx:Tok}{fr rs:Addr}{T0:Sem Fin}{b t:Nat}{K:KT}{E:Ex}{c:Code}{H:List Hint}{v:Value}{da dt:Nat}
    (he:outEnd [] (runS K w.params prog b t 20 100000 H T0 (E.L w.params x tx fr rs) 0 0 [] [])=outEnd' [] (.done (.ret v)) [] da dt (runS K w.params prog b t 20 100000 H T0 (E.L w.params x tx fr rs) 0 0 [] []))
    (hH:∀ds sp,Hint.ctr ds sp∈H->COk K prog w b t sp) {B:Around} {Q:Fin->Shared->Prop} {Er:Value->Shared->Prop} {G:Array GenState} {s:Shared} (hr:Room 20 (B.mark none)) (hi:Inv K s (E.L w.params x tx fr rs) b t G)
    (hfin:∀s',Inv K s' [] (b+da) (t+dt) G->Step [fr,rs] s s'->Q (.done (.ret v)) s'):wpAny (model prog w) B T0 Q Er s:=by
  generalize hx:runS K w.params prog b t 20 100000 H T0 (E.L w.params x tx fr rs) 0 0 [] []=y at he
  cases y with
  | none=>cases he
  | some o=>
    simp only [outEnd,outEnd'] at he
    split at he
    · rename_i f e
      simp only [Option.some.injEq,Prod.mk.injEq] at he
      refine cps fun Gp kp=>?_
      obtain ⟨e1,e4,e5,e6,e7⟩:=he
      refine kp ?_
      refine runS_sound (s0:=s) (X:=[fr,rs]) (G:=G) hi.size (zc_wp (B:=B) (Q:=Q) (E:=Er)) hr 100000 _ _ _ _ _ _ _ o hx e4 hH s hi (Step.refl _ _) ⟨[],rfl,fun _ h=>by cases h⟩ fun s2 I S O=>?_
      have I':=I.part (ds:=[]) rfl e5
      rw [e6,e7] at I'
      rw [e,e1]
      exact wpAny_pure (hfin s2 I' S)
    · cases he
theorem st_body (Hb:BodyHyp T prog w){x:Str}{tx:Tok}{st':Int}{items':List Str}{res:Str}(h:SRel x 0 0 none [] st' items')(he:EndRel x st' items' res)(h0:x.cps[0]?≠none)(hx:x.cps.all (·<128)=true)(hq:inS x Y3=true)(hl:x.length<=sizeLine)
    (fr:Addr) (k:Nat->Tok) (b t:Nat) :
    ∃(tr da dt:Nat),∀(G:Array GenState)(A:Around)(R:Result->Shared->Prop)(s:Shared),Room 40 A->Inv (T w.params) s [(fr,f1F w.params (k 0) x tx)] b t G ->
      (∀s',Inv (T w.params) s' [] (b+da) (t+dt) (G.push .finished)->Step [fr] s s'->R (.ok (.ret (.str res tr))) s')->codeAny (model prog w) A (F42 (T w.params) fr) R s:=by
  obtain ⟨r,hp,hloop⟩:=s_first (T:=T) (prog:=prog) (w:=w) Hb.s (tx:=tx) (fr:=fr) (ge:=b+1+1) (rs:=b+0) (gf:=b+1+0) (nm:=.str (fdOf (T w.params) 35).name (t+5+1)) (qn:=.str (fdOf (T w.params) 35).qualname (t+5+2)) (kg:=fun _=>t+5+0) h h0 hx (fun j=>([k 0,t+2,t+3,t+4]:List Tok).getD j 0) (t+1) 0 (b+1+2) (t+5+3)
  have hE:∃(E:Ex)(tr da dt:Nat),E.L=(⟨r.k,st',r.ts,r.op,r.pv,r.cv,(strValues r.p).toArray,r.e,E.c,E.TC,E.dc,res,E.TR,E.dj⟩:Ex).L /\
      ∀(T0:Sem Fin),End1 (T w.params) w.params prog x tx fr (b+0) T0 E (b+1+2+r.da) (t+5+3+r.dt)=End2 (T w.params) w.params prog x tx fr (b+0) T0 E (b+1+2+r.da) (t+5+3+r.dt) ->
        ∀(B:Around)(Q:Fin->Shared->Prop)(Er:Value->Shared->Prop)(G:Array GenState)(s:Shared),Room 20 (B.mark none)->Inv (T w.params) s (E.L w.params x tx fr (b+0)) (b+1+2+r.da) (t+5+3+r.dt) G ->
          (∀s',Inv (T w.params) s' [] (b+1+2+r.da+da) (t+5+3+r.dt+dt) G->Step [fr,b+0] s s'->Q (.done (.ret (.str res tr))) s')->wpAny (model prog w) B T0 Q Er s:=by
    cases he with
    | app c hlt hll hc hj=>
      refine cps fun Gp kp=>?_
      obtain ⟨TC,dc,hS⟩:=slice_ex (kt:=T w.params) (prog:=prog) (w:=w) x tx (b+1+2+r.da+0) st' r.ts hl hc
      obtain ⟨TR,dj,hJ⟩:=join_ex (kt:=T w.params) (prog:=prog) (w:=w) (b+0) (r.p++[(c,TC (b+1+2+r.da+1) (t+5+3+r.dt+2))]) (r.e+1) (res:=res) (by rw [List.map_append,hp];exact hj)
      refine kp ?_
      refine ⟨⟨r.k,st',r.ts,r.op,r.pv,r.cv,(strValues r.p).toArray,r.e,c,TC,dc,res,TR,dj⟩,TR (b+1+2+r.da+1) (t+5+3+r.dt+(2+dc+1)),1,2+dc+1+dj,rfl,fun T0 heq B Q Er G s hr hi hfin=>?_⟩
      have h1:=congrArg Prod.fst heq
      refine end_run (c:=.call .none ⟨[],[]⟩) h1 (fun ds sp hm=>(hs_ok _ (C:=Ex.C1 ⟨r.k,st',r.ts,r.op,r.pv,r.cv,(strValues r.p).toArray,r.e,c,TC,dc,res,TR,dj⟩ x tx (b+0) (b+1+2+r.da) (t+5+3+r.dt)) ⟨cLenT_ok hl,cLt_ok hlt,hS _ _,cApp_ok ?_,?_,trivial⟩).all ds sp hm) hr hi hfin
      · rw [strValues_size,show r.p.length=items'.length by rw [<- hp,List.length_map],sizeLine_eq];omega
      · have:=hJ (b+1+2+r.da) (t+5+3+r.dt)
        rw [<- strValues_snoc] at this
        exact this
    | no hlt hj=>
      obtain ⟨TR,dj,hJ⟩:=join_ex (kt:=T w.params) (prog:=prog) (w:=w) (b+0) r.p r.e (res:=res) (by rw [hp];exact hj)
      refine ⟨⟨r.k,st',r.ts,r.op,r.pv,r.cv,(strValues r.p).toArray,r.e,default,fun _ _=>0,0,res,TR,dj⟩,TR (b+1+2+r.da+0) (t+5+3+r.dt+3),0,3+dj,rfl,fun T0 heq B Q Er G s hr hi hfin=>?_⟩
      have h1:=congrArg Prod.snd heq
      exact end_run (c:=.call .none ⟨[],[]⟩) h1 (fun ds sp hm=>(hs_ok _ (C:=Ex.C0 ⟨r.k,st',r.ts,r.op,r.pv,r.cv,(strValues r.p).toArray,r.e,default,fun _ _=>0,0,res,TR,dj⟩ x (b+0)) ⟨cLenT_ok hl,cLt_ok hlt,hJ _ _,trivial⟩).all ds sp hm) hr hi hfin
  refine cps fun Gp kp=>?_
  obtain ⟨E,tr,da,dt,hEL,hEnd⟩:=hE
  refine kp ?_
  refine ⟨tr,1+2+r.da+da,5+3+r.dt+dt,fun G A R s hr hi hfin=>?_⟩
  have h':=fun gz=>Hb.b ⟨x,tx,fr,k,b+1+1,gz,.str (fdOf (T w.params) 35).name (t+5+1),.str (fdOf (T w.params) 35).qualname (t+5+2),b,t,b+1+2,t+5+3,b+1+2+r.da,t+5+3+r.dt,E⟩ w.params (w.params.followText "special-get-raises") (w.params.followText "comprehension-iter-twice")
  rw [PR_eq] at h'
  have hY:∀gz,runA ⟨x,tx,fr,k,b+1+1,gz,.str (fdOf (T w.params) 35).name (t+5+1),.str (fdOf (T w.params) 35).qualname (t+5+2),b,t,b+1+2,t+5+3,b+1+2+r.da,t+5+3+r.dt,E⟩ (T w.params) w.params prog=runA ⟨x,tx,fr,k,0,0,.none,.none,b,t,0,0,0,0,E⟩ (T w.params) w.params prog:=fun _=>rfl
  have h'':=h' G.size
  rw [hY] at h''
  generalize hxA:runA ⟨x,tx,fr,k,0,0,.none,.none,b,t,0,0,0,0,E⟩ (T w.params) w.params prog=y at h''
  cases y with
  | none=>cases h''
  | some o=>
    unfold runA at hxA
    simp only [sAL,sAR] at h''
    split at h''
    · rename_i c hd g l kk e
      simp only [Option.some.injEq,Prod.mk.injEq] at h''
      refine cps fun Gp kp=>?_
      obtain ⟨e1,e2,e4,e5,e6,e7,eB⟩:=h''
      refine kp ?_
      refine codeAny_of_tree ?_
      show wpAny _ (A.under (F42 (T w.params) fr)) (denote table (F42 (T w.params) fr)) _ _ s
      rw [FD_eq]
      have hrB:Room 39 ((A.under (F42 (T w.params) fr)).mark none):=hr.call (Hb.c42 fr)
      refine runS_sound (s0:=s) (X:=[fr]) (G:=G) hi.size (zc_wp (B:=A.under (F42 (T w.params) fr))) (hrB.mono (show 20<=39 by decide)) 100000 _ _ _ _ _ _ _ o hxA e4 (fun ds sp hm=>(hs_ok _ (C:=[cIn x Y3 true]) ⟨cIn_ok hq,trivial⟩).all ds sp hm) s hi (Step.refl _ _) ⟨[],rfl,fun _ h=>by cases h⟩ fun s1 I1 S1 O1=>?_
      have I1':=I1.part (ds:=[0,1]) rfl e5
      rw [e6,e7] at I1'
      rw [e]
      subst e1 e2
      refine y_start _ _ _ _ _ _ s1 _ none g l kk (by intro e;cases e) ?_
      refine gen_make Hb.m Hb.s.g.nl x tx (hrB.mono (show 25<=39 by decide)) I1' fun s2 I2 S2=>?_
      show wpAny (model prog w) (A.under (F42 (T w.params) fr)) (kk (.ok (.ret (.ref (b+1+1))))) _ _ s2
      generalize hxB:runB ⟨x,tx,fr,k,b+1+1,G.size,.str (fdOf (T w.params) 35).name (t+5+1),.str (fdOf (T w.params) 35).qualname (t+5+2),b,t,b+1+2,t+5+3,b+1+2+r.da,t+5+3+r.dt,E⟩ (kk (.ok (.ret (.ref (b+1+1))))) (T w.params) w.params prog=y at eB
      cases y with
      | none=>cases eB
      | some o2=>
        unfold runB at hxB
        simp only [sBL,sBR] at eB
        split at eB
        · rename_i c2 hd2 g2 l2 kk2 eo2
          simp only [Option.some.injEq,Prod.mk.injEq] at eB
          refine cps fun Gp kp=>?_
          obtain ⟨f1,f2,f4,f5,f6,f7,f8⟩:=eB
          refine kp ?_
          have I2':Inv (T w.params) s2 ([(fr,f4F w.params (fun j=>([k 0,t+2,t+3,t+4]:List Tok).getD j 0) x tx (.int 0 (t+1)) .none (b+0)),(b+1+1,geO G.size (.str (fdOf (T w.params) 35).name (t+5+1)) (.str (fdOf (T w.params) 35).qualname (t+5+2))),(b+0,liO #[] 0)]++[(b+1+0,f1F w.params (t+5+0) x tx)]) (b+1+2) (t+5+3) (G.push (.fresh (F35 (T w.params) (b+1+0)))):=I2.perm (by
            show List.Perm ([(b+1+1,_),(b+1+0,_)]++[(b+0,_),(fr,_)]) ((fr,_)::(b+1+1,_)::(b+0,_)::[(b+1+0,_)])
            refine (List.perm_append_comm (l₁:=[(b+1+1,_),(b+1+0,_)])).trans ?_
            show List.Perm ((b+0,_)::(fr,_)::(b+1+1,_)::[(b+1+0,_)]) ((fr,_)::(b+1+1,_)::(b+0,_)::[(b+1+0,_)])
            exact (List.Perm.swap _ _ _).trans (List.Perm.cons _ (List.Perm.swap _ _ _)))
          have I2s:=I2'.sub (L':=[(fr,f4F w.params (fun j=>([k 0,t+2,t+3,t+4]:List Tok).getD j 0) x tx (.int 0 (t+1)) .none (b+0)),(b+1+1,geO G.size (.str (fdOf (T w.params) 35).name (t+5+1)) (.str (fdOf (T w.params) 35).qualname (t+5+2))),(b+0,liO #[] 0)]) (fun q hq=>List.mem_append_left _ hq) (by have:=I2'.nd;rw [List.map_append] at this;exact (List.nodup_append.mp this).1)
          refine runS_sound (s0:=s2) (X:=[fr,b+1+1,b+0]) (G:=G.push (.fresh (F35 (T w.params) (b+1+0)))) I2s.size (zc_wp (B:=A.under (F42 (T w.params) fr))) (hrB.mono (show 20<=39 by decide)) 100000 _ _ _ _ _ _ _ o2 hxB f4 (fun ds sp hm=>(hs_ok _ (C:=[.ctr [1] (fun b' t' _ _=>genitSp (b+1+1) G.size (.str (fdOf (T w.params) 35).name (t+5+1)) (.str (fdOf (T w.params) 35).qualname (t+5+2)) b' t')]) ⟨fun b' t' _ _ _ _=>genit_ok Hb.i _ _ _ _ _ _,trivial⟩).all ds sp hm) s2 I2s (Step.refl _ _) ⟨[],rfl,fun _ h=>by cases h⟩ fun s3 I3 S3 O3=>?_
          have I3':=I3.part (ds:=[0,1,2]) rfl f5
          rw [f6,f7] at I3'
          have J3:=I2'.frame I3' S3 (AllIn.led ⟨.inl (by simp),.inl (by simp),.inl (by simp),trivial⟩)
          rw [eo2]
          subst f1 f2
          refine y_start _ _ _ _ _ _ s3 _ none g2 l2 kk2 (by intro e;cases e) ?_
          refine hloop G.size (G:=G) _ _ s3 rfl (hrB.mono (show 36<=39 by decide)) J3 fun s4 I4 S4=>?_
          show wpAny (model prog w) (A.under (F42 (T w.params) fr)) (kk2 (.ok .next)) _ _ s4
          refine hEnd (kk2 (.ok .next)) ?_ _ _ _ (G.push .finished) s4 (hrB.mono (show 20<=39 by decide)) (by rw [hEL];exact I4) fun s5 I5 S5=>?_
          · exact Prod.ext f8.1 f8.2
          · refine hfin s5 ?_ ?_
            · have a1:b+(1+2+r.da+da)=b+1+2+r.da+da:=by omega
              have a2:t+(5+3+r.dt+dt)=t+5+3+r.dt+dt:=by omega
              rw [a1,a2]
              exact I5
            · have hb:∀a∈[fr,b+1+1,b+0,b+1+0],a∈[fr]∨b<=a:=AllIn.mem ⟨.inl (.head _),.inr (Nat.le_add_right b 2),.inr (Nat.le_refl _),.inr (Nat.le_succ _),trivial⟩
              have Sa:=S1.trans S2 hi.size (fun a ha=>by cases ha)
              have Sb:=Sa.trans S3 hi.size (AllIn.mem ⟨.inl (.head _),.inr (Nat.le_add_right b 2),.inr (Nat.le_refl _),trivial⟩)
              have Sc:=Sb.trans S4 hi.size hb
              exact Sc.trans S5 hi.size (AllIn.mem ⟨.inl (.head _),.inr (Nat.le_refl _),trivial⟩)
        · cases eB
    · cases h''
theorem st_fn (Hb:BodyHyp T prog w){x:Str}{st':Int}{items':List Str}{res:Str}(h:SRel x 0 0 none [] st' items')(he:EndRel x st' items' res)(h0:x.cps[0]?≠none)(hx:x.cps.all (·<128)=true)(hq:inS x Y3=true)(hl:x.length<=sizeLine)(tx:Tok)(b t:Nat):
    ∃(tr da dt:Nat),SpOk (T w.params) prog w (stSp x res tx tr da dt 1) b t:=by
  refine cps fun Gp kp=>?_
  obtain ⟨tr,da,dt,hB⟩:=st_body Hb (tx:=tx) h he h0 hx hq hl (b+0) (fun _=>t+0) (b+1) (t+1)
  refine kp ?_
  refine ⟨tr,1+da,1+dt,rfl,fun G A R s hr hi hfin=>?_⟩
  have hJ:=jobQ (w:=w) (Hb.a x tx b t)
  have z:=run_tr hJ (.inr rfl) (show nodupB [0]=true from rfl) (fun ds sp hm=>(hs_ok _ (C:=[]) trivial).all ds sp hm)
  refine z G A R s hr hi fun s1 I1 S1 N1=>?_
  refine hB G A R s1 hr I1 fun s2 I2 S2=>hfin s2 ?_ (Step.trans S1 S2 hi.size (fun a ha=>.inr (by rw [List.mem_singleton.mp ha];exact Nat.le_refl _))) (fun q hq=>by cases hq)
  have a1:b+(1+da)=b+1+da:=by omega
  have a2:t+(1+dt)=t+1+dt:=by omega
  show Inv _ s2 [] (b+(1+da)) (t+(1+dt)) _
  rw [a1,a2]
  exact I2
end
noncomputable def sg (r j:Nat):Nat:=([96,34,31,39,97,8,40,44]:List Nat).getD ((r+j) % 8) 0
noncomputable def nm (r j:Nat):Str:=⟨#[sg r j+1]⟩
noncomputable def stL (r:Nat):Nat->Nat->List Nat
  | 0,_=>[]
  | n+1,s=>(if s / 2 ^ n % 2=1 then [34] else [])++(sg r n+1)::stL r n s
noncomputable def stS (r n s:Nat):Str:=⟨(stL r n s).toArray⟩
noncomputable def flip (s j:Nat):Nat:=if s / 2 ^ j % 2=1 then s-2 ^ j else s+2 ^ j
def mk1 (x:Str):Str:=Y3++x
abbrev TurnP (q:Str)(x y:Str):Prop:=(inS q (mk1 x)=true/\(occurrences q (mk1 x) 0 q.length (q.length+1)).isEmpty=false/\replS q (mk1 x) x=y) ∨
  (inS q (mk1 x)=false/\(occurrences q x 0 q.length (q.length+1)).isEmpty=false/\replS q x (mk1 x)=y)
theorem turn_all:∀r,r<8->∀s,s<16->∀j,j<4->TurnP (stS r 4 s) (nm r j) (stS r 4 (flip s j)):=by decide +kernel
theorem turn_all3:∀s,s<8->∀j,j<3->TurnP (stS 2 3 s) (nm 2 j) (stS 2 3 (flip s j)):=by decide +kernel
noncomputable def sufS (r j p:Nat):Str:=⟨((sg r j+1)::stL r j p).toArray⟩
theorem ends_all:∀r,r<8->∀s,s<16->∀j,j<4->∀p,p<2 ^ j->endsS (stS r 4 s) (sufS r j p)=(s % 2 ^ j==p):=by decide +kernel
theorem ends_all3:∀s,s<8->∀j,j<3->∀p,p<2 ^ j->endsS (stS 2 3 s) (sufS 2 j p)=(s % 2 ^ j==p):=by decide +kernel
abbrev dts:Str:=Y35
abbrev HingeP (s:Str):Prop:=inS (dts++s) dts=true/\(decide ((dts++s).length<dts.length)||decide (strKind (dts++s)<strKind dts))=false/\(occurrences (dts++s) dts 0 (dts++s).length ((dts++s).length+1)).isEmpty=false/\cutS (dts++s) dts=[Y2,s]/\1<=s.length/\s.length<=8
theorem hinge_all:∀r,r<8->∀j,j<4->∀p,p<2 ^ j->HingeP (sufS r j p):=by decide +kernel
theorem topB_false {a:Nat}(h:topB a=false):a=86∨137<=a:=by
  unfold topB at h
  split at h
  · rename_i e;exact .inl (Nat.eq_of_beq_eq_true e)
  · exact .inr (Nat.le_of_not_lt fun l=>by rw [show Nat.blt a 137=true from Nat.ble_eq_true_of_le l] at h;cases h)
structure KeepL (s0 s:Shared):Prop where
  keep:∀a o,a<137->a≠86->s0.heap.get? a=some o->s.heap.get? a=some o
  os:s.os=s0.os
  fin:∃n,s.gens=finN s0.gens n
theorem KeepL.refl (s:Shared):KeepL s s:=⟨fun _ _ _ _ h=>h,rfl,0,rfl⟩
theorem KeepL.step {kt:KT}{s0 s s':Shared}{L:Led}{sz tk:Nat}{G:Array GenState}(h:KeepL s0 s)(I:Inv kt s L sz tk G)(S:Step (L.map (·.1)) s s'){g:Nat}(hg:s'.gens=finN G g):KeepL s0 s':=
  ⟨fun a o h1 h2 h3=>S.keep a o (fun m=>by
    obtain ⟨p,hp,e⟩:=List.mem_map.mp m
    rcases topB_false (I.off p hp) with z | z
    · exact h2 (e▸z)
    · have z':137<=a:=(show p.1=a from e)▸z
      exact absurd h1 (Nat.not_lt.mpr z')) (h.keep a o h1 h2 h3),S.os.trans h.os,by
    obtain ⟨n,e⟩:=h.fin
    rw [I.gens] at e
    exact ⟨n+g,by rw [hg,e,finN_add]⟩⟩
structure LI (kt:KT)(s0 s:Shared)(L:Led)(b t:Nat)(G:Array GenState):Prop where
  i:Inv kt s L b t G
  k:KeepL s0 s
theorem LI.part {kt:KT}{s0 s:Shared}{L l:Led}{b t:Nat}{G:Array GenState}(I:LI kt s0 s L b t G)(ds:List Nat)(hd:nodupB ds=true)(hg:gets L ds=some l):LI kt s0 s l b t G:=⟨I.i.part hd hg,I.k⟩
section
variable {kt:KT}{prog:Program}{w:World}
theorem run_law {α:Type}{b t:Nat}{J:Job}{m:Sem α}{enc:α->Fin}(h:J.Eqn kt w.params prog b t)(htr:J.tr=m >>= fun a=>Sem.pure (enc a))(hks:nodupB J.ks=true)
    (hsp:∀ds q,Hint.ctr ds q∈J.H->COk kt prog w b t q) {N:Led} {G:Array GenState} {A:Around} {Q:α->Shared->Prop} {E:Value->Shared->Prop} {s0 s:Shared} {f:Fin} (hres:J.res=.ok f) (hf:∀c,f≠.again c) (hr:Room J.n A) (hi:LI kt s0 s (J.L++N) b t G)
    (hfin:∀s',LI kt s0 s' (J.M++N) (b+J.da) (t+J.dt) (finN G J.g)->∀a,enc a=f->Q a s') (hq2:∀a c,enc a≠.again c):wpAny (model prog w) (A.under J.c) m Q E s:=by
  have hs:Inv kt s J.L b t G:=hi.i.sub (fun q hq=>List.mem_append_left _ hq) (by have:=hi.i.nd;rw [List.map_append] at this;exact (List.nodup_append.mp this).1)
  refine run_tree h htr hks hsp hr hs (fun s' I S N'=>?_) (by rw [hres];intro c e;injection e with e;exact hf c e) hq2
  rw [hres]
  exact hfin s' ⟨hi.i.frame I S N',hi.k.step hs S I.gens⟩
theorem nth_drop {b:List Stmt}:∀{i:Nat}{st:Stmt},nth b i=some st->b.drop i=st::b.drop (i+1):=by
  induction b with
  | nil=>intro i st h;cases h
  | cons a b ih=>
    intro i st h
    cases i with
    | zero=>cases h;rfl
    | succ i=>rw [List.drop_succ_cons,List.drop_succ_cons];exact ih h
theorem nth_lt {b:List Stmt}:∀{i:Nat},i<b.length->∃st,nth b i=some st:=by
  induction b with
  | nil=>intro i h;exact absurd h (Nat.not_lt_zero _)
  | cons a b ih=>
    intro i h
    cases i with
    | zero=>exact ⟨a,rfl⟩
    | succ i=>exact ih (Nat.lt_of_succ_lt_succ h)
theorem execs_step {b:List Stmt}{i:Nat}{env:Env}{B:Around}{Q:Flow->Shared->Prop}{E:Value->Shared->Prop}{s:Shared}(hi:i<b.length)
    (h:wpAny (model prog w) B (execs (nth b i).toList env) (fun f s'=>f=.next/\wpAny (model prog w) B (execs (b.drop (i+1)) env) Q E s') E s):wpAny (model prog w) B (execs (b.drop i) env) Q E s:=by
  obtain ⟨st,hst⟩:=nth_lt hi
  rw [hst] at h
  rw [nth_drop hst]
  refine wpAny_execs_cons ?_
  have e:execs (some st).toList env=exec st env >>= fun f=>match f with | .next=>pure .next | f=>pure f:=by
    show execs [st] env=_
    rw [execs_cons]
    refine congrArg _ (funext fun f=>?_)
    cases f<;>rfl
  rw [e] at h
  have e2:(exec st env >>= fun f=>(match f with | .next=>pure .next | f=>pure f:Sem Flow))=exec st env:=by
    have:(fun f:Flow=>(match f with | .next=>pure .next | f=>pure f:Sem Flow))=pure:=by funext f;cases f<;>rfl
    rw [this];exact bind_pure _
  rw [e2] at h
  refine wpAny_mono h (fun f s' hf=>?_) fun _ _ x=>x
  obtain ⟨rfl,hf⟩:=hf
  exact hf
end
noncomputable def lawAJ (sa:Addr)(b t:Nat)(K:KT)(P:Params):Job:=⟨116,.call (.ref 136) ⟨[.ref sa],[]⟩,TF (.call (.ref 136) ⟨[.ref sa],[]⟩),[],hs [0,0,7,7,0] [],[3,2,1,0],.ok (.again (lawC K (b+0) (b+1) (b+2) (b+3))),[(b+0,frO #[ent P Y48 (t+0) (.ref sa)] 1),(b+1,ceO none),(b+2,ceO none),(b+3,ceO none)],4,1,0⟩
def lawARun (T:Params->KT)(prog:Program):Prop:=∀(sa:Addr)(b t:Nat),JobOk T prog (fun K P=>lawAJ sa b t K P) b t
noncomputable def e1rJ (n:Int)(fr cc cn cl:Addr)(k:Nat->Tok)(sa ab aw:Addr)(tc:Tok)(fi:Str)(tf:Tok)(b t:Nat)(K:KT)(P:Params):Job:=⟨10,lawC K fr cc cn cl,eT (ifW (lawN K 7)) (lawE K fr cc cn cl),[(fr,frO #[ent P Y48 (k 0) (.ref sa),ent P Y49 (k 1) (.int n tc),ent P Y32 (k 2) (.ref ab),ent P Y51 (k 3) (.str fi tf),ent P Y52 (k 4) (.ref aw)] 5)],hs [4] [],[0],.ok (.done (.ret (.ref aw))),[(fr,frO #[ent P Y48 (k 0) (.ref sa),ent P Y49 (k 1) (.int n tc),ent P Y32 (k 2) (.ref ab),ent P Y51 (k 3) (.str fi tf),ent P Y52 (k 4) (.ref aw)] 5)],0,0,0⟩
def e1rRun (T:Params->KT)(prog:Program):Prop:=∀(n:Int)(fr cc cn cl:Addr)(k:Nat->Tok)(sa ab aw:Addr)(tc:Tok)(fi:Str)(tf:Tok)(b t:Nat),JobOk T prog (fun K P=>e1rJ n fr cc cn cl k sa ab aw tc fi tf b t K P) b t
def IfS (st:Stmt):Prop:=st=.If (.BoolOp .Or [.Compare (ifL st) [.NotEq] [ifW st] (cmS st).2.2,ifR st] (boS st).2) (stE st).2.1 [] (stE st).2.2
def ReS (st:Stmt):Prop:=st=.Return (some (.BoolOp .And [.Compare (ifL st) [.Eq] [ifW st] (cmS st).2.2,ifR st] (boS st).2)) (stE st).2.2
section
variable {T:Params->KT}{prog:Program}{w:World}{A:Around}{Q:Flow->Shared->Prop}{E:Value->Shared->Prop}{s0:Shared}{fr cc cn cl:Addr}{i b t:Nat}
def St (T:Params->KT)(prog:Program)(w:World)(A:Around)(Q:Flow->Shared->Prop)(E:Value->Shared->Prop)(s0:Shared)(fr cc cn cl:Addr)(i:Nat)(L:Led)(b t:Nat):Prop:=
  ∀s G,LI (T w.params) s0 s L b t G->wpAny (model prog w) (A.under (lawC (T w.params) fr cc cn cl)) (execs ((bodyOf (T w.params) 136).drop i) (lawE (T w.params) fr cc cn cl)) Q E s
theorem xT_eq (ss:List Stmt)(env:Env):xT ss env=execs ss env >>= fun f=>Sem.pure (.done f):=by
  unfold xT
  rw [<- PySem.W.R.bindR_eq,<- PySem.W.Fast.te12563942051412417395]
  rfl
theorem eT_eq (e:Expr)(env:Env):eT e env=eval e env >>= fun v=>Sem.pure (.done (.ret v)):=by
  unfold eT
  rw [<- PySem.W.R.bindR_eq,<- PySem.W.Fast.te14044960220447912780]
  rfl
theorem bT_eq (e:Expr)(env:Env):bT e env=isTrue e env (eval e env) >>= fun v=>Sem.pure (.done (.ret (.bool v))):=by
  unfold bT
  rw [<- PySem.W.R.bindR_eq,<- PySem.W.Fast.te15418851999007992765,<- PySem.W.Fast.te14044960220447912780]
  rfl
theorem St.job (hlen:(bodyOf (T w.params) 136).length=11)(hr:Room 116 A){J:KJ}{N:Led}{l:List Nat}{C:List Hint}(h:JobOk T prog J b t)(hH:(J (T w.params) w.params).H=hs l C)(hC:HOk (T w.params) prog w b t C)(next:St T prog w A Q E s0 fr cc cn cl (i+1) ((J (T w.params) w.params).M++N) (b+(J (T w.params) w.params).da) (t+(J (T w.params) w.params).dt))(htr:(J (T w.params) w.params).tr=xT (lawS (T w.params) i) (lawE (T w.params) fr cc cn cl):=by rfl)(hc:(J (T w.params) w.params).c=lawC (T w.params) fr cc cn cl:=by rfl)(hres:(J (T w.params) w.params).res=.ok (.done .next):=by rfl)(hks:nodupB (J (T w.params) w.params).ks=true:=by rfl)(hn:Nat.ble (J (T w.params) w.params).n 116=true:=by rfl)(hi:i<11:=by decide):St T prog w A Q E s0 fr cc cn cl i ((J (T w.params) w.params).L++N) b t:=by
  intro s G I
  refine execs_step (by rw [hlen];exact hi) ?_
  rw [<- hc]
  refine run_law (m:=execs (lawS (T w.params) i) (lawE (T w.params) fr cc cn cl)) (enc:=fun f=>.done f) (jobQ h) (htr.trans (xT_eq _ _)) hks (fun ds q hm=>(hs_ok l hC).all ds q (hH▸hm)) hres (by intro c e;cases e) (hr.mono (Nat.le_of_ble_eq_true hn)) I (fun s' I' a ha=>?_) (fun a c e=>by cases e)
  injection ha with ha
  refine ⟨ha,?_⟩
  rw [hc]
  exact next s' _ I'
theorem St.ord {L l:Led}(ds:List Nat)(hd:nodupB ds=true)(hg:gets L ds=some l)(h:St T prog w A Q E s0 fr cc cn cl i l b t):St T prog w A Q E s0 fr cc cn cl i L b t:=
  fun s G I=>h s G (I.part ds hd hg)
theorem St.oj (hlen:(bodyOf (T w.params) 136).length=11)(hr:Room 116 A){L:Led}(ds:List Nat){J:KJ}{N:Led}{l:List Nat}{C:List Hint}(h:JobOk T prog J b t)(hg:gets L ds=some ((J (T w.params) w.params).L++N))(hH:(J (T w.params) w.params).H=hs l C)(hC:HOk (T w.params) prog w b t C)(next:St T prog w A Q E s0 fr cc cn cl (i+1) ((J (T w.params) w.params).M++N) (b+(J (T w.params) w.params).da) (t+(J (T w.params) w.params).dt))(hd:nodupB ds=true:=by rfl)(htr:(J (T w.params) w.params).tr=xT (lawS (T w.params) i) (lawE (T w.params) fr cc cn cl):=by rfl)(hc:(J (T w.params) w.params).c=lawC (T w.params) fr cc cn cl:=by rfl)(hres:(J (T w.params) w.params).res=.ok (.done .next):=by rfl)(hks:nodupB (J (T w.params) w.params).ks=true:=by rfl)(hn:Nat.ble (J (T w.params) w.params).n 116=true:=by rfl)(hi:i<11:=by decide):St T prog w A Q E s0 fr cc cn cl i L b t:=
  St.ord ds hd hg (St.job hlen hr h hH hC next htr hc hres hks hn hi)
theorem law_eval {α:Type}(hr:Room 116 A){J:KJ}{N:Led}{l:List Nat}{C:List Hint}{m:Sem α}{enc:α->Fin}{Qa:α->Shared->Prop}{s:Shared}{G:Array GenState}{f:Fin}(h:JobOk T prog J b t)(I:LI (T w.params) s0 s ((J (T w.params) w.params).L++N) b t G)(hH:(J (T w.params) w.params).H=hs l C)(hC:HOk (T w.params) prog w b t C)(htr:(J (T w.params) w.params).tr=m >>= fun a=>Sem.pure (enc a))(hres:(J (T w.params) w.params).res=.ok f)
    (next:∀s',LI (T w.params) s0 s' ((J (T w.params) w.params).M++N) (b+(J (T w.params) w.params).da) (t+(J (T w.params) w.params).dt) (finN G (J (T w.params) w.params).g)->∀a,enc a=f->Qa a s') (hc:(J (T w.params) w.params).c=lawC (T w.params) fr cc cn cl:=by rfl) (hf:∀c,f≠.again c:=by intro c e;cases e) (hq2:∀a c,enc a≠.again c:=by intro a c e;cases e) (hks:nodupB (J (T w.params) w.params).ks=true:=by rfl) (hn:Nat.ble (J (T w.params) w.params).n 116=true:=by rfl):wpAny (model prog w) (A.under (lawC (T w.params) fr cc cn cl)) m Qa E s:=by
  rw [<- hc]
  exact run_law (jobQ h) htr hks (fun ds q hm=>(hs_ok l hC).all ds q (hH▸hm)) hres hf (hr.mono (Nat.le_of_ble_eq_true hn)) I next hq2
theorem IsList.li {s:Shared}{a:Addr}{xs:Array Value}{e:Nat}(h:s.heap.get? a=some (liO xs e)):s.heap.IsList a xs:=⟨_,h,rfl,_,rfl⟩
theorem IsTuple.tu {s:Shared}{a:Addr}{xs:Array Value}(h:s.heap.get? a=some (tuO xs)):s.heap.IsTuple a xs:=⟨_,h,rfl,_,rfl⟩
theorem tpRefs_size (n:Nat)(f:Nat->Tp):(tpRefs n f).size=n:=by simp [tpRefs]
theorem tpRefs_get {n:Nat}{f:Nat->Tp}{j:Nat}(h:j<(tpRefs n f).size):(tpRefs n f)[j]=.ref (f j).a:=by simp [tpRefs]
theorem tpLed_mem {n:Nat}{f:Nat->Tp}{j:Nat}(h:j<n):(f j).o∈tpLed n f:=by
  unfold tpLed
  exact List.mem_map.mpr ⟨n-1-j,List.mem_range.mpr (by omega),by rw [show n-1-(n-1-j)=j by omega]⟩
theorem all_true (n:Nat)(e:Nat->Bool)(h:∀j,j<n->e j=true):(List.range n).all e=true:=by
  rw [List.all_eq_true];intro j hj;exact h j (List.mem_range.mp hj)
theorem EqAt.str {A:Around}{s:Shared}{x y:Str}{t u:Tok}(h:x=y):SeqAt.EqAt A s (.str x t) (.str y u) true:=by
  subst h
  have:=SeqAt.EqAt.str_str (A:=A) (s:=s) x t x u
  rwa [beq_self_eq_true] at this
theorem EqAt.int {A:Around}{s:Shared}{x y:Int}{t u:Tok}(h:x=y):SeqAt.EqAt A s (.int x t) (.int y u) true:=by
  subst h
  have:=SeqAt.EqAt.int_int (A:=A) (s:=s) x t x u
  rwa [beq_self_eq_true] at this
theorem EqAt.pair {A:Around}{s:Shared}{a a':Addr}{x x':Str}{v v':Int}{tx tx' tv tv':Tok}(hne:a≠a')(h1:s.heap.get? a=some (tuO #[.str x tx,.int v tv]))(h2:s.heap.get? a'=some (tuO #[.str x' tx',.int v' tv']))(hu:A.units<cLine)(hx:x=x')(hv:v=v'):SeqAt.EqAt A s (.ref a) (.ref a') true:=by
  refine SeqAt.EqAt.of_refs hne ?_
  have:=SeqAt.RcAt.tuples (A:=A) (e:=fun _=>true) (IsTuple.tu h1) (IsTuple.tu h2) hu (fun j j1 j2=>?_)
  · exact this
  · match j,j1 with
    | 0,_=>exact EqAt.str hx
    | 1,_=>exact EqAt.int hv
theorem told_eq {s:Shared}{n:Nat}{f f':Nat->Tp}{at_ du:Addr}{et ex:Nat}{Qv:Value->Shared->Prop}{A:Around}(h1:s.heap.get? at_=some (liO (tpRefs n f) et))(h2:s.heap.get? du=some (liO (tpRefs n f') ex))(h3:∀p∈tpLed n f,s.heap.get? p.1=some p.2)(h4:∀p∈tpLed n f',s.heap.get? p.1=some p.2)
    (hne:∀p∈tpLed n f,∀q∈tpLed n f',p.1≠q.1) (hu:A.units+1<cLine) (h:∀j,j<n->(f j).x=(f' j).x/\(f j).v=(f' j).v) (hQ:Qv (.bool true) s):wpAny (model prog w) A (compareOp .Eq (.ref at_) (.ref du)) Qv E s:=by
  refine SeqAt.eq_listAt (e:=fun _=>true) (IsList.li h1) (IsList.li h2) (by rw [tpRefs_size,tpRefs_size]) (by omega) (fun j j1 j2=>?_) (by rw [all_true _ _ fun _ _=>rfl];exact hQ)
  rw [tpRefs_size] at j1
  rw [tpRefs_get,tpRefs_get]
  exact EqAt.pair (hne _ (tpLed_mem j1) _ (tpLed_mem j1)) (h3 _ (tpLed_mem j1)) (h4 _ (tpLed_mem j1)) hu (h j j1).1 (h j j1).2
def rqT (m:Int):Str:=if m=0 then Y2 else Y3
noncomputable def rgT (m:Int)(y:Nat):Str:=if m=0 then ⟨#[y+1]⟩ else ⟨#[34,y+1]⟩
theorem mulAdd (m:Int)(y:Nat)(h:m=0∨m=1){Gp:Prop}(kp:∀(DQ DF:Nat)(TQ TF:Nat->Nat->Tok->Tok),(∀b t (u v:Tok),SpOk (T w.params) prog w (prE "str.__mul__" [.str Y3 u,.int m v] (.str (rqT m) (TQ b t u)) DQ [] [] [] 0) b t)->(∀b t (u v:Tok),SpOk (T w.params) prog w (prE "str.__add__" [.str (rqT m) u,.str (⟨#[y+1]⟩:Str) v] (.str (rgT m y) (TF b t v)) DF [] [] [] 0) b t)->Gp):Gp:=by
  rcases h with rfl | rfl
  · refine kp 1 0 (fun _ t _=>t) (fun _ _ v=>v) (fun b t u v=>?_) (fun b t u v=>?_)
    · have g:=gives_str_mul Y3 0 u v (by decide) (fun h=>absurd (by decide) h) (fun h=>absurd (by decide) h)
      rw [if_pos (by decide)] at g
      exact prim_str (by show 0<=sizeLine;decide) F.slot_str_mul (fun _=>typeIs_str _ _ _) F.entry_str_mul (F.args_str_mul_2 _ _) g _ _
    · have g:=gives_str_add Y2 (⟨#[y+1]⟩:Str) u v
      rw [if_pos (by rfl)] at g
      exact prim_val F.slot_str_add (fun _=>typeIs_str _ _ _) F.entry_str_add (F.args_str_add_2 _ _) g _ _
  · refine kp 0 1 (fun _ _ u=>u) (fun _ t _=>t) (fun b t u v=>?_) (fun b t u v=>?_)
    · have g:=gives_str_mul Y3 1 u v (by decide) (fun h h2=>absurd h2 (by decide)) (fun h h2=>absurd h2 (by decide))
      rw [if_neg (by decide),if_pos (by decide)] at g
      exact prim_val F.slot_str_mul (fun _=>typeIs_str _ _ _) F.entry_str_mul (F.args_str_mul_2 _ _) g _ _
    · exact p_add Y3 (⟨#[y+1]⟩:Str) u v (by show 1≠0;decide) (by show 1≠0;decide) (by show 2<=sizeLine;rw [sizeLine_eq];decide) _ _
def WrdOk (T:Params->KT)(prog:Program)(w:World)(x:Str)(bb:Int)(W:Str):Prop:=∃(da dt:Nat)(TW:Nat->Nat->Tok),∀(tx tb:Tok)(b t:Nat),SpOk (T w.params) prog w (wrdSp x bb W tx tb (TW b t) da dt) b t
def GtOk (T:Params->KT)(prog:Program)(w:World)(X:Lx)(S:Sm)(x:Str)(tx:Tok)(ea ep:Nat)(l l' p p':Int)(wd:Str):Prop:=∀(tl tp:Tok)(b t:Nat),∃tp' tl' tw da dt:Nat,SpOk (T w.params) prog w (gtSp X S (T w.params) w.params x tx (.int l tl) (.int l' tl') p p' tp tp' ea ep wd tw da dt) b t
theorem GtOk.fn {X:Lx}{S:Sm}{x:Str}{tx:Tok}{ea ep:Nat}{l l' p p':Int}{wd:Str}(h:GtOk T prog w X S x tx ea ep l l' p p' wd)(ln:Value)(tp:Tok)(hln:∃tl,ln=.int l tl){Gp:Prop}(kp:∀(LN:Nat->Nat->Value)(TP TG AG DG:Nat->Nat->Nat),(∀b t,∃tl,LN b t=.int l' tl)->(∀b t,SpOk (T w.params) prog w (gtSp X S (T w.params) w.params x tx ln (LN b t) p p' tp (TP b t) ea ep wd (TG b t) (AG b t) (DG b t)) b t)->Gp):Gp:=by
  obtain ⟨tl,rfl⟩:=hln
  have h1:=Classical.axiomOfChoice (r:=fun (q:Nat×Nat) (r:Nat×Nat×Nat×Nat×Nat)=>SpOk (T w.params) prog w (gtSp X S (T w.params) w.params x tx (.int l tl) (.int l' r.2.1) p p' tp r.1 ea ep wd r.2.2.1 r.2.2.2.1 r.2.2.2.2) q.1 q.2) (fun q=>by
    obtain ⟨tp',tl',tw,da,dt,z⟩:=h tl tp q.1 q.2
    exact ⟨(tp',tl',tw,da,dt),z⟩)
  obtain ⟨F,hF⟩:=h1
  exact kp (fun b t=>.int l' (F (b,t)).2.1) (fun b t=>(F (b,t)).1) (fun b t=>(F (b,t)).2.2.1) (fun b t=>(F (b,t)).2.2.2.1) (fun b t=>(F (b,t)).2.2.2.2) (fun b t=>⟨_,rfl⟩) (fun b t=>hF (b,t))
theorem choiceLe {R:Type}(d:R){P:Nat->Nat->R->Prop}{b t:Nat}(h:∀b' t',b<=b'->t<=t'->∃r,P b' t' r):∃F:Nat->Nat->R,∀b' t',b<=b'->t<=t'->P b' t' (F b' t'):=by
  have h1:=Classical.axiomOfChoice (r:=fun (p:Nat×Nat) (r:R)=>b<=p.1->t<=p.2->P p.1 p.2 r) (fun p=>by
    by_cases h1:b<=p.1
    · by_cases h2:t<=p.2
      · obtain ⟨r,z⟩:=h p.1 p.2 h1 h2;exact ⟨r,fun _ _=>z⟩
      · exact ⟨d,fun _ h=>absurd h h2⟩
    · exact ⟨d,fun h=>absurd h h1⟩)
  obtain ⟨F,hF⟩:=h1
  exact ⟨fun b t=>F (b,t),fun b' t'=>hF (b',t')⟩
structure WlR where
  a:Addr
  f:Nat->Tp
  ex:Nat
  e:Nat
  da:Nat
  dt:Nat
def wl0:WlR:=⟨0,fun _=>⟨0,Y2,0,0,0⟩,0,0,0,0⟩
theorem roomUnits {n:Nat}{c:Code}{A:Around}(h:Room (n+11) A):(A.under c).units+1<cLine:=by
  have:=h.units
  have:=units_le c
  show A.units+c.cUnits+1<9900
  omega
theorem bim_eq {op:CmpOp}(h:(op==.In||op==.NotIn)=false)(e:Expr):behindInMarks op e=false:=by
  unfold behindInMarks
  split
  · rw [h,Bool.and_false,Bool.false_and]
  · rfl
theorem if_step {st:Stmt}{env:Env}{B:Around}{s:Shared}(h:IfS st)
    (hm:wpAny (model prog w) B (eval (ifL st) env) (fun a s1=>wpAny (model prog w) B (eval (ifW st) env) (fun c s2=>wpAny (model prog w) B (compareOp .NotEq a c) (fun d s3=>wpAny (model prog w) B (truthy d) (fun e s4=>e=false/\wpAny (model prog w) B (isTrue (ifR st) env (eval (ifR st) env)) (fun f s5=>f=false/\Q .next s5) E s4) E s3) E s2) E s1) E s):wpAny (model prog w) B (exec st env) Q E s:=by
  have e:=h
  refine Eq.mpr (congrArg (fun z=>wpAny (model prog w) B (exec z env) Q E s) e) ?_
  refine wpAny_If ?_
  refine wpAny_isTrue_BoolOp (wpAny_allTrue_Or_cons ?_)
  refine wpAny_isTrue_Compare1 (wpAny_mono hm (fun a s1 h1=>wpAny_mono h1 (fun c s2 h2=>wpAny_mono h2 (fun d s3 h3=>wpAny_mono h3 (fun e s4 h4=>?_) fun _ _ x=>x) fun _ _ x=>x) fun _ _ x=>x) fun _ _ x=>x) (bim_eq rfl _)
  obtain ⟨rfl,h4⟩:=h4
  refine wpAny_allTrue_Or_cons (wpAny_mono h4 (fun f s5 h5=>?_) fun _ _ x=>x)
  obtain ⟨rfl,h5⟩:=h5
  exact wpAny_allTrue_Or_nil (wpAny_execs_nil h5)
theorem ret_step {st:Stmt}{env:Env}{B:Around}{s:Shared}(h:ReS st)
    (hm:wpAny (model prog w) B (eval (ifL st) env) (fun a s1=>wpAny (model prog w) B (eval (ifW st) env) (fun c s2=>wpAny (model prog w) B (compareOp .Eq a c) (fun d s3=>wpAny (model prog w) B (truthy d) (fun e s4=>e=true/\wpAny (model prog w) B (eval (ifR st) env) (fun v=>Q (.ret v)) E s4) E s3) E s2) E s1) E s):wpAny (model prog w) B (exec st env) Q E s:=by
  have e:=h
  refine Eq.mpr (congrArg (fun z=>wpAny (model prog w) B (exec z env) Q E s) e) ?_
  refine wpAny_Return_some (wpAny_And2 (wpAny_Compare1 ?_ (bim_eq rfl _)))
  refine wpAny_mono hm (fun a s1 h1=>wpAny_mono h1 (fun c s2 h2=>wpAny_mono h2 (fun d s3 h3=>wpAny_mono h3 (fun e s4 h4=>?_) fun _ _ x=>x) fun _ _ x=>x) fun _ _ x=>x) fun _ _ x=>x
  obtain ⟨rfl,h4⟩:=h4
  exact h4
theorem nth_exec (hlen:(bodyOf (T w.params) 136).length=11)(hi:i<11){env:Env}{B:Around}{s:Shared}{P:Flow->Shared->Prop}(h:wpAny (model prog w) B (exec (lawN (T w.params) i) env) P E s)(hP:∀f s',P f s'->f≠.next->Q f s')(hn:∀s',P .next s'->wpAny (model prog w) B (execs ((bodyOf (T w.params) 136).drop (i+1)) env) Q E s'):wpAny (model prog w) B (execs ((bodyOf (T w.params) 136).drop i) env) Q E s:=by
  obtain ⟨st,hst⟩:=nth_lt (b:=bodyOf (T w.params) 136) (i:=i) (by rw [hlen];exact hi)
  have e:lawN (T w.params) i=st:=by unfold lawN;rw [hst];rfl
  rw [nth_drop hst]
  rw [e] at h
  refine wpAny_execs_cons (wpAny_mono h (fun f s' hf=>?_) fun _ _ x=>x)
  cases f with
  | next=>exact hn s' hf
  | brk=>exact hP _ _ hf (by intro h;cases h)
  | cont=>exact hP _ _ hf (by intro h;cases h)
  | ret v=>exact hP _ _ hf (by intro h;cases h)
def GzOk (T:Params->KT)(prog:Program)(w:World)(X:Lx)(S:Sm)(x:Str)(tx:Tok)(ea ep:Nat)(l p:Int):Prop:=∀(tl tp:Tok)(b t:Nat),∃tp' tw da dt:Nat,SpOk (T w.params) prog w (gtSp X S (T w.params) w.params x tx (.int l tl) (.int l tl) p p tp tp' ea ep Y2 tw da dt) b t
theorem GzOk.fn {X:Lx}{S:Sm}{x:Str}{tx:Tok}{ea ep:Nat}{l p:Int}(h:GzOk T prog w X S x tx ea ep l p)(tl tp:Tok){Gp:Prop}(kp:∀(TP TG AG DG:Nat->Nat->Nat),(∀b t,SpOk (T w.params) prog w (gtSp X S (T w.params) w.params x tx (.int l tl) (.int l tl) p p tp (TP b t) ea ep Y2 (TG b t) (AG b t) (DG b t)) b t)->Gp):Gp:=by
  have h1:=Classical.axiomOfChoice (r:=fun (q:Nat×Nat) (r:Nat×Nat×Nat×Nat)=>SpOk (T w.params) prog w (gtSp X S (T w.params) w.params x tx (.int l tl) (.int l tl) p p tp r.1 ea ep Y2 r.2.1 r.2.2.1 r.2.2.2) q.1 q.2) (fun q=>by
    obtain ⟨tp',tw,da,dt,z⟩:=h tl tp q.1 q.2
    exact ⟨(tp',tw,da,dt),z⟩)
  obtain ⟨F,hF⟩:=h1
  exact kp (fun b t=>(F (b,t)).1) (fun b t=>(F (b,t)).2.1) (fun b t=>(F (b,t)).2.2.1) (fun b t=>(F (b,t)).2.2.2) (fun b t=>hF (b,t))
theorem map_range_eq {β:Type}{n:Nat}{f g:Nat->β}(h:(List.range n).map f=(List.range n).map g)(j:Nat)(hj:j<n):f j=g j:=by
  have:=congrArg (fun l=>l[j]?) h
  simpa [hj] using this
end
noncomputable def oL (f:Nat->Nat):Nat->Nat->List (Option Nat)
  | 0,_=>[]
  | n+1,s=>(if s / 2 ^ n % 2=1 then [none] else [])++some (f n)::oL f n s
noncomputable def owS:Option Nat->Nat
  | none=>34
  | some y=>y+1
noncomputable def oT (l:List (Option Nat)):Str:=⟨(l.map owS).toArray⟩
noncomputable def one (c:Nat):Str:=⟨#[c]⟩
def bsl (c:Nat):Str:=Y19++(⟨#[c]⟩:Str)
noncomputable def wPre (P:Params):List Nat:=match P.followText "comprehension-iter-twice" with
  | true=>[0,0,4,4,4,4,0,1,4,1,4,3,4,1,6,1,6,6,6,6,6]
  | false=>[0,0,4,4,4,4,0,1,4,1,4,3,4,1,6,6,1,6,6,6,1,6,6,6,6,6]
noncomputable def wqI:Option Nat->List Nat
  | none=>[4,4,4,3,4,3,1,5,5,5,5,6,1,6,6,6,6,6]
  | some _=>[4,4,4,3,4,1,5,5,5,5,6,1,6,6,6,6,6]
noncomputable def wEnd1:List (Option Nat)->List Nat
  | [_]=>[4,6,6,6,1,7,7]
  | _=>[4,6,6,6,3]
noncomputable def wqH (l:List (Option Nat))(P:Params):List Nat:=wPre P++(l.flatMap wqI++(wEnd1 l++[3,3]))
noncomputable def wbH (l:List (Option Nat))(P:Params):List Nat:=wPre P++(l.flatMap (fun _=>[4,4,4,3,1,5,5,5,5,6,1,6,6,6,6,6])++wEnd1 l)
noncomputable def wqP:List (Option Nat)->Nat->List (Str×Tok)
  | [],_=>[]
  | none::l,k=>(bsl 34,k+4)::wqP l (k+5)
  | some y::l,k=>(one (y+1),k)::wqP l (k+3)
noncomputable def wqK:List (Option Nat)->Nat->Nat
  | [],k=>k
  | none::l,k=>wqK l (k+5)
  | some _::l,k=>wqK l (k+3)
noncomputable def wbP:List (Option Nat)->Nat->List (Str×Tok)
  | [],_=>[]
  | o::l,k=>(bsl (owS o),k+2)::wbP l (k+4)
def wqE:Option Nat->List Hint
  | none=>[cEq Y3 Y3 true,cAdd Y19 Y3]
  | some y=>[cEq (⟨#[y+1]⟩:Str) Y3 false]
def wJ (l:List (Option Nat))(b:Nat)(p:List (Str×Tok))(J:Str):List Hint:=match l with
  | [_]=>[]
  | _=>[cJoinE Y2 (b+2) p l.length J 3]
def wqC (l:List (Option Nat))(J:Str)(b t:Nat):List Hint:=cStrIter (oT l)::(l.flatMap wqE++(wJ l b (wqP l (t+4)) J++[cAdd Y3 J,cAdd (Y3++J) Y3]))
def wbC (l:List (Option Nat))(J:Str)(b t:Nat):List Hint:=cStrIter (oT l)::(l.flatMap (fun o=>[cAdd Y19 (⟨#[owS o]⟩:Str)])++wJ l b (wbP l (t+4)) J)
noncomputable def wqD:List (Option Nat)->Nat
  | [_]=>9
  | l=>wqK l 7
noncomputable def wbD (l:List (Option Nat)):Nat:=match l with
  | [_]=>6
  | l=>4*l.length+3
noncomputable def wqSp (l:List (Option Nat))(J:Str)(tw tb:Tok)(b t:Nat):Sp:=⟨20,.call (.ref 96) ⟨[.str (oT l) tw,.int 0 tb],[]⟩,[],.ok (.ret (.str ((Y3++J)++Y3) (t+wqD l))),[],[],6,wqD l+1,0⟩
noncomputable def wbSp (l:List (Option Nat))(J:Str)(tw tb:Tok)(b t:Nat):Sp:=⟨20,.call (.ref 96) ⟨[.str (oT l) tw,.int 1 tb],[]⟩,[],.ok (.ret (.str J (t+wbD l))),[],[],6,wbD l+1,0⟩
def wqRun (n s:Nat)(T:Params->KT)(prog:Program):Prop:=∀(f:Nat->Nat)(J:Str)(tw tb:Tok)(b t:Nat),JobOk T prog (fun K P=>jobOf (wqSp (oL f n s) J tw tb b t) (TF (wqSp (oL f n s) J tw tb b t).c) (wqH (oL f n s) P) (wqC (oL f n s) J b t) []) b t
def wbRun (n s:Nat)(T:Params->KT)(prog:Program):Prop:=∀(f:Nat->Nat)(J:Str)(tw tb:Tok)(b t:Nat),JobOk T prog (fun K P=>jobOf (wbSp (oL f n s) J tw tb b t) (TF (wbSp (oL f n s) J tw tb b t).c) (wbH (oL f n s) P) (wbC (oL f n s) J b t) []) b t
def wq1Run (T:Params->KT)(prog:Program):Prop:=∀(y:Nat)(tw tb:Tok)(b t:Nat),JobOk T prog (fun K P=>jobOf (wqSp [some y] (one (y+1)) tw tb b t) (TF (wqSp [some y] (one (y+1)) tw tb b t).c) (wqH [some y] P) (wqC [some y] (one (y+1)) b t) []) b t
def wb1Run (T:Params->KT)(prog:Program):Prop:=∀(y:Nat)(tw tb:Tok)(b t:Nat),JobOk T prog (fun K P=>jobOf (wbSp [some y] (bsl (y+1)) tw tb b t) (TF (wbSp [some y] (bsl (y+1)) tw tb b t).c) (wbH [some y] P) (wbC [some y] (bsl (y+1)) b t) []) b t
noncomputable def srun (x:Str):Nat->Nat->Int->Option Int->List Str->Option (Int×List Str)
  | 0,_,_,_,_=>none
  | f+1,i,st,op,items=>match x.cps[i]? with
    | none=>some (st,items)
    | some z=>if eqS (⟨#[z]⟩:Str) Y19 then none else if eqS (⟨#[z]⟩:Str) Y3 then
        match op with
        | none=>srun x f (i+1) st (some i) items
        | some o=>if ((st:Int) != o) then
            if ((strSliceIndices (some st) (some o) 1 x.length).length != x.length)&&decide (items.length<=100) then srun x f (i+1) ((i:Int)+1) none (items++[sliceS x (some st) (some o)]) else none
          else srun x f (i+1) ((i:Int)+1) none items
      else srun x f (i+1) st op items
theorem srun_sound {x:Str}(hl:x.length<=sizeLine):∀(f i:Nat)(st:Int)(op:Option Int)(items:List Str)(r:Int×List Str),srun x f i st op items=some r->SRel x i st op items r.1 r.2:=by
  intro f
  induction f with
  | zero=>intro i st op items r h;cases h
  | succ f ih=>
    intro i st op items r h
    unfold srun at h
    cases hz:x.cps[i]? with
    | none=>rw [hz] at h;injection h with h;subst h;exact .done hz
    | some z=>
      rw [hz] at h
      simp only at h
      by_cases h1:eqS (⟨#[z]⟩:Str) Y19=true
      · rw [if_pos h1] at h;cases h
      · rw [if_neg h1] at h
        have h1':=Bool.eq_false_iff.mpr h1
        by_cases h2:eqS (⟨#[z]⟩:Str) Y3=true
        · rw [if_pos h2] at h
          cases op with
          | none=>exact .o hz h1' h2 (ih _ _ _ _ _ h)
          | some o=>
            simp only at h
            by_cases h3:((st:Int) != o)=true
            · rw [if_pos h3] at h
              by_cases h4:(((strSliceIndices (some st) (some o) 1 x.length).length != x.length)&&decide (items.length<=100))=true
              · rw [if_pos h4] at h
                rw [Bool.and_eq_true] at h4
                exact .c hz h1' h2 h3 hl (by simpa using h4.1) rfl (of_decide_eq_true h4.2) (ih _ _ _ _ _ h)
              · rw [if_neg h4] at h;cases h
            · rw [if_neg h3] at h
              exact .d hz h1' h2 (Bool.eq_false_iff.mpr h3) (ih _ _ _ _ _ h)
        · rw [if_neg h2] at h
          exact .n hz h1' (Bool.eq_false_iff.mpr h2) (ih _ _ _ _ _ h)
def jrun (items:List Str):Option Str:=
  if tooLong (items.toArray.foldl (·+·.length+Y2.length) 0) then none else match items with
    | [c]=>some c
    | items=>if (glued Y2 items).length<=1000 then some (glued Y2 items) else none
theorem jrun_sound {items:List Str}{r:Str}(h:jrun items=some r):JoinRel items r:=by
  unfold jrun at h
  by_cases ht:tooLong (items.toArray.foldl (·+·.length+Y2.length) 0)=true
  · rw [if_pos ht] at h;cases h
  · rw [if_neg ht] at h
    have ht':=Bool.eq_false_iff.mpr ht
    split at h
    · injection h with h;subst h;exact .one rfl ht'
    · rename_i hne
      by_cases hg:(glued Y2 items).length<=1000
      · rw [if_pos hg] at h
        injection h with h
        refine .more (fun e=>?_) ht' (Nat.le_trans hg (by rw [sizeLine_eq];decide)) h
        obtain ⟨c,hc⟩:=List.length_eq_one_iff.mp e
        exact hne c hc
      · rw [if_neg hg] at h;cases h
def shrun (x:Str):Option Str:=match srun x (x.length+1) 0 0 none [] with
  | none=>none
  | some (st,items)=>if decide ((st:Int)<(x.length:Int)) then
      if decide (items.length<=100)&&((strSliceIndices (some st) none 1 x.length).length != x.length) then jrun (items++[sliceS x (some st) none])
      else if decide (items.length<=100)&&(st==0)&&((strSliceIndices (some 0) none 1 x.length).length==x.length) then jrun (items++[x]) else none
    else jrun items
theorem shrun_sound {x r:Str}(hl:x.length<=sizeLine)(h:shrun x=some r):∃st items,SRel x 0 0 none [] st items/\EndRel x st items r:=by
  unfold shrun at h
  cases hs:srun x (x.length+1) 0 0 none [] with
  | none=>rw [hs] at h;cases h
  | some p=>
    obtain ⟨st,items⟩:=p
    rw [hs] at h
    simp only at h
    refine ⟨st,items,srun_sound hl _ _ _ _ _ _ hs,?_⟩
    by_cases h1:decide ((st:Int)<(x.length:Int))=true
    · rw [if_pos h1] at h
      by_cases h2:(decide (items.length<=100)&&((strSliceIndices (some st) none 1 x.length).length != x.length))=true
      · rw [if_pos h2] at h
        rw [Bool.and_eq_true] at h2
        exact .app _ h1 (of_decide_eq_true h2.1) (.inr ⟨by simpa using h2.2,rfl⟩) (jrun_sound h)
      · rw [if_neg h2] at h
        by_cases h3:(decide (items.length<=100)&&(st==0)&&((strSliceIndices (some 0) none 1 x.length).length==x.length))=true
        · rw [if_pos h3] at h
          rw [Bool.and_eq_true,Bool.and_eq_true] at h3
          exact .app _ h1 (of_decide_eq_true h3.1.1) (.inl ⟨by simpa using h3.1.2,rfl,by simpa using h3.2⟩) (jrun_sound h)
        · rw [if_neg h3] at h;cases h
    · rw [if_neg h1] at h
      exact .no (Bool.eq_false_iff.mpr h1) (jrun_sound h)
noncomputable def par:Nat->Nat->Nat
  | 0,_=>0
  | f+1,s=>s % 2+par f (s / 2)
noncomputable def shB (s j:Nat):Bool:=par 4 (s / 2 ^ j) % 2==0
noncomputable def shL (r s:Nat):Nat->List Nat
  | 0=>[]
  | n+1=>(if shB s n then [sg r n+1] else [])++shL r s n
def quo (q:Str):Str:=q++Y3
def shS (r n s:Nat):Option Str:=shrun (quo (stS r n s))
abbrev ShP (r n s:Nat):Prop:=(match shS r n s with
  | none=>false
  | some y=>decide (∀j,j<n->inS y (nm r j)=shB s j))=true
theorem sh_all:∀r,r<8->∀s,s<16->ShP r 4 s:=by decide +kernel
theorem sh_all3:∀s,s<8->ShP 2 3 s:=by decide +kernel
structure WyR where
  q:WT
  σ:WS
  Q:List Tp
  da:Nat
  dt:Nat
theorem range_getD {α:Type}(l:List α)(d:α):(List.range l.length).map (fun i=>l.getD i d)=l:=by
  apply List.ext_getElem
  · simp
  · intro i h1 h2
    simp only [List.getElem_map,List.getElem_range]
    exact (List.getElem_eq_getD d).symm
theorem tpLed_of {n:Nat}(Q:List Tp)(h:Q.length=n):tpLed n (fun i=>Q.getD i tp0)=Q.reverse.map Tp.o:=by
  subst h
  unfold tpLed
  apply List.ext_getElem
  · simp
  · intro i h1 h2
    simp only [List.getElem_map,List.getElem_range,List.getElem_reverse]
    have hi:Q.length-1-i<Q.length:=by simp at h1;omega
    exact congrArg Tp.o (List.getElem_eq_getD tp0).symm
theorem tpRefs_of {n:Nat}(q:Tp)(Q:List Tp)(h:Q.length=n):tpRefs (n+1) (fun i=>match i with | 0=>q | i+1=>Q.getD i tp0)=(#[.ref q.a]:Array Value)++(Q.map fun q=>Value.ref q.a).toArray:=by
  subst h
  unfold tpRefs
  rw [List.range_succ_eq_map,List.map_cons,List.map_map]
  have:(List.range Q.length).map ((fun i=>Value.ref ((match i with | 0=>q | i+1=>Q.getD i tp0):Tp).a) ∘ Nat.succ)=Q.map fun q=>Value.ref q.a:=by
    have e:=congrArg (List.map fun q:Tp=>Value.ref q.a) (range_getD Q tp0)
    rw [List.map_map] at e
    exact e
  rw [this]
  simp
theorem tpMap_of {n:Nat}{β:Type}(g:Tp->β)(q:Tp)(Q:List Tp)(h:Q.length=n):(List.range (n+1)).map (fun i=>g ((match i with | 0=>q | i+1=>Q.getD i tp0):Tp))=g q::Q.map g:=by
  subst h
  rw [List.range_succ_eq_map,List.map_cons,List.map_map]
  have e:=congrArg (List.map g) (range_getD Q tp0)
  rw [List.map_map] at e
  exact congrArg (g q::·) e
noncomputable abbrev stT (o:Bool)(t:Nat):Tok:=match o with | true=>t+6 | false=>t+5
noncomputable abbrev wyC (o:Bool)(n M:Nat)(an:Addr)(s:Int)(ts:Tok)(ns:Array Value)(en b t:Nat):WC:=⟨b+0,b+2,b+4,b+1,an,s,ts,stT o t,t+7,ns,0,en,n,((M+1:Nat):Int)⟩
abbrev wyS (b t:Nat):WS:=⟨fun i=>([t+0,t+1,t+8,t+11,t+13]:List Tok).getD i 0,fun _=>.none,Y2,Y2,t+9,t+10,#[.ref (b+3)],0⟩
abbrev wyf (s:Int)(ts:Tok)(b t:Nat)(Q:List Tp):Nat->Tp:=fun i=>match i with | 0=>⟨b+3,Y2,t+12,s,ts⟩ | i+1=>Q.getD i tp0
abbrev WyR.s (r:WyR)(M:Nat)(s:Int)(ts:Tok)(b t:Nat):WS:=⟨r.σ.k,r.σ.u,r.σ.w0,r.σ.w1,r.σ.tw0,r.σ.tw1,tpRefs (M+1) (wyf s ts b t r.Q),r.σ.e⟩
noncomputable abbrev wq0:WT:=⟨0,0,0,0,0,0⟩
noncomputable def wayK (M:Nat):List Nat:=(M+2)::(List.range M++[M+3,M+7])
noncomputable def wayJ (o:Bool)(n M:Nat)(an:Addr)(s:Int)(ts:Tok)(ns:Array Value)(en:Nat)(R:Nat->Nat->WyR)(b t:Nat):KJ:=fun K P=>jobTF (wySp an (liO ns en) s ts (b+4) (M+1) (wyf s ts b t (R (b+7) (t+20)).Q) (R (b+7) (t+20)).σ.e ((7+(R (b+7) (t+20)).da)+0) ((20+(R (b+7) (t+20)).dt)+0))
  [0,0,4,4,4,4,0,1,4,1,3,1,5,5,6,6,6,8,8,0,0,0,0,8,3,1,1,1,4,4,1,4,4,4,4,1,4,4,4,4,4,3,M+10]
  [cIeq (Int.fmod s 2) 0 (!o),cLenL an ns en n 5,.ctr [6,4,2,0,5,7] fun b' t' _ _=>⟨40,(wyC o n M an s ts ns en b t).FC K (b+6),(wyC o n M an s ts ns en b t).LO o ((wyC o n M an s ts ns en b t).G P true wq0 (wyS b t)) (wyS b t) (b+6) 1 (M:Int),.ok .next,((wyC o n M an s ts ns en b t).LO o ((wyC o n M an s ts ns en b t).F P (R b' t').q ((R b' t').s M s ts b t)) ((R b' t').s M s ts b t) (b+6) ((M+1:Nat):Int) 0).map (·.2),tpLed M (fun i=>(R b' t').Q.getD i tp0),(R b' t').da,(R b' t').dt,0⟩] (wayK M)
def wayRun (o:Bool)(n M:Nat):RP:=fun T p=>∀an s ts ns en R b t,JobOk T p (wayJ o n M an s ts ns en R b t) b t
section
variable {T:Params->KT}{prog:Program}{w:World}
theorem WyR.s_eq (r:WyR){M:Nat}{s:Int}{ts:Tok}{b t:Nat}(hQ:r.Q.length=M)(h:r.σ.xs=#[.ref (b+3)]++(r.Q.map fun q=>Value.ref q.a).toArray):r.s M s ts b t=r.σ:=by
  have e:=tpRefs_of ⟨b+3,Y2,t+12,s,ts⟩ r.Q hQ
  show (⟨r.σ.k,r.σ.u,r.σ.w0,r.σ.w1,r.σ.tw0,r.σ.tw1,tpRefs (M+1) (wyf s ts b t r.Q),r.σ.e⟩:WS)=r.σ
  rw [show tpRefs (M+1) (wyf s ts b t r.Q)=r.σ.xs from e.trans h.symm]
theorem way_fn {o:Bool}{n M:Nat}(H:wayRun o n M T prog)(R:WRuns T prog)(an:Addr)(s:Int)(ts:Tok)(ns:Array Value)(en:Nat)(nmS:Nat->Str)(nmT:Nat->Tok)(C:(wyC o n M an s ts ns en 0 0).Ok nmS nmT)(hn:n<=sizeLine)(hM:1<=M)(hk:nodupB (wayK M)=true)(hp:(Int.fmod s 2==0)=!o)(hi:inR ((M+1:Nat):Int) (s+1*pv o)=true)(hL:(wayGo o ((M+1:Nat):Int) s M 1 [] []).length=M)(b t:Nat):
    ∃(du:Addr)(f:Nat->Tp)(ex da dt:Nat),((List.range (M+1)).map fun i=>((f i).x,(f i).v))=(([],s)::wayGo o ((M+1:Nat):Int) s M 1 [] []).map (fun y=>(pathR nmS y.1,y.2))/\SpOk (T w.params) prog w (wySp an (liO ns en) s ts du (M+1) f ex da dt) b t:=by
  have C':(wyC o n M an s ts ns en b t).Ok nmS nmT:=⟨C.sz,C.n,C.N,C.ns,C.len,C.ring,C.s0,C.s1,C.N16⟩
  have hMi:(((M+1:Nat):Int)-1)=(M:Int):=by push_cast;omega
  have h:∀p:Nat×Nat,∃r:WyR,(r.σ.xs=#[.ref (b+3)]++(r.Q.map fun q=>Value.ref q.a).toArray/\r.Q.map (fun q=>(q.x,q.v))=(wayGo o ((M+1:Nat):Int) s M 1 [] []).map (fun y=>(pathR nmS y.1,y.2)))/\Tr (T w.params) prog w 12 ((wyC o n M an s ts ns en b t).FC (T w.params) (b+6)) ((wyC o n M an s ts ns en b t).LO o ((wyC o n M an s ts ns en b t).G w.params true wq0 (wyS b t)) (wyS b t) (b+6) 1 (M:Int)) p.1 p.2 (.ok (.done .next)) (r.Q.reverse.map Tp.o++(wyC o n M an s ts ns en b t).LO o ((wyC o n M an s ts ns en b t).F w.params r.q r.σ) r.σ (b+6) ((M+1:Nat):Int) 0) r.da r.dt 0:=fun p=>
    all_w (w:=w) R C' o (b+6) wq0 (wyS b t) p.1 p.2 (by show (2:Int)<=((M+1:Nat):Int);omega) hi (fun j=>by cases j<;>rfl) (Nat.le_refl 1) fun q' σ' Qs da dt h1 h2 z=>⟨⟨q',σ',Qs,da,dt⟩,⟨h1,by
      have e:(((M+1:Nat):Int)-1).toNat=M:=by rw [hMi];rfl
      exact h2.trans (by show List.map _ (wayGo o ((M+1:Nat):Int) s (((M+1:Nat):Int)-1).toNat 1 [] [])=_;rw [e])⟩,by
      have z':Tr (T w.params) prog w 12 _ ((wyC o n M an s ts ns en b t).LO o _ (wyS b t) (b+6) 1 (((M+1:Nat):Int)-1)) p.1 p.2 _ _ da dt 0:=z
      rw [hMi] at z'
      exact z'⟩
  obtain ⟨r,hr⟩:=Classical.axiomOfChoice h
  have hlen:∀p,(r p).Q.length=M:=fun p=>by
    have:=congrArg List.length (hr p).1.2
    rwa [List.length_map,List.length_map,hL] at this
  have hl:=jobOf_ok (w:=w) (sp:=fun _ _=>wySp an (liO ns en) s ts (b+4) (M+1) (wyf s ts b t (r (b+7,t+20)).Q) (r (b+7,t+20)).σ.e ((7+(r (b+7,t+20)).da)+0) ((20+(r (b+7,t+20)).dt)+0)) (H an s ts ns en (fun b t=>r (b,t)) b t) (.inr rfl) rfl hk ⟨cIeq_ok hp,cLenL_ok C.sz hn,fun b' t' _ _ _ _=>by
      refine Tr.sp ?_ rfl
      have z:=Tr.mono (hr (b',t')).2 (show 12<=40 by decide)
      rw [<- tpLed_of _ (hlen (b',t')),<- (r (b',t')).s_eq (s:=s) (ts:=ts) (t:=t) (hlen (b',t')) (hr (b',t')).1.1] at z
      exact z,trivial⟩
  refine ⟨_,_,_,_,_,?_,hl⟩
  have e:=tpMap_of (fun q:Tp=>(q.x,q.v)) ⟨b+3,Y2,t+12,s,ts⟩ (r (b+7,t+20)).Q (hlen _)
  exact e.trans (by rw [(hr _).1.2];rfl)
end
noncomputable def zI (z j:Nat):Int:=((z / 2 ^ j % 2:Nat):Int)
noncomputable def pairB (z:Nat):Nat->Nat×Nat
  | 0=>(0,0)
  | k+1=>match (if z / 2 ^ k % 2=1 then (pairB z k).2 else (pairB z k).1) with
    | c=>(c,2 ^ k+c)
noncomputable def endB (z k:Nat):Nat:=if z / 2 ^ k % 2=1 then (pairB z k).1 else (pairB z k).2
noncomputable def mvB (z s j:Nat):Bool:=s % 2 ^ j==endB z j
noncomputable def numB4 (z s:Nat):Int:=
  let a1:=if shB s 0==oddI (zI z 1+zI z 2+zI z 3) then (0:Int)+1 else (0:Int)
  let a2:=if shB s 1==oddI (zI z 2+zI z 3) then a1+2 else a1
  let a3:=if shB s 2==oddI (zI z 3) then a2+4 else a2
  let a4:=if shB s 3==false then a3+8 else a3
  a4
noncomputable def numB3 (z s:Nat):Int:=
  let a1:=if shB s 0==oddI (zI z 1+zI z 2) then (0:Int)+1 else (0:Int)
  let a2:=if shB s 1==oddI (zI z 2) then a1+2 else a1
  let a3:=if shB s 2==false then a2+4 else a2
  a3
noncomputable def aPush (mv:Nat->Bool)(la:Nat):Nat->Nat->List Nat
  | _,0=>[]
  | kk,r+1=>(if kk != la&&mv kk then [kk] else [])++aPush mv la (kk+1) r
noncomputable def aW (n:Nat)(nu:Nat->Int)(z:Nat):Nat->List (List Nat×Nat)->Option (List (List Nat×Int))
  | 0,[]=>some []
  | 0,_::_=>none
  | m+1,[]=>none
  | m+1,(l,s)::rest=>
    if decide (rest.length<=1)&&decide (rest.length+(aPush (mvB z s) (l.headD 99) 0 n).length<=2)&&decide (l.length<=20)&&!l.isEmpty&&l.all (fun j=>decide (j<n))&&decide (s<2 ^ n) then
      match aW n nu z m (rest++(aPush (mvB z s) (l.headD 99) 0 n).map fun j=>(j::l,flip s j)) with
      | some told=>some ((l,nu s)::told)
      | none=>none
    else none
noncomputable def ways (n:Nat)(v:Int):List (List Nat×Int):=wayGo (v % 2==1) ((2 ^ n-1+1:Nat):Int) v (2 ^ n-1) 1 [] []
abbrev WalkP (n z s:Nat)(v:Int)(nu:Nat->Int):Prop:=(aPush (mvB z s) 99 0 n).length<=2/\0<=v/\v<2 ^ n/\(ways n v).length=2 ^ n-1/\aW n nu z (2 ^ n-1) ((aPush (mvB z s) 99 0 n).map fun j=>([j],flip s j))=some (ways n v)
set_option synthInstance.maxSize 1000 in
set_option synthInstance.maxHeartbeats 0 in
theorem walk_all:∀z,z<16->∀s,s<16->WalkP 4 z s (numB4 z s) (numB4 z):=by decide +kernel
set_option synthInstance.maxSize 1000 in
set_option synthInstance.maxHeartbeats 0 in
theorem walk_all3:∀z,z<8->WalkP 3 z 5 (numB3 z 5) (numB3 z):=by decide +kernel
theorem hq_all:∀r,r<8->∀z,z<16->nm r 0=sufS r 0 (endB z 0)/\nm r 1++hq1 (zI z 1) (nm r 0)=sufS r 1 (endB z 1)/\nm r 2++hq2 (zI z 1) (zI z 2) (nm r 0) (nm r 1)=sufS r 2 (endB z 2)/\nm r 3++hq3 (zI z 1) (zI z 2) (zI z 3) (nm r 0) (nm r 1) (nm r 2)=sufS r 3 (endB z 3):=by decide +kernel
theorem endB_lt:∀z,z<16->∀j,j<4->endB z j<2 ^ j:=by decide +kernel
section
variable {T:Params->KT}{prog:Program}{w:World}
structure TFact (T:Params->KT)(prog:Program)(w:World)(N:Nat)(G:Str->Nat->Rg)(ns hv bs:Array Value)(en eb:Nat)(ab an:Addr)(GN t0:Nat)(x p q la:Str)(nu:Int):Prop where
  h1:(decide (x.length<Y36.length)||decide (Builtin.Str.strKind x<Builtin.Str.strKind Y36))=false
  h3:(Builtin.Str.occurrences x Y36 0 x.length (x.length+1)).isEmpty=false
  h4:x.length<=sizeLine
  h5:cutS x Y36=[p,q]
  hp0:p.length≠0
  hp1:p.length<=100
  hO:RgOk T prog w (G q) N ns hv q t0
  hnum:∀(tq:Tok) b' t',∃tv da dt:Nat,SpOk (T w.params) prog w (numSp ab an q tq (liO bs eb) (liO ns en) nu tv da dt GN) b' t'
  hst:∀(tx:Tok) b' t',SpOk (T w.params) prog w (s1Sp x la tx t') b' t'
inductive WRel (T:Params->KT)(prog:Program)(w:World)(N:Nat)(G:Str->Nat->Rg)(ns hv bs:Array Value)(en eb:Nat)(ab an:Addr)(GN t0:Nat):Nat->List Str->List (Str×Int)->List Str->Prop where
  | nil (qs:List Str):WRel T prog w N G ns hv bs en eb ab an GN t0 0 qs [] qs
  | cons {m:Nat} {x p q la:Str} {nu:Int} {rest:List Str} {told:List (Str×Int)} {fin:List Str} (h:TFact T prog w N G ns hv bs en eb ab an GN t0 x p q la nu) (hr:rest.length<=1) (hl:rest.length+(pushes (G q) la 0 N).length<=2)
      (hn:WRel T prog w N G ns hv bs en eb ab an GN t0 m (rest++(pushes (G q) la 0 N).map (pushT (G q) p)) told fin):WRel T prog w N G ns hv bs en eb ab an GN t0 (m+1) (x::rest) ((p,nu)::told) fin
theorem zip_fst {α β:Type}:∀(l:List α)(m:List β),m.length=l.length->(l.zip m).map (·.1)=l
  | [],[],_=>rfl
  | a::l,c::m,h=>by simp only [List.zip_cons_cons,List.map_cons];rw [zip_fst l m (by simpa using h)]
theorem tpRefs_all {n:Nat}(Q:List Tp)(h:Q.length=n):tpRefs n (fun i=>Q.getD i tp0)=(Q.map fun q=>Value.ref q.a).toArray:=by
  subst h
  unfold tpRefs
  rw [show (List.range Q.length).map (fun i=>Value.ref (Q.getD i tp0).a)=((List.range Q.length).map (fun i=>Q.getD i tp0)).map (fun q=>Value.ref q.a) by rw [List.map_map];rfl,range_getD]
end
section
variable {kt:KT}{prog:Program}{w:World}{n:Nat}{c c2:Code}{L L2 M new old:Led}{b t da dt da2 dt2 g g2:Nat}{res:Except Value Fin}
theorem Tr.stepG (z:Tr kt prog w n c L b t (.ok (.again c2)) (old++L2) da dt g)
    (z2:Tr kt prog w n c2 L2 (b+da) (t+dt) res (new++M) da2 dt2 g2):Tr kt prog w n c L b t res ((new++old)++M) (da+da2) (dt+dt2) (g+g2):=by
  have a:=z.perm (M2:=L2++old) List.perm_append_comm
  have c:=a.trans (z2.frame (N:=old))
  refine c.perm ?_
  rw [List.append_assoc,List.append_assoc]
  exact List.Perm.append_left _ List.perm_append_comm
end
section
variable {T:Params->KT}{prog:Program}{w:World}
theorem walk_later_4 (O1:oT1_4Run T prog)(O2:oT2_4Run T prog)(OE:oERun T prog)(Pop1:pop1Run T prog)(Pop2:pop2Run T prog)(Hs:iskipRun T prog)(Hno:inoRun T prog)(H0:imp0Run T prog)(H1:imp1Run T prog)(HE:iERun T prog)(P0:push0Run T prog)(P1:push1Run T prog)(X:Lx)(fr it at_ an ah ab:Addr)(ns hv bs:Array Value)(en eh eb:Nat)(ln:Value)(GN:Nat)(G:Str->Nat->Rg)(t0:Nat)(h8:ns.size=4):
    ∀(m:Nat)(qs:List Str)(told:List (Str×Int))(fin:List Str),WRel T prog w 4 G ns hv bs en eb ab an GN t0 m qs told fin->∀(pb:List (Str×Tok))(e:Nat)(k:Nat->Tok)(u:Nat->Value)(kk:Int)(xs:Array Value)(ex b t:Nat),pb.map (·.1)=qs->t0<=t->kk+m=16->xs.size+m<=100->∀{Gp:Prop},(∀(k':Nat->Tok)(u':Nat->Value)(Q:List Tp)(pb':List (Str×Tok))(ex' e' da dt:Nat),Q.map (fun q=>(q.x,q.v))=told->pb'.map (·.1)=fin->Tr (T w.params) prog w 80 (ouC (T w.params) fr it) (ouL w.params (wkG w.params k u X ab an ah at_) fr it at_ an ah ab X kk m xs ns hv bs ex en eh eb ln pb e) b t (.ok (.done .next)) (Q.reverse.map Tp.o++ouL w.params (wkG w.params k' u' X ab an ah at_) fr it at_ an ah ab X 16 0 (xs++(Q.map fun q=>Value.ref q.a).toArray) ns hv bs ex' en eh eb ln pb' e') da dt (m*GN)->Gp)->Gp:=by
  intro m qs told fin hW
  induction hW with
  | nil qs=>
    intro pb e k u kk xs ex b t hq ht hk hx Gp kp
    have z:=oE_tr (w:=w) OE fr it (fun i=>k i) (fun i=>match i with | 0=>.ref X.i | 1=>.ref ab | 2=>.ref an | 3=>.ref ah | 4=>.ref at_ | i=>u i) kk b t
    have z2:=Tr.frame (N:=[(at_,liO xs ex),(an,liO ns en),(ah,liO hv eh),(ab,liO bs eb),(X.i,X.iO),(X.d,X.dO w.params ln),(X.p,liO (pbA pb) e)]) z
    have hkk:kk=16:=by simpa using hk
    subst hkk
    refine kp k u [] pb ex e 2 0 rfl hq ?_
    rw [Nat.zero_mul]
    have hxe:xs++(([]:List Tp).map fun q=>Value.ref q.a).toArray=xs:=by simp
    rw [hxe]
    exact z2
  | @cons m x p q la nu rest told fin h hr hl hn ih=>
    intro pb e k u kk xs ex b t hq ht hk hx Gp kp
    have hr0:¬ ((m+1:Nat):Int)<=0:=by omega
    have cm:((m+1:Nat):Int)-1=(m:Int):=by push_cast;omega
    have hxs:xs.size<=sizeLine:=by rw [sizeLine_eq];omega
    have h6:([p,q]:List Str).length<=sizeLine:=by rw [sizeLine_eq];show 2<=_;decide
    match pb,rest,hq,hr,hl,hn,ih with
    | [(x0,tx)],[],hq,hr,hl,hn,ih=>
      have hx0:x=x0:=by simpa using (List.cons.inj hq).1.symm
      subst hx0
      refine oT1_4_st (w:=w) O1 Pop1 Hs Hno H0 H1 HE P0 P1 X fr it at_ an ah ab k u kk ((m+1:Nat):Int) xs ns hv bs ex en eh eb ln e x tx p q la nu GN (G q) t0 b t hr0 h.h1 (by decide) h.h3 h.h4 h.h5 h6 hxs h8 h.hnum h.hst h.hO h.hp0 h.hp1 ht hl fun k1 u1' tk tup ta tn e1 da1 dt1 g1 g2=>?_
      rw [cm] at g2
      refine ih ([]++((pushes (G q) la 0 4).map (pushT (G q) p)).zip tk) e1 k1 u1' (kk+1) (xs.push (.ref tup)) (ex+1) (b+da1) (t+dt1) (by rw [List.map_append,zip_fst _ _ (by rw [g1,List.length_map])];rfl) (Nat.le_trans ht (Nat.le_add_right ..)) (by push_cast at hk ⊢;omega) (by rw [Array.size_push];omega) fun k' u' Q pb' ex' e' da dt i1 i2 i3=>?_
      refine kp k' u' (⟨tup,p,ta,nu,tn⟩::Q) pb' ex' e' (da1+da) (dt1+dt) (by rw [List.map_cons,i1]) i2 ?_
      have z:=Tr.stepG g2 i3
      rw [show xs++((⟨tup,p,ta,nu,tn⟩::Q:List Tp).map fun q=>Value.ref q.a).toArray=xs.push (.ref tup)++(Q.map fun q=>Value.ref q.a).toArray by apply Array.ext';simp]
      rw [show ((⟨tup,p,ta,nu,tn⟩::Q:List Tp).reverse.map Tp.o)=Q.reverse.map Tp.o++[(tup,tuO #[.str p ta,.int nu tn])] by simp [Tp.o]]
      rw [show (m+1)*GN=(0+GN)+m*GN by rw [Nat.succ_mul];omega]
      exact z
    | [(x0,tx),(y0,u1)],[y],hq,hr,hl,hn,ih=>
      have hx0:x=x0:=by simpa using (List.cons.inj hq).1.symm
      subst hx0
      have hy0:y=y0:=by simpa using (List.cons.inj (List.cons.inj hq).2).1.symm
      subst hy0
      refine oT2_4_st (w:=w) O2 Pop2 Hs Hno H0 H1 HE P0 P1 X fr it at_ an ah ab k u kk ((m+1:Nat):Int) xs ns hv bs ex en eh eb ln e x tx y u1 p q la nu GN (G q) t0 b t hr0 h.h1 (by decide) h.h3 h.h4 h.h5 h6 hxs h8 h.hnum h.hst h.hO h.hp0 h.hp1 ht hl fun k1 u1' tk tup ta tn e1 da1 dt1 g1 g2=>?_
      rw [cm] at g2
      refine ih ([(y,u1)]++((pushes (G q) la 0 4).map (pushT (G q) p)).zip tk) e1 k1 u1' (kk+1) (xs.push (.ref tup)) (ex+1) (b+da1) (t+dt1) (by rw [List.map_append,zip_fst _ _ (by rw [g1,List.length_map])];rfl) (Nat.le_trans ht (Nat.le_add_right ..)) (by push_cast at hk ⊢;omega) (by rw [Array.size_push];omega) fun k' u' Q pb' ex' e' da dt i1 i2 i3=>?_
      refine kp k' u' (⟨tup,p,ta,nu,tn⟩::Q) pb' ex' e' (da1+da) (dt1+dt) (by rw [List.map_cons,i1]) i2 ?_
      have z:=Tr.stepG g2 i3
      rw [show xs++((⟨tup,p,ta,nu,tn⟩::Q:List Tp).map fun q=>Value.ref q.a).toArray=xs.push (.ref tup)++(Q.map fun q=>Value.ref q.a).toArray by apply Array.ext';simp]
      rw [show ((⟨tup,p,ta,nu,tn⟩::Q:List Tp).reverse.map Tp.o)=Q.reverse.map Tp.o++[(tup,tuO #[.str p ta,.int nu tn])] by simp [Tp.o]]
      rw [show (m+1)*GN=(0+GN)+m*GN by rw [Nat.succ_mul];omega]
      exact z
    | [],_,hq,_,_,_,_=>exact absurd hq (by simp)
    | [_],y::l,hq,_,_,_,_=>exact absurd hq (by simp)
    | _::_::_,[],hq,_,_,_,_=>exact absurd hq (by simp)
    | [_,_],y::z::l,hq,hr,_,_,_=>exact absurd hr (by simp)
    | _::_::_::_,[y],hq,_,_,_,_=>exact absurd hq (by simp)
    | _::_::_::_,y::z::l,hq,hr,_,_,_=>exact absurd hr (by simp)
end
section
variable {T:Params->KT}{prog:Program}{w:World}
theorem walk_later_3 (O1:oT1_3Run T prog)(O2:oT2_3Run T prog)(OE:oERun T prog)(Pop1:pop1Run T prog)(Pop2:pop2Run T prog)(Hs:iskipRun T prog)(Hno:inoRun T prog)(H0:imp0Run T prog)(H1:imp1Run T prog)(HE:iERun T prog)(P0:push0Run T prog)(P1:push1Run T prog)(X:Lx)(fr it at_ an ah ab:Addr)(ns hv bs:Array Value)(en eh eb:Nat)(ln:Value)(GN:Nat)(G:Str->Nat->Rg)(t0:Nat)(h8:ns.size=3):
    ∀(m:Nat)(qs:List Str)(told:List (Str×Int))(fin:List Str),WRel T prog w 3 G ns hv bs en eb ab an GN t0 m qs told fin->∀(pb:List (Str×Tok))(e:Nat)(k:Nat->Tok)(u:Nat->Value)(kk:Int)(xs:Array Value)(ex b t:Nat),pb.map (·.1)=qs->t0<=t->kk+m=8->xs.size+m<=100->∀{Gp:Prop},(∀(k':Nat->Tok)(u':Nat->Value)(Q:List Tp)(pb':List (Str×Tok))(ex' e' da dt:Nat),Q.map (fun q=>(q.x,q.v))=told->pb'.map (·.1)=fin->Tr (T w.params) prog w 80 (ouC (T w.params) fr it) (ouL w.params (wkG w.params k u X ab an ah at_) fr it at_ an ah ab X kk m xs ns hv bs ex en eh eb ln pb e) b t (.ok (.done .next)) (Q.reverse.map Tp.o++ouL w.params (wkG w.params k' u' X ab an ah at_) fr it at_ an ah ab X 8 0 (xs++(Q.map fun q=>Value.ref q.a).toArray) ns hv bs ex' en eh eb ln pb' e') da dt (m*GN)->Gp)->Gp:=by
  intro m qs told fin hW
  induction hW with
  | nil qs=>
    intro pb e k u kk xs ex b t hq ht hk hx Gp kp
    have z:=oE_tr (w:=w) OE fr it (fun i=>k i) (fun i=>match i with | 0=>.ref X.i | 1=>.ref ab | 2=>.ref an | 3=>.ref ah | 4=>.ref at_ | i=>u i) kk b t
    have z2:=Tr.frame (N:=[(at_,liO xs ex),(an,liO ns en),(ah,liO hv eh),(ab,liO bs eb),(X.i,X.iO),(X.d,X.dO w.params ln),(X.p,liO (pbA pb) e)]) z
    have hkk:kk=8:=by simpa using hk
    subst hkk
    refine kp k u [] pb ex e 2 0 rfl hq ?_
    rw [Nat.zero_mul]
    have hxe:xs++(([]:List Tp).map fun q=>Value.ref q.a).toArray=xs:=by simp
    rw [hxe]
    exact z2
  | @cons m x p q la nu rest told fin h hr hl hn ih=>
    intro pb e k u kk xs ex b t hq ht hk hx Gp kp
    have hr0:¬ ((m+1:Nat):Int)<=0:=by omega
    have cm:((m+1:Nat):Int)-1=(m:Int):=by push_cast;omega
    have hxs:xs.size<=sizeLine:=by rw [sizeLine_eq];omega
    have h6:([p,q]:List Str).length<=sizeLine:=by rw [sizeLine_eq];show 2<=_;decide
    match pb,rest,hq,hr,hl,hn,ih with
    | [(x0,tx)],[],hq,hr,hl,hn,ih=>
      have hx0:x=x0:=by simpa using (List.cons.inj hq).1.symm
      subst hx0
      refine oT1_3_st (w:=w) O1 Pop1 Hs Hno H0 H1 HE P0 P1 X fr it at_ an ah ab k u kk ((m+1:Nat):Int) xs ns hv bs ex en eh eb ln e x tx p q la nu GN (G q) t0 b t hr0 h.h1 (by decide) h.h3 h.h4 h.h5 h6 hxs h8 h.hnum h.hst h.hO h.hp0 h.hp1 ht hl fun k1 u1' tk tup ta tn e1 da1 dt1 g1 g2=>?_
      rw [cm] at g2
      refine ih ([]++((pushes (G q) la 0 3).map (pushT (G q) p)).zip tk) e1 k1 u1' (kk+1) (xs.push (.ref tup)) (ex+1) (b+da1) (t+dt1) (by rw [List.map_append,zip_fst _ _ (by rw [g1,List.length_map])];rfl) (Nat.le_trans ht (Nat.le_add_right ..)) (by push_cast at hk ⊢;omega) (by rw [Array.size_push];omega) fun k' u' Q pb' ex' e' da dt i1 i2 i3=>?_
      refine kp k' u' (⟨tup,p,ta,nu,tn⟩::Q) pb' ex' e' (da1+da) (dt1+dt) (by rw [List.map_cons,i1]) i2 ?_
      have z:=Tr.stepG g2 i3
      rw [show xs++((⟨tup,p,ta,nu,tn⟩::Q:List Tp).map fun q=>Value.ref q.a).toArray=xs.push (.ref tup)++(Q.map fun q=>Value.ref q.a).toArray by apply Array.ext';simp]
      rw [show ((⟨tup,p,ta,nu,tn⟩::Q:List Tp).reverse.map Tp.o)=Q.reverse.map Tp.o++[(tup,tuO #[.str p ta,.int nu tn])] by simp [Tp.o]]
      rw [show (m+1)*GN=(0+GN)+m*GN by rw [Nat.succ_mul];omega]
      exact z
    | [(x0,tx),(y0,u1)],[y],hq,hr,hl,hn,ih=>
      have hx0:x=x0:=by simpa using (List.cons.inj hq).1.symm
      subst hx0
      have hy0:y=y0:=by simpa using (List.cons.inj (List.cons.inj hq).2).1.symm
      subst hy0
      refine oT2_3_st (w:=w) O2 Pop2 Hs Hno H0 H1 HE P0 P1 X fr it at_ an ah ab k u kk ((m+1:Nat):Int) xs ns hv bs ex en eh eb ln e x tx y u1 p q la nu GN (G q) t0 b t hr0 h.h1 (by decide) h.h3 h.h4 h.h5 h6 hxs h8 h.hnum h.hst h.hO h.hp0 h.hp1 ht hl fun k1 u1' tk tup ta tn e1 da1 dt1 g1 g2=>?_
      rw [cm] at g2
      refine ih ([(y,u1)]++((pushes (G q) la 0 3).map (pushT (G q) p)).zip tk) e1 k1 u1' (kk+1) (xs.push (.ref tup)) (ex+1) (b+da1) (t+dt1) (by rw [List.map_append,zip_fst _ _ (by rw [g1,List.length_map])];rfl) (Nat.le_trans ht (Nat.le_add_right ..)) (by push_cast at hk ⊢;omega) (by rw [Array.size_push];omega) fun k' u' Q pb' ex' e' da dt i1 i2 i3=>?_
      refine kp k' u' (⟨tup,p,ta,nu,tn⟩::Q) pb' ex' e' (da1+da) (dt1+dt) (by rw [List.map_cons,i1]) i2 ?_
      have z:=Tr.stepG g2 i3
      rw [show xs++((⟨tup,p,ta,nu,tn⟩::Q:List Tp).map fun q=>Value.ref q.a).toArray=xs.push (.ref tup)++(Q.map fun q=>Value.ref q.a).toArray by apply Array.ext';simp]
      rw [show ((⟨tup,p,ta,nu,tn⟩::Q:List Tp).reverse.map Tp.o)=Q.reverse.map Tp.o++[(tup,tuO #[.str p ta,.int nu tn])] by simp [Tp.o]]
      rw [show (m+1)*GN=(0+GN)+m*GN by rw [Nat.succ_mul];omega]
      exact z
    | [],_,hq,_,_,_,_=>exact absurd hq (by simp)
    | [_],y::l,hq,_,_,_,_=>exact absurd hq (by simp)
    | _::_::_,[],hq,_,_,_,_=>exact absurd hq (by simp)
    | [_,_],y::z::l,hq,hr,_,_,_=>exact absurd hr (by simp)
    | _::_::_::_,[y],hq,_,_,_,_=>exact absurd hq (by simp)
    | _::_::_::_,y::z::l,hq,hr,_,_,_=>exact absurd hr (by simp)
end
structure FFact (T:Params->KT)(prog:Program)(w:World)(N:Nat)(G:Str->Nat->Rg)(ns hv bs:Array Value)(en eb:Nat)(ab an:Addr)(GN t0:Nat)(x q la:Str)(nu:Int):Prop where
  h1:(decide (x.length<Y36.length)||decide (Builtin.Str.strKind x<Builtin.Str.strKind Y36))=false
  h3:(Builtin.Str.occurrences x Y36 0 x.length (x.length+1)).isEmpty=false
  h4:x.length<=sizeLine
  h5:cutS x Y36=[Y2,q]
  hs0:(!eqS (G q 0).x la)=true
  hm0:(G q 0).m=true
  hO:RgOk T prog w (G q) N ns hv q t0
  hnum:∀(tq:Tok) b' t',∃tv da dt:Nat,SpOk (T w.params) prog w (numSp ab an q tq (liO bs eb) (liO ns en) nu tv da dt GN) b' t'
  hst:∀(tx:Tok) b' t',SpOk (T w.params) prog w (s0Sp x la tx t') b' t'
  hl:(pushes (G q) la 0 N).length<=2
structure WkR where
  k:Nat->Tok
  v:Nat->Value
  Q:List Tp
  pb:List (Str×Tok)
  ex:Nat
  e:Nat
  da:Nat
  dt:Nat
theorem WRel.len {T:Params->KT}{prog:Program}{w:World}{N:Nat}{G:Str->Nat->Rg}{ns hv bs:Array Value}{en eb:Nat}{ab an:Addr}{GN t0 m:Nat}{qs fin:List Str}{told:List (Str×Int)}(h:WRel T prog w N G ns hv bs en eb ab an GN t0 m qs told fin):told.length=m:=by
  induction h with
  | nil=>rfl
  | cons _ _ _ _ ih=>rw [List.length_cons,ih]
section
variable {T:Params->KT}{prog:Program}{w:World}
theorem wlk4_fn (H:wlk4Run T prog)(Hh:hinge4Run T prog)(OF:oF_4Run T prog)(O1:oT1_4Run T prog)(O2:oT2_4Run T prog)(OE:oERun T prog)(Pop1:pop1Run T prog)(Pop2:pop2Run T prog)(Hf:i9mRun T prog)(He:ime1Run T prog)(Hs:iskipRun T prog)(Hno:inoRun T prog)(H0:imp0Run T prog)(H1:imp1Run T prog)(HE:iERun T prog)(P0:push0Run T prog)(P1:push1Run T prog)
    (X:Lx) (ab an:Addr) (eb en:Nat) (z0 z1 z2 z3:Int) (tz0 tz1 tz2 tz3 tn0 tn1 tn2 tn3:Tok) (n0 n1 n2 n3:Str) (y0:z0=0∨z0=1) (y1:z1=0∨z1=1) (y2:z2=0∨z2=1) (y3:z3=0∨z3=1) (l0:n0.length=1) (l1:n1.length=1) (l2:n2.length=1) (l3:n3.length=1) (ln:Value) (e:Nat) (x:Str) (tx:Tok) (q la:Str) (nu:Int) (GN:Nat) (G:Str->Nat->Rg) (told:List (Str×Int)) (fin:List Str) (t0 b t:Nat) (ht:t0<=t)
    (hF:FFact T prog w 4 G #[.str n0 tn0,.str n1 tn1,.str n2 tn2,.str n3 tn3] (hvA4 z0 z1 z2 z3 n0 n1 n2 n3 (t+3)) #[.int z0 tz0,.int z1 tz1,.int z2 tz2,.int z3 tz3] en eb ab an GN t0 x q la nu) (hW:WRel T prog w 4 G #[.str n0 tn0,.str n1 tn1,.str n2 tn2,.str n3 tn3] (hvA4 z0 z1 z2 z3 n0 n1 n2 n3 (t+3)) #[.int z0 tz0,.int z1 tz1,.int z2 tz2,.int z3 tz3] en eb ab an GN t0 15 ((pushes (G q) la 0 4).map (pushT0 (G q))) told fin) :
    ∃(at_:Addr)(pb:List (Str×Tok))(f:Nat->Tp)(ex e' da dt:Nat),((List.range 16).map fun i=>((f i).x,(f i).v))=((Y2,nu)::told)/\pb.map (·.1)=fin/\SpOk (T w.params) prog w (wkSp X ab an (liO #[.int z0 tz0,.int z1 tz1,.int z2 tz2,.int z3 tz3] eb) (liO #[.str n0 tn0,.str n1 tn1,.str n2 tn2,.str n3 tn3] en) (X.dO w.params ln) (X.dO w.params ln) (liO #[.str x tx] e) (liO (pbA pb) e') at_ 16 f ex da dt (0+((0+GN)+15*GN))) b t:=by
  have hI:∀y:Nat×Nat,∃R:WkR,t0<=y.2->(R.Q.map (fun q=>(q.x,q.v))=((Y2,nu)::told)/\R.pb.map (·.1)=fin /\
      Tr (T w.params) prog w 80 (ouC (T w.params) (b+0) (b+14)) (ouL w.params (wkG5 w.params (fun i=>([(t+0),(t+1),(t+2),(t+58),(t+59)]:List Tok).getD i 0) X ab an (b+3) (b+12)) (b+0) (b+14) (b+12) an (b+3) ab X 0 16 #[] #[.str n0 tn0,.str n1 tn1,.str n2 tn2,.str n3 tn3] (hvA4 z0 z1 z2 z3 n0 n1 n2 n3 (t+3)) #[.int z0 tz0,.int z1 tz1,.int z2 tz2,.int z3 tz3] 0 en 4 eb ln [(x,tx)] e) y.1 y.2 (.ok (.done .next))
        (R.Q.reverse.map Tp.o++ouL w.params (wkG w.params R.k R.v X ab an (b+3) (b+12)) (b+0) (b+14) (b+12) an (b+3) ab X 16 0 (R.Q.map fun q=>Value.ref q.a).toArray #[.str n0 tn0,.str n1 tn1,.str n2 tn2,.str n3 tn3] (hvA4 z0 z1 z2 z3 n0 n1 n2 n3 (t+3)) #[.int z0 tz0,.int z1 tz1,.int z2 tz2,.int z3 tz3] R.ex en 4 eb ln R.pb R.e) R.da R.dt ((0+GN)+15*GN)):=fun y=>by
    by_cases hy:t0<=y.2
    · refine oF_4_st (w:=w) OF Pop1 Hf Hs Hno He HE P0 P1 X (b+0) (b+14) (b+12) an (b+3) ab (fun i=>([(t+0),(t+1),(t+2),(t+58),(t+59)]:List Tok).getD i 0) (fun _=>.none) 0 16 #[] #[.str n0 tn0,.str n1 tn1,.str n2 tn2,.str n3 tn3] (hvA4 z0 z1 z2 z3 n0 n1 n2 n3 (t+3)) #[.int z0 tz0,.int z1 tz1,.int z2 tz2,.int z3 tz3] 0 en 4 eb ln e x tx q la nu GN (G q) t0 y.1 y.2 (by decide) hF.h1 (by decide) hF.h3 hF.h4 hF.h5 (by rw [sizeLine_eq];show 2<=_;decide) (by rw [sizeLine_eq];show 0<=_;decide) rfl hF.hnum hF.hst hF.hO hF.hs0 hF.hm0 hy (by rw [Nat.zero_add];exact hF.hl) fun k1 u1' tk tup ta tn e1 da1 dt1 g1 g2=>?_
      refine walk_later_4 (w:=w) O1 O2 OE Pop1 Pop2 Hs Hno H0 H1 HE P0 P1 X (b+0) (b+14) (b+12) an (b+3) ab #[.str n0 tn0,.str n1 tn1,.str n2 tn2,.str n3 tn3] (hvA4 z0 z1 z2 z3 n0 n1 n2 n3 (t+3)) #[.int z0 tz0,.int z1 tz1,.int z2 tz2,.int z3 tz3] en 4 eb ln GN G t0 rfl 15 _ told fin hW (((pushes (G q) la 0 4).map (pushT0 (G q))).zip tk) e1 k1 u1' 1 #[.ref tup] 1 (y.1+da1) (y.2+dt1) (by rw [zip_fst _ _ (by rw [g1,List.length_map])]) (Nat.le_trans hy (Nat.le_add_right ..)) (by decide) (show 1+15<=100 by decide) fun k' u' Q pb' ex' e' da dt i1 i2 i3=>?_
      refine ⟨⟨k',u',⟨tup,Y2,ta,nu,tn⟩::Q,pb',ex',e',da1+da,dt1+dt⟩,fun _=>⟨by rw [List.map_cons,i1],i2,?_⟩⟩
      have z:=Tr.stepG g2 i3
      have e1':(((⟨tup,Y2,ta,nu,tn⟩::Q:List Tp).map fun q=>Value.ref q.a).toArray:Array Value)=#[.ref tup]++(Q.map fun q=>Value.ref q.a).toArray:=by apply Array.ext';simp
      have e2':((⟨tup,Y2,ta,nu,tn⟩::Q:List Tp).reverse.map Tp.o)=Q.reverse.map Tp.o++[(tup,tuO #[.str Y2 ta,.int nu tn])]:=by simp [Tp.o]
      show Tr (T w.params) prog w 80 (ouC (T w.params) (b+0) (b+14)) _ y.1 y.2 (.ok (.done .next)) (((⟨tup,Y2,ta,nu,tn⟩::Q:List Tp).reverse.map Tp.o)++ouL w.params (wkG w.params k' u' X ab an (b+3) (b+12)) (b+0) (b+14) (b+12) an (b+3) ab X 16 0 (((⟨tup,Y2,ta,nu,tn⟩::Q:List Tp).map fun q=>Value.ref q.a).toArray) #[.str n0 tn0,.str n1 tn1,.str n2 tn2,.str n3 tn3] (hvA4 z0 z1 z2 z3 n0 n1 n2 n3 (t+3)) #[.int z0 tz0,.int z1 tz1,.int z2 tz2,.int z3 tz3] ex' en 4 eb ln pb' e') (da1+da) (dt1+dt) ((0+GN)+15*GN)
      rw [e1',e2']
      exact z
    · exact ⟨⟨fun _=>0,fun _=>.none,[],[],0,0,0,0⟩,fun h=>absurd h hy⟩
  obtain ⟨R,hR⟩:=Classical.axiomOfChoice hI
  have hlenQ:∀p,t0<=p.2->(R p).Q.length=16:=fun p h=>by
    have:=congrArg List.length (hR p h).1
    simpa [hW.len] using this
  have hl:=wlk4_ok (w:=w) H X ab an #[.int z0 tz0,.int z1 tz1,.int z2 tz2,.int z3 tz3] #[.str n0 tn0,.str n1 tn1,.str n2 tn2,.str n3 tn3] eb en ln e x tx ((0+GN)+15*GN) (fun _ t'=>hvA4 z0 z1 z2 z3 n0 n1 n2 n3 t') (fun b' t'=>(R (b',t')).k) (fun b' t'=>(R (b',t')).v) (fun _ _=>riO 16 0) (fun b' t'=>liO (pbA (R (b',t')).pb) (R (b',t')).e) (fun b' t'=>(R (b',t')).ex) (fun b' t'=>(R (b',t')).da) (fun b' t'=>(R (b',t')).dt) (fun b' t' i=>(R (b',t')).Q.getD i tp0) b t rfl (by rw [sizeLine_eq];decide)
    (fun b' t' _ _ _ _=>hinge4_fn Hh ab an eb en z0 z1 z2 z3 tz0 tz1 tz2 tz3 tn0 tn1 tn2 tn3 n0 n1 n2 n3 y0 y1 y2 y3 l0 l1 l2 l3 b' t')
    (fun b' t' _ _ _ h=>by
      refine Tr.sp ?_ rfl
      have hh:t0<=t':=Nat.le_trans ht h
      have z:=Tr.mono (hR (b',t') hh).2.2 (show 80<=90 by decide)
      rw [<- tpLed_of _ (hlenQ (b',t') hh),<- tpRefs_all _ (hlenQ (b',t') hh)] at z
      exact z)
  have hh:t0<=t+66:=Nat.le_trans ht (Nat.le_add_right ..)
  refine ⟨_,(R (b+15,t+66)).pb,(fun i=>(R (b+15,t+66)).Q.getD i tp0),_,_,_,_,?_,(hR (b+15,t+66) hh).2.1,hl⟩
  have e1:=range_getD (R (b+15,t+66)).Q tp0
  rw [hlenQ _ hh] at e1
  rw [<- (hR (b+15,t+66) hh).1]
  exact (List.map_map ..).symm.trans (congrArg (List.map fun q:Tp=>(q.x,q.v)) e1) |> fun h=>h
end
section
variable {T:Params->KT}{prog:Program}{w:World}
theorem wlk3_fn (H:wlk3Run T prog)(Hh:hinge3Run T prog)(OF:oF_3Run T prog)(O1:oT1_3Run T prog)(O2:oT2_3Run T prog)(OE:oERun T prog)(Pop1:pop1Run T prog)(Pop2:pop2Run T prog)(Hf:i9mRun T prog)(He:ime1Run T prog)(Hs:iskipRun T prog)(Hno:inoRun T prog)(H0:imp0Run T prog)(H1:imp1Run T prog)(HE:iERun T prog)(P0:push0Run T prog)(P1:push1Run T prog)
    (X:Lx) (ab an:Addr) (eb en:Nat) (z0 z1 z2:Int) (tz0 tz1 tz2 tn0 tn1 tn2:Tok) (n0 n1 n2:Str) (y0:z0=0∨z0=1) (y1:z1=0∨z1=1) (y2:z2=0∨z2=1) (l0:n0.length=1) (l1:n1.length=1) (l2:n2.length=1) (ln:Value) (e:Nat) (x:Str) (tx:Tok) (q la:Str) (nu:Int) (GN:Nat) (G:Str->Nat->Rg) (told:List (Str×Int)) (fin:List Str) (t0 b t:Nat) (ht:t0<=t)
    (hF:FFact T prog w 3 G #[.str n0 tn0,.str n1 tn1,.str n2 tn2] (hvA3 z0 z1 z2 n0 n1 n2 (t+3)) #[.int z0 tz0,.int z1 tz1,.int z2 tz2] en eb ab an GN t0 x q la nu) (hW:WRel T prog w 3 G #[.str n0 tn0,.str n1 tn1,.str n2 tn2] (hvA3 z0 z1 z2 n0 n1 n2 (t+3)) #[.int z0 tz0,.int z1 tz1,.int z2 tz2] en eb ab an GN t0 7 ((pushes (G q) la 0 3).map (pushT0 (G q))) told fin) :
    ∃(at_:Addr)(pb:List (Str×Tok))(f:Nat->Tp)(ex e' da dt:Nat),((List.range 8).map fun i=>((f i).x,(f i).v))=((Y2,nu)::told)/\pb.map (·.1)=fin/\SpOk (T w.params) prog w (wkSp X ab an (liO #[.int z0 tz0,.int z1 tz1,.int z2 tz2] eb) (liO #[.str n0 tn0,.str n1 tn1,.str n2 tn2] en) (X.dO w.params ln) (X.dO w.params ln) (liO #[.str x tx] e) (liO (pbA pb) e') at_ 8 f ex da dt (0+((0+GN)+7*GN))) b t:=by
  have hI:∀y:Nat×Nat,∃R:WkR,t0<=y.2->(R.Q.map (fun q=>(q.x,q.v))=((Y2,nu)::told)/\R.pb.map (·.1)=fin /\
      Tr (T w.params) prog w 80 (ouC (T w.params) (b+0) (b+13)) (ouL w.params (wkG5 w.params (fun i=>([(t+0),(t+1),(t+2),(t+46),(t+47)]:List Tok).getD i 0) X ab an (b+3) (b+11)) (b+0) (b+13) (b+11) an (b+3) ab X 0 8 #[] #[.str n0 tn0,.str n1 tn1,.str n2 tn2] (hvA3 z0 z1 z2 n0 n1 n2 (t+3)) #[.int z0 tz0,.int z1 tz1,.int z2 tz2] 0 en 3 eb ln [(x,tx)] e) y.1 y.2 (.ok (.done .next))
        (R.Q.reverse.map Tp.o++ouL w.params (wkG w.params R.k R.v X ab an (b+3) (b+11)) (b+0) (b+13) (b+11) an (b+3) ab X 8 0 (R.Q.map fun q=>Value.ref q.a).toArray #[.str n0 tn0,.str n1 tn1,.str n2 tn2] (hvA3 z0 z1 z2 n0 n1 n2 (t+3)) #[.int z0 tz0,.int z1 tz1,.int z2 tz2] R.ex en 3 eb ln R.pb R.e) R.da R.dt ((0+GN)+7*GN)):=fun y=>by
    by_cases hy:t0<=y.2
    · refine oF_3_st (w:=w) OF Pop1 Hf Hs Hno He HE P0 P1 X (b+0) (b+13) (b+11) an (b+3) ab (fun i=>([(t+0),(t+1),(t+2),(t+46),(t+47)]:List Tok).getD i 0) (fun _=>.none) 0 8 #[] #[.str n0 tn0,.str n1 tn1,.str n2 tn2] (hvA3 z0 z1 z2 n0 n1 n2 (t+3)) #[.int z0 tz0,.int z1 tz1,.int z2 tz2] 0 en 3 eb ln e x tx q la nu GN (G q) t0 y.1 y.2 (by decide) hF.h1 (by decide) hF.h3 hF.h4 hF.h5 (by rw [sizeLine_eq];show 2<=_;decide) (by rw [sizeLine_eq];show 0<=_;decide) rfl hF.hnum hF.hst hF.hO hF.hs0 hF.hm0 hy (by rw [Nat.zero_add];exact hF.hl) fun k1 u1' tk tup ta tn e1 da1 dt1 g1 g2=>?_
      refine walk_later_3 (w:=w) O1 O2 OE Pop1 Pop2 Hs Hno H0 H1 HE P0 P1 X (b+0) (b+13) (b+11) an (b+3) ab #[.str n0 tn0,.str n1 tn1,.str n2 tn2] (hvA3 z0 z1 z2 n0 n1 n2 (t+3)) #[.int z0 tz0,.int z1 tz1,.int z2 tz2] en 3 eb ln GN G t0 rfl 7 _ told fin hW (((pushes (G q) la 0 3).map (pushT0 (G q))).zip tk) e1 k1 u1' 1 #[.ref tup] 1 (y.1+da1) (y.2+dt1) (by rw [zip_fst _ _ (by rw [g1,List.length_map])]) (Nat.le_trans hy (Nat.le_add_right ..)) (by decide) (show 1+7<=100 by decide) fun k' u' Q pb' ex' e' da dt i1 i2 i3=>?_
      refine ⟨⟨k',u',⟨tup,Y2,ta,nu,tn⟩::Q,pb',ex',e',da1+da,dt1+dt⟩,fun _=>⟨by rw [List.map_cons,i1],i2,?_⟩⟩
      have z:=Tr.stepG g2 i3
      have e1':(((⟨tup,Y2,ta,nu,tn⟩::Q:List Tp).map fun q=>Value.ref q.a).toArray:Array Value)=#[.ref tup]++(Q.map fun q=>Value.ref q.a).toArray:=by apply Array.ext';simp
      have e2':((⟨tup,Y2,ta,nu,tn⟩::Q:List Tp).reverse.map Tp.o)=Q.reverse.map Tp.o++[(tup,tuO #[.str Y2 ta,.int nu tn])]:=by simp [Tp.o]
      show Tr (T w.params) prog w 80 (ouC (T w.params) (b+0) (b+13)) _ y.1 y.2 (.ok (.done .next)) (((⟨tup,Y2,ta,nu,tn⟩::Q:List Tp).reverse.map Tp.o)++ouL w.params (wkG w.params k' u' X ab an (b+3) (b+11)) (b+0) (b+13) (b+11) an (b+3) ab X 8 0 (((⟨tup,Y2,ta,nu,tn⟩::Q:List Tp).map fun q=>Value.ref q.a).toArray) #[.str n0 tn0,.str n1 tn1,.str n2 tn2] (hvA3 z0 z1 z2 n0 n1 n2 (t+3)) #[.int z0 tz0,.int z1 tz1,.int z2 tz2] ex' en 3 eb ln pb' e') (da1+da) (dt1+dt) ((0+GN)+7*GN)
      rw [e1',e2']
      exact z
    · exact ⟨⟨fun _=>0,fun _=>.none,[],[],0,0,0,0⟩,fun h=>absurd h hy⟩
  obtain ⟨R,hR⟩:=Classical.axiomOfChoice hI
  have hlenQ:∀p,t0<=p.2->(R p).Q.length=8:=fun p h=>by
    have:=congrArg List.length (hR p h).1
    simpa [hW.len] using this
  have hl:=wlk3_ok (w:=w) H X ab an #[.int z0 tz0,.int z1 tz1,.int z2 tz2] #[.str n0 tn0,.str n1 tn1,.str n2 tn2] eb en ln e x tx ((0+GN)+7*GN) (fun _ t'=>hvA3 z0 z1 z2 n0 n1 n2 t') (fun b' t'=>(R (b',t')).k) (fun b' t'=>(R (b',t')).v) (fun _ _=>riO 8 0) (fun b' t'=>liO (pbA (R (b',t')).pb) (R (b',t')).e) (fun b' t'=>(R (b',t')).ex) (fun b' t'=>(R (b',t')).da) (fun b' t'=>(R (b',t')).dt) (fun b' t' i=>(R (b',t')).Q.getD i tp0) b t rfl (by rw [sizeLine_eq];decide)
    (fun b' t' _ _ _ _=>hinge3_fn Hh ab an eb en z0 z1 z2 tz0 tz1 tz2 tn0 tn1 tn2 n0 n1 n2 y0 y1 y2 l0 l1 l2 b' t')
    (fun b' t' _ _ _ h=>by
      refine Tr.sp ?_ rfl
      have hh:t0<=t':=Nat.le_trans ht h
      have z:=Tr.mono (hR (b',t') hh).2.2 (show 80<=90 by decide)
      rw [<- tpLed_of _ (hlenQ (b',t') hh),<- tpRefs_all _ (hlenQ (b',t') hh)] at z
      exact z)
  have hh:t0<=t+54:=Nat.le_trans ht (Nat.le_add_right ..)
  refine ⟨_,(R (b+14,t+54)).pb,(fun i=>(R (b+14,t+54)).Q.getD i tp0),_,_,_,_,?_,(hR (b+14,t+54) hh).2.1,hl⟩
  have e1:=range_getD (R (b+14,t+54)).Q tp0
  rw [hlenQ _ hh] at e1
  rw [<- (hR (b+14,t+54) hh).1]
  exact (List.map_map ..).symm.trans (congrArg (List.map fun q:Tp=>(q.x,q.v)) e1) |> fun h=>h
end
section
open StrLaws (At occBody lastBody LastOk occ_eq last_eq)
theorem at_one {x:Str}{c hi i:Nat}:At x ⟨#[c]⟩ hi i↔i+1<=hi/\x.cps.toList[i]?=some c:=by
  have e:subAt x ⟨#[c]⟩ i=true↔x.cps.toList[i]?=some c:=by
    unfold subAt
    rw [beq_iff_eq]
    constructor
    · intro h
      have h2:=congrArg (fun a=>a.toList[0]?) h
      simpa [Str.length] using h2
    · intro h
      apply Array.ext'
      rw [Array.toList_extract]
      show ((x.cps.toList.drop i).take (i+1-i))=[c]
      rw [show i+1-i=1 by omega]
      obtain ⟨hi,h2⟩:=List.getElem?_eq_some_iff.mp h
      rw [List.drop_eq_getElem_cons hi,h2]
      rfl
  unfold StrLaws.At
  rw [e]
  exact Iff.rfl
theorem occ_skip {s sub:Str}{hi limit:Nat}:∀(l:List Nat)(st:Array Nat×Nat),(∀i∈l,¬ At s sub hi i)->(forIn l st (occBody s sub hi limit)).run=st
  | [],st,_=>rfl
  | a::l,st,h=>by
    rw [List.forIn_cons]
    unfold occBody
    split
    · rename_i hc
      exact absurd ⟨hc.1.2,hc.2⟩ (h a List.mem_cons_self)
    · exact occ_skip l st fun i hi=>h i (List.mem_cons_of_mem _ hi)
theorem occ_app {s sub:Str}{hi limit:Nat}:∀(l l2:List Nat)(st:Array Nat×Nat),(forIn (l++l2) st (occBody s sub hi limit)).run=(forIn l2 ((forIn l st (occBody s sub hi limit)).run) (occBody s sub hi limit)).run
  | [],l2,st=>rfl
  | a::l,l2,st=>by
    rw [List.cons_append,List.forIn_cons,List.forIn_cons]
    have e:∃st2,occBody s sub hi limit a st=pure (ForInStep.yield st2):=by
      unfold occBody;split
      · exact ⟨_,rfl⟩
      · exact ⟨_,rfl⟩
    obtain ⟨st2,e⟩:=e
    rw [e]
    exact occ_app l l2 st2
theorem occ_none1 {x y:Str}{limit:Nat}(hn:∀i,¬ At x y x.length i):occurrences x y 0 x.length limit=[]:=by
  rw [occ_eq,occ_skip _ _ fun i _=>hn i]
theorem occ_one {x y:Str}{limit k:Nat}(hl:1<=limit)(hk:At x y x.length k)(hn:∀i,i≠k->¬ At x y x.length i):occurrences x y 0 x.length limit=[k]:=by
  rw [occ_eq]
  have hkl:k<=x.length:=by have:=hk.1;omega
  have e:List.range' 0 (x.length+1-0)=List.range' 0 k++(k::List.range' (k+1) (x.length-k)):=by
    have h1:=List.range'_append (s:=0) (m:=k) (n:=x.length+1-k) (step:=1)
    rw [show k+(x.length+1-k)=x.length+1-0 by omega] at h1
    rw [<- h1,show 0+1*k=k by omega,show x.length+1-k=(x.length-k)+1 by omega,List.range'_succ]
  rw [e,occ_app]
  have e1:=occ_skip (s:=x) (sub:=y) (hi:=x.length) (limit:=limit) (List.range' 0 k) (#[],0) fun i hi=>hn i (by have:=List.mem_range'.mp hi;omega)
  rw [e1,List.forIn_cons]
  have e2:occBody x y x.length limit k (#[],0)=pure (ForInStep.yield (#[k],k+y.length)):=by
    unfold occBody
    rw [if_pos ⟨⟨⟨by show 0<limit;omega,Nat.zero_le _⟩,hk.1⟩,hk.2⟩]
    rfl
  rw [e2]
  show (forIn (List.range' (k+1) (x.length-k)) ((#[k]:Array Nat),k+y.length) (occBody x y x.length limit)).run.fst.toList=[k]
  rw [occ_skip _ _ fun i hi=>hn i (by have:=List.mem_range'.mp hi;omega)]
theorem last_one {x y:Str}{hi k:Nat}(hk:At x y hi k)(hn:∀i,k<i->¬ At x y hi i):lastOccurrence x y 0 hi=some k:=by
  rw [last_eq]
  have key:=StrLaws.last_run x y hi (List.range' 0 (hi+1-0)) [] none (fun _ h=>nomatch h) (fun _ h=>nomatch h) (by simpa using List.pairwise_lt_range' (s:=0) (n:=hi+1-0))
  have mem:k∈[]++List.range' 0 (hi+1-0):=by have:=hk.1;simp [List.mem_range'];omega
  cases hr:(forIn (List.range' 0 (hi+1-0)) none (lastBody x y hi)).run with
  | none=>rw [hr] at key;exact absurd hk (key k mem)
  | some a=>
    rw [hr] at key
    by_cases h1:a<k
    · exact absurd hk (key.2 k mem h1)
    · by_cases h2:k<a
      · exact absurd key.1 (hn a h2)
      · rw [show a=k by omega]
theorem last_none {x y:Str}{hi:Nat}(hn:∀i,¬ At x y hi i):lastOccurrence x y 0 hi=none:=by
  rw [last_eq]
  have key:=StrLaws.last_run x y hi (List.range' 0 (hi+1-0)) [] none (fun _ h=>nomatch h) (fun _ h=>nomatch h) (by simpa using List.pairwise_lt_range' (s:=0) (n:=hi+1-0))
  cases hr:(forIn (List.range' 0 (hi+1-0)) none (lastBody x y hi)).run with
  | none=>rfl
  | some a=>rw [hr] at key;exact absurd key.1 (hn a)
structure TokL (x:Str)(P0:List Nat)(c:Nat)(Q:List Nat):Prop where
  e:x.cps.toList=P0++46::c::58::Q
  p58:58 ∉ P0
  c58:c≠58
  c46:c≠46
  q58:58 ∉ Q
  p10:10 ∉ P0
  c10:c≠10
  q10:10 ∉ Q
theorem TokL.pos {x:Str}{P0:List Nat}{c:Nat}{Q:List Nat}(h:TokL x P0 c Q)(i:Nat):x.cps.toList[i]?=some 58↔i=P0.length+2:=by
  rw [h.e,List.getElem?_append]
  split
  · rename_i hi
    constructor
    · intro e;exact absurd (List.mem_of_getElem? e) h.p58
    · intro e;omega
  · rename_i hi
    match hj:i-P0.length with
    | 0=>exact ⟨fun e=>(by cases e),fun e=>(by omega)⟩
    | 1=>exact ⟨fun e=>(by injection e with e;exact absurd e h.c58),fun e=>(by omega)⟩
    | 2=>exact ⟨fun _=>by omega,fun _=>rfl⟩
    | k+3=>exact ⟨fun e=>absurd (List.mem_of_getElem? (show Q[k]?=some 58 from e)) h.q58,fun e=>by omega⟩
theorem TokL.len {x:Str}{P0:List Nat}{c:Nat}{Q:List Nat}(h:TokL x P0 c Q):x.length=P0.length+3+Q.length:=by
  have:=congrArg List.length h.e
  simp only [List.length_append,List.length_cons] at this
  show x.cps.size=_
  rw [<- Array.length_toList];omega
theorem TokL.at58 {x:Str}{P0:List Nat}{c:Nat}{Q:List Nat}(h:TokL x P0 c Q):At x Y36 x.length (P0.length+2)/\∀i,i≠P0.length+2->¬ At x Y36 x.length i:=
  ⟨at_one.mpr ⟨by rw [h.len];omega,(h.pos _).mpr rfl⟩,fun i hi ha=>hi ((h.pos i).mp (at_one.mp ha).2)⟩
theorem TokL.n10 {x:Str}{P0:List Nat}{c:Nat}{Q:List Nat}(h:TokL x P0 c Q)(i:Nat):¬ At x Y14 x.length i:=fun ha=>by
  have:=List.mem_of_getElem? (at_one.mp ha).2
  rw [h.e] at this
  rcases List.mem_append.mp this with m | m
  · exact h.p10 m
  · rcases List.mem_cons.mp m with m | m
    · cases m
    · rcases List.mem_cons.mp m with m | m
      · exact h.c10 m.symm
      · rcases List.mem_cons.mp m with m | m
        · cases m
        · exact h.q10 m
theorem TokL.pos46 {x:Str}{P0:List Nat}{c:Nat}{Q:List Nat}(h:TokL x P0 c Q):At x Y30 (P0.length+2) P0.length/\∀i,P0.length<i->¬ At x Y30 (P0.length+2) i:=by
  refine ⟨at_one.mpr ⟨by omega,?_⟩,fun i hi ha=>?_⟩
  · rw [h.e,List.getElem?_append_right (Nat.le_refl _),Nat.sub_self];rfl
  · obtain ⟨h1,h2⟩:=at_one.mp ha
    have:i=P0.length+1:=by omega
    subst this
    rw [h.e,List.getElem?_append_right (by omega),show P0.length+1-P0.length=1 by omega] at h2
    injection h2 with h2
    exact h.c46 h2
theorem cut_one {x:Str}{k:Nat}{p q:Str}(hk:At x Y36 x.length k/\∀i,i≠k->¬ At x Y36 x.length i)(e:x.cps.toList=p.cps.toList++58::q.cps.toList)(hp:p.length=k):cutS x Y36=[p,q]:=by
  unfold cutS
  rw [occ_one (by omega) hk.1 hk.2]
  have hs:x.length=k+1+q.length:=by
    have:=congrArg List.length e
    simp only [List.length_append,List.length_cons] at this
    show x.cps.size=_+1+q.cps.size
    rw [<- Array.length_toList,<- Array.length_toList,this,<- hp]
    show p.cps.toList.length+_=p.cps.size+1+_
    rw [Array.length_toList];omega
  have hpl:p.cps.toList.length=k:=by rw [Array.length_toList];exact hp
  show [strSub x 0 k,strSub x (k+1) x.length]=[p,q]
  have e1:strSub x 0 k=p:=by
    unfold strSub
    refine congrArg Str.mk (Array.ext' ?_)
    rw [Array.toList_extract]
    show (x.cps.toList.drop 0).take (k-0)=p.cps.toList
    rw [e,List.drop_zero,Nat.sub_zero,<- hpl,List.take_left]
  have e2:strSub x (k+1) x.length=q:=by
    unfold strSub
    refine congrArg Str.mk (Array.ext' ?_)
    rw [Array.toList_extract]
    show (x.cps.toList.drop (k+1)).take (x.length-(k+1))=q.cps.toList
    rw [e,hs,show k+1+q.length-(k+1)=q.cps.toList.length by rw [Array.length_toList];show _=q.length;omega,<- hpl,<- List.drop_drop,List.drop_left]
    show List.take _ (q.cps.toList)=_
    rw [List.take_length]
  rw [e1,e2]
theorem fromIndex_zero (n:Nat):fromIndex n 0=0:=by
  unfold fromIndex
  first | rfl | simp | (split<;>simp)
theorem hiOf_len (x:Str){k:Nat}(h:k<=x.length):hiOf x (k:Int)=k:=by
  unfold hiOf fromIndex
  rw [if_neg (by omega)]
  omega
theorem findS_one {x:Str}{c k:Nat}(hk:At x ⟨#[c]⟩ x.length k/\∀i,i≠k->¬ At x ⟨#[c]⟩ x.length i):findS x (⟨#[c]⟩:Str) (fromIndex x.length 0) (hiOf x (x.length:Int))=(k:Int):=by
  rw [fromIndex_zero,hiOf_len x (Nat.le_refl _)]
  unfold findS
  rw [occ_one (Nat.le_refl _) hk.1 hk.2]
theorem findS_none {x:Str}{c:Nat}(hn:∀i,¬ At x ⟨#[c]⟩ x.length i):findS x (⟨#[c]⟩:Str) 0 x.length=-1:=by
  unfold findS
  rw [occ_none1 hn]
section
variable {T:Params->KT}{prog:Program}{w:World}
theorem TokL.strip {x:Str}{P0:List Nat}{c:Nat}{Q:List Nat}(h:TokL x P0 c Q)(H:strip1Run T prog)(hl:x.length<=sizeLine)(tx:Tok)(b t:Nat):SpOk (T w.params) prog w (s1Sp x (⟨#[c]⟩:Str) tx t) b t:=by
  have z:=strip1_ok (w:=w) H x tx ((P0.length+2:Nat):Int) (P0.length:Int) b t hl (findS_none h.n10) (findS_one h.at58) (by simp;omega) (by
    rw [fromIndex_zero,hiOf_len x (by rw [h.len];omega)]
    unfold rfindS
    rw [last_one h.pos46.1 h.pos46.2]) (by simp) (by
    rw [show ((P0.length:Int)+1)=((P0.length+1:Nat):Int) by omega,StrLaws.strSliceIndices_plain (by omega) (by rw [h.len];omega)]
    simp;rw [h.len];omega)
  have e:sliceS x (some ((P0.length:Int)+1)) (some ((P0.length+2:Nat):Int))=(⟨#[c]⟩:Str):=by
    unfold sliceS
    rw [show ((P0.length:Int)+1)=((P0.length+1:Nat):Int) by omega,StrLaws.strSliceIndices_plain (by omega) (by rw [h.len];omega),show P0.length+2-(P0.length+1)=1 by omega]
    have:x.cps[P0.length+1]?=some c:=by
      rw [<- Array.getElem?_toList,h.e,List.getElem?_append_right (by omega),show P0.length+1-P0.length=1 by omega];rfl
    show (⟨(List.filterMap (x.cps[·]?) [P0.length+1+0]).toArray⟩:Str)=_
    simp only [Nat.add_zero,List.filterMap_cons,this,List.filterMap_nil]
  unfold strip1Sp at z
  rw [e] at z
  exact z
theorem strip_first {x q:Str}(e:x.cps.toList=58::q.cps.toList)(h58:58 ∉ q.cps.toList)(h10:10 ∉ q.cps.toList)(h46:46 ∉ q.cps.toList)(H:strip0Run T prog)(hl:x.length<=sizeLine)(tx:Tok)(b t:Nat):(At x Y36 x.length 0/\∀i,i≠0->¬ At x Y36 x.length i)/\SpOk (T w.params) prog w (s0Sp x Y2 tx t) b t:=by
  have hs:x.length=q.length+1:=by
    have:=congrArg List.length e
    rw [List.length_cons,Array.length_toList,Array.length_toList] at this
    exact this
  have h0:At x Y36 x.length 0/\∀i,i≠0->¬ At x Y36 x.length i:=by
    refine ⟨at_one.mpr ⟨by omega,by rw [e];rfl⟩,fun i hi ha=>?_⟩
    have:=(at_one.mp ha).2
    rw [e] at this
    cases i with
    | zero=>exact hi rfl
    | succ i=>exact h58 (List.mem_of_getElem? this)
  have n10:∀i,¬ At x Y14 x.length i:=fun i ha=>by
    have:=List.mem_of_getElem? (at_one.mp ha).2
    rw [e] at this
    rcases List.mem_cons.mp this with m | m
    · cases m
    · exact h10 m
  refine ⟨h0,?_⟩
  have z:=strip0_ok (w:=w) H x tx b t hl (findS_none n10) (findS_one h0) (by
    rw [fromIndex_zero,show hiOf x 0=0 from hiOf_len x (Nat.zero_le _)]
    unfold rfindS
    rw [last_none fun i ha=>by have:=(at_one.mp ha).1;omega]) (by
    rw [show (0:Int)=((0:Nat):Int) from rfl,StrLaws.strSliceIndices_plain (Nat.le_refl _) (Nat.zero_le _)]
    simp;omega)
  have e2:sliceS x (some 0) (some 0)=Y2:=by
    unfold sliceS
    rw [show (0:Int)=((0:Nat):Int) from rfl,StrLaws.strSliceIndices_plain (Nat.le_refl _) (Nat.zero_le _)]
    rfl
  unfold strip0Sp at z
  first | exact z | (rw [e2] at z;exact z)
end
end
section
open StrLaws (At occBody)
structure SF (n r z:Nat):Prop where
  turn:∀s,s<2 ^ n->∀j,j<n->TurnP (stS r n s) (nm r j) (stS r n (flip s j))
  ends:∀s,s<2 ^ n->∀j,j<n->∀p,p<2 ^ j->endsS (stS r n s) (sufS r j p)=(s % 2 ^ j==p)
  hinge:∀j,j<n->∀p,p<2 ^ j->HingeP (sufS r j p)
  sh:∀s,s<2 ^ n->ShP r n s
  eb:∀j,j<n->endB z j<2 ^ j
  n0:0<n
  n4:n<=4
  inj:∀i,i<n->∀j,j<n->eqS (nm r i) (nm r j)=(i==j)
theorem inj_all:∀r,r<8->∀i,i<4->∀j,j<4->eqS (nm r i) (nm r j)=(i==j):=by decide +kernel
theorem SF4 {r z:Nat}(hr:r<8)(hz:z<16):SF 4 r z:=⟨turn_all r hr,ends_all r hr,hinge_all r hr,sh_all r hr,endB_lt z hz,by decide,by decide,inj_all r hr⟩
theorem SF3 {z:Nat}(hz:z<8):SF 3 2 z:=⟨turn_all3,ends_all3,fun j hj=>hinge_all 2 (by decide) j (Nat.lt_succ_of_lt hj),sh_all3,fun j hj=>endB_lt z (by omega) j (by omega),by decide,by decide,fun i hi j hj=>inj_all 2 (by decide) i (by omega) j (by omega)⟩
theorem sg_ok (r j:Nat):sg r j+1≠58/\sg r j+1≠46/\sg r j+1≠10/\sg r j+1<128/\sg r j+1≠34/\sg r j+1≠92:=by
  have h:∀k,k<8->([96,34,31,39,97,8,40,44]:List Nat).getD k 0+1≠58/\([96,34,31,39,97,8,40,44]:List Nat).getD k 0+1≠46/\([96,34,31,39,97,8,40,44]:List Nat).getD k 0+1≠10/\([96,34,31,39,97,8,40,44]:List Nat).getD k 0+1<128/\([96,34,31,39,97,8,40,44]:List Nat).getD k 0+1≠34/\([96,34,31,39,97,8,40,44]:List Nat).getD k 0+1≠92:=by decide
  exact h _ (Nat.mod_lt _ (by decide))
theorem stL_mem {r c:Nat}:∀{n s:Nat},c∈stL r n s->c=34∨∃j,c=sg r j+1
  | 0,_,h=>by cases h
  | n+1,s,h=>by
    unfold stL at h
    rcases List.mem_append.mp h with h | h
    · split at h
      · exact .inl (List.mem_singleton.mp h)
      · cases h
    · rcases List.mem_cons.mp h with h | h
      · exact .inr ⟨_,h⟩
      · exact stL_mem h
theorem stL_not {r n s:Nat}:58 ∉ stL r n s/\46 ∉ stL r n s/\10 ∉ stL r n s:=by
  refine ⟨fun h=>?_,fun h=>?_,fun h=>?_⟩<;>rcases stL_mem h with h | ⟨j,h⟩
  · cases h
  · exact (sg_ok r j).1 h.symm
  · cases h
  · exact (sg_ok r j).2.1 h.symm
  · cases h
  · exact (sg_ok r j).2.2.1 h.symm
theorem stL_len {r:Nat}:∀{n s:Nat},n<=(stL r n s).length/\(stL r n s).length<=2*n
  | 0,_=>⟨Nat.le_refl _,Nat.le_refl _⟩
  | n+1,s=>by
    have:=stL_len (r:=r) (n:=n) (s:=s)
    unfold stL
    rw [List.length_append,List.length_cons]
    split<;>simp<;>omega
theorem stS_len {n r z s:Nat}(F:SF n r z):(stS r n s).length≠0/\(stS r n s).length<=8:=by
  have h:(stS r n s).length=(stL r n s).length:=by show (stL r n s).toArray.size=_;simp
  have:=stL_len (r:=r) (n:=n) (s:=s)
  have:=F.n0;have:=F.n4
  omega
theorem stS_list {n r s:Nat}:(stS r n s).cps.toList=stL r n s:=rfl
def turned (q x:Str):Str:=if inS q (mk1 x) then replS q (mk1 x) x else replS q x (mk1 x)
theorem TurnP.eq {q x y:Str}(h:TurnP q x y):turned q x=y:=by
  unfold turned
  rcases h with ⟨h1,h2,h3⟩ | ⟨h1,h2,h3⟩
  · rw [if_pos h1];exact h3
  · rw [if_neg (by rw [h1];decide)];exact h3
def rgG (r z:Nat)(tn th:Nat->Tok)(q:Str)(j:Nat):Rg:=⟨nm r j,tn j,dts++sufS r j (endB z j),th j,sufS r j (endB z j),(sufS r j (endB z j)).length-1,endsS q (sufS r j (endB z j)),turned q (nm r j)⟩
theorem occ_empty {x:Str}{hi:Nat}:occurrences x Y2 0 hi 1=[0]:=by
  rw [StrLaws.occ_eq]
  have full:∀(l:List Nat)(st:Array Nat×Nat),¬ st.1.size<1->(forIn l st (occBody x Y2 hi 1)).run=st:=by
    intro l
    induction l with
    | nil=>intro st h;rfl
    | cons a l ih=>
      intro st h
      rw [List.forIn_cons]
      unfold StrLaws.occBody
      rw [if_neg (fun hc=>h hc.1.1.1)]
      exact ih st h
  rw [show hi+1-0=hi+1 by omega,List.range'_succ,List.forIn_cons]
  have e:occBody x Y2 hi 1 0 (#[],0)=pure (ForInStep.yield (#[0],0)):=by
    unfold StrLaws.occBody
    rw [if_pos ⟨⟨⟨by decide,Nat.le_refl _⟩,Nat.zero_le _⟩,by unfold subAt;rw [beq_iff_eq];apply Array.ext';rw [Array.toList_extract];simp [Str.length]⟩]
    rfl
  rw [e]
  show (forIn (List.range' (0+1) hi) ((#[0]:Array Nat),0) (occBody x Y2 hi 1)).run.fst.toList=[0]
  rw [full _ _ (by simp)]
section
variable {T:Params->KT}{prog:Program}{w:World}
theorem rgOk {n r z s:Nat}(F:SF n r z)(hs:s<2 ^ n)(E0:ell0Run T prog)(E1:ell1Run T prog)(U0:turn0Run T prog)(U1:turn1Run T prog){tn th:Nat->Tok}{ns hv:Array Value}{t0:Nat}(hns:∀j,j<n->ns[j]?=some (.str (nm r j) (tn j)))(hhv:∀j,j<n->hv[j]?=some (.str (dts++sufS r j (endB z j)) (th j)))(ht:∀j,j<n->0<tn j/\tn j<t0):
    RgOk T prog w (rgG r z tn th (stS r n s)) n ns hv (stS r n s) t0:=by
  have d34:Y3.length=1:=rfl
  have dl:dts.length=3:=rfl
  have ql:=stS_len (s:=s) F
  have hH:=fun j hj=>F.hinge j hj (endB z j) (F.eb j hj)
  refine ⟨fun j hj=>hns j hj,fun j hj=>hhv j hj,fun j hj=>rfl,fun j hj hm tx ty b t=>?_,fun j hj hm tx ty b t=>?_,fun j hj hm=>?_,fun j hj hm tx b t h0=>?_⟩
  · obtain ⟨a1,a2,a3,a4,a5,a6⟩:=hH j hj
    exact ell0_ok (w:=w) E0 (dts++sufS r j (endB z j)) (stS r n s) (sufS r j (endB z j)) tx ty ((sufS r j (endB z j)).length-1) b t a1 a2 (by rfl) a3 (by rw [Str.length_append,sizeLine_eq,dl];omega) a4 (by rw [sizeLine_eq];show 2<=_;decide) (by rw [sizeLine_eq];omega) (by omega) (by rw [sizeLine_eq];omega) hm
  · obtain ⟨a1,a2,a3,a4,a5,a6⟩:=hH j hj
    have hle:(sufS r j (endB z j)).length<=(stS r n s).length:=by
      have hm':endsS (stS r n s) (sufS r j (endB z j))=true:=hm
      unfold endsS at hm'
      rw [Bool.and_eq_true] at hm'
      have:=of_decide_eq_true hm'.1
      omega
    exact ell1_ok (w:=w) E1 (dts++sufS r j (endB z j)) (stS r n s) (sufS r j (endB z j)) tx ty ((sufS r j (endB z j)).length-1) b t a1 a2 (by rfl) a3 (by rw [Str.length_append,sizeLine_eq,dl];omega) a4 (by rw [sizeLine_eq];show 2<=_;decide) (by rw [sizeLine_eq];omega) (by omega) (by rw [sizeLine_eq];omega) hm (by
      rw [decide_eq_false_iff_not];omega) (by rw [fromIndex_zero];unfold findS;rw [occ_empty];rfl)
  · have e:(rgG r z tn th (stS r n s) j).rr=stS r n (flip s j):=(F.turn s hs j hj).eq
    rw [e]
    have:=stS_len (s:=flip s j) F
    exact ⟨this.1,by omega⟩
  · have hj0:=ht j hj
    have e:(rgG r z tn th (stS r n s) j).rr=turned (stS r n s) (nm r j):=rfl
    have nl:(nm r j).length=1:=rfl
    have bound:∀k:Nat,k<=2->(stS r n s).length+((stS r n s).length+1)*k<=1048576:=fun k hk=>by
      have:((stS r n s).length+1)*k<=9*2:=Nat.mul_le_mul (by omega) hk
      omega
    have nq:nm r j≠Y3++nm r j:=fun h=>by
      have:=congrArg Str.length h
      rw [Str.length_append,nl,d34] at this
      cases this
    rw [e]
    unfold turned
    rcases F.turn s hs j hj with ⟨h1,h2,h3⟩ | ⟨h1,h2,h3⟩
    · rw [if_pos h1]
      exact turn1_ok (w:=w) U1 (stS r n s) (nm r j) tx (tn j) b t (by decide) (by rw [nl];decide) (by rw [Str.length_append,nl,d34,sizeLine_eq];decide) h1 h2 (Nat.succ_ne_zero _) (Nat.ne_of_gt hj0.1) (Nat.ne_of_gt (Nat.lt_of_lt_of_le hj0.2 (Nat.le_trans h0 (Nat.le_add_right _ 3)))) nq.symm (by rw [Str.length_append,nl,d34];decide) (bound _ (by rw [nl];decide))
    · rw [if_neg (by rw [h1];decide)]
      exact turn0_ok (w:=w) U0 (stS r n s) (nm r j) tx (tn j) b t (by decide) (by rw [nl];decide) (by rw [Str.length_append,nl,d34,sizeLine_eq];decide) h1 h2 (Nat.ne_of_gt hj0.1) (Nat.succ_ne_zero _) (Nat.ne_of_lt (Nat.lt_of_lt_of_le hj0.2 (Nat.le_trans h0 (Nat.le_add_right _ 3)))) nq (bound _ (by rw [Str.length_append,nl,d34];decide))
end
end
theorem Str.toList_append (x y:Str):(x++y).cps.toList=x.cps.toList++y.cps.toList:=by
  show (x.cps++y.cps).toList=_
  simp
def tokS (r n:Nat)(y:List Nat×Nat):Str:=(pathR (nm r) y.1++Y36)++stS r n y.2
theorem pathR_list {r:Nat}:∀(l:List Nat),(pathR (nm r) l).cps.toList=(l.reverse.flatMap fun j=>[46,sg r j+1])
  | []=>rfl
  | [j]=>by show (Y30++nm r j).cps.toList=_;rw [Str.toList_append];rfl
  | j::i::l=>by
    rw [pathR_cons (by simp),Str.toList_append,pathR_list (i::l),Str.toList_append]
    rw [List.reverse_cons (a:=j),List.flatMap_append]
    rfl
theorem pathR_not {r:Nat}(l:List Nat):58 ∉ (pathR (nm r) l).cps.toList/\10 ∉ (pathR (nm r) l).cps.toList:=by
  rw [pathR_list]
  constructor<;>(intro h;obtain ⟨j,_,h⟩:=List.mem_flatMap.mp h;rcases List.mem_cons.mp h with h | h)
  · cases h
  · exact (sg_ok r j).1 (List.mem_singleton.mp h).symm
  · cases h
  · exact (sg_ok r j).2.2.1 (List.mem_singleton.mp h).symm
theorem pathN_len {r:Nat}(l:List Nat):(pathR (nm r) l).length=2*l.length:=pathR_len (fun _=>rfl) l
theorem pathR_tl {r j:Nat}(l:List Nat):pathR (nm r) (j::l)=pathR (nm r) l++(Y30++nm r j):=by
  cases l with
  | nil=>
    show Y30++nm r j=Y2++(Y30++nm r j)
    apply congrArg Str.mk
    show _=#[]++_
    rw [Array.empty_append]
    rfl
  | cons i l=>exact pathR_cons (by simp)
theorem tokL {r n j s:Nat}(l:List Nat):TokL (tokS r n (j::l,s)) (pathR (nm r) l).cps.toList (sg r j+1) (stL r n s):=by
  refine ⟨?_,(pathR_not l).1,(sg_ok r j).1,(sg_ok r j).2.1,stL_not.1,(pathR_not l).2,(sg_ok r j).2.2.1,stL_not.2.2⟩
  unfold tokS
  rw [Str.toList_append,Str.toList_append,pathR_tl,Str.toList_append,Str.toList_append]
  simp [nm,stS_list]
theorem pushes_eq {n r z s:Nat}(F:SF n r z)(hs:s<2 ^ n){tn th:Nat->Tok}{la:Str}{lb:Nat}(hla:∀j,j<n->(!eqS (nm r j) la)=(j != lb)):∀(m kk:Nat),kk+m<=n->pushes (rgG r z tn th (stS r n s)) la kk m=aPush (mvB z s) lb kk m
  | 0,kk,_=>rfl
  | m+1,kk,h=>by
    unfold pushes aPush
    rw [pushes_eq F hs hla m (kk+1) (by omega)]
    have e1:(rgG r z tn th (stS r n s) kk).x=nm r kk:=rfl
    have e2:(rgG r z tn th (stS r n s) kk).m=mvB z s kk:=F.ends s hs kk (by omega) _ (F.eb kk (by omega))
    rw [e1,e2,hla kk (by omega)]
theorem aPush_lt {mv:Nat->Bool}{lb n:Nat}:∀(m kk:Nat),kk+m<=n->∀j∈aPush mv lb kk m,j<n
  | 0,kk,_,j,h=>by cases h
  | m+1,kk,hk,j,h=>by
    unfold aPush at h
    rcases List.mem_append.mp h with h | h
    · split at h
      · have:=List.mem_singleton.mp h;omega
      · cases h
    · exact aPush_lt m (kk+1) (by omega) j h
theorem pushT_eq {n r z s:Nat}(F:SF n r z)(hs:s<2 ^ n){tn th:Nat->Tok}(l:List Nat){j:Nat}(hj:j<n):pushT (rgG r z tn th (stS r n s)) (pathR (nm r) l) j=tokS r n (j::l,flip s j):=by
  unfold pushT tokS
  have e1:(rgG r z tn th (stS r n s) j).x=nm r j:=rfl
  have e2:(rgG r z tn th (stS r n s) j).rr=stS r n (flip s j):=(F.turn s hs j hj).eq
  rw [e1,e2,pathR_tl,Str.append_assoc (pathR (nm r) l)]
theorem pushT0_eq {n r z s:Nat}(F:SF n r z)(hs:s<2 ^ n){tn th:Nat->Tok}{j:Nat}(hj:j<n):pushT0 (rgG r z tn th (stS r n s)) j=tokS r n ([j],flip s j):=by
  unfold pushT0 tokS
  have e1:(rgG r z tn th (stS r n s) j).x=nm r j:=rfl
  have e2:(rgG r z tn th (stS r n s) j).rr=stS r n (flip s j):=(F.turn s hs j hj).eq
  rw [e1,e2]
  rfl
section
variable {T:Params->KT}{prog:Program}{w:World}
theorem aW_rel {n r z:Nat}(F:SF n r z)(HS:strip1Run T prog){tn th:Nat->Tok}{ns hv bs:Array Value}{en eb:Nat}{ab an:Addr}{GN t0:Nat}{nu:Nat->Int}
    (hO:∀s,s<2 ^ n->RgOk T prog w (rgG r z tn th (stS r n s)) n ns hv (stS r n s) t0)
    (hN:∀s,s<2 ^ n->∀(tq:Tok) b' t',∃tv da dt:Nat,SpOk (T w.params) prog w (numSp ab an (stS r n s) tq (liO bs eb) (liO ns en) (nu s) tv da dt GN) b' t'):∀(m:Nat)(qs:List (List Nat×Nat))(told:List (List Nat×Int)),aW n nu z m qs=some told ->
    WRel T prog w n (rgG r z tn th) ns hv bs en eb ab an GN t0 m (qs.map (tokS r n)) (told.map fun y=>(pathR (nm r) y.1,y.2)) []:=by
  intro m
  induction m with
  | zero=>
    intro qs told h
    cases qs with
    | nil=>injection h with h;subst h;exact .nil []
    | cons q qs=>cases h
  | succ m ih=>
    intro qs told h
    cases qs with
    | nil=>cases h
    | cons q rest=>
      obtain ⟨l,s⟩:=q
      unfold aW at h
      split at h
      · rename_i hc
        simp only [Bool.and_eq_true,decide_eq_true_eq] at hc
        refine cps fun Gp kp=>?_
        obtain ⟨⟨⟨⟨⟨c1,c2⟩,c3⟩,c4⟩,c5⟩,c6⟩:=hc
        refine kp ?_
        cases l with
        | nil=>cases c4
        | cons j l=>
          have hj:j<n:=by
            have:=List.all_eq_true.mp c5 j List.mem_cons_self
            exact of_decide_eq_true this
          generalize hw:aW n nu z m (rest++(aPush (mvB z s) ((j::l).headD 99) 0 n).map fun i=>(i::j::l,flip s i))=y at h
          cases y with
          | none=>cases h
          | some told'=>
            injection h with h
            subst h
            have hP:=pushes_eq F c6 (tn:=tn) (th:=th) (la:=nm r j) (lb:=j) (fun i hi=>by rw [F.inj i hi j hj];rfl) n 0 (by omega)
            have tl:=tokL (r:=r) (n:=n) (j:=j) (s:=s) l
            have xl:(tokS r n (j::l,s)).length<=100:=by
              have:=tl.len
              have h1:(stL r n s).length<=2*n:=stL_len.2
              have h2:=F.n4
              rw [Array.length_toList] at this
              have h3:(pathR (nm r) l).cps.size=2*l.length:=pathN_len l
              have h4:l.length+1<=20:=c3
              omega
            have xs:(tokS r n (j::l,s)).length<=sizeLine:=by rw [sizeLine_eq];omega
            have pl:=pathN_len (r:=r) (j::l)
            have h4:l.length+1<=20:=c3
            refine WRel.cons (x:=tokS r n (j::l,s)) (p:=pathR (nm r) (j::l)) (q:=stS r n s) (la:=nm r j) (nu:=nu s) (rest:=rest.map (tokS r n)) ⟨?_,?_,xs,?_,?_,?_,hO s c6,hN s c6,fun tx b' t'=>tl.strip HS xs tx b' t'⟩ (by rw [List.length_map];exact c1) (by rw [List.length_map,hP];exact c2) ?_
            · have:¬ ((tokS r n (j::l,s)).length<Y36.length):=by
                have:=tl.len;show ¬ (_<1);omega
              rw [decide_eq_false this,Bool.false_or]
              have hk:Str.strKind (tokS r n (j::l,s))≥1:=by unfold Str.strKind;split;exact Nat.le_refl _;(split<;>decide)
              have hk2:Str.strKind Y36=1:=by decide +kernel
              rw [hk2,decide_eq_false];omega
            · rw [occ_one (by omega) tl.at58.1 tl.at58.2];rfl
            · refine cut_one tl.at58 ?_ ?_
              · unfold tokS;rw [Str.toList_append,Str.toList_append];simp
              · rw [pl,Array.length_toList];show _=(pathR (nm r) l).length+2;rw [pathN_len];simp;omega
            · rw [pl];simp
            · rw [pl];simp;omega
            · rw [hP]
              have e:(aPush (mvB z s) j 0 n).map (pushT (rgG r z tn th (stS r n s)) (pathR (nm r) (j::l)))=((aPush (mvB z s) j 0 n).map fun i=>(i::j::l,flip s i)).map (tokS r n):=by
                rw [List.map_map]
                exact List.map_congr_left fun i hi=>pushT_eq F c6 (j::l) (aPush_lt n 0 (by omega) i hi)
              rw [e,<- List.map_append]
              exact ih _ _ hw
      · rename_i hc;cases h
end
noncomputable abbrev kL (l:List Tok)(i:Nat):Tok:=l.getD i 0
section
variable {T:Params->KT}{prog:Program}{w:World}{A:Around}{Q:Flow->Shared->Prop}{E:Value->Shared->Prop}{s0:Shared}
theorem law2_4 (H:s2_4Run T prog)(hlen:(bodyOf (T w.params) 136).length=11)(hr:Room 116 A)(fr cc cn cl:Addr)(k:Nat->Tok)(sa:Addr)(so:Obj)(tc:Tok)(la:Addr)(el:Nat)(c0 c1 c2:Int)(t0 t1 t2:Tok)(i0 i1 i2 i3:Int)(y0 y1 y2 y3:Nat)(b t:Nat)(h0:∀t u,Builtin.«int.__mod__» ⟨[.int (c2+0) t,.int 8 u],[]⟩=(Made.int i0).tree)(h1:(decide (i0 < -(2 ^ 63:Int))||decide (i0≥2 ^ 63))=false)(h2:(seqIndex? i0 Y50.length).bind (Y50.cps[·]?)=some (y0+1))(h3:∀t u,Builtin.«int.__mod__» ⟨[.int (c2+1) t,.int 8 u],[]⟩=(Made.int i1).tree)(h4:(decide (i1 < -(2 ^ 63:Int))||decide (i1≥2 ^ 63))=false)(h5:(seqIndex? i1 Y50.length).bind (Y50.cps[·]?)=some (y1+1))(h6:∀t u,Builtin.«int.__mod__» ⟨[.int (c2+2) t,.int 8 u],[]⟩=(Made.int i2).tree)(h7:(decide (i2 < -(2 ^ 63:Int))||decide (i2≥2 ^ 63))=false)(h8:(seqIndex? i2 Y50.length).bind (Y50.cps[·]?)=some (y2+1))(h9:∀t u,Builtin.«int.__mod__» ⟨[.int (c2+3) t,.int 8 u],[]⟩=(Made.int i3).tree)(h10:(decide (i3 < -(2 ^ 63:Int))||decide (i3≥2 ^ 63))=false)(h11:(seqIndex? i3 Y50.length).bind (Y50.cps[·]?)=some (y3+1))(next:∀(na:Addr)(en:Nat)(tn0 tn1 tn2 tn3:Tok)(b' t':Nat),t<=t'->0<tn0->tn0<t'->0<tn1->tn1<t'->0<tn2->tn2<t'->0<tn3->tn3<t'->St T prog w A Q E s0 fr cc cn cl 3 ([(fr,frO #[ent w.params Y48 (k 0) (.ref sa),ent w.params Y49 (k 1) (.int 4 tc)] 2),(cc,ceO (some (.ref la))),(la,liO #[.int c0 t0,.int c1 t1,.int c2 t2] el),(cn,ceO (some (.ref na))),(na,liO #[.str ⟨#[y0+1]⟩ tn0,.str ⟨#[y1+1]⟩ tn1,.str ⟨#[y2+1]⟩ tn2,.str ⟨#[y3+1]⟩ tn3] en),(cl,ceO none),(86,tabO #[]),(sa,so)]) b' t'):St T prog w A Q E s0 fr cc cn cl 2 ([(fr,frO #[ent w.params Y48 (k 0) (.ref sa),ent w.params Y49 (k 1) (.int 4 tc)] 2),(cc,ceO (some (.ref la))),(cn,ceO none),(la,liO #[.int c0 t0,.int c1 t1,.int c2 t2] el),(cl,ceO none),(86,tabO #[]),(sa,so)]) b t:=by
  exact St.oj hlen hr [0,1,2,3,4,5,6] (H fr cc cn cl k sa tc la el c0 c1 c2 t0 t1 t2 i0 i1 i2 i3 y0 y1 y2 y3 b t) rfl rfl ⟨cMod_ok h0,cIdx_ok h1 h2,cMod_ok h3,cIdx_ok h4 h5,cMod_ok h6,cIdx_ok h7 h8,cMod_ok h9,cIdx_ok h10 h11,trivial⟩ (St.ord [1,2,4,3,0,5,6,7] rfl rfl (next _ _ _ _ _ _ _ _ (Nat.le_add_right _ _) (Nat.succ_pos _) (Nat.add_lt_add_left (Nat.le_of_ble_eq_true rfl) _) (Nat.succ_pos _) (Nat.add_lt_add_left (Nat.le_of_ble_eq_true rfl) _) (Nat.succ_pos _) (Nat.add_lt_add_left (Nat.le_of_ble_eq_true rfl) _) (Nat.succ_pos _) (Nat.add_lt_add_left (Nat.le_of_ble_eq_true rfl) _)))
theorem law3_4 (H:s3_4Run T prog)(hlen:(bodyOf (T w.params) 136).length=11)(hr:Room 116 A)(fr cc cn cl:Addr)(k:Nat->Tok)(sa:Addr)(so:Obj)(tc:Tok)(la:Addr)(el:Nat)(c0 c1 c2:Int)(t0 t1 t2:Tok)(y0 y1 y2 y3:Nat)(na:Addr)(en:Nat)(tn0 tn1 tn2 tn3:Tok)(d0 z0 d1 z1 d2 z2 d3 z3:Int)(b t:Nat)(h0:∀t u,Builtin.«int.__floordiv__» ⟨[.int c0 t,.int 1 u],[]⟩=(Made.int d0).tree)(h1:∀t u,Builtin.«int.__mod__» ⟨[.int d0 t,.int 2 u],[]⟩=(Made.int z0).tree)(h2:∀t u,Builtin.«int.__floordiv__» ⟨[.int c0 t,.int 2 u],[]⟩=(Made.int d1).tree)(h3:∀t u,Builtin.«int.__mod__» ⟨[.int d1 t,.int 2 u],[]⟩=(Made.int z1).tree)(h4:∀t u,Builtin.«int.__floordiv__» ⟨[.int c0 t,.int 4 u],[]⟩=(Made.int d2).tree)(h5:∀t u,Builtin.«int.__mod__» ⟨[.int d2 t,.int 2 u],[]⟩=(Made.int z2).tree)(h6:∀t u,Builtin.«int.__floordiv__» ⟨[.int c0 t,.int 8 u],[]⟩=(Made.int d3).tree)(h7:∀t u,Builtin.«int.__mod__» ⟨[.int d3 t,.int 2 u],[]⟩=(Made.int z3).tree)(next:∀(k:Nat->Tok)(ab:Addr)(eb:Nat)(tz0 tz1 tz2 tz3:Tok)(b' t':Nat),t<=t'->St T prog w A Q E s0 fr cc cn cl 4 ([(fr,frO #[ent w.params Y48 (k 0) (.ref sa),ent w.params Y49 (k 1) (.int 4 tc),ent w.params Y32 (k 2) (.ref ab)] 3),(cc,ceO (some (.ref la))),(cn,ceO (some (.ref na))),(la,liO #[.int c0 t0,.int c1 t1,.int c2 t2] el),(na,liO #[.str ⟨#[y0+1]⟩ tn0,.str ⟨#[y1+1]⟩ tn1,.str ⟨#[y2+1]⟩ tn2,.str ⟨#[y3+1]⟩ tn3] en),(ab,liO #[.int z0 tz0,.int z1 tz1,.int z2 tz2,.int z3 tz3] eb),(cl,ceO none),(86,tabO #[]),(sa,so)]) b' t'):St T prog w A Q E s0 fr cc cn cl 3 ([(fr,frO #[ent w.params Y48 (k 0) (.ref sa),ent w.params Y49 (k 1) (.int 4 tc)] 2),(cc,ceO (some (.ref la))),(la,liO #[.int c0 t0,.int c1 t1,.int c2 t2] el),(cn,ceO (some (.ref na))),(na,liO #[.str ⟨#[y0+1]⟩ tn0,.str ⟨#[y1+1]⟩ tn1,.str ⟨#[y2+1]⟩ tn2,.str ⟨#[y3+1]⟩ tn3] en),(cl,ceO none),(86,tabO #[]),(sa,so)]) b t:=by
  exact St.oj hlen hr [0,1,2,3,4,5,6,7] (H fr cc cn cl k sa tc la el c0 c1 c2 t0 t1 t2 d0 z0 d1 z1 d2 z2 d3 z3 b t) rfl rfl ⟨cFdiv_ok h0,cMod_ok h1,cFdiv_ok h2,cMod_ok h3,cFdiv_ok h4,cMod_ok h5,cFdiv_ok h6,cMod_ok h7,trivial⟩ (St.ord [1,2,4,3,5,0,6,7,8] rfl rfl (next (kL [k 0,k 1,_]) _ _ _ _ _ _ _ _ (Nat.le_add_right _ _) ))
theorem law4_4 (H:s4_4Run T prog)(hlen:(bodyOf (T w.params) 136).length=11)(hr:Room 116 A)(fr cc cn cl:Addr)(k:Nat->Tok)(sa:Addr)(so:Obj)(tc:Tok)(la:Addr)(el:Nat)(c0 c1 c2:Int)(t0 t1 t2:Tok)(y0 y1 y2 y3:Nat)(na:Addr)(en:Nat)(tn0 tn1 tn2 tn3:Tok)(ab:Addr)(eb:Nat)(z0 z1 z2 z3:Int)(tz0 tz1 tz2 tz3:Tok)(d0 m0 d1 m1 d2 m2 d3 m3:Int)(fi:Str)(b t:Nat)(h0:∀t u,Builtin.«int.__floordiv__» ⟨[.int c1 t,.int 8 u],[]⟩=(Made.int d0).tree)(h1:∀t u,Builtin.«int.__mod__» ⟨[.int d0 t,.int 2 u],[]⟩=(Made.int m0).tree)(h2:∀t u,Builtin.«int.__floordiv__» ⟨[.int c1 t,.int 4 u],[]⟩=(Made.int d1).tree)(h3:∀t u,Builtin.«int.__mod__» ⟨[.int d1 t,.int 2 u],[]⟩=(Made.int m1).tree)(h4:∀t u,Builtin.«int.__floordiv__» ⟨[.int c1 t,.int 2 u],[]⟩=(Made.int d2).tree)(h5:∀t u,Builtin.«int.__mod__» ⟨[.int d2 t,.int 2 u],[]⟩=(Made.int m2).tree)(h6:∀t u,Builtin.«int.__floordiv__» ⟨[.int c1 t,.int 1 u],[]⟩=(Made.int d3).tree)(h7:∀t u,Builtin.«int.__mod__» ⟨[.int d3 t,.int 2 u],[]⟩=(Made.int m3).tree)(hm0:m0=0∨m0=1)(hm1:m1=0∨m1=1)(hm2:m2=0∨m2=1)(hm3:m3=0∨m3=1)(hg1:Builtin.Str.tooLong (([rgT m0 y3,rgT m1 y2,rgT m2 y1,rgT m3 y0]:List Str).toArray.foldl (·+·.length+Y2.length) 0)=false)(hg2:Builtin.Str.glued Y2 [rgT m0 y3,rgT m1 y2,rgT m2 y1,rgT m3 y0]=fi)(hg3:fi.length<=sizeLine)(next:∀(k:Nat->Tok)(tf:Tok)(b' t':Nat),t<=t'->St T prog w A Q E s0 fr cc cn cl 5 ([(fr,frO #[ent w.params Y48 (k 0) (.ref sa),ent w.params Y49 (k 1) (.int 4 tc),ent w.params Y32 (k 2) (.ref ab),ent w.params Y51 (k 3) (.str fi tf)] 4),(cn,ceO (some (.ref na))),(na,liO #[.str ⟨#[y0+1]⟩ tn0,.str ⟨#[y1+1]⟩ tn1,.str ⟨#[y2+1]⟩ tn2,.str ⟨#[y3+1]⟩ tn3] en),(cc,ceO (some (.ref la))),(la,liO #[.int c0 t0,.int c1 t1,.int c2 t2] el),(ab,liO #[.int z0 tz0,.int z1 tz1,.int z2 tz2,.int z3 tz3] eb),(cl,ceO none),(86,tabO #[]),(sa,so)]) b' t'):St T prog w A Q E s0 fr cc cn cl 4 ([(fr,frO #[ent w.params Y48 (k 0) (.ref sa),ent w.params Y49 (k 1) (.int 4 tc),ent w.params Y32 (k 2) (.ref ab)] 3),(cc,ceO (some (.ref la))),(cn,ceO (some (.ref na))),(la,liO #[.int c0 t0,.int c1 t1,.int c2 t2] el),(na,liO #[.str ⟨#[y0+1]⟩ tn0,.str ⟨#[y1+1]⟩ tn1,.str ⟨#[y2+1]⟩ tn2,.str ⟨#[y3+1]⟩ tn3] en),(ab,liO #[.int z0 tz0,.int z1 tz1,.int z2 tz2,.int z3 tz3] eb),(cl,ceO none),(86,tabO #[]),(sa,so)]) b t:=by
  refine cps fun Gp kp=>?_
  refine mulAdd (T:=T) (prog:=prog) (w:=w) m0 y3 hm0 fun DQ0 DF0 TQ0 TF0 hq0 hf0=>?_
  refine mulAdd (T:=T) (prog:=prog) (w:=w) m1 y2 hm1 fun DQ1 DF1 TQ1 TF1 hq1 hf1=>?_
  refine mulAdd (T:=T) (prog:=prog) (w:=w) m2 y1 hm2 fun DQ2 DF2 TQ2 TF2 hq2 hf2=>?_
  refine mulAdd (T:=T) (prog:=prog) (w:=w) m3 y0 hm3 fun DQ3 DF3 TQ3 TF3 hq3 hf3=>?_
  refine kp ?_
  exact St.oj hlen hr [0,1,2,3,4,5,6,7,8] (H fr cc cn cl k sa ab tc la el c0 c1 c2 t0 t1 t2 na en y0 y1 y2 y3 tn0 tn1 tn2 tn3 d0 m0 d1 m1 d2 m2 d3 m3 (rqT m0) (rgT m0 y3) (rqT m1) (rgT m1 y2) (rqT m2) (rgT m2 y1) (rqT m3) (rgT m3 y0) DQ0 DF0 DQ1 DF1 DQ2 DF2 DQ3 DF3 TQ0 TF0 TQ1 TF1 TQ2 TF2 TQ3 TF3 fi b t) rfl rfl ⟨cFdiv_ok h0,cMod_ok h1,(fun b' t' c l _ _=>hq0 b' t' (aT c 0) (aT c 1)),(fun b' t' c l _ _=>hf0 b' t' (aT c 0) (aT c 1)),cFdiv_ok h2,cMod_ok h3,(fun b' t' c l _ _=>hq1 b' t' (aT c 0) (aT c 1)),(fun b' t' c l _ _=>hf1 b' t' (aT c 0) (aT c 1)),cFdiv_ok h4,cMod_ok h5,(fun b' t' c l _ _=>hq2 b' t' (aT c 0) (aT c 1)),(fun b' t' c l _ _=>hf2 b' t' (aT c 0) (aT c 1)),cFdiv_ok h6,cMod_ok h7,(fun b' t' c l _ _=>hq3 b' t' (aT c 0) (aT c 1)),(fun b' t' c l _ _=>hf3 b' t' (aT c 0) (aT c 1)),cJoinE_ok (by intro h;cases h) hg1 (hg2▸hg3) hg2,trivial⟩ (St.ord [0,2,4,1,3,5,6,7,8] rfl rfl (next (kL [k 0,k 1,k 2,_]) _ _ _ (Nat.le_add_right _ _) ))
theorem law5_4 (H:s5_4Run T prog)(hlen:(bodyOf (T w.params) 136).length=11)(hr:Room 116 A)(fr cc cn cl:Addr)(k:Nat->Tok)(sa:Addr)(so:Obj)(tc:Tok)(la:Addr)(el:Nat)(c0 c1 c2:Int)(t0 t1 t2:Tok)(y0 y1 y2 y3:Nat)(na:Addr)(en:Nat)(tn0 tn1 tn2 tn3:Tok)(ab:Addr)(eb:Nat)(z0 z1 z2 z3:Int)(tz0 tz1 tz2 tz3:Tok)(fi:Str)(tf:Tok)(b t:Nat)(next:∀(k:Nat->Tok)(aw:Addr)(ew:Nat)(tm0 tm1 tm2 tm3:Tok)(b' t':Nat),t<=t'->St T prog w A Q E s0 fr cc cn cl 6 ([(fr,frO #[ent w.params Y48 (k 0) (.ref sa),ent w.params Y49 (k 1) (.int 4 tc),ent w.params Y32 (k 2) (.ref ab),ent w.params Y51 (k 3) (.str fi tf),ent w.params Y52 (k 4) (.ref aw)] 5),(cc,ceO (some (.ref la))),(cl,ceO none),(la,liO #[.int c0 t0,.int c1 t1,.int c2 t2] el),(aw,liO #[.str ⟨#[y0+1]⟩ tm0,.str ⟨#[y1+1]⟩ tm1,.str ⟨#[y2+1]⟩ tm2,.str ⟨#[y3+1]⟩ tm3,.str fi tf] ew),(86,tabO #[]),(cn,ceO (some (.ref na))),(na,liO #[.str ⟨#[y0+1]⟩ tn0,.str ⟨#[y1+1]⟩ tn1,.str ⟨#[y2+1]⟩ tn2,.str ⟨#[y3+1]⟩ tn3] en),(ab,liO #[.int z0 tz0,.int z1 tz1,.int z2 tz2,.int z3 tz3] eb),(sa,so)]) b' t'):St T prog w A Q E s0 fr cc cn cl 5 ([(fr,frO #[ent w.params Y48 (k 0) (.ref sa),ent w.params Y49 (k 1) (.int 4 tc),ent w.params Y32 (k 2) (.ref ab),ent w.params Y51 (k 3) (.str fi tf)] 4),(cn,ceO (some (.ref na))),(na,liO #[.str ⟨#[y0+1]⟩ tn0,.str ⟨#[y1+1]⟩ tn1,.str ⟨#[y2+1]⟩ tn2,.str ⟨#[y3+1]⟩ tn3] en),(cc,ceO (some (.ref la))),(la,liO #[.int c0 t0,.int c1 t1,.int c2 t2] el),(ab,liO #[.int z0 tz0,.int z1 tz1,.int z2 tz2,.int z3 tz3] eb),(cl,ceO none),(86,tabO #[]),(sa,so)]) b t:=by
  exact St.oj hlen hr [0,1,2,3,4,5,6,7,8] (H fr cc cn cl k sa ab tc fi tf na en y0 y1 y2 y3 tn0 tn1 tn2 tn3 b t) rfl rfl trivial (St.ord [1,4,7,5,0,8,2,3,6,9] rfl rfl (next (kL [k 0,k 1,k 2,k 3,_]) _ _ _ _ _ _ _ _ (Nat.le_add_right _ _) ))
theorem law6_4 (H:s6_4Run T prog)(HX:lexerRun T prog)(hlen:(bodyOf (T w.params) 136).length=11)(hr:Room 116 A)(fr cc cn cl:Addr)(k:Nat->Tok)(sa:Addr)(so:Obj)(tc:Tok)(la:Addr)(el:Nat)(c0 c1 c2:Int)(t0 t1 t2:Tok)(y0 y1 y2 y3:Nat)(na:Addr)(en:Nat)(tn0 tn1 tn2 tn3:Tok)(ab:Addr)(eb:Nat)(z0 z1 z2 z3:Int)(tz0 tz1 tz2 tz3:Tok)(fi:Str)(tf:Tok)(aw:Addr)(ew:Nat)(tm0 tm1 tm2 tm3:Tok)(dd bb:Int)(W0 W1 W2 W3 W4 x:Str)(b t:Nat)(h0:∀t u,Builtin.«int.__floordiv__» ⟨[.int c2 t,.int 8 u],[]⟩=(Made.int dd).tree)(h1:∀t u,Builtin.«int.__mod__» ⟨[.int dd t,.int 2 u],[]⟩=(Made.int bb).tree)(hw0:WrdOk T prog w (⟨#[y0+1]⟩:Str) bb W0)(hw1:WrdOk T prog w (⟨#[y1+1]⟩:Str) bb W1)(hw2:WrdOk T prog w (⟨#[y2+1]⟩:Str) bb W2)(hw3:WrdOk T prog w (⟨#[y3+1]⟩:Str) bb W3)(hw4:WrdOk T prog w fi bb W4)(hg1:Builtin.Str.tooLong (([W0,W1,W2,W3,W4]:List Str).toArray.foldl (·+·.length+Y14.length) 0)=false)(hg2:Builtin.Str.glued Y14 [W0,W1,W2,W3,W4]=x)(hg3:x.length<=sizeLine)(next:∀(tb:Array Value)(X:Lx)(S:Sm)(tx tl tp:Tok)(ea ep:Nat)(b' t':Nat),t<=t'->St T prog w A Q E s0 fr cc cn cl 7 ([(fr,frO #[ent w.params Y48 (k 0) (.ref sa),ent w.params Y49 (k 1) (.int 4 tc),ent w.params Y32 (k 2) (.ref ab),ent w.params Y51 (k 3) (.str fi tf),ent w.params Y52 (k 4) (.ref aw)] 5),(cl,ceO (some (.ref X.i))),(aw,liO #[.str ⟨#[y0+1]⟩ tm0,.str ⟨#[y1+1]⟩ tm1,.str ⟨#[y2+1]⟩ tm2,.str ⟨#[y3+1]⟩ tm3,.str fi tf] ew),(X.i,X.iO),(X.d,X.dO w.params (.int 1 tl)),(X.s,S.sO),(S.sd,S.dO w.params),(S.rf,S.fO (T w.params)),(S.rc,S.cO),(S.ct,Sm.tO x tx),(S.ca,S.aO),(S.al,liO #[.int 0 tp] ea),(X.p,liO #[] ep),(cn,ceO (some (.ref na))),(na,liO #[.str ⟨#[y0+1]⟩ tn0,.str ⟨#[y1+1]⟩ tn1,.str ⟨#[y2+1]⟩ tn2,.str ⟨#[y3+1]⟩ tn3] en),(ab,liO #[.int z0 tz0,.int z1 tz1,.int z2 tz2,.int z3 tz3] eb),(sa,so),(86,tabO tb)]) b' t'):St T prog w A Q E s0 fr cc cn cl 6 ([(fr,frO #[ent w.params Y48 (k 0) (.ref sa),ent w.params Y49 (k 1) (.int 4 tc),ent w.params Y32 (k 2) (.ref ab),ent w.params Y51 (k 3) (.str fi tf),ent w.params Y52 (k 4) (.ref aw)] 5),(cc,ceO (some (.ref la))),(cl,ceO none),(la,liO #[.int c0 t0,.int c1 t1,.int c2 t2] el),(aw,liO #[.str ⟨#[y0+1]⟩ tm0,.str ⟨#[y1+1]⟩ tm1,.str ⟨#[y2+1]⟩ tm2,.str ⟨#[y3+1]⟩ tm3,.str fi tf] ew),(86,tabO #[]),(cn,ceO (some (.ref na))),(na,liO #[.str ⟨#[y0+1]⟩ tn0,.str ⟨#[y1+1]⟩ tn1,.str ⟨#[y2+1]⟩ tn2,.str ⟨#[y3+1]⟩ tn3] en),(ab,liO #[.int z0 tz0,.int z1 tz1,.int z2 tz2,.int z3 tz3] eb),(sa,so)]) b t:=by
  refine cps fun Gp kp=>?_
  obtain ⟨AW0,DW0,TW0,hv0⟩:=hw0
  obtain ⟨AW1,DW1,TW1,hv1⟩:=hw1
  obtain ⟨AW2,DW2,TW2,hv2⟩:=hw2
  obtain ⟨AW3,DW3,TW3,hv3⟩:=hw3
  obtain ⟨AW4,DW4,TW4,hv4⟩:=hw4
  refine kp ?_
  exact St.oj hlen hr [0,1,2,3,4,5,6,7,8,9] (H fr cc cn cl k sa ab tc la el c0 c1 c2 t0 t1 t2 aw ew fi tf y0 y1 y2 y3 tm0 tm1 tm2 tm3 dd bb W0 W1 W2 W3 W4 x AW0 DW0 AW1 DW1 AW2 DW2 AW3 DW3 AW4 DW4 TW0 TW1 TW2 TW3 TW4 b t) rfl rfl ⟨cFdiv_ok h0,cMod_ok h1,(fun b' t' c l _ _=>hv0 (aT c 0) (aT c 1) b' t'),cFdiv_ok h0,cMod_ok h1,(fun b' t' c l _ _=>hv1 (aT c 0) (aT c 1) b' t'),cFdiv_ok h0,cMod_ok h1,(fun b' t' c l _ _=>hv2 (aT c 0) (aT c 1) b' t'),cFdiv_ok h0,cMod_ok h1,(fun b' t' c l _ _=>hv3 (aT c 0) (aT c 1) b' t'),cFdiv_ok h0,cMod_ok h1,(fun b' t' c l _ _=>hv4 (aT c 0) (aT c 1) b' t'),cJoinE_ok (by intro h;cases h) hg1 (hg2▸hg3) hg2,(fun b' t' c l _ _=>lexer_ok HX x (aT c 0) b' t'),trivial⟩ (St.ord [10,12,14,0,1,2,3,4,5,6,7,8,9,16,17,18,19,15] rfl rfl (next _ (lxOf _ _) (smOf (T w.params) _ _) _ _ _ _ _ _ _ (Nat.le_add_right _ _) ))
theorem law7_4 (H1:e1_4Run T prog)(HR:e1rRun T prog)(H2:e2_4Run T prog)(IS:IfS (lawN (T w.params) 7))(hlen:(bodyOf (T w.params) 136).length=11)(hr:Room 116 A)(fr cc cn cl:Addr)(k:Nat->Tok)(sa:Addr)(so:Obj)(tc:Tok)(tb:Array Value)(y0 y1 y2 y3:Nat)(na:Addr)(en:Nat)(tn0 tn1 tn2 tn3:Tok)(ab:Addr)(eb:Nat)(z0 z1 z2 z3:Int)(tz0 tz1 tz2 tz3:Tok)(fi:Str)(tf:Tok)(aw:Addr)(ew:Nat)(tm0 tm1 tm2 tm3:Tok)(X:Lx)(S:Sm)(x:Str)(tx:Tok)(l:Int)(tl:Tok)(p:Int)(tp:Tok)(ea ep:Nat)(p0 p1 p2 p3 p4 l0 l1 l2 l3 l4:Int)(b t:Nat)(hg0:GtOk T prog w X S x tx ea ep l l0 p p0 (⟨#[y0+1]⟩:Str))(hg1:GtOk T prog w X S x tx ea ep l0 l1 p0 p1 (⟨#[y1+1]⟩:Str))(hg2:GtOk T prog w X S x tx ea ep l1 l2 p1 p2 (⟨#[y2+1]⟩:Str))(hg3:GtOk T prog w X S x tx ea ep l2 l3 p2 p3 (⟨#[y3+1]⟩:Str))(hg4:GtOk T prog w X S x tx ea ep l3 l4 p3 p4 fi)(hl:((l4:Int) != 5)=false)(next:∀(tl tp:Tok)(b' t':Nat),t<=t'->St T prog w A Q E s0 fr cc cn cl 8 ([(fr,frO #[ent w.params Y48 (k 0) (.ref sa),ent w.params Y49 (k 1) (.int 4 tc),ent w.params Y32 (k 2) (.ref ab),ent w.params Y51 (k 3) (.str fi tf),ent w.params Y52 (k 4) (.ref aw)] 5),(cl,ceO (some (.ref X.i))),(X.i,X.iO),(X.d,X.dO w.params (.int l4 tl)),(X.p,liO #[] ep),(cn,ceO (some (.ref na))),(na,liO #[.str ⟨#[y0+1]⟩ tn0,.str ⟨#[y1+1]⟩ tn1,.str ⟨#[y2+1]⟩ tn2,.str ⟨#[y3+1]⟩ tn3] en),(ab,liO #[.int z0 tz0,.int z1 tz1,.int z2 tz2,.int z3 tz3] eb),(X.s,S.sO),(S.sd,S.dO w.params),(S.rf,S.fO (T w.params)),(S.rc,S.cO),(S.ct,Sm.tO x tx),(S.ca,S.aO),(S.al,liO #[.int p4 tp] ea),(sa,so),(86,tabO tb)]) b' t'):St T prog w A Q E s0 fr cc cn cl 7 ([(fr,frO #[ent w.params Y48 (k 0) (.ref sa),ent w.params Y49 (k 1) (.int 4 tc),ent w.params Y32 (k 2) (.ref ab),ent w.params Y51 (k 3) (.str fi tf),ent w.params Y52 (k 4) (.ref aw)] 5),(cl,ceO (some (.ref X.i))),(aw,liO #[.str ⟨#[y0+1]⟩ tm0,.str ⟨#[y1+1]⟩ tm1,.str ⟨#[y2+1]⟩ tm2,.str ⟨#[y3+1]⟩ tm3,.str fi tf] ew),(X.i,X.iO),(X.d,X.dO w.params (.int l tl)),(X.s,S.sO),(S.sd,S.dO w.params),(S.rf,S.fO (T w.params)),(S.rc,S.cO),(S.ct,Sm.tO x tx),(S.ca,S.aO),(S.al,liO #[.int p tp] ea),(X.p,liO #[] ep),(cn,ceO (some (.ref na))),(na,liO #[.str ⟨#[y0+1]⟩ tn0,.str ⟨#[y1+1]⟩ tn1,.str ⟨#[y2+1]⟩ tn2,.str ⟨#[y3+1]⟩ tn3] en),(ab,liO #[.int z0 tz0,.int z1 tz1,.int z2 tz2,.int z3 tz3] eb),(sa,so),(86,tabO tb)]) b t:=by
  intro s G I
  refine cps fun Gp kp=>?_
  refine GtOk.fn hg0 (.int l tl) tp ⟨_,rfl⟩ fun LN0 TP0 TG0 AG0 DG0 hN0 hG0=>?_
  let a0:Nat:=3
  let d0:Nat:=1
  let B0:Nat:=b+a0
  let T0:Nat:=t+d0
  refine GtOk.fn hg1 (LN0 B0 T0) (TP0 B0 T0) (hN0 _ _) fun LN1 TP1 TG1 AG1 DG1 hN1 hG1=>?_
  let a1:Nat:=(a0+AG0 B0 T0)+0
  let d1:Nat:=(d0+DG0 B0 T0)+1
  let B1:Nat:=b+a1
  let T1:Nat:=t+d1
  refine GtOk.fn hg2 (LN1 B1 T1) (TP1 B1 T1) (hN1 _ _) fun LN2 TP2 TG2 AG2 DG2 hN2 hG2=>?_
  let a2:Nat:=(a1+AG1 B1 T1)+0
  let d2:Nat:=(d1+DG1 B1 T1)+1
  let B2:Nat:=b+a2
  let T2:Nat:=t+d2
  refine GtOk.fn hg3 (LN2 B2 T2) (TP2 B2 T2) (hN2 _ _) fun LN3 TP3 TG3 AG3 DG3 hN3 hG3=>?_
  let a3:Nat:=(a2+AG2 B2 T2)+0
  let d3:Nat:=(d2+DG2 B2 T2)+1
  let B3:Nat:=b+a3
  let T3:Nat:=t+d3
  refine GtOk.fn hg4 (LN3 B3 T3) (TP3 B3 T3) (hN3 _ _) fun LN4 TP4 TG4 AG4 DG4 hN4 hG4=>?_
  refine kp ?_
  let a4:Nat:=(a3+AG3 B3 T3)+0
  let d4:Nat:=(d3+DG3 B3 T3)+1
  let B4:Nat:=b+a4
  let T4:Nat:=t+d4
  obtain ⟨tz,hz⟩:=hN4 B4 T4
  refine nth_exec hlen (by decide) (P:=fun f s'=>f=.next/\wpAny (model prog w) (A.under (lawC (T w.params) fr cc cn cl)) (execs ((bodyOf (T w.params) 136).drop 8) (lawE (T w.params) fr cc cn cl)) Q E s') (if_step IS ?_) (fun f s' h h2=>absurd h.1 h2) (fun s' h=>h.2)
  refine law_eval hr (H1 fr cc cn cl k sa ab tc aw ew fi tf y0 y1 y2 y3 tm0 tm1 tm2 tm3 X S x tx (.int l tl) p tp ea ep p0 p1 p2 p3 p4 LN0 LN1 LN2 LN3 LN4 TP0 TG0 AG0 DG0 TP1 TG1 AG1 DG1 TP2 TG2 AG2 DG2 TP3 TG3 AG3 DG3 TP4 TG4 AG4 DG4 b t) I rfl ⟨(fun b' t' c l _ _=>hG0 b' t'),(fun b' t' c l _ _=>hG1 b' t'),(fun b' t' c l _ _=>hG2 b' t'),(fun b' t' c l _ _=>hG3 b' t'),(fun b' t' c l _ _=>hG4 b' t'),trivial⟩ (eT_eq _ _) rfl (fun s1 I1 a ha=>?_)
  injection ha with ha;injection ha with ha;subst ha
  have I2:=LI.part (l:=[(fr,frO #[ent w.params Y48 (k 0) (.ref sa),ent w.params Y49 (k 1) (.int 4 tc),ent w.params Y32 (k 2) (.ref ab),ent w.params Y51 (k 3) (.str fi tf),ent w.params Y52 (k 4) (.ref aw)] 5),(b+1,liO #[.str (⟨#[y0+1]⟩:Str) (TG0 B0 T0),.str (⟨#[y1+1]⟩:Str) (TG1 B1 T1),.str (⟨#[y2+1]⟩:Str) (TG2 B2 T2),.str (⟨#[y3+1]⟩:Str) (TG3 B3 T3),.str fi (TG4 B4 T4)] 5),(cl,ceO (some (.ref X.i))),(aw,liO #[.str ⟨#[y0+1]⟩ tm0,.str ⟨#[y1+1]⟩ tm1,.str ⟨#[y2+1]⟩ tm2,.str ⟨#[y3+1]⟩ tm3,.str fi tf] ew),(X.i,X.iO),(X.d,X.dO w.params (LN4 B4 T4)),(X.s,S.sO),(S.sd,S.dO w.params),(S.rf,S.fO (T w.params)),(S.rc,S.cO),(S.ct,Sm.tO x tx),(S.ca,S.aO),(S.al,liO #[.int p4 (TP4 B4 T4)] ea),(X.p,liO #[] ep),(cn,ceO (some (.ref na))),(na,liO #[.str ⟨#[y0+1]⟩ tn0,.str ⟨#[y1+1]⟩ tn1,.str ⟨#[y2+1]⟩ tn2,.str ⟨#[y3+1]⟩ tn3] en),(ab,liO #[.int z0 tz0,.int z1 tz1,.int z2 tz2,.int z3 tz3] eb),(sa,so),(86,tabO tb)]) I1 [1,0,2,3,4,5,6,7,8,9,10,11,12,13,14,15,16,17,18] rfl rfl
  rw [hz] at I2
  clear I1 I
  refine law_eval hr (HR 4 fr cc cn cl k sa ab aw tc fi tf _ _) I2 rfl trivial (eT_eq _ _) rfl (fun s2 I3 a ha=>?_)
  injection ha with ha;injection ha with ha;subst ha
  refine SeqAt.RcNeAt.lists (e:=fun _=>true) (IsList.li (I3.i.has _ (List.mem_cons_of_mem _ List.mem_cons_self))) (IsList.li (I3.i.has _ (List.mem_cons_of_mem _ (List.mem_cons_of_mem _ (List.mem_cons_of_mem _ List.mem_cons_self))))) rfl (Nat.lt_of_succ_lt (roomUnits (n:=105) hr)) (fun j j1 j2=>?_) prog w E _ ?_
  · match j,j1 with
    | 0,_=>exact EqAt.str rfl
    | 1,_=>exact EqAt.str rfl
    | 2,_=>exact EqAt.str rfl
    | 3,_=>exact EqAt.str rfl
    | 4,_=>exact EqAt.str rfl
  refine wpAny_truthy_bool ⟨rfl,?_⟩
  have I4:=I3.part [0,2,3,4,5,1,6,7,8,9,10,11,12,13,14,15,16,17,18] rfl rfl
  refine law_eval hr (H2 fr cc cn cl k sa ab tc aw ew fi tf y0 y1 y2 y3 tm0 tm1 tm2 tm3 X l4 tz _ _) I4 rfl ⟨cIne_ok hl,trivial⟩ (bT_eq _ _) rfl (fun s3 I5 a ha=>?_)
  injection ha with ha;injection ha with ha;injection ha with ha;subst ha
  exact ⟨rfl,rfl,next _ _ _ _ (Nat.le_trans (Nat.le_add_right _ _) (Nat.le_trans (Nat.le_add_right _ _) (Nat.le_add_right _ _))) _ _ (I5.part [0,1,3,4,13,14,15,16,6,7,8,9,10,11,12,17,18] rfl rfl)⟩
theorem law8_4 (H:s8_4Run T prog)(HP:push0Run T prog)(hlen:(bodyOf (T w.params) 136).length=11)(hr:Room 116 A)(fr cc cn cl:Addr)(k:Nat->Tok)(sa:Addr)(so:Obj)(tc:Tok)(tb:Array Value)(na:Addr)(en:Nat)(tn0 tn1 tn2 tn3:Tok)(ab:Addr)(eb:Nat)(z0 z1 z2 z3:Int)(tz0 tz1 tz2 tz3:Tok)(y0 y1 y2 y3:Nat)(fi:Str)(tf:Tok)(aw:Addr)(X:Lx)(S:Sm)(x:Str)(tx:Tok)(l:Int)(tl:Tok)(p:Int)(tp:Tok)(ea ep:Nat)(b t:Nat)(h1:fi.length≠0)(h2:(Y36++fi).length<=sizeLine)(next:∀(tu:Tok)(ep:Nat)(b' t':Nat),t<=t'->St T prog w A Q E s0 fr cc cn cl 9 ([(fr,frO #[ent w.params Y48 (k 0) (.ref sa),ent w.params Y49 (k 1) (.int 4 tc),ent w.params Y32 (k 2) (.ref ab),ent w.params Y51 (k 3) (.str fi tf),ent w.params Y52 (k 4) (.ref aw)] 5),(cl,ceO (some (.ref X.i))),(cn,ceO (some (.ref na))),(X.i,X.iO),(X.d,X.dO w.params (.int l tl)),(X.p,liO #[.str (Y36++fi) tu] ep),(ab,liO #[.int z0 tz0,.int z1 tz1,.int z2 tz2,.int z3 tz3] eb),(na,liO #[.str ⟨#[y0+1]⟩ tn0,.str ⟨#[y1+1]⟩ tn1,.str ⟨#[y2+1]⟩ tn2,.str ⟨#[y3+1]⟩ tn3] en),(X.s,S.sO),(S.sd,S.dO w.params),(S.rf,S.fO (T w.params)),(S.rc,S.cO),(S.ct,Sm.tO x tx),(S.ca,S.aO),(S.al,liO #[.int p tp] ea),(sa,so),(86,tabO tb)]) b' t'):St T prog w A Q E s0 fr cc cn cl 8 ([(fr,frO #[ent w.params Y48 (k 0) (.ref sa),ent w.params Y49 (k 1) (.int 4 tc),ent w.params Y32 (k 2) (.ref ab),ent w.params Y51 (k 3) (.str fi tf),ent w.params Y52 (k 4) (.ref aw)] 5),(cl,ceO (some (.ref X.i))),(X.i,X.iO),(X.d,X.dO w.params (.int l tl)),(X.p,liO #[] ep),(cn,ceO (some (.ref na))),(na,liO #[.str ⟨#[y0+1]⟩ tn0,.str ⟨#[y1+1]⟩ tn1,.str ⟨#[y2+1]⟩ tn2,.str ⟨#[y3+1]⟩ tn3] en),(ab,liO #[.int z0 tz0,.int z1 tz1,.int z2 tz2,.int z3 tz3] eb),(X.s,S.sO),(S.sd,S.dO w.params),(S.rf,S.fO (T w.params)),(S.rc,S.cO),(S.ct,Sm.tO x tx),(S.ca,S.aO),(S.al,liO #[.int p tp] ea),(sa,so),(86,tabO tb)]) b t:=by
  exact St.oj hlen hr [0,1,2,3,4,5,6,7,8,9,10,11,12,13,14,15,16] (H fr cc cn cl k sa ab aw tc fi tf X (.int l tl) ep b t) rfl rfl ⟨cAdd_ok (by intro h;cases h) h1 h2,(fun b' t' c l' _ _=>push0_ok HP X (.int l tl) ep (Y36++fi) (aT c 1) b' t'),trivial⟩ (St.ord [0,1,5,2,3,4,7,6,8,9,10,11,12,13,14,15,16] rfl rfl (next _ _ _ _ (Nat.le_add_right _ _) ))
theorem law9_4 (H:s9_4Run T prog)(hlen:(bodyOf (T w.params) 136).length=11)(hr:Room 116 A)(fr cc cn cl:Addr)(k:Nat->Tok)(sa:Addr)(so:Obj)(tc:Tok)(tb:Array Value)(na:Addr)(en:Nat)(tn0 tn1 tn2 tn3:Tok)(ab:Addr)(eb:Nat)(z0 z1 z2 z3:Int)(tz0 tz1 tz2 tz3:Tok)(y0 y1 y2 y3:Nat)(fi:Str)(tf:Tok)(aw:Addr)(X:Lx)(S:Sm)(x:Str)(tx:Tok)(l:Int)(tl:Tok)(p:Int)(tp:Tok)(ea ep:Nat)(pu:Str)(tu:Tok)(GN:Nat)(VL:List (Str×Int))(b t:Nat)(hk:∀b' t':Nat,t<=t'->∃(a:Addr)(f:Nat->Tp)(ex e da dt:Nat),(List.range 16).map (fun i=>((f i).x,(f i).v))=VL/\SpOk (T w.params) prog w (wkSp X ab na (liO #[.int z0 tz0,.int z1 tz1,.int z2 tz2,.int z3 tz3] eb) (liO #[.str ⟨#[y0+1]⟩ tn0,.str ⟨#[y1+1]⟩ tn1,.str ⟨#[y2+1]⟩ tn2,.str ⟨#[y3+1]⟩ tn3] en) (X.dO w.params (.int l tl)) (X.dO w.params (.int l tl)) (liO #[.str pu tu] ep) (liO #[] e) a 16 f ex da dt GN) b' t')
    (next:∀(at_:Addr)(f:Nat->Tp)(et ep:Nat)(k:Nat->Tok)(b' t':Nat),t<=t'->(List.range 16).map (fun i=>((f i).x,(f i).v))=VL->St T prog w A Q E s0 fr cc cn cl 10 (([(fr,frO #[ent w.params Y48 (k 0) (.ref sa),ent w.params Y49 (k 1) (.int 4 tc),ent w.params Y32 (k 2) (.ref ab),ent w.params Y51 (k 3) (.str fi tf),ent w.params Y52 (k 4) (.ref aw),ent w.params Y39 (k 5) (.ref at_)] 6),(cn,ceO (some (.ref na))),(na,liO #[.str ⟨#[y0+1]⟩ tn0,.str ⟨#[y1+1]⟩ tn1,.str ⟨#[y2+1]⟩ tn2,.str ⟨#[y3+1]⟩ tn3] en),(at_,liO (tpRefs 16 f) et)]++tpLed 16 f)++[(cl,ceO (some (.ref X.i))),(X.i,X.iO),(X.d,X.dO w.params (.int l tl)),(X.s,S.sO),(S.sd,S.dO w.params),(S.rf,S.fO (T w.params)),(S.rc,S.cO),(S.ct,Sm.tO x tx),(S.ca,S.aO),(S.al,liO #[.int p tp] ea),(X.p,liO #[] ep),(sa,so),(86,tabO tb)]) b' t'):St T prog w A Q E s0 fr cc cn cl 9 ([(fr,frO #[ent w.params Y48 (k 0) (.ref sa),ent w.params Y49 (k 1) (.int 4 tc),ent w.params Y32 (k 2) (.ref ab),ent w.params Y51 (k 3) (.str fi tf),ent w.params Y52 (k 4) (.ref aw)] 5),(cl,ceO (some (.ref X.i))),(cn,ceO (some (.ref na))),(X.i,X.iO),(X.d,X.dO w.params (.int l tl)),(X.p,liO #[.str pu tu] ep),(ab,liO #[.int z0 tz0,.int z1 tz1,.int z2 tz2,.int z3 tz3] eb),(na,liO #[.str ⟨#[y0+1]⟩ tn0,.str ⟨#[y1+1]⟩ tn1,.str ⟨#[y2+1]⟩ tn2,.str ⟨#[y3+1]⟩ tn3] en),(X.s,S.sO),(S.sd,S.dO w.params),(S.rf,S.fO (T w.params)),(S.rc,S.cO),(S.ct,Sm.tO x tx),(S.ca,S.aO),(S.al,liO #[.int p tp] ea),(sa,so),(86,tabO tb)]) b t:=by
  intro s G I
  obtain ⟨F,hF⟩:=choiceLe wl0 (P:=fun b' t' R=>(List.range 16).map (fun i=>((R.f i).x,(R.f i).v))=VL/\SpOk (T w.params) prog w (wkSp X ab na (liO #[.int z0 tz0,.int z1 tz1,.int z2 tz2,.int z3 tz3] eb) (liO #[.str ⟨#[y0+1]⟩ tn0,.str ⟨#[y1+1]⟩ tn1,.str ⟨#[y2+1]⟩ tn2,.str ⟨#[y3+1]⟩ tn3] en) (X.dO w.params (.int l tl)) (X.dO w.params (.int l tl)) (liO #[.str pu tu] ep) (liO #[] R.e) R.a 16 R.f R.ex R.da R.dt GN) b' t') (b:=b) (t:=t) (fun b' t' h1 h2=>by
    obtain ⟨a,f,ex,e,da,dt,g1,g2⟩:=hk b' t' h2
    exact ⟨⟨a,f,ex,e,da,dt⟩,g1,g2⟩)
  refine (St.job hlen hr (H fr cc cn cl k sa ab aw na tc fi tf X (.int l tl) #[.int z0 tz0,.int z1 tz1,.int z2 tz2,.int z3 tz3] #[.str ⟨#[y0+1]⟩ tn0,.str ⟨#[y1+1]⟩ tn1,.str ⟨#[y2+1]⟩ tn2,.str ⟨#[y3+1]⟩ tn3] eb en ep pu tu GN (fun b' t'=>(F b' t').a) (fun b' t'=>(F b' t').ex) (fun b' t'=>(F b' t').da) (fun b' t'=>(F b' t').dt) (fun b' t'=>liO #[] (F b' t').e) (fun b' t'=>(F b' t').f) b t) rfl ⟨(fun b' t' c l' h1 h2=>(hF b' t' h1 h2).2),trivial⟩ ?_) s G I
  refine St.ord (l:=([(fr,frO #[ent w.params Y48 ((kL [k 0,k 1,k 2,k 3,k 4,(t+((0+(F (b+0) (t+0)).dt)+0))]) 0) (.ref sa),ent w.params Y49 ((kL [k 0,k 1,k 2,k 3,k 4,(t+((0+(F (b+0) (t+0)).dt)+0))]) 1) (.int 4 tc),ent w.params Y32 ((kL [k 0,k 1,k 2,k 3,k 4,(t+((0+(F (b+0) (t+0)).dt)+0))]) 2) (.ref ab),ent w.params Y51 ((kL [k 0,k 1,k 2,k 3,k 4,(t+((0+(F (b+0) (t+0)).dt)+0))]) 3) (.str fi tf),ent w.params Y52 ((kL [k 0,k 1,k 2,k 3,k 4,(t+((0+(F (b+0) (t+0)).dt)+0))]) 4) (.ref aw),ent w.params Y39 ((kL [k 0,k 1,k 2,k 3,k 4,(t+((0+(F (b+0) (t+0)).dt)+0))]) 5) (.ref (F (b+0) (t+0)).a)] 6),(cn,ceO (some (.ref na))),(na,liO #[.str ⟨#[y0+1]⟩ tn0,.str ⟨#[y1+1]⟩ tn1,.str ⟨#[y2+1]⟩ tn2,.str ⟨#[y3+1]⟩ tn3] en),((F (b+0) (t+0)).a,liO (tpRefs 16 (F (b+0) (t+0)).f) (F (b+0) (t+0)).ex)]++tpLed 16 (F (b+0) (t+0)).f)++[(cl,ceO (some (.ref X.i))),(X.i,X.iO),(X.d,X.dO w.params (.int l tl)),(X.s,S.sO),(S.sd,S.dO w.params),(S.rf,S.fO (T w.params)),(S.rc,S.cO),(S.ct,Sm.tO x tx),(S.ca,S.aO),(S.al,liO #[.int p tp] ea),(X.p,liO #[] (F (b+0) (t+0)).e),(sa,so),(86,tabO tb)]) [17,19,24,0,1,2,3,4,5,6,7,8,9,10,11,12,13,14,15,16,18,20,21,25,26,27,28,29,30,31,22,32,33] rfl rfl ?_
  exact next _ _ _ _ (kL [k 0,k 1,k 2,k 3,k 4,_]) _ _ (Nat.le_add_right _ _) (hF b t (Nat.le_refl _) (Nat.le_refl _)).1
theorem law10_4 (H3:e3_4Run T prog)(H4:e4_4Run T prog)(H5:e5_4Run T prog)(RS:ReS (lawN (T w.params) 10))(hlen:(bodyOf (T w.params) 136).length=11)(hr:Room 116 A)(fr cc cn cl:Addr)(k:Nat->Tok)(sa:Addr)(so:Obj)(tc:Tok)(tb:Array Value)(na:Addr)(en:Nat)(tn0 tn1 tn2 tn3:Tok)(ab:Addr)(eb:Nat)(z0 z1 z2 z3:Int)(tz0 tz1 tz2 tz3:Tok)(y0 y1 y2 y3:Nat)(fi:Str)(tf:Tok)(aw:Addr)(X:Lx)(S:Sm)(x:Str)(tx:Tok)(l:Int)(tl:Tok)(p:Int)(tp:Tok)(ea ep:Nat)(at_:Addr)(f:Nat->Tp)(et:Nat)(v0:Int)(VL:List (Str×Int))(b t:Nat)(hV:(List.range 16).map (fun i=>((f i).x,(f i).v))=VL)(hv0:(f 0).v=v0)(hy:∀(ts:Tok)(b t:Nat),∃(a:Addr)(f:Nat->Tp)(ex da dt:Nat),(List.range 16).map (fun i=>((f i).x,(f i).v))=VL/\SpOk (T w.params) prog w (wySp na (liO #[.str ⟨#[y0+1]⟩ tn0,.str ⟨#[y1+1]⟩ tn1,.str ⟨#[y2+1]⟩ tn2,.str ⟨#[y3+1]⟩ tn3] en) v0 ts a 16 f ex da dt) b t)(hg:GzOk T prog w X S x tx ea ep l p)(hQ:∀s tb,KeepL s0 s->s.heap.get? sa=some so->s.heap.get? 86=some (tabO tb)->Q (.ret (.bool true)) s):St T prog w A Q E s0 fr cc cn cl 10 (([(fr,frO #[ent w.params Y48 (k 0) (.ref sa),ent w.params Y49 (k 1) (.int 4 tc),ent w.params Y32 (k 2) (.ref ab),ent w.params Y51 (k 3) (.str fi tf),ent w.params Y52 (k 4) (.ref aw),ent w.params Y39 (k 5) (.ref at_)] 6),(cn,ceO (some (.ref na))),(na,liO #[.str ⟨#[y0+1]⟩ tn0,.str ⟨#[y1+1]⟩ tn1,.str ⟨#[y2+1]⟩ tn2,.str ⟨#[y3+1]⟩ tn3] en),(at_,liO (tpRefs 16 f) et)]++tpLed 16 f)++[(cl,ceO (some (.ref X.i))),(X.i,X.iO),(X.d,X.dO w.params (.int l tl)),(X.s,S.sO),(S.sd,S.dO w.params),(S.rf,S.fO (T w.params)),(S.rc,S.cO),(S.ct,Sm.tO x tx),(S.ca,S.aO),(S.al,liO #[.int p tp] ea),(X.p,liO #[] ep),(sa,so),(86,tabO tb)]) b t:=by
  intro s G I
  refine cps fun Gp kp=>?_
  obtain ⟨F,hF⟩:=choiceLe wl0 (P:=fun b' t' R=>(List.range 16).map (fun i=>((R.f i).x,(R.f i).v))=VL/\SpOk (T w.params) prog w (wySp na (liO #[.str ⟨#[y0+1]⟩ tn0,.str ⟨#[y1+1]⟩ tn1,.str ⟨#[y2+1]⟩ tn2,.str ⟨#[y3+1]⟩ tn3] en) (f 0).v (f 0).tv R.a 16 R.f R.ex R.da R.dt) b' t') (b:=b) (t:=t) (fun b' t' h1 h2=>by
    obtain ⟨a,f',ex,da,dt,g1,g2⟩:=hy (f 0).tv b' t'
    exact ⟨⟨a,f',ex,0,da,dt⟩,g1,by rw [hv0];exact g2⟩)
  refine GzOk.fn hg tl tp fun TP TG AG DG hG=>?_
  refine kp ?_
  refine nth_exec hlen (by decide) (P:=fun f s'=>Q f s'/\f≠.next) (ret_step RS ?_) (fun f s' h h2=>h.1) (fun s' h=>absurd rfl h.2)
  refine law_eval hr (H3 fr cc cn cl k sa ab aw at_ tc fi tf b t) I rfl trivial (eT_eq _ _) rfl (fun s1 I1 a ha=>?_)
  injection ha with ha;injection ha with ha;subst ha
  refine law_eval hr (H4 fr cc cn cl k sa ab aw na at_ tc fi tf #[.str ⟨#[y0+1]⟩ tn0,.str ⟨#[y1+1]⟩ tn1,.str ⟨#[y2+1]⟩ tn2,.str ⟨#[y3+1]⟩ tn3] en et f (fun b' t'=>(F b' t').a) (fun b' t'=>(F b' t').ex) (fun b' t'=>(F b' t').da) (fun b' t'=>(F b' t').dt) (fun b' t'=>(F b' t').f) b t) I1 rfl ⟨(fun b' t' c l' h1 h2=>(hF b' t' h1 h2).2),trivial⟩ (eT_eq _ _) rfl (fun s2 I2 a ha=>?_)
  injection ha with ha;injection ha with ha;subst ha
  have hm:∀q∈tpLed 16 f,q∈[(fr,frO #[ent w.params Y48 (k 0) (.ref sa),ent w.params Y49 (k 1) (.int 4 tc),ent w.params Y32 (k 2) (.ref ab),ent w.params Y51 (k 3) (.str fi tf),ent w.params Y52 (k 4) (.ref aw),ent w.params Y39 (k 5) (.ref at_)] 6),(cn,ceO (some (.ref na))),(na,liO #[.str ⟨#[y0+1]⟩ tn0,.str ⟨#[y1+1]⟩ tn1,.str ⟨#[y2+1]⟩ tn2,.str ⟨#[y3+1]⟩ tn3] en),(at_,liO (tpRefs 16 f) et)]++tpLed 16 f:=fun q hq=>List.mem_append_right _ hq
  have nd:=I2.i.nd
  refine told_eq (f:=f) (f':=(F (b+0) (t+2)).f) (n:=16) (I2.i.has _ (List.mem_append_left _ (List.mem_cons_of_mem _ (List.mem_append_right _ (List.mem_append_left _ (List.mem_cons_of_mem _ (List.mem_cons_of_mem _ (List.mem_cons_of_mem _ List.mem_cons_self)))))))) (I2.i.has _ (List.mem_append_left _ List.mem_cons_self)) (fun q hq=>I2.i.has _ (List.mem_append_left _ (List.mem_cons_of_mem _ (List.mem_append_right _ (List.mem_append_right _ hq))))) (fun q hq=>I2.i.has _ (List.mem_append_left _ (List.mem_cons_of_mem _ (List.mem_append_left _ hq)))) ?_ (roomUnits (n:=105) hr) (fun j hj=>?_) ?_
  · intro p hp q hq e
    rw [List.map_append] at nd
    have nd2:=(List.nodup_cons.mp (List.nodup_append.mp nd).1).2
    rw [List.map_append] at nd2
    exact (List.nodup_append.mp nd2).2.2 _ (List.mem_map_of_mem hq) _ (List.mem_map_of_mem (hm _ hp)) e.symm
  · have e:=(hV.trans (hF (b+0) (t+2) (Nat.le_add_right _ _) (Nat.le_add_right _ _)).1.symm)
    have e2:=map_range_eq e j hj
    exact ⟨congrArg Prod.fst e2,congrArg Prod.snd e2⟩
  refine wpAny_truthy_bool ⟨rfl,?_⟩
  have I3:LI (T w.params) s0 s2 [(cl,ceO (some (.ref X.i))),(X.i,X.iO),(X.d,X.dO w.params (.int l tl)),(X.s,S.sO),(S.sd,S.dO w.params),(S.rf,S.fO (T w.params)),(S.rc,S.cO),(S.ct,Sm.tO x tx),(S.ca,S.aO),(S.al,liO #[.int p tp] ea),(X.p,liO #[] ep),(sa,so),(86,tabO tb)] _ _ _:=⟨I2.i.sub (fun q hq=>List.mem_append_right _ hq) (by rw [List.map_append] at nd;exact (List.nodup_append.mp nd).2.1),I2.k⟩
  refine law_eval hr (H5 fr cc cn cl k X S x tx (.int l tl) p tp ea ep TP TG AG DG _ _) I3 rfl ⟨(fun b' t' c l' h1 h2=>hG b' t'),trivial⟩ (eT_eq _ _) rfl (fun s3 I4 a ha=>?_)
  injection ha with ha;injection ha with ha;subst ha
  exact ⟨hQ _ tb I4.k (I4.i.has _ (List.mem_append_right _ List.mem_cons_self)) (I4.i.has _ (List.mem_append_right _ (List.mem_cons_of_mem _ List.mem_cons_self))),by intro h;cases h⟩
theorem law2_3 (H:s2_3Run T prog)(hlen:(bodyOf (T w.params) 136).length=11)(hr:Room 116 A)(fr cc cn cl:Addr)(k:Nat->Tok)(sa:Addr)(so:Obj)(tc:Tok)(la:Addr)(el:Nat)(c0 c1 c2:Int)(t0 t1 t2:Tok)(i0 i1 i2:Int)(y0 y1 y2:Nat)(b t:Nat)(h0:∀t u,Builtin.«int.__mod__» ⟨[.int (c2+0) t,.int 8 u],[]⟩=(Made.int i0).tree)(h1:(decide (i0 < -(2 ^ 63:Int))||decide (i0≥2 ^ 63))=false)(h2:(seqIndex? i0 Y50.length).bind (Y50.cps[·]?)=some (y0+1))(h3:∀t u,Builtin.«int.__mod__» ⟨[.int (c2+1) t,.int 8 u],[]⟩=(Made.int i1).tree)(h4:(decide (i1 < -(2 ^ 63:Int))||decide (i1≥2 ^ 63))=false)(h5:(seqIndex? i1 Y50.length).bind (Y50.cps[·]?)=some (y1+1))(h6:∀t u,Builtin.«int.__mod__» ⟨[.int (c2+2) t,.int 8 u],[]⟩=(Made.int i2).tree)(h7:(decide (i2 < -(2 ^ 63:Int))||decide (i2≥2 ^ 63))=false)(h8:(seqIndex? i2 Y50.length).bind (Y50.cps[·]?)=some (y2+1))(next:∀(na:Addr)(en:Nat)(tn0 tn1 tn2:Tok)(b' t':Nat),t<=t'->0<tn0->tn0<t'->0<tn1->tn1<t'->0<tn2->tn2<t'->St T prog w A Q E s0 fr cc cn cl 3 ([(fr,frO #[ent w.params Y48 (k 0) (.ref sa),ent w.params Y49 (k 1) (.int 3 tc)] 2),(cc,ceO (some (.ref la))),(la,liO #[.int c0 t0,.int c1 t1,.int c2 t2] el),(cn,ceO (some (.ref na))),(na,liO #[.str ⟨#[y0+1]⟩ tn0,.str ⟨#[y1+1]⟩ tn1,.str ⟨#[y2+1]⟩ tn2] en),(cl,ceO none),(86,tabO #[]),(sa,so)]) b' t'):St T prog w A Q E s0 fr cc cn cl 2 ([(fr,frO #[ent w.params Y48 (k 0) (.ref sa),ent w.params Y49 (k 1) (.int 3 tc)] 2),(cc,ceO (some (.ref la))),(cn,ceO none),(la,liO #[.int c0 t0,.int c1 t1,.int c2 t2] el),(cl,ceO none),(86,tabO #[]),(sa,so)]) b t:=by
  exact St.oj hlen hr [0,1,2,3,4,5,6] (H fr cc cn cl k sa tc la el c0 c1 c2 t0 t1 t2 i0 i1 i2 y0 y1 y2 b t) rfl rfl ⟨cMod_ok h0,cIdx_ok h1 h2,cMod_ok h3,cIdx_ok h4 h5,cMod_ok h6,cIdx_ok h7 h8,trivial⟩ (St.ord [1,2,4,3,0,5,6,7] rfl rfl (next _ _ _ _ _ _ _ (Nat.le_add_right _ _) (Nat.succ_pos _) (Nat.add_lt_add_left (Nat.le_of_ble_eq_true rfl) _) (Nat.succ_pos _) (Nat.add_lt_add_left (Nat.le_of_ble_eq_true rfl) _) (Nat.succ_pos _) (Nat.add_lt_add_left (Nat.le_of_ble_eq_true rfl) _)))
theorem law3_3 (H:s3_3Run T prog)(hlen:(bodyOf (T w.params) 136).length=11)(hr:Room 116 A)(fr cc cn cl:Addr)(k:Nat->Tok)(sa:Addr)(so:Obj)(tc:Tok)(la:Addr)(el:Nat)(c0 c1 c2:Int)(t0 t1 t2:Tok)(y0 y1 y2:Nat)(na:Addr)(en:Nat)(tn0 tn1 tn2:Tok)(d0 z0 d1 z1 d2 z2:Int)(b t:Nat)(h0:∀t u,Builtin.«int.__floordiv__» ⟨[.int c0 t,.int 1 u],[]⟩=(Made.int d0).tree)(h1:∀t u,Builtin.«int.__mod__» ⟨[.int d0 t,.int 2 u],[]⟩=(Made.int z0).tree)(h2:∀t u,Builtin.«int.__floordiv__» ⟨[.int c0 t,.int 2 u],[]⟩=(Made.int d1).tree)(h3:∀t u,Builtin.«int.__mod__» ⟨[.int d1 t,.int 2 u],[]⟩=(Made.int z1).tree)(h4:∀t u,Builtin.«int.__floordiv__» ⟨[.int c0 t,.int 4 u],[]⟩=(Made.int d2).tree)(h5:∀t u,Builtin.«int.__mod__» ⟨[.int d2 t,.int 2 u],[]⟩=(Made.int z2).tree)(next:∀(k:Nat->Tok)(ab:Addr)(eb:Nat)(tz0 tz1 tz2:Tok)(b' t':Nat),t<=t'->St T prog w A Q E s0 fr cc cn cl 4 ([(fr,frO #[ent w.params Y48 (k 0) (.ref sa),ent w.params Y49 (k 1) (.int 3 tc),ent w.params Y32 (k 2) (.ref ab)] 3),(cc,ceO (some (.ref la))),(cn,ceO (some (.ref na))),(la,liO #[.int c0 t0,.int c1 t1,.int c2 t2] el),(na,liO #[.str ⟨#[y0+1]⟩ tn0,.str ⟨#[y1+1]⟩ tn1,.str ⟨#[y2+1]⟩ tn2] en),(ab,liO #[.int z0 tz0,.int z1 tz1,.int z2 tz2] eb),(cl,ceO none),(86,tabO #[]),(sa,so)]) b' t'):St T prog w A Q E s0 fr cc cn cl 3 ([(fr,frO #[ent w.params Y48 (k 0) (.ref sa),ent w.params Y49 (k 1) (.int 3 tc)] 2),(cc,ceO (some (.ref la))),(la,liO #[.int c0 t0,.int c1 t1,.int c2 t2] el),(cn,ceO (some (.ref na))),(na,liO #[.str ⟨#[y0+1]⟩ tn0,.str ⟨#[y1+1]⟩ tn1,.str ⟨#[y2+1]⟩ tn2] en),(cl,ceO none),(86,tabO #[]),(sa,so)]) b t:=by
  exact St.oj hlen hr [0,1,2,3,4,5,6,7] (H fr cc cn cl k sa tc la el c0 c1 c2 t0 t1 t2 d0 z0 d1 z1 d2 z2 b t) rfl rfl ⟨cFdiv_ok h0,cMod_ok h1,cFdiv_ok h2,cMod_ok h3,cFdiv_ok h4,cMod_ok h5,trivial⟩ (St.ord [1,2,4,3,5,0,6,7,8] rfl rfl (next (kL [k 0,k 1,_]) _ _ _ _ _ _ _ (Nat.le_add_right _ _) ))
theorem law4_3 (H:s4_3Run T prog)(hlen:(bodyOf (T w.params) 136).length=11)(hr:Room 116 A)(fr cc cn cl:Addr)(k:Nat->Tok)(sa:Addr)(so:Obj)(tc:Tok)(la:Addr)(el:Nat)(c0 c1 c2:Int)(t0 t1 t2:Tok)(y0 y1 y2:Nat)(na:Addr)(en:Nat)(tn0 tn1 tn2:Tok)(ab:Addr)(eb:Nat)(z0 z1 z2:Int)(tz0 tz1 tz2:Tok)(d0 m0 d1 m1 d2 m2:Int)(fi:Str)(b t:Nat)(h0:∀t u,Builtin.«int.__floordiv__» ⟨[.int c1 t,.int 4 u],[]⟩=(Made.int d0).tree)(h1:∀t u,Builtin.«int.__mod__» ⟨[.int d0 t,.int 2 u],[]⟩=(Made.int m0).tree)(h2:∀t u,Builtin.«int.__floordiv__» ⟨[.int c1 t,.int 2 u],[]⟩=(Made.int d1).tree)(h3:∀t u,Builtin.«int.__mod__» ⟨[.int d1 t,.int 2 u],[]⟩=(Made.int m1).tree)(h4:∀t u,Builtin.«int.__floordiv__» ⟨[.int c1 t,.int 1 u],[]⟩=(Made.int d2).tree)(h5:∀t u,Builtin.«int.__mod__» ⟨[.int d2 t,.int 2 u],[]⟩=(Made.int m2).tree)(hm0:m0=0∨m0=1)(hm1:m1=0∨m1=1)(hm2:m2=0∨m2=1)(hg1:Builtin.Str.tooLong (([rgT m0 y2,rgT m1 y1,rgT m2 y0]:List Str).toArray.foldl (·+·.length+Y2.length) 0)=false)(hg2:Builtin.Str.glued Y2 [rgT m0 y2,rgT m1 y1,rgT m2 y0]=fi)(hg3:fi.length<=sizeLine)(next:∀(k:Nat->Tok)(tf:Tok)(b' t':Nat),t<=t'->St T prog w A Q E s0 fr cc cn cl 5 ([(fr,frO #[ent w.params Y48 (k 0) (.ref sa),ent w.params Y49 (k 1) (.int 3 tc),ent w.params Y32 (k 2) (.ref ab),ent w.params Y51 (k 3) (.str fi tf)] 4),(cn,ceO (some (.ref na))),(na,liO #[.str ⟨#[y0+1]⟩ tn0,.str ⟨#[y1+1]⟩ tn1,.str ⟨#[y2+1]⟩ tn2] en),(cc,ceO (some (.ref la))),(la,liO #[.int c0 t0,.int c1 t1,.int c2 t2] el),(ab,liO #[.int z0 tz0,.int z1 tz1,.int z2 tz2] eb),(cl,ceO none),(86,tabO #[]),(sa,so)]) b' t'):St T prog w A Q E s0 fr cc cn cl 4 ([(fr,frO #[ent w.params Y48 (k 0) (.ref sa),ent w.params Y49 (k 1) (.int 3 tc),ent w.params Y32 (k 2) (.ref ab)] 3),(cc,ceO (some (.ref la))),(cn,ceO (some (.ref na))),(la,liO #[.int c0 t0,.int c1 t1,.int c2 t2] el),(na,liO #[.str ⟨#[y0+1]⟩ tn0,.str ⟨#[y1+1]⟩ tn1,.str ⟨#[y2+1]⟩ tn2] en),(ab,liO #[.int z0 tz0,.int z1 tz1,.int z2 tz2] eb),(cl,ceO none),(86,tabO #[]),(sa,so)]) b t:=by
  refine cps fun Gp kp=>?_
  refine mulAdd (T:=T) (prog:=prog) (w:=w) m0 y2 hm0 fun DQ0 DF0 TQ0 TF0 hq0 hf0=>?_
  refine mulAdd (T:=T) (prog:=prog) (w:=w) m1 y1 hm1 fun DQ1 DF1 TQ1 TF1 hq1 hf1=>?_
  refine mulAdd (T:=T) (prog:=prog) (w:=w) m2 y0 hm2 fun DQ2 DF2 TQ2 TF2 hq2 hf2=>?_
  refine kp ?_
  exact St.oj hlen hr [0,1,2,3,4,5,6,7,8] (H fr cc cn cl k sa ab tc la el c0 c1 c2 t0 t1 t2 na en y0 y1 y2 tn0 tn1 tn2 d0 m0 d1 m1 d2 m2 (rqT m0) (rgT m0 y2) (rqT m1) (rgT m1 y1) (rqT m2) (rgT m2 y0) DQ0 DF0 DQ1 DF1 DQ2 DF2 TQ0 TF0 TQ1 TF1 TQ2 TF2 fi b t) rfl rfl ⟨cFdiv_ok h0,cMod_ok h1,(fun b' t' c l _ _=>hq0 b' t' (aT c 0) (aT c 1)),(fun b' t' c l _ _=>hf0 b' t' (aT c 0) (aT c 1)),cFdiv_ok h2,cMod_ok h3,(fun b' t' c l _ _=>hq1 b' t' (aT c 0) (aT c 1)),(fun b' t' c l _ _=>hf1 b' t' (aT c 0) (aT c 1)),cFdiv_ok h4,cMod_ok h5,(fun b' t' c l _ _=>hq2 b' t' (aT c 0) (aT c 1)),(fun b' t' c l _ _=>hf2 b' t' (aT c 0) (aT c 1)),cJoinE_ok (by intro h;cases h) hg1 (hg2▸hg3) hg2,trivial⟩ (St.ord [0,2,4,1,3,5,6,7,8] rfl rfl (next (kL [k 0,k 1,k 2,_]) _ _ _ (Nat.le_add_right _ _) ))
theorem law5_3 (H:s5_3Run T prog)(hlen:(bodyOf (T w.params) 136).length=11)(hr:Room 116 A)(fr cc cn cl:Addr)(k:Nat->Tok)(sa:Addr)(so:Obj)(tc:Tok)(la:Addr)(el:Nat)(c0 c1 c2:Int)(t0 t1 t2:Tok)(y0 y1 y2:Nat)(na:Addr)(en:Nat)(tn0 tn1 tn2:Tok)(ab:Addr)(eb:Nat)(z0 z1 z2:Int)(tz0 tz1 tz2:Tok)(fi:Str)(tf:Tok)(b t:Nat)(next:∀(k:Nat->Tok)(aw:Addr)(ew:Nat)(tm0 tm1 tm2:Tok)(b' t':Nat),t<=t'->St T prog w A Q E s0 fr cc cn cl 6 ([(fr,frO #[ent w.params Y48 (k 0) (.ref sa),ent w.params Y49 (k 1) (.int 3 tc),ent w.params Y32 (k 2) (.ref ab),ent w.params Y51 (k 3) (.str fi tf),ent w.params Y52 (k 4) (.ref aw)] 5),(cc,ceO (some (.ref la))),(cl,ceO none),(la,liO #[.int c0 t0,.int c1 t1,.int c2 t2] el),(aw,liO #[.str ⟨#[y0+1]⟩ tm0,.str ⟨#[y1+1]⟩ tm1,.str ⟨#[y2+1]⟩ tm2,.str fi tf] ew),(86,tabO #[]),(cn,ceO (some (.ref na))),(na,liO #[.str ⟨#[y0+1]⟩ tn0,.str ⟨#[y1+1]⟩ tn1,.str ⟨#[y2+1]⟩ tn2] en),(ab,liO #[.int z0 tz0,.int z1 tz1,.int z2 tz2] eb),(sa,so)]) b' t'):St T prog w A Q E s0 fr cc cn cl 5 ([(fr,frO #[ent w.params Y48 (k 0) (.ref sa),ent w.params Y49 (k 1) (.int 3 tc),ent w.params Y32 (k 2) (.ref ab),ent w.params Y51 (k 3) (.str fi tf)] 4),(cn,ceO (some (.ref na))),(na,liO #[.str ⟨#[y0+1]⟩ tn0,.str ⟨#[y1+1]⟩ tn1,.str ⟨#[y2+1]⟩ tn2] en),(cc,ceO (some (.ref la))),(la,liO #[.int c0 t0,.int c1 t1,.int c2 t2] el),(ab,liO #[.int z0 tz0,.int z1 tz1,.int z2 tz2] eb),(cl,ceO none),(86,tabO #[]),(sa,so)]) b t:=by
  exact St.oj hlen hr [0,1,2,3,4,5,6,7,8] (H fr cc cn cl k sa ab tc fi tf na en y0 y1 y2 tn0 tn1 tn2 b t) rfl rfl trivial (St.ord [1,4,7,5,0,8,2,3,6,9] rfl rfl (next (kL [k 0,k 1,k 2,k 3,_]) _ _ _ _ _ _ _ (Nat.le_add_right _ _) ))
theorem law6_3 (H:s6_3Run T prog)(HX:lexerRun T prog)(hlen:(bodyOf (T w.params) 136).length=11)(hr:Room 116 A)(fr cc cn cl:Addr)(k:Nat->Tok)(sa:Addr)(so:Obj)(tc:Tok)(la:Addr)(el:Nat)(c0 c1 c2:Int)(t0 t1 t2:Tok)(y0 y1 y2:Nat)(na:Addr)(en:Nat)(tn0 tn1 tn2:Tok)(ab:Addr)(eb:Nat)(z0 z1 z2:Int)(tz0 tz1 tz2:Tok)(fi:Str)(tf:Tok)(aw:Addr)(ew:Nat)(tm0 tm1 tm2:Tok)(dd bb:Int)(W0 W1 W2 W3 x:Str)(b t:Nat)(h0:∀t u,Builtin.«int.__floordiv__» ⟨[.int c2 t,.int 8 u],[]⟩=(Made.int dd).tree)(h1:∀t u,Builtin.«int.__mod__» ⟨[.int dd t,.int 2 u],[]⟩=(Made.int bb).tree)(hw0:WrdOk T prog w (⟨#[y0+1]⟩:Str) bb W0)(hw1:WrdOk T prog w (⟨#[y1+1]⟩:Str) bb W1)(hw2:WrdOk T prog w (⟨#[y2+1]⟩:Str) bb W2)(hw3:WrdOk T prog w fi bb W3)(hg1:Builtin.Str.tooLong (([W0,W1,W2,W3]:List Str).toArray.foldl (·+·.length+Y14.length) 0)=false)(hg2:Builtin.Str.glued Y14 [W0,W1,W2,W3]=x)(hg3:x.length<=sizeLine)(next:∀(tb:Array Value)(X:Lx)(S:Sm)(tx tl tp:Tok)(ea ep:Nat)(b' t':Nat),t<=t'->St T prog w A Q E s0 fr cc cn cl 7 ([(fr,frO #[ent w.params Y48 (k 0) (.ref sa),ent w.params Y49 (k 1) (.int 3 tc),ent w.params Y32 (k 2) (.ref ab),ent w.params Y51 (k 3) (.str fi tf),ent w.params Y52 (k 4) (.ref aw)] 5),(cl,ceO (some (.ref X.i))),(aw,liO #[.str ⟨#[y0+1]⟩ tm0,.str ⟨#[y1+1]⟩ tm1,.str ⟨#[y2+1]⟩ tm2,.str fi tf] ew),(X.i,X.iO),(X.d,X.dO w.params (.int 1 tl)),(X.s,S.sO),(S.sd,S.dO w.params),(S.rf,S.fO (T w.params)),(S.rc,S.cO),(S.ct,Sm.tO x tx),(S.ca,S.aO),(S.al,liO #[.int 0 tp] ea),(X.p,liO #[] ep),(cn,ceO (some (.ref na))),(na,liO #[.str ⟨#[y0+1]⟩ tn0,.str ⟨#[y1+1]⟩ tn1,.str ⟨#[y2+1]⟩ tn2] en),(ab,liO #[.int z0 tz0,.int z1 tz1,.int z2 tz2] eb),(sa,so),(86,tabO tb)]) b' t'):St T prog w A Q E s0 fr cc cn cl 6 ([(fr,frO #[ent w.params Y48 (k 0) (.ref sa),ent w.params Y49 (k 1) (.int 3 tc),ent w.params Y32 (k 2) (.ref ab),ent w.params Y51 (k 3) (.str fi tf),ent w.params Y52 (k 4) (.ref aw)] 5),(cc,ceO (some (.ref la))),(cl,ceO none),(la,liO #[.int c0 t0,.int c1 t1,.int c2 t2] el),(aw,liO #[.str ⟨#[y0+1]⟩ tm0,.str ⟨#[y1+1]⟩ tm1,.str ⟨#[y2+1]⟩ tm2,.str fi tf] ew),(86,tabO #[]),(cn,ceO (some (.ref na))),(na,liO #[.str ⟨#[y0+1]⟩ tn0,.str ⟨#[y1+1]⟩ tn1,.str ⟨#[y2+1]⟩ tn2] en),(ab,liO #[.int z0 tz0,.int z1 tz1,.int z2 tz2] eb),(sa,so)]) b t:=by
  refine cps fun Gp kp=>?_
  obtain ⟨AW0,DW0,TW0,hv0⟩:=hw0
  obtain ⟨AW1,DW1,TW1,hv1⟩:=hw1
  obtain ⟨AW2,DW2,TW2,hv2⟩:=hw2
  obtain ⟨AW3,DW3,TW3,hv3⟩:=hw3
  refine kp ?_
  exact St.oj hlen hr [0,1,2,3,4,5,6,7,8,9] (H fr cc cn cl k sa ab tc la el c0 c1 c2 t0 t1 t2 aw ew fi tf y0 y1 y2 tm0 tm1 tm2 dd bb W0 W1 W2 W3 x AW0 DW0 AW1 DW1 AW2 DW2 AW3 DW3 TW0 TW1 TW2 TW3 b t) rfl rfl ⟨cFdiv_ok h0,cMod_ok h1,(fun b' t' c l _ _=>hv0 (aT c 0) (aT c 1) b' t'),cFdiv_ok h0,cMod_ok h1,(fun b' t' c l _ _=>hv1 (aT c 0) (aT c 1) b' t'),cFdiv_ok h0,cMod_ok h1,(fun b' t' c l _ _=>hv2 (aT c 0) (aT c 1) b' t'),cFdiv_ok h0,cMod_ok h1,(fun b' t' c l _ _=>hv3 (aT c 0) (aT c 1) b' t'),cJoinE_ok (by intro h;cases h) hg1 (hg2▸hg3) hg2,(fun b' t' c l _ _=>lexer_ok HX x (aT c 0) b' t'),trivial⟩ (St.ord [10,12,14,0,1,2,3,4,5,6,7,8,9,16,17,18,19,15] rfl rfl (next _ (lxOf _ _) (smOf (T w.params) _ _) _ _ _ _ _ _ _ (Nat.le_add_right _ _) ))
theorem law7_3 (H1:e1_3Run T prog)(HR:e1rRun T prog)(H2:e2_3Run T prog)(IS:IfS (lawN (T w.params) 7))(hlen:(bodyOf (T w.params) 136).length=11)(hr:Room 116 A)(fr cc cn cl:Addr)(k:Nat->Tok)(sa:Addr)(so:Obj)(tc:Tok)(tb:Array Value)(y0 y1 y2:Nat)(na:Addr)(en:Nat)(tn0 tn1 tn2:Tok)(ab:Addr)(eb:Nat)(z0 z1 z2:Int)(tz0 tz1 tz2:Tok)(fi:Str)(tf:Tok)(aw:Addr)(ew:Nat)(tm0 tm1 tm2:Tok)(X:Lx)(S:Sm)(x:Str)(tx:Tok)(l:Int)(tl:Tok)(p:Int)(tp:Tok)(ea ep:Nat)(p0 p1 p2 p3 l0 l1 l2 l3:Int)(b t:Nat)(hg0:GtOk T prog w X S x tx ea ep l l0 p p0 (⟨#[y0+1]⟩:Str))(hg1:GtOk T prog w X S x tx ea ep l0 l1 p0 p1 (⟨#[y1+1]⟩:Str))(hg2:GtOk T prog w X S x tx ea ep l1 l2 p1 p2 (⟨#[y2+1]⟩:Str))(hg3:GtOk T prog w X S x tx ea ep l2 l3 p2 p3 fi)(hl:((l3:Int) != 4)=false)(next:∀(tl tp:Tok)(b' t':Nat),t<=t'->St T prog w A Q E s0 fr cc cn cl 8 ([(fr,frO #[ent w.params Y48 (k 0) (.ref sa),ent w.params Y49 (k 1) (.int 3 tc),ent w.params Y32 (k 2) (.ref ab),ent w.params Y51 (k 3) (.str fi tf),ent w.params Y52 (k 4) (.ref aw)] 5),(cl,ceO (some (.ref X.i))),(X.i,X.iO),(X.d,X.dO w.params (.int l3 tl)),(X.p,liO #[] ep),(cn,ceO (some (.ref na))),(na,liO #[.str ⟨#[y0+1]⟩ tn0,.str ⟨#[y1+1]⟩ tn1,.str ⟨#[y2+1]⟩ tn2] en),(ab,liO #[.int z0 tz0,.int z1 tz1,.int z2 tz2] eb),(X.s,S.sO),(S.sd,S.dO w.params),(S.rf,S.fO (T w.params)),(S.rc,S.cO),(S.ct,Sm.tO x tx),(S.ca,S.aO),(S.al,liO #[.int p3 tp] ea),(sa,so),(86,tabO tb)]) b' t'):St T prog w A Q E s0 fr cc cn cl 7 ([(fr,frO #[ent w.params Y48 (k 0) (.ref sa),ent w.params Y49 (k 1) (.int 3 tc),ent w.params Y32 (k 2) (.ref ab),ent w.params Y51 (k 3) (.str fi tf),ent w.params Y52 (k 4) (.ref aw)] 5),(cl,ceO (some (.ref X.i))),(aw,liO #[.str ⟨#[y0+1]⟩ tm0,.str ⟨#[y1+1]⟩ tm1,.str ⟨#[y2+1]⟩ tm2,.str fi tf] ew),(X.i,X.iO),(X.d,X.dO w.params (.int l tl)),(X.s,S.sO),(S.sd,S.dO w.params),(S.rf,S.fO (T w.params)),(S.rc,S.cO),(S.ct,Sm.tO x tx),(S.ca,S.aO),(S.al,liO #[.int p tp] ea),(X.p,liO #[] ep),(cn,ceO (some (.ref na))),(na,liO #[.str ⟨#[y0+1]⟩ tn0,.str ⟨#[y1+1]⟩ tn1,.str ⟨#[y2+1]⟩ tn2] en),(ab,liO #[.int z0 tz0,.int z1 tz1,.int z2 tz2] eb),(sa,so),(86,tabO tb)]) b t:=by
  intro s G I
  refine cps fun Gp kp=>?_
  refine GtOk.fn hg0 (.int l tl) tp ⟨_,rfl⟩ fun LN0 TP0 TG0 AG0 DG0 hN0 hG0=>?_
  let a0:Nat:=3
  let d0:Nat:=1
  let B0:Nat:=b+a0
  let T0:Nat:=t+d0
  refine GtOk.fn hg1 (LN0 B0 T0) (TP0 B0 T0) (hN0 _ _) fun LN1 TP1 TG1 AG1 DG1 hN1 hG1=>?_
  let a1:Nat:=(a0+AG0 B0 T0)+0
  let d1:Nat:=(d0+DG0 B0 T0)+1
  let B1:Nat:=b+a1
  let T1:Nat:=t+d1
  refine GtOk.fn hg2 (LN1 B1 T1) (TP1 B1 T1) (hN1 _ _) fun LN2 TP2 TG2 AG2 DG2 hN2 hG2=>?_
  let a2:Nat:=(a1+AG1 B1 T1)+0
  let d2:Nat:=(d1+DG1 B1 T1)+1
  let B2:Nat:=b+a2
  let T2:Nat:=t+d2
  refine GtOk.fn hg3 (LN2 B2 T2) (TP2 B2 T2) (hN2 _ _) fun LN3 TP3 TG3 AG3 DG3 hN3 hG3=>?_
  refine kp ?_
  let a3:Nat:=(a2+AG2 B2 T2)+0
  let d3:Nat:=(d2+DG2 B2 T2)+1
  let B3:Nat:=b+a3
  let T3:Nat:=t+d3
  obtain ⟨tz,hz⟩:=hN3 B3 T3
  refine nth_exec hlen (by decide) (P:=fun f s'=>f=.next/\wpAny (model prog w) (A.under (lawC (T w.params) fr cc cn cl)) (execs ((bodyOf (T w.params) 136).drop 8) (lawE (T w.params) fr cc cn cl)) Q E s') (if_step IS ?_) (fun f s' h h2=>absurd h.1 h2) (fun s' h=>h.2)
  refine law_eval hr (H1 fr cc cn cl k sa ab tc aw ew fi tf y0 y1 y2 tm0 tm1 tm2 X S x tx (.int l tl) p tp ea ep p0 p1 p2 p3 LN0 LN1 LN2 LN3 TP0 TG0 AG0 DG0 TP1 TG1 AG1 DG1 TP2 TG2 AG2 DG2 TP3 TG3 AG3 DG3 b t) I rfl ⟨(fun b' t' c l _ _=>hG0 b' t'),(fun b' t' c l _ _=>hG1 b' t'),(fun b' t' c l _ _=>hG2 b' t'),(fun b' t' c l _ _=>hG3 b' t'),trivial⟩ (eT_eq _ _) rfl (fun s1 I1 a ha=>?_)
  injection ha with ha;injection ha with ha;subst ha
  have I2:=LI.part (l:=[(fr,frO #[ent w.params Y48 (k 0) (.ref sa),ent w.params Y49 (k 1) (.int 3 tc),ent w.params Y32 (k 2) (.ref ab),ent w.params Y51 (k 3) (.str fi tf),ent w.params Y52 (k 4) (.ref aw)] 5),(b+1,liO #[.str (⟨#[y0+1]⟩:Str) (TG0 B0 T0),.str (⟨#[y1+1]⟩:Str) (TG1 B1 T1),.str (⟨#[y2+1]⟩:Str) (TG2 B2 T2),.str fi (TG3 B3 T3)] 4),(cl,ceO (some (.ref X.i))),(aw,liO #[.str ⟨#[y0+1]⟩ tm0,.str ⟨#[y1+1]⟩ tm1,.str ⟨#[y2+1]⟩ tm2,.str fi tf] ew),(X.i,X.iO),(X.d,X.dO w.params (LN3 B3 T3)),(X.s,S.sO),(S.sd,S.dO w.params),(S.rf,S.fO (T w.params)),(S.rc,S.cO),(S.ct,Sm.tO x tx),(S.ca,S.aO),(S.al,liO #[.int p3 (TP3 B3 T3)] ea),(X.p,liO #[] ep),(cn,ceO (some (.ref na))),(na,liO #[.str ⟨#[y0+1]⟩ tn0,.str ⟨#[y1+1]⟩ tn1,.str ⟨#[y2+1]⟩ tn2] en),(ab,liO #[.int z0 tz0,.int z1 tz1,.int z2 tz2] eb),(sa,so),(86,tabO tb)]) I1 [1,0,2,3,4,5,6,7,8,9,10,11,12,13,14,15,16,17,18] rfl rfl
  rw [hz] at I2
  clear I1 I
  refine law_eval hr (HR 3 fr cc cn cl k sa ab aw tc fi tf _ _) I2 rfl trivial (eT_eq _ _) rfl (fun s2 I3 a ha=>?_)
  injection ha with ha;injection ha with ha;subst ha
  refine SeqAt.RcNeAt.lists (e:=fun _=>true) (IsList.li (I3.i.has _ (List.mem_cons_of_mem _ List.mem_cons_self))) (IsList.li (I3.i.has _ (List.mem_cons_of_mem _ (List.mem_cons_of_mem _ (List.mem_cons_of_mem _ List.mem_cons_self))))) rfl (Nat.lt_of_succ_lt (roomUnits (n:=105) hr)) (fun j j1 j2=>?_) prog w E _ ?_
  · match j,j1 with
    | 0,_=>exact EqAt.str rfl
    | 1,_=>exact EqAt.str rfl
    | 2,_=>exact EqAt.str rfl
    | 3,_=>exact EqAt.str rfl
  refine wpAny_truthy_bool ⟨rfl,?_⟩
  have I4:=I3.part [0,2,3,4,5,1,6,7,8,9,10,11,12,13,14,15,16,17,18] rfl rfl
  refine law_eval hr (H2 fr cc cn cl k sa ab tc aw ew fi tf y0 y1 y2 tm0 tm1 tm2 X l3 tz _ _) I4 rfl ⟨cIne_ok hl,trivial⟩ (bT_eq _ _) rfl (fun s3 I5 a ha=>?_)
  injection ha with ha;injection ha with ha;injection ha with ha;subst ha
  exact ⟨rfl,rfl,next _ _ _ _ (Nat.le_trans (Nat.le_add_right _ _) (Nat.le_trans (Nat.le_add_right _ _) (Nat.le_add_right _ _))) _ _ (I5.part [0,1,3,4,13,14,15,16,6,7,8,9,10,11,12,17,18] rfl rfl)⟩
theorem law8_3 (H:s8_3Run T prog)(HP:push0Run T prog)(hlen:(bodyOf (T w.params) 136).length=11)(hr:Room 116 A)(fr cc cn cl:Addr)(k:Nat->Tok)(sa:Addr)(so:Obj)(tc:Tok)(tb:Array Value)(na:Addr)(en:Nat)(tn0 tn1 tn2:Tok)(ab:Addr)(eb:Nat)(z0 z1 z2:Int)(tz0 tz1 tz2:Tok)(y0 y1 y2:Nat)(fi:Str)(tf:Tok)(aw:Addr)(X:Lx)(S:Sm)(x:Str)(tx:Tok)(l:Int)(tl:Tok)(p:Int)(tp:Tok)(ea ep:Nat)(b t:Nat)(h1:fi.length≠0)(h2:(Y36++fi).length<=sizeLine)(next:∀(tu:Tok)(ep:Nat)(b' t':Nat),t<=t'->St T prog w A Q E s0 fr cc cn cl 9 ([(fr,frO #[ent w.params Y48 (k 0) (.ref sa),ent w.params Y49 (k 1) (.int 3 tc),ent w.params Y32 (k 2) (.ref ab),ent w.params Y51 (k 3) (.str fi tf),ent w.params Y52 (k 4) (.ref aw)] 5),(cl,ceO (some (.ref X.i))),(cn,ceO (some (.ref na))),(X.i,X.iO),(X.d,X.dO w.params (.int l tl)),(X.p,liO #[.str (Y36++fi) tu] ep),(ab,liO #[.int z0 tz0,.int z1 tz1,.int z2 tz2] eb),(na,liO #[.str ⟨#[y0+1]⟩ tn0,.str ⟨#[y1+1]⟩ tn1,.str ⟨#[y2+1]⟩ tn2] en),(X.s,S.sO),(S.sd,S.dO w.params),(S.rf,S.fO (T w.params)),(S.rc,S.cO),(S.ct,Sm.tO x tx),(S.ca,S.aO),(S.al,liO #[.int p tp] ea),(sa,so),(86,tabO tb)]) b' t'):St T prog w A Q E s0 fr cc cn cl 8 ([(fr,frO #[ent w.params Y48 (k 0) (.ref sa),ent w.params Y49 (k 1) (.int 3 tc),ent w.params Y32 (k 2) (.ref ab),ent w.params Y51 (k 3) (.str fi tf),ent w.params Y52 (k 4) (.ref aw)] 5),(cl,ceO (some (.ref X.i))),(X.i,X.iO),(X.d,X.dO w.params (.int l tl)),(X.p,liO #[] ep),(cn,ceO (some (.ref na))),(na,liO #[.str ⟨#[y0+1]⟩ tn0,.str ⟨#[y1+1]⟩ tn1,.str ⟨#[y2+1]⟩ tn2] en),(ab,liO #[.int z0 tz0,.int z1 tz1,.int z2 tz2] eb),(X.s,S.sO),(S.sd,S.dO w.params),(S.rf,S.fO (T w.params)),(S.rc,S.cO),(S.ct,Sm.tO x tx),(S.ca,S.aO),(S.al,liO #[.int p tp] ea),(sa,so),(86,tabO tb)]) b t:=by
  exact St.oj hlen hr [0,1,2,3,4,5,6,7,8,9,10,11,12,13,14,15,16] (H fr cc cn cl k sa ab aw tc fi tf X (.int l tl) ep b t) rfl rfl ⟨cAdd_ok (by intro h;cases h) h1 h2,(fun b' t' c l' _ _=>push0_ok HP X (.int l tl) ep (Y36++fi) (aT c 1) b' t'),trivial⟩ (St.ord [0,1,5,2,3,4,7,6,8,9,10,11,12,13,14,15,16] rfl rfl (next _ _ _ _ (Nat.le_add_right _ _) ))
theorem law9_3 (H:s9_3Run T prog)(hlen:(bodyOf (T w.params) 136).length=11)(hr:Room 116 A)(fr cc cn cl:Addr)(k:Nat->Tok)(sa:Addr)(so:Obj)(tc:Tok)(tb:Array Value)(na:Addr)(en:Nat)(tn0 tn1 tn2:Tok)(ab:Addr)(eb:Nat)(z0 z1 z2:Int)(tz0 tz1 tz2:Tok)(y0 y1 y2:Nat)(fi:Str)(tf:Tok)(aw:Addr)(X:Lx)(S:Sm)(x:Str)(tx:Tok)(l:Int)(tl:Tok)(p:Int)(tp:Tok)(ea ep:Nat)(pu:Str)(tu:Tok)(GN:Nat)(VL:List (Str×Int))(b t:Nat)(hk:∀b' t':Nat,t<=t'->∃(a:Addr)(f:Nat->Tp)(ex e da dt:Nat),(List.range 8).map (fun i=>((f i).x,(f i).v))=VL/\SpOk (T w.params) prog w (wkSp X ab na (liO #[.int z0 tz0,.int z1 tz1,.int z2 tz2] eb) (liO #[.str ⟨#[y0+1]⟩ tn0,.str ⟨#[y1+1]⟩ tn1,.str ⟨#[y2+1]⟩ tn2] en) (X.dO w.params (.int l tl)) (X.dO w.params (.int l tl)) (liO #[.str pu tu] ep) (liO #[] e) a 8 f ex da dt GN) b' t')
    (next:∀(at_:Addr)(f:Nat->Tp)(et ep:Nat)(k:Nat->Tok)(b' t':Nat),t<=t'->(List.range 8).map (fun i=>((f i).x,(f i).v))=VL->St T prog w A Q E s0 fr cc cn cl 10 (([(fr,frO #[ent w.params Y48 (k 0) (.ref sa),ent w.params Y49 (k 1) (.int 3 tc),ent w.params Y32 (k 2) (.ref ab),ent w.params Y51 (k 3) (.str fi tf),ent w.params Y52 (k 4) (.ref aw),ent w.params Y39 (k 5) (.ref at_)] 6),(cn,ceO (some (.ref na))),(na,liO #[.str ⟨#[y0+1]⟩ tn0,.str ⟨#[y1+1]⟩ tn1,.str ⟨#[y2+1]⟩ tn2] en),(at_,liO (tpRefs 8 f) et)]++tpLed 8 f)++[(cl,ceO (some (.ref X.i))),(X.i,X.iO),(X.d,X.dO w.params (.int l tl)),(X.s,S.sO),(S.sd,S.dO w.params),(S.rf,S.fO (T w.params)),(S.rc,S.cO),(S.ct,Sm.tO x tx),(S.ca,S.aO),(S.al,liO #[.int p tp] ea),(X.p,liO #[] ep),(sa,so),(86,tabO tb)]) b' t'):St T prog w A Q E s0 fr cc cn cl 9 ([(fr,frO #[ent w.params Y48 (k 0) (.ref sa),ent w.params Y49 (k 1) (.int 3 tc),ent w.params Y32 (k 2) (.ref ab),ent w.params Y51 (k 3) (.str fi tf),ent w.params Y52 (k 4) (.ref aw)] 5),(cl,ceO (some (.ref X.i))),(cn,ceO (some (.ref na))),(X.i,X.iO),(X.d,X.dO w.params (.int l tl)),(X.p,liO #[.str pu tu] ep),(ab,liO #[.int z0 tz0,.int z1 tz1,.int z2 tz2] eb),(na,liO #[.str ⟨#[y0+1]⟩ tn0,.str ⟨#[y1+1]⟩ tn1,.str ⟨#[y2+1]⟩ tn2] en),(X.s,S.sO),(S.sd,S.dO w.params),(S.rf,S.fO (T w.params)),(S.rc,S.cO),(S.ct,Sm.tO x tx),(S.ca,S.aO),(S.al,liO #[.int p tp] ea),(sa,so),(86,tabO tb)]) b t:=by
  intro s G I
  obtain ⟨F,hF⟩:=choiceLe wl0 (P:=fun b' t' R=>(List.range 8).map (fun i=>((R.f i).x,(R.f i).v))=VL/\SpOk (T w.params) prog w (wkSp X ab na (liO #[.int z0 tz0,.int z1 tz1,.int z2 tz2] eb) (liO #[.str ⟨#[y0+1]⟩ tn0,.str ⟨#[y1+1]⟩ tn1,.str ⟨#[y2+1]⟩ tn2] en) (X.dO w.params (.int l tl)) (X.dO w.params (.int l tl)) (liO #[.str pu tu] ep) (liO #[] R.e) R.a 8 R.f R.ex R.da R.dt GN) b' t') (b:=b) (t:=t) (fun b' t' h1 h2=>by
    obtain ⟨a,f,ex,e,da,dt,g1,g2⟩:=hk b' t' h2
    exact ⟨⟨a,f,ex,e,da,dt⟩,g1,g2⟩)
  refine (St.job hlen hr (H fr cc cn cl k sa ab aw na tc fi tf X (.int l tl) #[.int z0 tz0,.int z1 tz1,.int z2 tz2] #[.str ⟨#[y0+1]⟩ tn0,.str ⟨#[y1+1]⟩ tn1,.str ⟨#[y2+1]⟩ tn2] eb en ep pu tu GN (fun b' t'=>(F b' t').a) (fun b' t'=>(F b' t').ex) (fun b' t'=>(F b' t').da) (fun b' t'=>(F b' t').dt) (fun b' t'=>liO #[] (F b' t').e) (fun b' t'=>(F b' t').f) b t) rfl ⟨(fun b' t' c l' h1 h2=>(hF b' t' h1 h2).2),trivial⟩ ?_) s G I
  refine St.ord (l:=([(fr,frO #[ent w.params Y48 ((kL [k 0,k 1,k 2,k 3,k 4,(t+((0+(F (b+0) (t+0)).dt)+0))]) 0) (.ref sa),ent w.params Y49 ((kL [k 0,k 1,k 2,k 3,k 4,(t+((0+(F (b+0) (t+0)).dt)+0))]) 1) (.int 3 tc),ent w.params Y32 ((kL [k 0,k 1,k 2,k 3,k 4,(t+((0+(F (b+0) (t+0)).dt)+0))]) 2) (.ref ab),ent w.params Y51 ((kL [k 0,k 1,k 2,k 3,k 4,(t+((0+(F (b+0) (t+0)).dt)+0))]) 3) (.str fi tf),ent w.params Y52 ((kL [k 0,k 1,k 2,k 3,k 4,(t+((0+(F (b+0) (t+0)).dt)+0))]) 4) (.ref aw),ent w.params Y39 ((kL [k 0,k 1,k 2,k 3,k 4,(t+((0+(F (b+0) (t+0)).dt)+0))]) 5) (.ref (F (b+0) (t+0)).a)] 6),(cn,ceO (some (.ref na))),(na,liO #[.str ⟨#[y0+1]⟩ tn0,.str ⟨#[y1+1]⟩ tn1,.str ⟨#[y2+1]⟩ tn2] en),((F (b+0) (t+0)).a,liO (tpRefs 8 (F (b+0) (t+0)).f) (F (b+0) (t+0)).ex)]++tpLed 8 (F (b+0) (t+0)).f)++[(cl,ceO (some (.ref X.i))),(X.i,X.iO),(X.d,X.dO w.params (.int l tl)),(X.s,S.sO),(S.sd,S.dO w.params),(S.rf,S.fO (T w.params)),(S.rc,S.cO),(S.ct,Sm.tO x tx),(S.ca,S.aO),(S.al,liO #[.int p tp] ea),(X.p,liO #[] (F (b+0) (t+0)).e),(sa,so),(86,tabO tb)]) [9,11,16,0,1,2,3,4,5,6,7,8,10,12,13,17,18,19,20,21,22,23,14,24,25] rfl rfl ?_
  exact next _ _ _ _ (kL [k 0,k 1,k 2,k 3,k 4,_]) _ _ (Nat.le_add_right _ _) (hF b t (Nat.le_refl _) (Nat.le_refl _)).1
theorem law10_3 (H3:e3_3Run T prog)(H4:e4_3Run T prog)(H5:e5_3Run T prog)(RS:ReS (lawN (T w.params) 10))(hlen:(bodyOf (T w.params) 136).length=11)(hr:Room 116 A)(fr cc cn cl:Addr)(k:Nat->Tok)(sa:Addr)(so:Obj)(tc:Tok)(tb:Array Value)(na:Addr)(en:Nat)(tn0 tn1 tn2:Tok)(ab:Addr)(eb:Nat)(z0 z1 z2:Int)(tz0 tz1 tz2:Tok)(y0 y1 y2:Nat)(fi:Str)(tf:Tok)(aw:Addr)(X:Lx)(S:Sm)(x:Str)(tx:Tok)(l:Int)(tl:Tok)(p:Int)(tp:Tok)(ea ep:Nat)(at_:Addr)(f:Nat->Tp)(et:Nat)(v0:Int)(VL:List (Str×Int))(b t:Nat)(hV:(List.range 8).map (fun i=>((f i).x,(f i).v))=VL)(hv0:(f 0).v=v0)(hy:∀(ts:Tok)(b t:Nat),∃(a:Addr)(f:Nat->Tp)(ex da dt:Nat),(List.range 8).map (fun i=>((f i).x,(f i).v))=VL/\SpOk (T w.params) prog w (wySp na (liO #[.str ⟨#[y0+1]⟩ tn0,.str ⟨#[y1+1]⟩ tn1,.str ⟨#[y2+1]⟩ tn2] en) v0 ts a 8 f ex da dt) b t)(hg:GzOk T prog w X S x tx ea ep l p)(hQ:∀s tb,KeepL s0 s->s.heap.get? sa=some so->s.heap.get? 86=some (tabO tb)->Q (.ret (.bool true)) s):St T prog w A Q E s0 fr cc cn cl 10 (([(fr,frO #[ent w.params Y48 (k 0) (.ref sa),ent w.params Y49 (k 1) (.int 3 tc),ent w.params Y32 (k 2) (.ref ab),ent w.params Y51 (k 3) (.str fi tf),ent w.params Y52 (k 4) (.ref aw),ent w.params Y39 (k 5) (.ref at_)] 6),(cn,ceO (some (.ref na))),(na,liO #[.str ⟨#[y0+1]⟩ tn0,.str ⟨#[y1+1]⟩ tn1,.str ⟨#[y2+1]⟩ tn2] en),(at_,liO (tpRefs 8 f) et)]++tpLed 8 f)++[(cl,ceO (some (.ref X.i))),(X.i,X.iO),(X.d,X.dO w.params (.int l tl)),(X.s,S.sO),(S.sd,S.dO w.params),(S.rf,S.fO (T w.params)),(S.rc,S.cO),(S.ct,Sm.tO x tx),(S.ca,S.aO),(S.al,liO #[.int p tp] ea),(X.p,liO #[] ep),(sa,so),(86,tabO tb)]) b t:=by
  intro s G I
  refine cps fun Gp kp=>?_
  obtain ⟨F,hF⟩:=choiceLe wl0 (P:=fun b' t' R=>(List.range 8).map (fun i=>((R.f i).x,(R.f i).v))=VL/\SpOk (T w.params) prog w (wySp na (liO #[.str ⟨#[y0+1]⟩ tn0,.str ⟨#[y1+1]⟩ tn1,.str ⟨#[y2+1]⟩ tn2] en) (f 0).v (f 0).tv R.a 8 R.f R.ex R.da R.dt) b' t') (b:=b) (t:=t) (fun b' t' h1 h2=>by
    obtain ⟨a,f',ex,da,dt,g1,g2⟩:=hy (f 0).tv b' t'
    exact ⟨⟨a,f',ex,0,da,dt⟩,g1,by rw [hv0];exact g2⟩)
  refine GzOk.fn hg tl tp fun TP TG AG DG hG=>?_
  refine kp ?_
  refine nth_exec hlen (by decide) (P:=fun f s'=>Q f s'/\f≠.next) (ret_step RS ?_) (fun f s' h h2=>h.1) (fun s' h=>absurd rfl h.2)
  refine law_eval hr (H3 fr cc cn cl k sa ab aw at_ tc fi tf b t) I rfl trivial (eT_eq _ _) rfl (fun s1 I1 a ha=>?_)
  injection ha with ha;injection ha with ha;subst ha
  refine law_eval hr (H4 fr cc cn cl k sa ab aw na at_ tc fi tf #[.str ⟨#[y0+1]⟩ tn0,.str ⟨#[y1+1]⟩ tn1,.str ⟨#[y2+1]⟩ tn2] en et f (fun b' t'=>(F b' t').a) (fun b' t'=>(F b' t').ex) (fun b' t'=>(F b' t').da) (fun b' t'=>(F b' t').dt) (fun b' t'=>(F b' t').f) b t) I1 rfl ⟨(fun b' t' c l' h1 h2=>(hF b' t' h1 h2).2),trivial⟩ (eT_eq _ _) rfl (fun s2 I2 a ha=>?_)
  injection ha with ha;injection ha with ha;subst ha
  have hm:∀q∈tpLed 8 f,q∈[(fr,frO #[ent w.params Y48 (k 0) (.ref sa),ent w.params Y49 (k 1) (.int 3 tc),ent w.params Y32 (k 2) (.ref ab),ent w.params Y51 (k 3) (.str fi tf),ent w.params Y52 (k 4) (.ref aw),ent w.params Y39 (k 5) (.ref at_)] 6),(cn,ceO (some (.ref na))),(na,liO #[.str ⟨#[y0+1]⟩ tn0,.str ⟨#[y1+1]⟩ tn1,.str ⟨#[y2+1]⟩ tn2] en),(at_,liO (tpRefs 8 f) et)]++tpLed 8 f:=fun q hq=>List.mem_append_right _ hq
  have nd:=I2.i.nd
  refine told_eq (f:=f) (f':=(F (b+0) (t+2)).f) (n:=8) (I2.i.has _ (List.mem_append_left _ (List.mem_cons_of_mem _ (List.mem_append_right _ (List.mem_append_left _ (List.mem_cons_of_mem _ (List.mem_cons_of_mem _ (List.mem_cons_of_mem _ List.mem_cons_self)))))))) (I2.i.has _ (List.mem_append_left _ List.mem_cons_self)) (fun q hq=>I2.i.has _ (List.mem_append_left _ (List.mem_cons_of_mem _ (List.mem_append_right _ (List.mem_append_right _ hq))))) (fun q hq=>I2.i.has _ (List.mem_append_left _ (List.mem_cons_of_mem _ (List.mem_append_left _ hq)))) ?_ (roomUnits (n:=105) hr) (fun j hj=>?_) ?_
  · intro p hp q hq e
    rw [List.map_append] at nd
    have nd2:=(List.nodup_cons.mp (List.nodup_append.mp nd).1).2
    rw [List.map_append] at nd2
    exact (List.nodup_append.mp nd2).2.2 _ (List.mem_map_of_mem hq) _ (List.mem_map_of_mem (hm _ hp)) e.symm
  · have e:=(hV.trans (hF (b+0) (t+2) (Nat.le_add_right _ _) (Nat.le_add_right _ _)).1.symm)
    have e2:=map_range_eq e j hj
    exact ⟨congrArg Prod.fst e2,congrArg Prod.snd e2⟩
  refine wpAny_truthy_bool ⟨rfl,?_⟩
  have I3:LI (T w.params) s0 s2 [(cl,ceO (some (.ref X.i))),(X.i,X.iO),(X.d,X.dO w.params (.int l tl)),(X.s,S.sO),(S.sd,S.dO w.params),(S.rf,S.fO (T w.params)),(S.rc,S.cO),(S.ct,Sm.tO x tx),(S.ca,S.aO),(S.al,liO #[.int p tp] ea),(X.p,liO #[] ep),(sa,so),(86,tabO tb)] _ _ _:=⟨I2.i.sub (fun q hq=>List.mem_append_right _ hq) (by rw [List.map_append] at nd;exact (List.nodup_append.mp nd).2.1),I2.k⟩
  refine law_eval hr (H5 fr cc cn cl k X S x tx (.int l tl) p tp ea ep TP TG AG DG _ _) I3 rfl ⟨(fun b' t' c l' h1 h2=>hG b' t'),trivial⟩ (eT_eq _ _) rfl (fun s3 I4 a ha=>?_)
  injection ha with ha;injection ha with ha;subst ha
  exact ⟨hQ _ tb I4.k (I4.i.has _ (List.mem_append_right _ List.mem_cons_self)) (I4.i.has _ (List.mem_append_right _ (List.mem_cons_of_mem _ List.mem_cons_self))),by intro h;cases h⟩
end
end
noncomputable def tabOk (K:KT):Bool:=match K.get 90 with
  | some ⟨Value.type s,_,Data.fields vs,_⟩=>(s=="code")&&(match ((vs:Array Value)[11]?:Option Value) with
    | some (.ref a)=>a==86
    | _=>false)
  | _=>false
structure AR (T:Params->KT)(prog:Program):Prop where
  a_ell1:ell1Run T prog
  a_ell0:ell0Run T prog
  a_end:endRun T prog
  a_num4:num4Run T prog
  a_num3:num3Run T prog
  a_wlk4:wlk4Run T prog
  a_wlk3:wlk3Run T prog
  a_enum:enumRun T prog
  a_enit:enitRun T prog
  a_tpit:tpitRun T prog
  a_tpn0:tpn0Run T prog
  a_tpn1:tpn1Run T prog
  a_tpnE:tpnERun T prog
  a_g0:g0Run T prog
  a_gT3:gT3Run T prog
  a_gT4:gT4Run T prog
  a_gN1:gN1Run T prog
  a_gN0:gN0Run T prog
  a_hinge4:hinge4Run T prog
  a_hinge3:hinge3Run T prog
  a_s0_0:s0_0Run T prog
  a_s0_1:s0_1Run T prog
  a_s0_2:s0_2Run T prog
  a_s0_3:s0_3Run T prog
  a_s1_0:s1_0Run T prog
  a_s1_1:s1_1Run T prog
  a_s1_2:s1_2Run T prog
  a_s1_3:s1_3Run T prog
  a_s2_4:s2_4Run T prog
  a_s2_3:s2_3Run T prog
  a_s3_4:s3_4Run T prog
  a_s3_3:s3_3Run T prog
  a_s4_4:s4_4Run T prog
  a_s4_3:s4_3Run T prog
  a_s5_4:s5_4Run T prog
  a_s5_3:s5_3Run T prog
  a_s6_4:s6_4Run T prog
  a_s6_3:s6_3Run T prog
  a_e1_4:e1_4Run T prog
  a_e1_3:e1_3Run T prog
  a_e2_4:e2_4Run T prog
  a_e2_3:e2_3Run T prog
  a_s8_4:s8_4Run T prog
  a_s8_3:s8_3Run T prog
  a_s9_4:s9_4Run T prog
  a_s9_3:s9_3Run T prog
  a_e3_4:e3_4Run T prog
  a_e4_4:e4_4Run T prog
  a_e5_4:e5_4Run T prog
  a_e3_3:e3_3Run T prog
  a_e4_3:e4_3Run T prog
  a_e5_3:e5_3Run T prog
  a_lawA:lawARun T prog
  a_e1r:e1rRun T prog
  a_lexer:lexerRun T prog
  a_nt4_0n:nt4_0nRun T prog
  a_nt4_1a:nt4_1aRun T prog
  a_nt4_2a:nt4_2aRun T prog
  a_nt4_3n:nt4_3nRun T prog
  a_nt4_0a:nt4_0aRun T prog
  a_nt4_1n:nt4_1nRun T prog
  a_nt4_2n:nt4_2nRun T prog
  a_nt4_3a:nt4_3aRun T prog
  a_nt3_0n:nt3_0nRun T prog
  a_nt3_1n:nt3_1nRun T prog
  a_nt3_2a:nt3_2aRun T prog
  a_nt3_0a:nt3_0aRun T prog
  a_nt3_1a:nt3_1aRun T prog
  a_nt3_2n:nt3_2nRun T prog
  a_nE:nERun T prog
  a_su1_0:su1_0Run T prog
  a_su1_1:su1_1Run T prog
  a_su2_00:su2_00Run T prog
  a_su2_01:su2_01Run T prog
  a_su2_10:su2_10Run T prog
  a_su2_11:su2_11Run T prog
  a_su3_000:su3_000Run T prog
  a_su3_001:su3_001Run T prog
  a_su3_010:su3_010Run T prog
  a_su3_011:su3_011Run T prog
  a_su3_100:su3_100Run T prog
  a_su3_101:su3_101Run T prog
  a_su3_110:su3_110Run T prog
  a_su3_111:su3_111Run T prog
  a_rB:rBRun T prog
  a_rA:rARun T prog
  a_rD:rDRun T prog
  a_turn0:turn0Run T prog
  a_turn1:turn1Run T prog
  a_push0:push0Run T prog
  a_push1:push1Run T prog
  a_pop1:pop1Run T prog
  a_pop2:pop2Run T prog
  a_sN4:sN4Run T prog
  a_sN6:sN6Run T prog
  a_sO4:sO4Run T prog
  a_sO6:sO6Run T prog
  a_sC6:sC6Run T prog
  a_sD6:sD6Run T prog
  a_sA:sARun T prog
  a_genit:genitRun T prog
  a_gM:gMRun T prog
  a_sBody:sBodyRun T prog
  a_strip1:strip1Run T prog
  a_strip0:strip0Run T prog
  a_t_q1:t_q1Run T prog
  a_t_q2:t_q2Run T prog
  a_t_q2e:t_q2eRun T prog
  a_t_q3:t_q3Run T prog
  a_t_q3e:t_q3eRun T prog
  a_t_b1:t_b1Run T prog
  a_t_b2:t_b2Run T prog
  a_t_b3:t_b3Run T prog
  a_t_oN:t_oNRun T prog
  a_t_oQ3r:t_oQ3rRun T prog
  a_t_oQ4r:t_oQ4rRun T prog
  a_t_oB3r:t_oB3rRun T prog
  a_t_oB3n:t_oB3nRun T prog
  a_t_oE3:t_oE3Run T prog
  a_t_oE4:t_oE4Run T prog
  a_t_Gr:t_GrRun T prog
  a_t_Gn:t_GnRun T prog
  a_t_Gz:t_GzRun T prog
  a_iE:iERun T prog
  a_i9m:i9mRun T prog
  a_ime1:ime1Run T prog
  a_ino:inoRun T prog
  a_iskip:iskipRun T prog
  a_imp1:imp1Run T prog
  a_imp0:imp0Run T prog
  a_oE:oERun T prog
  a_oF_4:oF_4Run T prog
  a_oT1_4:oT1_4Run T prog
  a_oT2_4:oT2_4Run T prog
  a_oF_3:oF_3Run T prog
  a_oT1_3:oT1_3Run T prog
  a_oT2_3:oT2_3Run T prog
  a_wq1:wq1Run T prog
  a_wb1:wb1Run T prog
  a_wb_3_5:wbRun 3 5 T prog
  a_wq_4_0:wqRun 4 0 T prog
  a_wb_4_0:wbRun 4 0 T prog
  a_wq_4_1:wqRun 4 1 T prog
  a_wb_4_1:wbRun 4 1 T prog
  a_wq_4_2:wqRun 4 2 T prog
  a_wb_4_2:wbRun 4 2 T prog
  a_wq_4_3:wqRun 4 3 T prog
  a_wb_4_3:wbRun 4 3 T prog
  a_wq_4_4:wqRun 4 4 T prog
  a_wb_4_4:wbRun 4 4 T prog
  a_wq_4_5:wqRun 4 5 T prog
  a_wb_4_5:wbRun 4 5 T prog
  a_wq_4_6:wqRun 4 6 T prog
  a_wb_4_6:wbRun 4 6 T prog
  a_wq_4_7:wqRun 4 7 T prog
  a_wb_4_7:wbRun 4 7 T prog
  a_wq_4_8:wqRun 4 8 T prog
  a_wb_4_8:wbRun 4 8 T prog
  a_wq_4_9:wqRun 4 9 T prog
  a_wb_4_9:wbRun 4 9 T prog
  a_wq_4_10:wqRun 4 10 T prog
  a_wb_4_10:wbRun 4 10 T prog
  a_wq_4_11:wqRun 4 11 T prog
  a_wb_4_11:wbRun 4 11 T prog
  a_wq_4_12:wqRun 4 12 T prog
  a_wb_4_12:wbRun 4 12 T prog
  a_wq_4_13:wqRun 4 13 T prog
  a_wb_4_13:wbRun 4 13 T prog
  a_wq_4_14:wqRun 4 14 T prog
  a_wb_4_14:wbRun 4 14 T prog
  a_wq_4_15:wqRun 4 15 T prog
  a_wb_4_15:wbRun 4 15 T prog
  a_whl:whlRun T prog
  a_whx:whxRun T prog
  a_wz:wzRun T prog
  a_wE:wERun T prog
  a_w0_ff:w0Run false false T prog
  a_w0_ft:w0Run false true T prog
  a_w1_ff:w1Run false false T prog
  a_w1_ft:w1Run false true T prog
  a_w1_tf:w1Run true false T prog
  a_w1_tt:w1Run true true T prog
  a_w2_ff:w2Run false false T prog
  a_w2_ft:w2Run false true T prog
  a_w2_tf:w2Run true false T prog
  a_w2_tt:w2Run true true T prog
  a_wa_fff:waRun false false false T prog
  a_wa_tft:waRun true false true T prog
  a_wc_fff:wcRun false false false T prog
  a_wc_tft:wcRun true false true T prog
  a_wc_ftt:wcRun false true true T prog
  a_wc_ttf:wcRun true true false T prog
  a_wi_fff:wiRun false false false T prog
  a_wi_tft:wiRun true false true T prog
  a_wi_ftt:wiRun false true true T prog
  a_wi_ttf:wiRun true true false T prog
  a_wh_fff:whRun false false false T prog
  a_wh_ttf:whRun true true false T prog
  a_wl_ftt:wlRun false true true T prog
  a_wl_tft:wlRun true false true T prog
  a_way_f4:wayRun false 4 15 T prog
  a_way_f3:wayRun false 3 7 T prog
  a_way_t4:wayRun true 4 15 T prog
  a_way_t3:wayRun true 3 7 T prog
  fo35:∀P,forOk (T P)
  ifs:∀P,IfS (lawN (T P) 7)
  res:∀P,ReS (lawN (T P) 10)
  len:∀P,(bodyOf (T P) 136).length=11
  isgen:∀P,isGenFn (T P) 35=true
  nolim:∀P,isNoLim (T P)=true
  bind:∀P,bindOk (T P)
  codeT:∀P,codeTop (T P) 35=true
  g86:∀P,(T P).get 86=some (tabO #[])
  tab:∀P,tabOk (T P)=true
  fn63:∀P,isFn (T P) 63=true
  c1:∀P fr en,cl (L35 (T P) fr en)=false
  c2:∀P fr,cl (F35 (T P) fr)=false
  q1:∀P fr en,(L35 (T P) fr en).quiet=true
  fo42:∀P fr ge,L42 (T P) fr ge=.forLoop (tgOf (bodyOf (T P) 42) 4) (.ref ge) (bdOf (bodyOf (T P) 42) 4) [] (e42 (T P) fr)
  q42:∀P fr ge,(L42 (T P) fr ge).quiet=true
  c42:∀P fr,cl (F42 (T P) fr)=false
section
variable {T:Params->KT}{prog:Program}{w:World}
theorem AR.body (H:AR T prog):BodyHyp T prog w:=
  ⟨⟨⟨H.a_gN1,H.a_gN0,H.a_gT3,H.a_gT4,H.a_g0,H.fo35 _,H.a_tpit,H.a_tpn0,H.a_tpn1,H.a_tpnE,H.a_enum,H.a_enit,H.nolim _,H.c1 _,H.c2 _,H.q1 _,fun e=>rfl⟩,H.a_sN4,H.a_sN6,H.a_sO4,H.a_sO6,H.a_sC6,H.a_sD6,H.fo42 _,H.q42 _⟩,⟨H.a_gM,H.isgen _,H.bind _,H.codeT _⟩,H.a_sA,H.a_sBody,H.a_genit,H.c42 _⟩
theorem AR.wr (H:AR T prog):WRuns T prog:=
  ⟨H.a_whl,H.a_whx,fun o i=>match o,i with | false,false=>H.a_wi_fff | true,false=>H.a_wi_tft | false,true=>H.a_wi_ftt | true,true=>H.a_wi_ttf,
  fun o i=>match o,i with | false,false=>H.a_wc_fff | true,false=>H.a_wc_tft | false,true=>H.a_wc_ftt | true,true=>H.a_wc_ttf,
  fun o i h=>match o,i,h with | false,false,_=>H.a_wh_fff | true,true,_=>H.a_wh_ttf,
  fun o i h=>match o,i,h with | false,true,_=>H.a_wl_ftt | true,false,_=>H.a_wl_tft,
  fun o=>match o with | false=>H.a_wa_fff | true=>H.a_wa_tft,H.a_wz,H.a_wE,
  fun o=>match o with | false=>H.a_w0_ff | true=>H.a_w0_ft,
  fun i o=>match i,o with | false,false=>H.a_w1_ff | false,true=>H.a_w1_ft | true,false=>H.a_w1_tf | true,true=>H.a_w1_tt,
  fun i o=>match i,o with | false,false=>H.a_w2_ff | false,true=>H.a_w2_ft | true,false=>H.a_w2_tf | true,true=>H.a_w2_tt⟩
theorem AR.w4 (H:AR T prog)(o:Bool):wayRun o 4 15 T prog:=match o with | false=>H.a_way_f4 | true=>H.a_way_t4
theorem AR.w3 (H:AR T prog)(o:Bool):wayRun o 3 7 T prog:=match o with | false=>H.a_way_f3 | true=>H.a_way_t3
theorem AR.wq (H:AR T prog):∀s,s<16->wqRun 4 s T prog:=fun s hs=>match s,hs with
  | 0,_=>H.a_wq_4_0
  | 1,_=>H.a_wq_4_1
  | 2,_=>H.a_wq_4_2
  | 3,_=>H.a_wq_4_3
  | 4,_=>H.a_wq_4_4
  | 5,_=>H.a_wq_4_5
  | 6,_=>H.a_wq_4_6
  | 7,_=>H.a_wq_4_7
  | 8,_=>H.a_wq_4_8
  | 9,_=>H.a_wq_4_9
  | 10,_=>H.a_wq_4_10
  | 11,_=>H.a_wq_4_11
  | 12,_=>H.a_wq_4_12
  | 13,_=>H.a_wq_4_13
  | 14,_=>H.a_wq_4_14
  | 15,_=>H.a_wq_4_15
  | s+16,h=>absurd h (by omega)
theorem AR.wb (H:AR T prog):∀s,s<16->wbRun 4 s T prog:=fun s hs=>match s,hs with
  | 0,_=>H.a_wb_4_0
  | 1,_=>H.a_wb_4_1
  | 2,_=>H.a_wb_4_2
  | 3,_=>H.a_wb_4_3
  | 4,_=>H.a_wb_4_4
  | 5,_=>H.a_wb_4_5
  | 6,_=>H.a_wb_4_6
  | 7,_=>H.a_wb_4_7
  | 8,_=>H.a_wb_4_8
  | 9,_=>H.a_wb_4_9
  | 10,_=>H.a_wb_4_10
  | 11,_=>H.a_wb_4_11
  | 12,_=>H.a_wb_4_12
  | 13,_=>H.a_wb_4_13
  | 14,_=>H.a_wb_4_14
  | 15,_=>H.a_wb_4_15
  | s+16,h=>absurd h (by omega)
end
section
open Builtin Builtin.Str
theorem ChR.of {x:Str}{p z:Nat}(h:x.cps.toList[p]?=some (z+1))(h2:2<=x.length)(hl:x.length<=sizeLine):ChR x (p:Int) z:=by
  have hp:p<x.length:=by
    obtain ⟨hi,_⟩:=List.getElem?_eq_some_iff.mp h
    rw [Array.length_toList] at hi;exact hi
  have e:strSliceIndices (some (p:Int)) (some ((p:Int)+1)) 1 x.length=[p]:=by
    rw [show ((p:Int)+1)=((p+1:Nat):Int) by omega,StrLaws.strSliceIndices_plain (by omega) (by omega),show p+1-p=1 by omega]
    rfl
  refine ⟨hl,?_,?_⟩
  · rw [e];show 1≠_;omega
  · unfold sliceS
    rw [e]
    have:x.cps[p]?=some (z+1):=by rw [<- Array.getElem?_toList];exact h
    simp only [List.filterMap_cons,this,List.filterMap_nil]
noncomputable def qBody (l:List (Option Nat)):List Nat:=l.flatMap fun o=>match o with | none=>[92,34] | some y=>[y+1]
noncomputable def bBody (l:List (Option Nat)):List Nat:=l.flatMap fun o=>[92,owS o]
def okSign (y:Nat):Prop:=y+1≠10/\y+1≠34/\y+1≠92
theorem oT_nil (tk:Str):tk++oT []=tk:=by
  apply congrArg Str.mk;show tk.cps++#[]=_;simp
theorem oT_cons (tk:Str)(o:Option Nat)(l:List (Option Nat)):(tk++(⟨#[owS o]⟩:Str))++oT l=tk++oT (o::l):=by
  rw [Str.append_assoc]
  congr 1
  apply congrArg Str.mk
  show #[owS o]++(l.map owS).toArray=_
  apply Array.ext'
  simp
theorem snoc_len (tk:Str)(c:Nat):(tk++(⟨#[c]⟩:Str)).length=tk.length+1:=by rw [Str.length_append];rfl
theorem q_seg {x:Str}(h2:2<=x.length)(hl:x.length<=sizeLine):∀(l:List (Option Nat))(A B:List Nat)(tk:Str),(∀y,some y∈l->okSign y)->x.cps.toList=A++(qBody l++34::B)->tk.length+l.length<=100->QRel x (A.length:Int) tk ((A.length+(qBody l).length+1:Nat):Int) (tk++oT l)
  | [],A,B,tk,hy,hx,ht=>by
    rw [oT_nil]
    have c:=ChR.of (x:=x) (p:=A.length) (z:=33) (by rw [hx,List.getElem?_append_right (Nat.le_refl _),Nat.sub_self];rfl) h2 hl
    exact .stop c
  | none::l,A,B,tk,hy,hx,ht=>by
    have c1:=ChR.of (x:=x) (p:=A.length) (z:=91) (by rw [hx,List.getElem?_append_right (Nat.le_refl _),Nat.sub_self];rfl) h2 hl
    have c2:=ChR.of (x:=x) (p:=A.length+1) (z:=33) (by rw [hx,List.getElem?_append_right (by omega),show A.length+1-A.length=1 by omega];rfl) h2 hl
    have ht':tk.length+(l.length+1)<=100:=ht
    have ih:=q_seg h2 hl l (A++[92,34]) B (tk++Y3) (fun y h=>hy y (List.mem_cons_of_mem _ h)) (by rw [hx];simp [qBody]) (by rw [snoc_len];omega)
    rw [show (tk++Y3)++oT l=tk++oT (none::l) from oT_cons tk none l] at ih
    refine .esc c1 c2 (by decide) (by omega) ?_
    have e1:((A++[92,34]).length:Int)=(A.length:Int)+2:=by simp
    have e2:(((A++[92,34]).length+(qBody l).length+1:Nat):Int)=((A.length+(qBody (none::l)).length+1:Nat):Int):=by
      have:(qBody (none::l)).length=2+(qBody l).length:=by simp [qBody];omega
      rw [this,List.length_append];simp;omega
    rw [e1,e2] at ih
    exact ih
  | some y::l,A,B,tk,hy,hx,ht=>by
    have c1:=ChR.of (x:=x) (p:=A.length) (z:=y) (by rw [hx,List.getElem?_append_right (Nat.le_refl _),Nat.sub_self];rfl) h2 hl
    have ht':tk.length+(l.length+1)<=100:=ht
    have ok:=hy y List.mem_cons_self
    have ih:=q_seg h2 hl l (A++[y+1]) B (tk++(⟨#[y+1]⟩:Str)) (fun y h=>hy y (List.mem_cons_of_mem _ h)) (by rw [hx];simp [qBody]) (by rw [snoc_len];omega)
    rw [show (tk++(⟨#[y+1]⟩:Str))++oT l=tk++oT (some y::l) from oT_cons tk (some y) l] at ih
    refine .plain c1 (fun e=>ok.1 (by omega)) (fun e=>ok.2.1 (by omega)) (fun e=>ok.2.2 (by omega)) (by omega) ?_
    have e1:((A++[y+1]).length:Int)=(A.length:Int)+1:=by simp
    have e2:(((A++[y+1]).length+(qBody l).length+1:Nat):Int)=((A.length+(qBody (some y::l)).length+1:Nat):Int):=by
      have:(qBody (some y::l)).length=1+(qBody l).length:=by simp [qBody];omega
      rw [this,List.length_append];simp;omega
    rw [e1,e2] at ih
    exact ih
theorem b_seg {x:Str}(h2:2<=x.length)(hl:x.length<=sizeLine):∀(l:List (Option Nat))(A B:List Nat)(tk:Str),(∀y,some y∈l->okSign y)->x.cps.toList=A++(bBody l++B)->tk.length≠0->tk.length+l.length<=100->ERel x (A.length:Int) tk ((A.length+(bBody l).length:Nat):Int) (tk++oT l)
  | [],A,B,tk,hy,hx,h0,ht=>by
    rw [oT_nil]
    exact .nil
  | o::l,A,B,tk,hy,hx,h0,ht=>by
    have ho:∃z,owS o=z+1/\z≠9:=by
      cases o with
      | none=>exact ⟨33,rfl,by decide⟩
      | some y=>exact ⟨y,rfl,fun e=>(hy y List.mem_cons_self).1 (by omega)⟩
    obtain ⟨z,hz,hz9⟩:=ho
    have c1:=ChR.of (x:=x) (p:=A.length) (z:=91) (by rw [hx,List.getElem?_append_right (Nat.le_refl _),Nat.sub_self];rfl) h2 hl
    have c2:=ChR.of (x:=x) (p:=A.length+1) (z:=z) (by rw [hx,List.getElem?_append_right (by omega),show A.length+1-A.length=1 by omega,<- hz];rfl) h2 hl
    have ht':tk.length+(l.length+1)<=100:=ht
    have ih:=b_seg h2 hl l (A++[92,owS o]) B (tk++(⟨#[owS o]⟩:Str)) (fun y h=>hy y (List.mem_cons_of_mem _ h)) (by rw [hx];simp [bBody]) (by rw [snoc_len];omega) (by rw [snoc_len];omega)
    rw [oT_cons tk o l] at ih
    rw [hz] at ih
    refine .esc c1 c2 hz9 h0 (by omega) ?_
    have e1:((A++[92,z+1]).length:Int)=(A.length:Int)+2:=by simp
    have e2:(((A++[92,z+1]).length+(bBody l).length:Nat):Int)=((A.length+(bBody (o::l)).length:Nat):Int):=by
      have:(bBody (o::l)).length=2+(bBody l).length:=by simp [bBody];omega
      rw [this,List.length_append];simp;omega
    rw [e1,e2] at ih
    exact ih
theorem slice_end (n:Nat):strSliceIndices (some (n:Int)) (some ((n:Int)+1)) 1 n=[]:=by
  have h1:¬ ((n:Int)<0):=by omega
  have h2:¬ ((n:Int)+1<0):=by omega
  have e1:max (0:Int) (min (n:Int) (n:Int))=n:=by omega
  have e2:max (0:Int) (min ((n:Int)+1) (n:Int))=n:=by omega
  simp only [strSliceIndices,sliceRange,h1,h2,if_false,e1,e2,show ((1:Int) > 0)=True from by simp,if_true]
  simp
section
variable {T:Params->KT}{prog:Program}{w:World}
theorem endOk (H:AR T prog)(X:Lx)(S:Sm){x:Str}(h0:x.length≠0)(hl:x.length<=sizeLine)(tx:Tok)(ln:Value)(ea:Nat):∀ci bm ts tp b' t',SpOk (T w.params) prog w (endSp X S (T w.params) w.params ci bm ts x tx ln (x.length:Int) tp ea b' t') b' t':=by
  intro ci bm ts tp b' t'
  refine end_ok H.a_end (H.fn63 _) X S x tx ln (x.length:Int) tp ea ci bm ts b' t' fun b2 t2=>?_
  refine rB_ok H.a_rB X S bm x tx _ tp ea _ ln b2 t2 hl ?_ ?_ (by rw [sizeLine_eq];show 0<=_;omega) rfl
  · rw [slice_end];show 0≠_;omega
  · unfold sliceS;rw [slice_end];rfl
theorem gQ3 (H:AR T prog)(X:Lx)(S:Sm){x:Str}(h2:2<=x.length)(hl:x.length<=sizeLine)(tx:Tok)(ea ep:Nat)(L:Int){l:List (Option Nat)}{B:List Nat}(hy:∀y,some y∈l->okSign y)(h8:l.length<=100)(hx:x.cps.toList=34::(qBody l++34::B)):
    GtOk T prog w X S x tx ea ep L L 0 (((qBody l).length+2:Nat):Int) (oT l):=by
  intro tl tp b t
  have c:=ChR.of (x:=x) (p:=0) (z:=33) (by rw [hx];rfl) h2 hl
  have q:=q_seg h2 hl l [34] B Y2 hy hx (by show 0+_<=100;omega)
  rw [show Y2++oT l=oT l from congrArg Str.mk (by show #[]++_=_;simp;rfl)] at q
  rw [show ((([34]:List Nat).length+(qBody l).length+1:Nat):Int)=(((qBody l).length+2:Nat):Int) by simp;omega] at q
  refine cps fun Gp kp=>?_
  obtain ⟨tp',tw,da,dt,z⟩:=gt_Q3 (w:=w) H.a_t_Gr H.a_t_oQ3r H.a_t_q1 H.a_t_q2 H.a_t_q2e H.a_t_q3 H.a_t_q3e H.a_rB H.a_rD X S x tx ea ep (.int L tl) tp c (by simpa using q) b t
  refine kp ?_
  exact ⟨tp',tl,tw,da,dt,z⟩
theorem gQ4 (H:AR T prog)(X:Lx)(S:Sm){x:Str}(h2:2<=x.length)(hl:x.length<=sizeLine)(tx:Tok)(ea ep:Nat)(L:Int){l:List (Option Nat)}{A B:List Nat}(hy:∀y,some y∈l->okSign y)(h8:l.length<=100)(hx:x.cps.toList=A++(10::34::(qBody l++34::B))):
    GtOk T prog w X S x tx ea ep L (L+1) (A.length:Int) ((A.length+(qBody l).length+3:Nat):Int) (oT l):=by
  intro tl tp b t
  have c0:=ChR.of (x:=x) (p:=A.length) (z:=9) (by rw [hx,List.getElem?_append_right (Nat.le_refl _),Nat.sub_self];rfl) h2 hl
  have c:=ChR.of (x:=x) (p:=A.length+1) (z:=33) (by rw [hx,List.getElem?_append_right (by omega),show A.length+1-A.length=1 by omega];rfl) h2 hl
  have q:=q_seg h2 hl l (A++[10,34]) B Y2 hy (by rw [hx];simp) (by show 0+_<=100;omega)
  rw [show Y2++oT l=oT l from congrArg Str.mk (by show #[]++_=_;simp;rfl)] at q
  rw [show (((A++[10,34]:List Nat).length:Nat):Int)=((A.length:Int)+1)+1 by simp;omega,show (((A++[10,34]:List Nat).length+(qBody l).length+1:Nat):Int)=((A.length+(qBody l).length+3:Nat):Int) by simp;omega] at q
  refine cps fun Gp kp=>?_
  obtain ⟨tp',tl',tw,da,dt,z⟩:=gt_Q4 (w:=w) H.a_t_Gr H.a_t_oN H.a_t_oQ4r H.a_t_q1 H.a_t_q2 H.a_t_q2e H.a_t_q3 H.a_t_q3e H.a_rA H.a_rB H.a_rD X S x tx ea ep L tl tp c0 c q b t
  refine kp ?_
  exact ⟨tp',tl',tw,da,dt,z⟩
theorem bHead {x:Str}(h2:2<=x.length)(hl:x.length<=sizeLine){o:Option Nat}{l:List (Option Nat)}{A B:List Nat}(hy:∀y,some y∈o::l->okSign y)(h8:l.length<=90)(hx:x.cps.toList=A++(bBody (o::l)++B)):
    ∃z,owS o=z+1/\z≠9/\ChR x (A.length:Int) 91/\ChR x ((A.length:Int)+1) z/\ERel x (((A.length:Int)+1)+1) (⟨#[z+1]⟩:Str) ((A.length+(bBody (o::l)).length:Nat):Int) (oT (o::l)):=by
  have ho:∃z,owS o=z+1/\z≠9:=by
    cases o with
    | none=>exact ⟨33,rfl,by decide⟩
    | some y=>exact ⟨y,rfl,fun e=>(hy y List.mem_cons_self).1 (by omega)⟩
  obtain ⟨z,hz,hz9⟩:=ho
  have c1:=ChR.of (x:=x) (p:=A.length) (z:=91) (by rw [hx,List.getElem?_append_right (Nat.le_refl _),Nat.sub_self];rfl) h2 hl
  have c2:=ChR.of (x:=x) (p:=A.length+1) (z:=z) (by rw [hx,List.getElem?_append_right (by omega),show A.length+1-A.length=1 by omega,<- hz];rfl) h2 hl
  have q:=b_seg h2 hl l (A++[92,owS o]) B (⟨#[owS o]⟩:Str) (fun y h=>hy y (List.mem_cons_of_mem _ h)) (by rw [hx];simp [bBody]) (by show 1≠0;decide) (by show 1+_<=100;omega)
  rw [show (⟨#[owS o]⟩:Str)++oT l=oT (o::l) by
    have:=oT_cons Y2 o l
    rw [show Y2++(⟨#[owS o]⟩:Str)=⟨#[owS o]⟩ from congrArg Str.mk (by show #[]++_=_;simp),show Y2++oT (o::l)=oT (o::l) from congrArg Str.mk (by show #[]++_=_;simp;rfl)] at this
    exact this] at q
  have lb:(bBody (o::l)).length=2+(bBody l).length:=by simp [bBody];omega
  rw [show (((A++[92,owS o]:List Nat).length:Nat):Int)=((A.length:Int)+1)+1 by simp;omega,show (((A++[92,owS o]:List Nat).length+(bBody l).length:Nat):Int)=((A.length+(bBody (o::l)).length:Nat):Int) by rw [lb];simp;omega,hz] at q
  exact ⟨z,hz,hz9,c1,c2,q⟩
theorem gB3 (H:AR T prog)(X:Lx)(S:Sm){x:Str}(h2:2<=x.length)(hl:x.length<=sizeLine)(tx:Tok)(ea ep:Nat)(L:Int){o:Option Nat}{l:List (Option Nat)}{A B:List Nat}(hy:∀y,some y∈o::l->okSign y)(h8:l.length<=90)(hx:x.cps.toList=A++(bBody (o::l)++10::B)):
    GtOk T prog w X S x tx ea ep L (L+1) (A.length:Int) (((A.length+(bBody (o::l)).length:Nat):Int)+1) (oT (o::l)):=by
  intro tl tp b t
  refine cps fun Gp kp=>?_
  obtain ⟨z,hz,hz9,c1,c2,q⟩:=bHead h2 hl hy h8 hx
  have c:=ChR.of (x:=x) (p:=A.length+(bBody (o::l)).length) (z:=9) (by rw [hx,List.getElem?_append_right (by omega),List.getElem?_append_right (by omega),show A.length+(bBody (o::l)).length-A.length-(bBody (o::l)).length=0 by omega];rfl) h2 hl
  obtain ⟨tp',tl',tw,da,dt,z⟩:=gt_B3 (w:=w) H.a_t_Gr H.a_t_oB3r H.a_t_b1 H.a_t_b2 H.a_rA H.a_rB H.a_rD X S x tx ea ep L tl tp c1 c2 hz9 q c b t
  refine kp ?_
  exact ⟨tp',tl',tw,da,dt,z⟩
theorem gBn (H:AR T prog)(X:Lx)(S:Sm){x:Str}(h2:2<=x.length)(hl:x.length<=sizeLine)(tx:Tok)(ea ep:Nat)(L:Int){o:Option Nat}{l:List (Option Nat)}{A:List Nat}(hy:∀y,some y∈o::l->okSign y)(h8:l.length<=90)(hx:x.cps.toList=A++bBody (o::l)):
    GtOk T prog w X S x tx ea ep L L (A.length:Int) (x.length:Int) (oT (o::l)):=by
  intro tl tp b t
  refine cps fun Gp kp=>?_
  obtain ⟨z,hz,hz9,c1,c2,q⟩:=bHead (B:=[]) h2 hl hy h8 (by rw [hx,List.append_nil])
  refine kp ?_
  have e:A.length+(bBody (o::l)).length=x.length:=by
    have:=congrArg List.length hx
    rw [List.length_append,Array.length_toList] at this;exact this.symm
  rw [e] at q
  refine cps fun Gp kp=>?_
  obtain ⟨tp',tw,da,dt,z⟩:=gt_Bn (w:=w) H.a_t_Gn H.a_t_oB3n H.a_t_oE4 H.a_t_b3 H.a_t_b2 H.a_rB H.a_rD X S x tx ea ep (.int L tl) tp c1 c2 hz9 q (endOk H X S (by omega) hl tx _ ea) b t
  refine kp ?_
  exact ⟨tp',tl,tw,da,dt,z⟩
theorem gZ (H:AR T prog)(X:Lx)(S:Sm){x:Str}(h2:2<=x.length)(hl:x.length<=sizeLine)(tx:Tok)(ea ep:Nat)(L:Int):GzOk T prog w X S x tx ea ep L (x.length:Int):=by
  intro tl tp b t
  exact gt_Z (w:=w) H.a_t_Gz H.a_t_oE3 X S x tx ea ep (.int L tl) tp (endOk H X S (by omega) hl tx _ ea) b t
end
theorem foldl_glue (g:Str):∀(L:List Str)(acc:Array Nat),(L.foldl (fun acc p=>acc++g.cps++p.cps) acc).toList=acc.toList++L.flatMap (fun p=>g.cps.toList++p.cps.toList)
  | [],acc=>by simp
  | p::L,acc=>by rw [List.foldl_cons,foldl_glue g L];simp
theorem glued_cons (g p:Str)(L:List Str):(glued g (p::L)).cps.toList=p.cps.toList++L.flatMap (fun p=>g.cps.toList++p.cps.toList):=foldl_glue g L p.cps
theorem glued_empty:∀(L:List Str),(glued Y2 L).cps.toList=L.flatMap fun p=>p.cps.toList
  | []=>rfl
  | p::L=>by rw [glued_cons];simp
theorem fold_bound (g m:Nat):∀(L:List Str)(acc:Nat),(∀x∈L,x.length<=m)->L.foldl (fun a x=>a+x.length+g) acc<=acc+L.length*(m+g)
  | [],acc,_=>by simp
  | x::L,acc,h=>by
    rw [List.foldl_cons]
    refine Nat.le_trans (fold_bound g m L _ fun y hy=>h y (List.mem_cons_of_mem _ hy)) ?_
    have:=h x List.mem_cons_self
    rw [List.length_cons,Nat.succ_mul]
    omega
theorem not_long {g:Str}{L:List Str}{m:Nat}(hL:∀x∈L,x.length<=m)(hb:L.length*(m+g.length)<=1000):tooLong (L.toArray.foldl (·+·.length+g.length) 0)=false:=by
  have e:L.toArray.foldl (fun (a:Nat) (x:Str)=>a+x.length+g.length) 0=L.foldl (fun a x=>a+x.length+g.length) 0:=by simp
  have:=fold_bound g.length m L 0 hL
  unfold tooLong
  rw [e,decide_eq_false]
  rw [sizeLine_eq];omega
theorem Str.ext' {x y:Str}(h:x.cps.toList=y.cps.toList):x=y:=by
  cases x;cases y
  exact congrArg Str.mk (Array.ext' h)
theorem len_list (x:Str):x.length=x.cps.toList.length:=by rw [Array.length_toList];rfl
noncomputable def qJ (l:List (Option Nat)):Str:=⟨(qBody l).toArray⟩
noncomputable def bJ (l:List (Option Nat)):Str:=⟨(bBody l).toArray⟩
theorem wqP_fst:∀(l:List (Option Nat))(k:Nat),(glued Y2 ((wqP l k).map (·.1)))=qJ l/\(wqP l k).length=l.length/\∀x∈(wqP l k).map (·.1),x.length<=2:=by
  have h:∀(l:List (Option Nat))(k:Nat),((wqP l k).map (·.1)).flatMap (fun p=>p.cps.toList)=qBody l/\(wqP l k).length=l.length/\∀x∈(wqP l k).map (·.1),x.length<=2:=by
    intro l
    induction l with
    | nil=>intro k;exact ⟨rfl,rfl,fun x h=>by cases h⟩
    | cons o l ih=>
      intro k
      cases o with
      | none=>
        obtain ⟨i1,i2,i3⟩:=ih (k+5)
        refine ⟨?_,by show (wqP l (k+5)).length+1=_;rw [i2];rfl,fun x hx=>?_⟩
        · show List.flatMap _ (bsl 34::_)=_
          rw [List.flatMap_cons,i1];rfl
        · rcases List.mem_cons.mp hx with rfl | hx
          · exact Nat.le_refl 2
          · exact i3 x hx
      | some y=>
        obtain ⟨i1,i2,i3⟩:=ih (k+3)
        refine ⟨?_,by show (wqP l (k+3)).length+1=_;rw [i2];rfl,fun x hx=>?_⟩
        · show List.flatMap _ (one (y+1)::_)=_
          rw [List.flatMap_cons,i1];rfl
        · rcases List.mem_cons.mp hx with rfl | hx
          · show 1<=2;decide
          · exact i3 x hx
  intro l k
  obtain ⟨h1,h2,h3⟩:=h l k
  exact ⟨Str.ext' (by rw [glued_empty,h1];rfl),h2,h3⟩
theorem wbP_fst:∀(l:List (Option Nat))(k:Nat),(glued Y2 ((wbP l k).map (·.1)))=bJ l/\(wbP l k).length=l.length/\∀x∈(wbP l k).map (·.1),x.length<=2:=by
  have h:∀(l:List (Option Nat))(k:Nat),((wbP l k).map (·.1)).flatMap (fun p=>p.cps.toList)=bBody l/\(wbP l k).length=l.length/\∀x∈(wbP l k).map (·.1),x.length<=2:=by
    intro l
    induction l with
    | nil=>intro k;exact ⟨rfl,rfl,fun x h=>by cases h⟩
    | cons o l ih=>
      intro k
      obtain ⟨i1,i2,i3⟩:=ih (k+4)
      refine ⟨?_,by show (wbP l (k+4)).length+1=_;rw [i2];rfl,fun x hx=>?_⟩
      · show List.flatMap _ (bsl (owS o)::_)=_
        rw [List.flatMap_cons,i1];rfl
      · rcases List.mem_cons.mp hx with rfl | hx
        · exact Nat.le_refl 2
        · exact i3 x hx
  intro l k
  obtain ⟨h1,h2,h3⟩:=h l k
  exact ⟨Str.ext' (by rw [glued_empty,h1];rfl),h2,h3⟩
structure WL (l:List (Option Nat)):Prop where
  ok:∀y,some y∈l->okSign y/\y+1<128
  n0:l≠[]
  n8:l.length<=8
theorem WL.asc {l:List (Option Nat)}(h:WL l):(oT l).cps.all (·<128)=true:=by
  rw [<- Array.all_toList,List.all_eq_true]
  intro c hc
  have hc':c∈l.map owS:=hc
  obtain ⟨o,ho,rfl⟩:=List.mem_map.mp hc'
  rw [decide_eq_true_eq]
  cases o with
  | none=>show 34<128;decide
  | some y=>exact (h.ok y ho).2
theorem qBody_len:∀(l:List (Option Nat)),(qBody l).length<=2*l.length/\(l≠[]->(qBody l).length≠0)
  | []=>⟨Nat.le_refl _,fun h=>absurd rfl h⟩
  | o::l=>by
    have:=(qBody_len l).1
    cases o with
    | none=>
      have e:(qBody (none::l)).length=2+(qBody l).length:=by simp [qBody];omega
      rw [e,List.length_cons];exact ⟨by omega,fun _=>by omega⟩
    | some y=>
      have e:(qBody (some y::l)).length=1+(qBody l).length:=by simp [qBody];omega
      rw [e,List.length_cons];exact ⟨by omega,fun _=>by omega⟩
theorem bBody_len:∀(l:List (Option Nat)),(bBody l).length=2*l.length
  | []=>rfl
  | o::l=>by
    have e:(bBody (o::l)).length=2+(bBody l).length:=by simp [bBody];omega
    rw [e,bBody_len l,List.length_cons];omega
section
variable {kt:KT}{prog:Program}{w:World}{b t:Nat}
theorem wqE_ok:∀{l:List (Option Nat)},(∀y,some y∈l->okSign y)->HOk kt prog w b t (l.flatMap wqE)
  | [],_=>trivial
  | none::l,h=>⟨cEq_ok rfl,cAdd_ok (by decide) (by decide) (by rw [sizeLine_eq];show 2<=_;decide),wqE_ok fun y hy=>h y (List.mem_cons_of_mem _ hy)⟩
  | some y::l,h=>⟨cEq_ok (eqS_sign (h y List.mem_cons_self).2.1),wqE_ok fun y hy=>h y (List.mem_cons_of_mem _ hy)⟩
theorem wbE_ok:∀{l:List (Option Nat)},HOk kt prog w b t (l.flatMap fun o=>[cAdd Y19 (⟨#[owS o]⟩:Str)])
  | []=>trivial
  | o::l=>⟨cAdd_ok (by decide) (by show 1≠0;decide) (by rw [sizeLine_eq];show 2<=_;decide),wbE_ok⟩
theorem wJ_ok {l:List (Option Nat)}{c:Nat}{p:List (Str×Tok)}{J:Str}(h8:l.length<=8)(hp:p.length=l.length)(hx:∀x∈p.map (·.1),x.length<=2)(hJ:glued Y2 (p.map (·.1))=J)(hl:J.length<=1000):HOk kt prog w b t (wJ l c p J):=by
  have go:l.length≠1->HOk kt prog w b t [cJoinE Y2 (c+2) p l.length J 3]:=fun hn=>
    ⟨cJoinE_ok (by rw [hp];exact hn) (not_long (m:=2) hx (by rw [List.length_map,hp];show _*(2+0)<=_;omega)) (by rw [hJ,sizeLine_eq];omega) hJ,trivial⟩
  unfold wJ
  split
  · trivial
  · rename_i hn
    exact go fun h1=>by
      obtain ⟨a,ha⟩:=List.length_eq_one_iff.mp h1
      exact hn a ha
end
section
variable {T:Params->KT}{prog:Program}{w:World}
theorem quoted_ok {l:List (Option Nat)}(h:WL l)(hj:∀(tw tb:Tok)(b t:Nat),JobOk T prog (fun K P=>jobOf (wqSp l (qJ l) tw tb b t) (TF (wqSp l (qJ l) tw tb b t).c) (wqH l P) (wqC l (qJ l) b t) []) b t):WrdOk T prog w (oT l) 0 ((Y3++qJ l)++Y3):=by
  have q:=qBody_len l
  have n8:=h.n8
  have ql:(qJ l).length=(qBody l).length:=by rw [len_list];rfl
  have q1:(Y3++qJ l).length=(qBody l).length+1:=by rw [Str.length_append,ql];show 1+_=_;omega
  refine ⟨6,wqD l+1,fun _ t=>t+wqD l,fun tx tb b t=>?_⟩
  obtain ⟨p1,p2,p3⟩:=wqP_fst l (t+4)
  exact jobOf_ok (sp:=fun K P=>wqSp l (qJ l) tx tb b t) (C:=fun K P=>wqC l (qJ l) b t) (hj tx tb b t) (.inr rfl) rfl (by decide)
    ⟨cStrIter_ok h.asc,HOk.app (wqE_ok fun y hy=>(h.ok y hy).1) (HOk.app (wJ_ok h.n8 p2 p3 p1 (by rw [ql];omega)) ⟨cAdd_ok (by decide) (by rw [ql];exact q.2 h.n0) (by rw [q1,sizeLine_eq];omega),cAdd_ok (by rw [q1];omega) (by decide) (by rw [Str.length_append,q1,sizeLine_eq];show _+1+1<=_;omega),trivial⟩)⟩
theorem bare_ok {l:List (Option Nat)}(h:WL l)(hj:∀(tw tb:Tok)(b t:Nat),JobOk T prog (fun K P=>jobOf (wbSp l (bJ l) tw tb b t) (TF (wbSp l (bJ l) tw tb b t).c) (wbH l P) (wbC l (bJ l) b t) []) b t):WrdOk T prog w (oT l) 1 (bJ l):=by
  have q:=bBody_len l
  have n8:=h.n8
  have ql:(bJ l).length=(bBody l).length:=by rw [len_list];rfl
  refine ⟨6,wbD l+1,fun _ t=>t+wbD l,fun tx tb b t=>?_⟩
  obtain ⟨p1,p2,p3⟩:=wbP_fst l (t+4)
  exact jobOf_ok (sp:=fun K P=>wbSp l (bJ l) tx tb b t) (C:=fun K P=>wbC l (bJ l) b t) (hj tx tb b t) (.inr rfl) rfl (by decide)
    ⟨cStrIter_ok h.asc,HOk.app wbE_ok (wJ_ok h.n8 p2 p3 p1 (by rw [ql];omega))⟩
theorem oL_mem {f:Nat->Nat}{y:Nat}:∀{n s:Nat},some y∈oL f n s->∃j,y=f j
  | 0,_,h=>by cases h
  | n+1,s,h=>by
    unfold oL at h
    rcases List.mem_append.mp h with h | h
    · split at h
      · cases List.mem_singleton.mp h
      · cases h
    · rcases List.mem_cons.mp h with h | h
      · injection h with h;exact ⟨n,h⟩
      · exact oL_mem h
theorem oL_map {r:Nat}:∀{n s:Nat},(oL (sg r) n s).map owS=stL r n s
  | 0,_=>rfl
  | n+1,s=>by
    unfold oL stL
    rw [List.map_append,List.map_cons,oL_map]
    split<;>rfl
theorem oT_stand {r n s:Nat}:oT (oL (sg r) n s)=stS r n s:=by unfold oT;rw [oL_map];rfl
theorem sgWL (r j:Nat):okSign (sg r j)/\sg r j+1<128:=by
  have:=sg_ok r j
  exact ⟨⟨this.2.2.1,this.2.2.2.2.1,this.2.2.2.2.2⟩,this.2.2.2.1⟩
theorem WL.name (r j:Nat):WL [some (sg r j)]:=⟨fun y h=>by injection List.mem_singleton.mp h with h;rw [h];exact sgWL r j,by simp,by simp⟩
theorem WL.stand {r n z s:Nat}(F:SF n r z):WL (oL (sg r) n s):=by
  have h1:=stL_len (r:=r) (n:=n) (s:=s)
  rw [<- oL_map,List.length_map] at h1
  have:=F.n0;have:=F.n4
  refine ⟨fun y h=>?_,fun h=>?_,by omega⟩
  · obtain ⟨j,rfl⟩:=oL_mem h;exact sgWL r j
  · rw [h] at h1;simp at h1;omega
theorem name_q (H:AR T prog)(r j:Nat):WrdOk T prog w (nm r j) 0 ((Y3++qJ [some (sg r j)])++Y3):=quoted_ok (WL.name r j) (H.a_wq1 (sg r j))
theorem name_b (H:AR T prog)(r j:Nat):WrdOk T prog w (nm r j) 1 (bJ [some (sg r j)]):=bare_ok (WL.name r j) (H.a_wb1 (sg r j))
theorem stand_q {r z s:Nat}(F:SF 4 r z)(H:AR T prog)(hs:s<16):WrdOk T prog w (stS r 4 s) 0 ((Y3++qJ (oL (sg r) 4 s))++Y3):=by
  rw [<- oT_stand];exact quoted_ok (WL.stand F) (H.wq s hs (sg r) _)
theorem stand_b {r z s:Nat}(F:SF 4 r z)(H:AR T prog)(hs:s<16):WrdOk T prog w (stS r 4 s) 1 (bJ (oL (sg r) 4 s)):=by
  rw [<- oT_stand];exact bare_ok (WL.stand F) (H.wb s hs (sg r) _)
theorem stand_b3 {r z:Nat}(F:SF 3 r z)(H:AR T prog):WrdOk T prog w (stS r 3 5) 1 (bJ (oL (sg r) 3 5)):=by
  rw [<- oT_stand];exact bare_ok (WL.stand F) (H.a_wb_3_5 (sg r) _)
end
theorem zI_or (z j:Nat):zI z j=0∨zI z j=1:=by unfold zI;omega
theorem sh_some {n r s:Nat}(h:ShP r n s):∃y,shrun (quo (stS r n s))=some y/\∀j,j<n->inS y (nm r j)=shB s j:=by
  unfold ShP at h
  have e:shS r n s=shrun (quo (stS r n s)):=rfl
  cases hy:shS r n s with
  | none=>rw [hy] at h;cases h
  | some y=>rw [hy] at h;exact ⟨y,e▸hy,of_decide_eq_true h⟩
theorem quo_list {n r s:Nat}:(quo (stS r n s)).cps.toList=stL r n s++[34]:=by unfold quo;rw [Str.toList_append];rfl
section
variable {T:Params->KT}{prog:Program}{w:World}
theorem stOk {n r z s:Nat}(F:SF n r z)(H:AR T prog){y:Str}(hy:shrun (quo (stS r n s))=some y)(tx b t:Nat):∃tr da dt:Nat,SpOk (T w.params) prog w (stSp (quo (stS r n s)) y tx tr da dt 1) b t:=by
  have ql:=stS_len (s:=s) F
  have qq:(quo (stS r n s)).length=(stS r n s).length+1:=by unfold quo;rw [Str.length_append];rfl
  have hl:(quo (stS r n s)).length<=sizeLine:=by rw [qq,sizeLine_eq];omega
  refine cps fun Gp kp=>?_
  obtain ⟨st,items,h1,h2⟩:=shrun_sound hl hy
  refine kp ?_
  refine st_fn H.body h1 h2 ?_ ?_ ?_ hl tx b t
  · rw [<- Array.getElem?_toList,quo_list]
    intro h
    have:=List.getElem?_eq_none_iff.mp h
    simp at this
  · rw [<- Array.all_toList,quo_list,List.all_eq_true]
    intro c hc
    rw [decide_eq_true_eq]
    rcases List.mem_append.mp hc with m | m
    · rcases stL_mem m with h | ⟨j,h⟩
      · omega
      · rw [h];exact (sg_ok r j).2.2.2.1
    · rw [List.mem_singleton.mp m];decide
  · unfold inS
    rw [StrLaws.found_one,quo_list]
    simp
theorem numOk4 {r z s:Nat}(F:SF 4 r z)(H:AR T prog)(hs:s<2 ^ 4)(ab an:Addr)(eb en:Nat)(tz tn:Nat->Tok)(tq:Tok)(b t:Nat):∃tv da dt:Nat,SpOk (T w.params) prog w (numSp ab an (stS r 4 s) tq (liO #[.int (zI z 0) (tz 0),.int (zI z 1) (tz 1),.int (zI z 2) (tz 2),.int (zI z 3) (tz 3)] eb) (liO #[.str (nm r 0) (tn 0),.str (nm r 1) (tn 1),.str (nm r 2) (tn 2),.str (nm r 3) (tn 3)] en) (numB4 z s) tv da dt (0+1)) b t:=by
  obtain ⟨y,hy,hj⟩:=sh_some (F.sh s hs)
  have ql:=stS_len (s:=s) F
  have z':=num4_fn (w:=w) H.a_num4 H.a_nt4_0a H.a_nt4_0n H.a_nt4_1a H.a_nt4_1n H.a_nt4_2a H.a_nt4_2n H.a_nt4_3a H.a_nt4_3n H.a_nE H.a_su1_0 H.a_su1_1 H.a_su2_00 H.a_su2_01 H.a_su2_10 H.a_su2_11 H.a_su3_000 H.a_su3_001 H.a_su3_010 H.a_su3_011 H.a_su3_100 H.a_su3_101 H.a_su3_110 H.a_su3_111 ab an eb en (zI z 0) (zI z 1) (zI z 2) (zI z 3) (tz 0) (tz 1) (tz 2) (tz 3) (nm r 0) (nm r 1) (nm r 2) (nm r 3) (tn 0) (tn 1) (tn 2) (tn 3) (stS r 4 s) y tq 1 (zI_or z 0) (zI_or z 1) (zI_or z 2) (zI_or z 3) ql.1 (by omega) (fun b' t'=>stOk F H hy _ b' t') b t
  have e:numP4 y (zI z 0) (zI z 1) (zI z 2) (zI z 3) (nm r 0) (nm r 1) (nm r 2) (nm r 3)=numB4 z s:=by
    unfold numP4 numB4
    rw [hj 0 (by decide),hj 1 (by decide),hj 2 (by decide),hj 3 (by decide)]
  rw [e] at z'
  exact z'
theorem hvOk4 {r z:Nat}(hr:r<8)(hz:z<16)(t:Nat):∀j,j<4->(hvA4 (zI z 0) (zI z 1) (zI z 2) (zI z 3) (nm r 0) (nm r 1) (nm r 2) (nm r 3) t)[j]?=some (.str (dts++sufS r j (endB z j)) (t+(13+12*j))):=by
  refine cps fun Gp kp=>?_
  obtain ⟨g0,g1,g2,g3⟩:=hq_all r hr z hz
  refine kp ?_
  intro j hj
  match j,hj with
    | 0,_=>show some (Value.str (Y35++nm r 0) _)=_;rw [g0]
    | 1,_=>show some (Value.str ((Y35++nm r 1)++hq1 (zI z 1) (nm r 0)) _)=_;rw [Str.append_assoc,g1]
    | 2,_=>show some (Value.str ((Y35++nm r 2)++hq2 (zI z 1) (zI z 2) (nm r 0) (nm r 1)) _)=_;rw [Str.append_assoc,g2]
    | 3,_=>show some (Value.str ((Y35++nm r 3)++hq3 (zI z 1) (zI z 2) (zI z 3) (nm r 0) (nm r 1) (nm r 2)) _)=_;rw [Str.append_assoc,g3]
theorem nsOk4 {r:Nat}(tn:Nat->Tok):∀j,j<4->(#[.str (nm r 0) (tn 0),.str (nm r 1) (tn 1),.str (nm r 2) (tn 2),.str (nm r 3) (tn 3)]:Array Value)[j]?=some (.str (nm r j) (tn j)):=by
  intro j hj
  match j,hj with
    | 0,_=>rfl
    | 1,_=>rfl
    | 2,_=>rfl
    | 3,_=>rfl
theorem walkOk4 {r z s:Nat}(hr:r<8)(hz:z<16)(H:AR T prog)(hs:s<2 ^ 4)(hW:WalkP 4 z s (numB4 z s) (numB4 z))(X:Lx)(ab an:Addr)(eb en:Nat)(tz tn:Nat->Tok)(ln:Value)(e:Nat)(tx:Tok)(b t:Nat)(ht:∀j,j<4->0<tn j/\tn j<t):
    ∃(a:Addr)(f:Nat->Tp)(ex e' da dt:Nat),(List.range 16).map (fun i=>((f i).x,(f i).v))=(([],numB4 z s)::ways 4 (numB4 z s)).map (fun y=>(pathR (nm r) y.1,y.2))/\SpOk (T w.params) prog w (wkSp X ab an (liO #[.int (zI z 0) (tz 0),.int (zI z 1) (tz 1),.int (zI z 2) (tz 2),.int (zI z 3) (tz 3)] eb) (liO #[.str (nm r 0) (tn 0),.str (nm r 1) (tn 1),.str (nm r 2) (tn 2),.str (nm r 3) (tn 3)] en) (X.dO w.params ln) (X.dO w.params ln) (liO #[.str (Y36++stS r 4 s) tx] e) (liO #[] e') a 16 f ex da dt (0+((0+(0+1))+15*(0+1)))) b t:=by
  have F:SF 4 r z:=SF4 hr hz
  refine cps fun Gp kp=>?_
  obtain ⟨w1,w2,w3,w4,w5⟩:=hW
  have hO:=fun s (hs:s<2 ^ 4)=>rgOk (w:=w) F hs H.a_ell0 H.a_ell1 H.a_turn0 H.a_turn1 (nsOk4 tn) (hvOk4 hr hz (t+3)) ht
  have hN:=fun s (hs:s<2 ^ 4) (tq:Tok) b' t'=>numOk4 (w:=w) F H hs ab an eb en tz tn tq b' t'
  have rel:=aW_rel F H.a_strip1 (bs:=#[.int (zI z 0) (tz 0),.int (zI z 1) (tz 1),.int (zI z 2) (tz 2),.int (zI z 3) (tz 3)]) (eb:=eb) (ab:=ab) (an:=an) (en:=en) (GN:=0+1) hO hN (2 ^ 4-1) _ _ w5
  have xl:(Y36++stS r 4 s).cps.toList=58::(stS r 4 s).cps.toList:=by rw [Str.toList_append];rfl
  have ql:=stS_len (s:=s) F
  have xs:(Y36++stS r 4 s).length=(stS r 4 s).length+1:=by rw [Str.length_append];show 1+_=_;omega
  have xz:(Y36++stS r 4 s).length<=sizeLine:=by rw [xs,sizeLine_eq];omega
  have sf:=fun tx b t=>strip_first (w:=w) (x:=Y36++stS r 4 s) (q:=stS r 4 s) xl stL_not.1 stL_not.2.2 stL_not.2.1 H.a_strip0 xz tx b t
  have a58:=(sf 0 0 0).1
  have hP:=pushes_eq F hs (tn:=tn) (th:=fun j=>(t+3)+(13+12*j)) (la:=Y2) (lb:=99) (fun j hj=>by
    have:j≠99:=by omega
    rw [bne_iff_ne.mpr this];rfl) 4 0 (by omega)
  have hF:FFact T prog w 4 (rgG r z tn (fun j=>(t+3)+(13+12*j))) #[.str (nm r 0) (tn 0),.str (nm r 1) (tn 1),.str (nm r 2) (tn 2),.str (nm r 3) (tn 3)] (hvA4 (zI z 0) (zI z 1) (zI z 2) (zI z 3) (nm r 0) (nm r 1) (nm r 2) (nm r 3) (t+3)) #[.int (zI z 0) (tz 0),.int (zI z 1) (tz 1),.int (zI z 2) (tz 2),.int (zI z 3) (tz 3)] en eb ab an (0+1) t (Y36++stS r 4 s) (stS r 4 s) Y2 (numB4 z s):=by
    refine ⟨?_,?_,xz,cut_one a58 xl rfl,rfl,?_,hO s hs,hN s hs,fun tx b' t'=>(sf tx b' t').2,by rw [hP];exact w1⟩
    · have h1:¬ ((Y36++stS r 4 s).length<Y36.length):=by show ¬ (_<1);omega
      rw [decide_eq_false h1,Bool.false_or]
      have hk:Str.strKind (Y36++stS r 4 s)≥1:=by unfold Str.strKind;split;exact Nat.le_refl _;(split<;>decide)
      have hk2:Str.strKind Y36=1:=by decide +kernel
      rw [hk2,decide_eq_false];omega
    · rw [occ_one (by omega) a58.1 a58.2];rfl
    · have e0:(rgG r z tn (fun j=>(t+3)+(13+12*j)) (stS r 4 s) 0).m=(s % 2 ^ 0==endB z 0):=F.ends s hs 0 (by decide) _ (F.eb 0 (by decide))
      rw [e0]
      have:endB z 0=0:=by have:=F.eb 0 (by decide);omega
      rw [this]
      simp;omega
  have hq:(pushes (rgG r z tn (fun j=>(t+3)+(13+12*j)) (stS r 4 s)) Y2 0 4).map (pushT0 (rgG r z tn (fun j=>(t+3)+(13+12*j)) (stS r 4 s)))=((aPush (mvB z s) 99 0 4).map fun j=>([j],flip s j)).map (tokS r 4):=by
    rw [hP,List.map_map]
    exact List.map_congr_left fun i hi=>pushT0_eq F hs (aPush_lt 4 0 (by omega) i hi)
  obtain ⟨a,pb,f,ex,e',da,dt,h1,h2,h3⟩:=wlk4_fn (w:=w) H.a_wlk4 H.a_hinge4 H.a_oF_4 H.a_oT1_4 H.a_oT2_4 H.a_oE H.a_pop1 H.a_pop2 H.a_i9m H.a_ime1 H.a_iskip H.a_ino H.a_imp0 H.a_imp1 H.a_iE H.a_push0 H.a_push1 X ab an eb en (zI z 0) (zI z 1) (zI z 2) (zI z 3) (tz 0) (tz 1) (tz 2) (tz 3) (tn 0) (tn 1) (tn 2) (tn 3) (nm r 0) (nm r 1) (nm r 2) (nm r 3) (zI_or z 0) (zI_or z 1) (zI_or z 2) (zI_or z 3) rfl rfl rfl rfl ln e (Y36++stS r 4 s) tx (stS r 4 s) Y2 (numB4 z s) (0+1) (rgG r z tn (fun j=>(t+3)+(13+12*j))) ((ways 4 (numB4 z s)).map fun y=>(pathR (nm r) y.1,y.2)) [] t b t (Nat.le_refl _) hF (by rw [hq];exact rel)
  refine kp ?_
  have hpb:pb=[]:=List.map_eq_nil_iff.mp h2
  subst hpb
  exact ⟨a,f,ex,e',da,dt,h1,h3⟩
theorem ring_ok:∀k:Nat,1<=k->k<16->∃o,Ring (k:Int) (ringOf k) o
  | 1,_,_=>⟨_,.odd rfl⟩
  | 2,_,_=>⟨_,.even rfl (fun _ _=>rfl) (.odd rfl)⟩
  | 3,_,_=>⟨_,.odd rfl⟩
  | 4,_,_=>⟨_,.even rfl (fun _ _=>rfl) (.even rfl (fun _ _=>rfl) (.odd rfl))⟩
  | 5,_,_=>⟨_,.odd rfl⟩
  | 6,_,_=>⟨_,.even rfl (fun _ _=>rfl) (.odd rfl)⟩
  | 7,_,_=>⟨_,.odd rfl⟩
  | 8,_,_=>⟨_,.even rfl (fun _ _=>rfl) (.even rfl (fun _ _=>rfl) (.even rfl (fun _ _=>rfl) (.odd rfl)))⟩
  | 9,_,_=>⟨_,.odd rfl⟩
  | 10,_,_=>⟨_,.even rfl (fun _ _=>rfl) (.odd rfl)⟩
  | 11,_,_=>⟨_,.odd rfl⟩
  | 12,_,_=>⟨_,.even rfl (fun _ _=>rfl) (.even rfl (fun _ _=>rfl) (.odd rfl))⟩
  | 13,_,_=>⟨_,.odd rfl⟩
  | 14,_,_=>⟨_,.even rfl (fun _ _=>rfl) (.odd rfl)⟩
  | 15,_,_=>⟨_,.odd rfl⟩
  | m+16,_,h=>absurd h (by omega)
theorem ring_lt:(∀k,k<16->ringOf k<4)/\∀k,k<8->1<=k->ringOf k<3:=by decide
theorem wayOkG {n M r:Nat}(hnM:n=4/\M=15∨n=3/\M=7)(H:∀o,wayRun o n M T prog)(R:WRuns T prog){ns:Array Value}{tn:Nat->Tok}(hsz:ns.size=n)(hns:∀j,j<n->ns[j]?=some (.str (nm r j) (tn j)))(v:Int)(h0:0<=v)(h1:v<((M+1:Nat):Int))(hL:(wayGo (v % 2==1) ((M+1:Nat):Int) v M 1 [] []).length=M)(an:Addr)(en:Nat)(ts:Tok)(b t:Nat):
    ∃(a:Addr)(f:Nat->Tp)(ex da dt:Nat),(List.range (M+1)).map (fun i=>((f i).x,(f i).v))=(([],v)::wayGo (v % 2==1) ((M+1:Nat):Int) v M 1 [] []).map (fun y=>(pathR (nm r) y.1,y.2))/\SpOk (T w.params) prog w (wySp an (liO ns en) v ts a (M+1) f ex da dt) b t:=by
  have hM:M=15∨M=7:=hnM.elim (fun h=>.inl h.2) fun h=>.inr h.2
  refine way_fn (w:=w) (H _) R an v ts ns en (nm r) tn ⟨hsz,?_,?_,hns,fun _=>rfl,fun g g1 g2=>?_,h0,h1,?_⟩ ?_ ?_ ?_ ?_ ?_ hL b t
  · show n<=10;omega
  · rcases hnM with ⟨rfl,rfl⟩ | ⟨rfl,rfl⟩<;>exact fun _ _=>rfl
  · obtain ⟨k,rfl⟩:∃k:Nat,g=k:=⟨g.toNat,by omega⟩
    have g2':(k:Int)<((M+1:Nat):Int):=g2
    have k1:1<=k:=by omega
    have k2:k<M+1:=by omega
    obtain ⟨o,ho⟩:=ring_ok k k1 (by omega)
    refine ⟨o,ho,?_⟩
    show ringOf k<n
    rcases hnM with ⟨rfl,rfl⟩ | ⟨rfl,rfl⟩
    · exact ring_lt.1 k k2
    · exact ring_lt.2 k k2 k1
  · show ((M+1:Nat):Int)<=16;omega
  · rw [sizeLine_eq];omega
  · omega
  · rcases hM with rfl | rfl<;>decide
  · rw [Int.fmod_eq_emod_of_nonneg _ (by decide)]
    rcases Int.emod_two_eq v with h | h<;>rw [h]<;>rfl
  · unfold inR
    rcases Int.emod_two_eq v with h | h<;>rw [h]
    · show (decide (0<=v+1*1)&&decide (v+1*1<((M+1:Nat):Int)))=true
      rw [decide_eq_true (by omega),decide_eq_true (by omega)];rfl
    · show (decide (0<=v+1*(-1))&&decide (v+1*(-1)<((M+1:Nat):Int)))=true
      rw [decide_eq_true (by omega),decide_eq_true (by omega)];rfl
theorem wayOk4 {r:Nat}(H:AR T prog)(v:Int)(h0:0<=v)(h1:v<16)(hL:(ways 4 v).length=15)(an:Addr)(en:Nat)(tn:Nat->Tok)(ts:Tok)(b t:Nat):
    ∃(a:Addr)(f:Nat->Tp)(ex da dt:Nat),(List.range 16).map (fun i=>((f i).x,(f i).v))=(([],v)::ways 4 v).map (fun y=>(pathR (nm r) y.1,y.2))/\SpOk (T w.params) prog w (wySp an (liO #[.str (nm r 0) (tn 0),.str (nm r 1) (tn 1),.str (nm r 2) (tn 2),.str (nm r 3) (tn 3)] en) v ts a 16 f ex da dt) b t:=
  wayOkG (.inl ⟨rfl,rfl⟩) H.w4 H.wr rfl (nsOk4 tn) v h0 h1 hL an en ts b t
theorem numOk3 {r z s:Nat}(F:SF 3 r z)(H:AR T prog)(hs:s<2 ^ 3)(ab an:Addr)(eb en:Nat)(tz tn:Nat->Tok)(tq:Tok)(b t:Nat):∃tv da dt:Nat,SpOk (T w.params) prog w (numSp ab an (stS r 3 s) tq (liO #[.int (zI z 0) (tz 0),.int (zI z 1) (tz 1),.int (zI z 2) (tz 2)] eb) (liO #[.str (nm r 0) (tn 0),.str (nm r 1) (tn 1),.str (nm r 2) (tn 2)] en) (numB3 z s) tv da dt (0+1)) b t:=by
  obtain ⟨y,hy,hj⟩:=sh_some (F.sh s hs)
  have ql:=stS_len (s:=s) F
  have z':=num3_fn (w:=w) H.a_num3 H.a_nt3_0a H.a_nt3_0n H.a_nt3_1a H.a_nt3_1n H.a_nt3_2a H.a_nt3_2n H.a_nE H.a_su1_0 H.a_su1_1 H.a_su2_00 H.a_su2_01 H.a_su2_10 H.a_su2_11 ab an eb en (zI z 0) (zI z 1) (zI z 2) (tz 0) (tz 1) (tz 2) (nm r 0) (nm r 1) (nm r 2) (tn 0) (tn 1) (tn 2) (stS r 3 s) y tq 1 (zI_or z 0) (zI_or z 1) (zI_or z 2) ql.1 (by omega) (fun b' t'=>stOk F H hy _ b' t') b t
  have e:numP3 y (zI z 0) (zI z 1) (zI z 2) (nm r 0) (nm r 1) (nm r 2)=numB3 z s:=by
    unfold numP3 numB3
    rw [hj 0 (by decide),hj 1 (by decide),hj 2 (by decide)]
  rw [e] at z'
  exact z'
theorem hvOk3 {r z:Nat}(hr:r=2)(hz:z<8)(t:Nat):∀j,j<3->(hvA3 (zI z 0) (zI z 1) (zI z 2) (nm r 0) (nm r 1) (nm r 2) t)[j]?=some (.str (dts++sufS r j (endB z j)) (t+(13+12*j))):=by
  refine cps fun Gp kp=>?_
  obtain ⟨g0,g1,g2,g3⟩:=hq_all r (hr▸by decide) z (by omega)
  refine kp ?_
  intro j hj
  match j,hj with
    | 0,_=>show some (Value.str (Y35++nm r 0) _)=_;rw [g0]
    | 1,_=>show some (Value.str ((Y35++nm r 1)++hq1 (zI z 1) (nm r 0)) _)=_;rw [Str.append_assoc,g1]
    | 2,_=>show some (Value.str ((Y35++nm r 2)++hq2 (zI z 1) (zI z 2) (nm r 0) (nm r 1)) _)=_;rw [Str.append_assoc,g2]
theorem nsOk3 {r:Nat}(tn:Nat->Tok):∀j,j<3->(#[.str (nm r 0) (tn 0),.str (nm r 1) (tn 1),.str (nm r 2) (tn 2)]:Array Value)[j]?=some (.str (nm r j) (tn j)):=by
  intro j hj
  match j,hj with
    | 0,_=>rfl
    | 1,_=>rfl
    | 2,_=>rfl
theorem walkOk3 {r z s:Nat}(hr:r=2)(hz:z<8)(H:AR T prog)(hs:s<2 ^ 3)(hW:WalkP 3 z s (numB3 z s) (numB3 z))(X:Lx)(ab an:Addr)(eb en:Nat)(tz tn:Nat->Tok)(ln:Value)(e:Nat)(tx:Tok)(b t:Nat)(ht:∀j,j<3->0<tn j/\tn j<t):
    ∃(a:Addr)(f:Nat->Tp)(ex e' da dt:Nat),(List.range 8).map (fun i=>((f i).x,(f i).v))=(([],numB3 z s)::ways 3 (numB3 z s)).map (fun y=>(pathR (nm r) y.1,y.2))/\SpOk (T w.params) prog w (wkSp X ab an (liO #[.int (zI z 0) (tz 0),.int (zI z 1) (tz 1),.int (zI z 2) (tz 2)] eb) (liO #[.str (nm r 0) (tn 0),.str (nm r 1) (tn 1),.str (nm r 2) (tn 2)] en) (X.dO w.params ln) (X.dO w.params ln) (liO #[.str (Y36++stS r 3 s) tx] e) (liO #[] e') a 8 f ex da dt (0+((0+(0+1))+7*(0+1)))) b t:=by
  have F:SF 3 r z:=(hr▸SF3 hz)
  refine cps fun Gp kp=>?_
  obtain ⟨w1,w2,w3,w4,w5⟩:=hW
  have hO:=fun s (hs:s<2 ^ 3)=>rgOk (w:=w) F hs H.a_ell0 H.a_ell1 H.a_turn0 H.a_turn1 (nsOk3 tn) (hvOk3 hr hz (t+3)) ht
  have hN:=fun s (hs:s<2 ^ 3) (tq:Tok) b' t'=>numOk3 (w:=w) F H hs ab an eb en tz tn tq b' t'
  have rel:=aW_rel F H.a_strip1 (bs:=#[.int (zI z 0) (tz 0),.int (zI z 1) (tz 1),.int (zI z 2) (tz 2)]) (eb:=eb) (ab:=ab) (an:=an) (en:=en) (GN:=0+1) hO hN (2 ^ 3-1) _ _ w5
  have xl:(Y36++stS r 3 s).cps.toList=58::(stS r 3 s).cps.toList:=by rw [Str.toList_append];rfl
  have ql:=stS_len (s:=s) F
  have xs:(Y36++stS r 3 s).length=(stS r 3 s).length+1:=by rw [Str.length_append];show 1+_=_;omega
  have xz:(Y36++stS r 3 s).length<=sizeLine:=by rw [xs,sizeLine_eq];omega
  have sf:=fun tx b t=>strip_first (w:=w) (x:=Y36++stS r 3 s) (q:=stS r 3 s) xl stL_not.1 stL_not.2.2 stL_not.2.1 H.a_strip0 xz tx b t
  have a58:=(sf 0 0 0).1
  have hP:=pushes_eq F hs (tn:=tn) (th:=fun j=>(t+3)+(13+12*j)) (la:=Y2) (lb:=99) (fun j hj=>by
    have:j≠99:=by omega
    rw [bne_iff_ne.mpr this];rfl) 3 0 (by omega)
  have hF:FFact T prog w 3 (rgG r z tn (fun j=>(t+3)+(13+12*j))) #[.str (nm r 0) (tn 0),.str (nm r 1) (tn 1),.str (nm r 2) (tn 2)] (hvA3 (zI z 0) (zI z 1) (zI z 2) (nm r 0) (nm r 1) (nm r 2) (t+3)) #[.int (zI z 0) (tz 0),.int (zI z 1) (tz 1),.int (zI z 2) (tz 2)] en eb ab an (0+1) t (Y36++stS r 3 s) (stS r 3 s) Y2 (numB3 z s):=by
    refine ⟨?_,?_,xz,cut_one a58 xl rfl,rfl,?_,hO s hs,hN s hs,fun tx b' t'=>(sf tx b' t').2,by rw [hP];exact w1⟩
    · have h1:¬ ((Y36++stS r 3 s).length<Y36.length):=by show ¬ (_<1);omega
      rw [decide_eq_false h1,Bool.false_or]
      have hk:Str.strKind (Y36++stS r 3 s)≥1:=by unfold Str.strKind;split;exact Nat.le_refl _;(split<;>decide)
      have hk2:Str.strKind Y36=1:=by decide +kernel
      rw [hk2,decide_eq_false];omega
    · rw [occ_one (by omega) a58.1 a58.2];rfl
    · have e0:(rgG r z tn (fun j=>(t+3)+(13+12*j)) (stS r 3 s) 0).m=(s % 2 ^ 0==endB z 0):=F.ends s hs 0 (by decide) _ (F.eb 0 (by decide))
      rw [e0]
      have:endB z 0=0:=by have:=F.eb 0 (by decide);omega
      rw [this]
      simp;omega
  have hq:(pushes (rgG r z tn (fun j=>(t+3)+(13+12*j)) (stS r 3 s)) Y2 0 3).map (pushT0 (rgG r z tn (fun j=>(t+3)+(13+12*j)) (stS r 3 s)))=((aPush (mvB z s) 99 0 3).map fun j=>([j],flip s j)).map (tokS r 3):=by
    rw [hP,List.map_map]
    exact List.map_congr_left fun i hi=>pushT0_eq F hs (aPush_lt 3 0 (by omega) i hi)
  obtain ⟨a,pb,f,ex,e',da,dt,h1,h2,h3⟩:=wlk3_fn (w:=w) H.a_wlk3 H.a_hinge3 H.a_oF_3 H.a_oT1_3 H.a_oT2_3 H.a_oE H.a_pop1 H.a_pop2 H.a_i9m H.a_ime1 H.a_iskip H.a_ino H.a_imp0 H.a_imp1 H.a_iE H.a_push0 H.a_push1 X ab an eb en (zI z 0) (zI z 1) (zI z 2) (tz 0) (tz 1) (tz 2) (tn 0) (tn 1) (tn 2) (nm r 0) (nm r 1) (nm r 2) (zI_or z 0) (zI_or z 1) (zI_or z 2) rfl rfl rfl ln e (Y36++stS r 3 s) tx (stS r 3 s) Y2 (numB3 z s) (0+1) (rgG r z tn (fun j=>(t+3)+(13+12*j))) ((ways 3 (numB3 z s)).map fun y=>(pathR (nm r) y.1,y.2)) [] t b t (Nat.le_refl _) hF (by rw [hq];exact rel)
  refine kp ?_
  have hpb:pb=[]:=List.map_eq_nil_iff.mp h2
  subst hpb
  exact ⟨a,f,ex,e',da,dt,h1,h3⟩
theorem wayOk3 {r:Nat}(H:AR T prog)(v:Int)(h0:0<=v)(h1:v<8)(hL:(ways 3 v).length=7)(an:Addr)(en:Nat)(tn:Nat->Tok)(ts:Tok)(b t:Nat):
    ∃(a:Addr)(f:Nat->Tp)(ex da dt:Nat),(List.range 8).map (fun i=>((f i).x,(f i).v))=(([],v)::ways 3 v).map (fun y=>(pathR (nm r) y.1,y.2))/\SpOk (T w.params) prog w (wySp an (liO #[.str (nm r 0) (tn 0),.str (nm r 1) (tn 1),.str (nm r 2) (tn 2)] en) v ts a 8 f ex da dt) b t:=
  wayOkG (.inr ⟨rfl,rfl⟩) H.w3 H.wr rfl (nsOk3 tn) v h0 h1 hL an en ts b t
end
theorem mod840 {a c:Int}(h:a.fmod 840=c):∀t u,Builtin.«int.__mod__» ⟨[.int a t,.int 840 u],[]⟩=(Made.int c).tree:=by subst h;exact fun _ _=>rfl
theorem mod8 {a c:Int}(h:a.fmod 8=c):∀t u,Builtin.«int.__mod__» ⟨[.int a t,.int 8 u],[]⟩=(Made.int c).tree:=by subst h;exact fun _ _=>rfl
theorem mod2 {a c:Int}(h:a.fmod 2=c):∀t u,Builtin.«int.__mod__» ⟨[.int a t,.int 2 u],[]⟩=(Made.int c).tree:=by subst h;exact fun _ _=>rfl
theorem div1 {a c:Int}(h:a.fdiv 1=c):∀t u,Builtin.«int.__floordiv__» ⟨[.int a t,.int 1 u],[]⟩=(Made.int c).tree:=by subst h;exact fun _ _=>rfl
theorem div2 {a c:Int}(h:a.fdiv 2=c):∀t u,Builtin.«int.__floordiv__» ⟨[.int a t,.int 2 u],[]⟩=(Made.int c).tree:=by subst h;exact fun _ _=>rfl
theorem div4 {a c:Int}(h:a.fdiv 4=c):∀t u,Builtin.«int.__floordiv__» ⟨[.int a t,.int 4 u],[]⟩=(Made.int c).tree:=by subst h;exact fun _ _=>rfl
theorem div8 {a c:Int}(h:a.fdiv 8=c):∀t u,Builtin.«int.__floordiv__» ⟨[.int a t,.int 8 u],[]⟩=(Made.int c).tree:=by subst h;exact fun _ _=>rfl
theorem nmod (a b:Nat):((a:Int)).fmod (b:Int)=((a % b:Nat):Int):=by rw [Int.fmod_eq_emod_of_nonneg _ (Int.natCast_nonneg b)];rfl
theorem ndiv (a b:Nat):((a:Int)).fdiv (b:Int)=((a / b:Nat):Int):=by rw [Int.fdiv_eq_ediv_of_nonneg _ (Int.natCast_nonneg b)];rfl
theorem name_idx:∀m:Nat,m<8->(decide ((m:Int) < -(2 ^ 63:Int))||decide ((m:Int)≥2 ^ 63))=false/\(seqIndex? (m:Int) Y50.length).bind (Y50.cps[·]?)=some (([96,34,31,39,97,8,40,44]:List Nat).getD m 0+1):=by decide
theorem name_at (k2 j:Nat):(decide ((((k2+j) % 8:Nat):Int) < -(2 ^ 63:Int))||decide ((((k2+j) % 8:Nat):Int)≥2 ^ 63))=false/\(seqIndex? (((k2+j) % 8:Nat):Int) Y50.length).bind (Y50.cps[·]?)=some (sg (k2 % 8) j+1):=by
  have:=name_idx ((k2+j) % 8) (Nat.mod_lt _ (by decide))
  unfold sg
  rw [show (k2 % 8+j) % 8=(k2+j) % 8 by omega]
  exact this
theorem rgT_list (s j y:Nat):(rgT (zI s j) y).cps.toList=(if s / 2 ^ j % 2=1 then [34] else [])++[y+1]:=by
  unfold rgT zI
  rcases (show s / 2 ^ j % 2=0∨s / 2 ^ j % 2=1 by omega) with h | h
  · rw [h];rfl
  · rw [h];rfl
theorem rgT_len (m:Int)(y:Nat):(rgT m y).length<=2:=by unfold rgT;split;(show 1<=2;decide);exact Nat.le_refl 2
theorem head_of {g:Nat->Str×Int}{n:Nat}{a:Str×Int}{l:List (Str×Int)}(h:(List.range (n+1)).map g=a::l):g 0=a:=by
  rw [List.range_succ_eq_map,List.map_cons] at h
  exact (List.cons.inj h).1
section
variable {T:Params->KT}{prog:Program}{w:World}{A:Around}{Q:Flow->Shared->Prop}{E:Value->Shared->Prop}{s0:Shared}
theorem comp6_4 {r z s:Nat}(hr8:r<8)(hz:z<16)(H:AR T prog)(hs:s<2 ^ 4)(F:SF 4 r z)(hW:WalkP 4 z s (numB4 z s) (numB4 z))(hr:Room 116 A)(sa:Addr)(so:Obj)(hQ:∀s tb,KeepL s0 s->s.heap.get? sa=some so->s.heap.get? 86=some (tabO tb)->Q (.ret (.bool true)) s)(fr cc cn cl:Addr)(k:Nat->Tok)(tc:Tok)(la:Addr)(el:Nat)(c0 c1:Int)(k2:Nat)(t0 t1 t2:Tok)(na:Addr)(en:Nat)(tn0 tn1 tn2 tn3:Tok)(ab:Addr)(eb:Nat)(tz0 tz1 tz2 tz3 tf:Tok)(aw:Addr)(ew:Nat)(tm0 tm1 tm2 tm3:Tok)(b t:Nat)
    (hn:∀j,j<4->0<(fun j=>([tn0,tn1,tn2,tn3]:List Tok).getD j 0) j/\(fun j=>([tn0,tn1,tn2,tn3]:List Tok).getD j 0) j<t) (bb:Int) (hbb:((k2 / 8 % 2:Nat):Int)=bb) (W0 W1 W2 W3 W4 x:Str) (l0 l1 l2 l3 l4 p0 p1 p2 p3 p4:Int)
    (hw0:WrdOk T prog w (nm r 0) bb W0) (hw1:WrdOk T prog w (nm r 1) bb W1) (hw2:WrdOk T prog w (nm r 2) bb W2) (hw3:WrdOk T prog w (nm r 3) bb W3) (hw4:WrdOk T prog w (stS r 4 s) bb W4)
    (hgl:glued Y14 [W0,W1,W2,W3,W4]=x) (hlen:∀y∈[W0,W1,W2,W3,W4],y.length<=30) (hx:x.length<=1000)
    (hg0:∀(X:Lx)(S:Sm)(tx:Tok)(ea ep:Nat),GtOk T prog w X S x tx ea ep 1 l0 0 p0 (nm r 0))
    (hg1:∀(X:Lx)(S:Sm)(tx:Tok)(ea ep:Nat),GtOk T prog w X S x tx ea ep l0 l1 p0 p1 (nm r 1))
    (hg2:∀(X:Lx)(S:Sm)(tx:Tok)(ea ep:Nat),GtOk T prog w X S x tx ea ep l1 l2 p1 p2 (nm r 2))
    (hg3:∀(X:Lx)(S:Sm)(tx:Tok)(ea ep:Nat),GtOk T prog w X S x tx ea ep l2 l3 p2 p3 (nm r 3))
    (hg4:∀(X:Lx)(S:Sm)(tx:Tok)(ea ep:Nat),GtOk T prog w X S x tx ea ep l3 l4 p3 p4 (stS r 4 s))
    (hl:((l4:Int) != 5)=false) (hz2:2<=x.length) (hpe:p4=(x.length:Int)):St T prog w A Q E s0 fr cc cn cl 6 ([(fr,frO #[ent w.params Y48 (k 0) (.ref sa),ent w.params Y49 (k 1) (.int 4 tc),ent w.params Y32 (k 2) (.ref ab),ent w.params Y51 (k 3) (.str (stS r 4 s) tf),ent w.params Y52 (k 4) (.ref aw)] 5),(cc,ceO (some (.ref la))),(cl,ceO none),(la,liO #[.int c0 t0,.int c1 t1,.int (k2:Int) t2] el),(aw,liO #[.str ⟨#[sg r 0+1]⟩ tm0,.str ⟨#[sg r 1+1]⟩ tm1,.str ⟨#[sg r 2+1]⟩ tm2,.str ⟨#[sg r 3+1]⟩ tm3,.str (stS r 4 s) tf] ew),(86,tabO #[]),(cn,ceO (some (.ref na))),(na,liO #[.str ⟨#[sg r 0+1]⟩ tn0,.str ⟨#[sg r 1+1]⟩ tn1,.str ⟨#[sg r 2+1]⟩ tn2,.str ⟨#[sg r 3+1]⟩ tn3] en),(ab,liO #[.int (zI z 0) tz0,.int (zI z 1) tz1,.int (zI z 2) tz2,.int (zI z 3) tz3] eb),(sa,so)]) b t:=by
  have hL:=H.len w.params
  have hxs:x.length<=sizeLine:=by rw [sizeLine_eq];omega
  have ql:=stS_len (s:=s) F
  refine law6_4 H.a_s6_4 H.a_lexer hL hr fr cc cn cl k sa so tc la el c0 c1 (k2:Int) t0 t1 t2 (sg r 0) (sg r 1) (sg r 2) (sg r 3) na en tn0 tn1 tn2 tn3 ab eb (zI z 0) (zI z 1) (zI z 2) (zI z 3) tz0 tz1 tz2 tz3 (stS r 4 s) tf aw ew tm0 tm1 tm2 tm3 ((k2 / 8:Nat):Int) bb W0 W1 W2 W3 W4 x b t (div8 (ndiv k2 8)) (mod2 ((nmod (k2 / 8) 2).trans hbb)) hw0 hw1 hw2 hw3 hw4 (not_long (m:=30) hlen (by show 5*(30+1)<=_;decide)) hgl hxs ?_
  intro tb X S tx tl tp ea ep b7 t7 e7
  refine law7_4 H.a_e1_4 H.a_e1r H.a_e2_4 (H.ifs _) hL hr fr cc cn cl k sa so tc tb (sg r 0) (sg r 1) (sg r 2) (sg r 3) na en tn0 tn1 tn2 tn3 ab eb (zI z 0) (zI z 1) (zI z 2) (zI z 3) tz0 tz1 tz2 tz3 (stS r 4 s) tf aw ew tm0 tm1 tm2 tm3 X S x tx 1 tl 0 tp ea ep p0 p1 p2 p3 p4 l0 l1 l2 l3 l4 b7 t7 (hg0 X S tx ea ep) (hg1 X S tx ea ep) (hg2 X S tx ea ep) (hg3 X S tx ea ep) (hg4 X S tx ea ep) hl ?_
  intro tl tp b8 t8 e8
  refine law8_4 H.a_s8_4 H.a_push0 hL hr fr cc cn cl k sa so tc tb na en tn0 tn1 tn2 tn3 ab eb (zI z 0) (zI z 1) (zI z 2) (zI z 3) tz0 tz1 tz2 tz3 (sg r 0) (sg r 1) (sg r 2) (sg r 3) (stS r 4 s) tf aw X S x tx l4 tl p4 tp ea ep b8 t8 ql.1 (by rw [Str.length_append,sizeLine_eq];show 1+_<=_;omega) ?_
  intro tu ep b9 t9 e9
  refine law9_4 H.a_s9_4 hL hr fr cc cn cl k sa so tc tb na en tn0 tn1 tn2 tn3 ab eb (zI z 0) (zI z 1) (zI z 2) (zI z 3) tz0 tz1 tz2 tz3 (sg r 0) (sg r 1) (sg r 2) (sg r 3) (stS r 4 s) tf aw X S x tx l4 tl p4 tp ea ep (Y36++(stS r 4 s)) tu (0+((0+(0+1))+15*(0+1))) ((([],numB4 z s)::ways 4 (numB4 z s)).map (fun y=>(pathR (nm r) y.1,y.2))) b9 t9 (fun b' t' e'=>?_) ?_
  · exact walkOk4 hr8 hz H hs hW X ab na eb en (fun j=>([tz0,tz1,tz2,tz3]:List Tok).getD j 0) (fun j=>([tn0,tn1,tn2,tn3]:List Tok).getD j 0) (.int l4 tl) ep tu b' t' (fun j hj=>⟨(hn j hj).1,Nat.lt_of_lt_of_le (hn j hj).2 (Nat.le_trans e7 (Nat.le_trans e8 (Nat.le_trans e9 e')))⟩)
  intro at_ f et ep k b10 t10 e10 hV
  have hv0:(f 0).v=numB4 z s:=congrArg Prod.snd (head_of (n:=15) hV)
  refine cps fun Gp kp=>?_
  obtain ⟨w1,w2,w3,w4,w5⟩:=hW
  refine kp ?_
  exact law10_4 H.a_e3_4 H.a_e4_4 H.a_e5_4 (H.res _) hL hr fr cc cn cl k sa so tc tb na en tn0 tn1 tn2 tn3 ab eb (zI z 0) (zI z 1) (zI z 2) (zI z 3) tz0 tz1 tz2 tz3 (sg r 0) (sg r 1) (sg r 2) (sg r 3) (stS r 4 s) tf aw X S x tx l4 tl p4 tp ea ep at_ f et (numB4 z s) _ b10 t10 hV hv0 (fun ts b t=>wayOk4 H _ w2 (by simpa using w3) w4 na en (fun j=>([tn0,tn1,tn2,tn3]:List Tok).getD j 0) ts b t) (by rw [hpe];exact gZ H X S hz2 hxs tx ea ep l4) hQ
theorem zbit {N j:Nat}(k:Nat)(h:j<N):((k / 2 ^ j % 2:Nat):Int)=zI (k % 2 ^ N) j:=by
  unfold zI
  rw [show 2 ^ N=2 ^ j*2 ^ (N-j) by rw [<- Nat.pow_add,Nat.add_sub_of_le (Nat.le_of_lt h)],Nat.mod_mul_right_div_self,Nat.mod_mod_of_dvd _ (show 2∣2 ^ (N-j) from Nat.dvd_trans (Nat.dvd_refl 2) (Nat.pow_dvd_pow 2 (Nat.sub_pos_of_lt h)))]
theorem comp2_4 {r z s:Nat}(H:AR T prog)(k0 k1 k2:Nat)(hrk:r=k2 % 8)(hzk:z=k0 % 16)(hsk:s=k1 % 16)(F:SF 4 r z)(hr:Room 116 A)(fr cc cn cl:Addr)(k:Nat->Tok)(sa:Addr)(so:Obj)(tc:Tok)(la:Addr)(el:Nat)(t0 t1 t2:Tok)(b t:Nat)
    (next:∀(k:Nat->Tok)(na:Addr)(en:Nat)(tn0 tn1 tn2 tn3:Tok)(ab:Addr)(eb:Nat)(tz0 tz1 tz2 tz3 tf:Tok)(aw:Addr)(ew:Nat)(tm0 tm1 tm2 tm3:Tok)(b t:Nat),(∀j,j<4->0<(fun j=>([tn0,tn1,tn2,tn3]:List Tok).getD j 0) j/\(fun j=>([tn0,tn1,tn2,tn3]:List Tok).getD j 0) j<t)->St T prog w A Q E s0 fr cc cn cl 6 ([(fr,frO #[ent w.params Y48 (k 0) (.ref sa),ent w.params Y49 (k 1) (.int 4 tc),ent w.params Y32 (k 2) (.ref ab),ent w.params Y51 (k 3) (.str (stS r 4 s) tf),ent w.params Y52 (k 4) (.ref aw)] 5),(cc,ceO (some (.ref la))),(cl,ceO none),(la,liO #[.int (k0:Int) t0,.int (k1:Int) t1,.int (k2:Int) t2] el),(aw,liO #[.str ⟨#[sg r 0+1]⟩ tm0,.str ⟨#[sg r 1+1]⟩ tm1,.str ⟨#[sg r 2+1]⟩ tm2,.str ⟨#[sg r 3+1]⟩ tm3,.str (stS r 4 s) tf] ew),(86,tabO #[]),(cn,ceO (some (.ref na))),(na,liO #[.str ⟨#[sg r 0+1]⟩ tn0,.str ⟨#[sg r 1+1]⟩ tn1,.str ⟨#[sg r 2+1]⟩ tn2,.str ⟨#[sg r 3+1]⟩ tn3] en),(ab,liO #[.int (zI z 0) tz0,.int (zI z 1) tz1,.int (zI z 2) tz2,.int (zI z 3) tz3] eb),(sa,so)]) b t):St T prog w A Q E s0 fr cc cn cl 2 ([(fr,frO #[ent w.params Y48 (k 0) (.ref sa),ent w.params Y49 (k 1) (.int 4 tc)] 2),(cc,ceO (some (.ref la))),(cn,ceO none),(la,liO #[.int (k0:Int) t0,.int (k1:Int) t1,.int (k2:Int) t2] el),(cl,ceO none),(86,tabO #[]),(sa,so)]) b t:=by
  have hL:=H.len w.params
  have ql:=stS_len (s:=s) F
  have hi:=fun j=>(hrk▸(name_at k2 j).2:(seqIndex? (((k2+j) % 8:Nat):Int) Y50.length).bind (Y50.cps[·]?)=some (sg r j+1))
  refine law2_4 H.a_s2_4 hL hr fr cc cn cl k sa so tc la el (k0:Int) (k1:Int) (k2:Int) t0 t1 t2 ((((k2+0) % 8:Nat)):Int) ((((k2+1) % 8:Nat)):Int) ((((k2+2) % 8:Nat)):Int) ((((k2+3) % 8:Nat)):Int) (sg r 0) (sg r 1) (sg r 2) (sg r 3) b t (mod8 (nmod (k2+0) 8)) (name_at k2 0).1 (hi 0) (mod8 (nmod (k2+1) 8)) (name_at k2 1).1 (hi 1) (mod8 (nmod (k2+2) 8)) (name_at k2 2).1 (hi 2) (mod8 (nmod (k2+3) 8)) (name_at k2 3).1 (hi 3) ?_
  intro na en tn0 tn1 tn2 tn3 b3 t3 e3 g0 h0 g1 h1 g2 h2 g3 h3
  refine law3_4 H.a_s3_4 hL hr fr cc cn cl k sa so tc la el (k0:Int) (k1:Int) (k2:Int) t0 t1 t2 (sg r 0) (sg r 1) (sg r 2) (sg r 3) na en tn0 tn1 tn2 tn3 ((k0 / 1:Nat):Int) (zI z 0) ((k0 / 2:Nat):Int) (zI z 1) ((k0 / 4:Nat):Int) (zI z 2) ((k0 / 8:Nat):Int) (zI z 3) b3 t3 (div1 (ndiv k0 1)) (mod2 ((nmod (k0 / 1) 2).trans (by rw [hzk];exact zbit (N:=4) (j:=0) k0 (by decide)))) (div2 (ndiv k0 2)) (mod2 ((nmod (k0 / 2) 2).trans (by rw [hzk];exact zbit (N:=4) (j:=1) k0 (by decide)))) (div4 (ndiv k0 4)) (mod2 ((nmod (k0 / 4) 2).trans (by rw [hzk];exact zbit (N:=4) (j:=2) k0 (by decide)))) (div8 (ndiv k0 8)) (mod2 ((nmod (k0 / 8) 2).trans (by rw [hzk];exact zbit (N:=4) (j:=3) k0 (by decide)))) ?_
  intro k ab eb tz0 tz1 tz2 tz3 b4 t4 e4
  refine law4_4 H.a_s4_4 hL hr fr cc cn cl k sa so tc la el (k0:Int) (k1:Int) (k2:Int) t0 t1 t2 (sg r 0) (sg r 1) (sg r 2) (sg r 3) na en tn0 tn1 tn2 tn3 ab eb (zI z 0) (zI z 1) (zI z 2) (zI z 3) tz0 tz1 tz2 tz3 ((k1 / 8:Nat):Int) (zI s 3) ((k1 / 4:Nat):Int) (zI s 2) ((k1 / 2:Nat):Int) (zI s 1) ((k1 / 1:Nat):Int) (zI s 0) (stS r 4 s) b4 t4 (div8 (ndiv k1 8)) (mod2 ((nmod (k1 / 8) 2).trans (by rw [hsk];exact zbit (N:=4) (j:=3) k1 (by decide)))) (div4 (ndiv k1 4)) (mod2 ((nmod (k1 / 4) 2).trans (by rw [hsk];exact zbit (N:=4) (j:=2) k1 (by decide)))) (div2 (ndiv k1 2)) (mod2 ((nmod (k1 / 2) 2).trans (by rw [hsk];exact zbit (N:=4) (j:=1) k1 (by decide)))) (div1 (ndiv k1 1)) (mod2 ((nmod (k1 / 1) 2).trans (by rw [hsk];exact zbit (N:=4) (j:=0) k1 (by decide)))) (zI_or s 3) (zI_or s 2) (zI_or s 1) (zI_or s 0) (not_long (m:=2) (fun x hx=>by
    simp only [List.mem_cons,List.mem_nil_iff,or_false] at hx
    rcases hx with rfl | rfl | rfl | rfl<;>exact rgT_len _ _) (by show 4*(2+0)<=_;decide)) (Str.ext' (by
      rw [glued_empty,stS_list]
      simp only [List.flatMap_cons,List.flatMap_nil,rgT_list,stL,List.append_assoc,List.append_nil,List.cons_append,List.nil_append])) (by rw [sizeLine_eq];omega) ?_
  intro k tf b5 t5 e5
  refine law5_4 H.a_s5_4 hL hr fr cc cn cl k sa so tc la el (k0:Int) (k1:Int) (k2:Int) t0 t1 t2 (sg r 0) (sg r 1) (sg r 2) (sg r 3) na en tn0 tn1 tn2 tn3 ab eb (zI z 0) (zI z 1) (zI z 2) (zI z 3) tz0 tz1 tz2 tz3 (stS r 4 s) tf b5 t5 ?_
  intro k aw ew tm0 tm1 tm2 tm3 b6 t6 e6
  exact next k na en tn0 tn1 tn2 tn3 ab eb tz0 tz1 tz2 tz3 tf aw ew tm0 tm1 tm2 tm3 b6 t6 (fun j hj=>match j,hj with
    | 0,_=>⟨g0,Nat.lt_of_lt_of_le h0 (Nat.le_trans e4 (Nat.le_trans e5 e6))⟩
    | 1,_=>⟨g1,Nat.lt_of_lt_of_le h1 (Nat.le_trans e4 (Nat.le_trans e5 e6))⟩
    | 2,_=>⟨g2,Nat.lt_of_lt_of_le h2 (Nat.le_trans e4 (Nat.le_trans e5 e6))⟩
    | 3,_=>⟨g3,Nat.lt_of_lt_of_le h3 (Nat.le_trans e4 (Nat.le_trans e5 e6))⟩)
theorem comp6_3 {r z s:Nat}(hr8:r=2)(hz:z<8)(H:AR T prog)(hs:s<2 ^ 3)(F:SF 3 r z)(hW:WalkP 3 z s (numB3 z s) (numB3 z))(hr:Room 116 A)(sa:Addr)(so:Obj)(hQ:∀s tb,KeepL s0 s->s.heap.get? sa=some so->s.heap.get? 86=some (tabO tb)->Q (.ret (.bool true)) s)(fr cc cn cl:Addr)(k:Nat->Tok)(tc:Tok)(la:Addr)(el:Nat)(c0 c1:Int)(k2:Nat)(t0 t1 t2:Tok)(na:Addr)(en:Nat)(tn0 tn1 tn2:Tok)(ab:Addr)(eb:Nat)(tz0 tz1 tz2 tf:Tok)(aw:Addr)(ew:Nat)(tm0 tm1 tm2:Tok)(b t:Nat)
    (hn:∀j,j<3->0<(fun j=>([tn0,tn1,tn2]:List Tok).getD j 0) j/\(fun j=>([tn0,tn1,tn2]:List Tok).getD j 0) j<t) (bb:Int) (hbb:((k2 / 8 % 2:Nat):Int)=bb) (W0 W1 W2 W3 x:Str) (l0 l1 l2 l3 p0 p1 p2 p3:Int)
    (hw0:WrdOk T prog w (nm r 0) bb W0) (hw1:WrdOk T prog w (nm r 1) bb W1) (hw2:WrdOk T prog w (nm r 2) bb W2) (hw3:WrdOk T prog w (stS r 3 s) bb W3)
    (hgl:glued Y14 [W0,W1,W2,W3]=x) (hlen:∀y∈[W0,W1,W2,W3],y.length<=30) (hx:x.length<=1000)
    (hg0:∀(X:Lx)(S:Sm)(tx:Tok)(ea ep:Nat),GtOk T prog w X S x tx ea ep 1 l0 0 p0 (nm r 0))
    (hg1:∀(X:Lx)(S:Sm)(tx:Tok)(ea ep:Nat),GtOk T prog w X S x tx ea ep l0 l1 p0 p1 (nm r 1))
    (hg2:∀(X:Lx)(S:Sm)(tx:Tok)(ea ep:Nat),GtOk T prog w X S x tx ea ep l1 l2 p1 p2 (nm r 2))
    (hg3:∀(X:Lx)(S:Sm)(tx:Tok)(ea ep:Nat),GtOk T prog w X S x tx ea ep l2 l3 p2 p3 (stS r 3 s))
    (hl:((l3:Int) != 4)=false) (hz2:2<=x.length) (hpe:p3=(x.length:Int)):St T prog w A Q E s0 fr cc cn cl 6 ([(fr,frO #[ent w.params Y48 (k 0) (.ref sa),ent w.params Y49 (k 1) (.int 3 tc),ent w.params Y32 (k 2) (.ref ab),ent w.params Y51 (k 3) (.str (stS r 3 s) tf),ent w.params Y52 (k 4) (.ref aw)] 5),(cc,ceO (some (.ref la))),(cl,ceO none),(la,liO #[.int c0 t0,.int c1 t1,.int (k2:Int) t2] el),(aw,liO #[.str ⟨#[sg r 0+1]⟩ tm0,.str ⟨#[sg r 1+1]⟩ tm1,.str ⟨#[sg r 2+1]⟩ tm2,.str (stS r 3 s) tf] ew),(86,tabO #[]),(cn,ceO (some (.ref na))),(na,liO #[.str ⟨#[sg r 0+1]⟩ tn0,.str ⟨#[sg r 1+1]⟩ tn1,.str ⟨#[sg r 2+1]⟩ tn2] en),(ab,liO #[.int (zI z 0) tz0,.int (zI z 1) tz1,.int (zI z 2) tz2] eb),(sa,so)]) b t:=by
  have hL:=H.len w.params
  have hxs:x.length<=sizeLine:=by rw [sizeLine_eq];omega
  have ql:=stS_len (s:=s) F
  refine law6_3 H.a_s6_3 H.a_lexer hL hr fr cc cn cl k sa so tc la el c0 c1 (k2:Int) t0 t1 t2 (sg r 0) (sg r 1) (sg r 2) na en tn0 tn1 tn2 ab eb (zI z 0) (zI z 1) (zI z 2) tz0 tz1 tz2 (stS r 3 s) tf aw ew tm0 tm1 tm2 ((k2 / 8:Nat):Int) bb W0 W1 W2 W3 x b t (div8 (ndiv k2 8)) (mod2 ((nmod (k2 / 8) 2).trans hbb)) hw0 hw1 hw2 hw3 (not_long (m:=30) hlen (by show 4*(30+1)<=_;decide)) hgl hxs ?_
  intro tb X S tx tl tp ea ep b7 t7 e7
  refine law7_3 H.a_e1_3 H.a_e1r H.a_e2_3 (H.ifs _) hL hr fr cc cn cl k sa so tc tb (sg r 0) (sg r 1) (sg r 2) na en tn0 tn1 tn2 ab eb (zI z 0) (zI z 1) (zI z 2) tz0 tz1 tz2 (stS r 3 s) tf aw ew tm0 tm1 tm2 X S x tx 1 tl 0 tp ea ep p0 p1 p2 p3 l0 l1 l2 l3 b7 t7 (hg0 X S tx ea ep) (hg1 X S tx ea ep) (hg2 X S tx ea ep) (hg3 X S tx ea ep) hl ?_
  intro tl tp b8 t8 e8
  refine law8_3 H.a_s8_3 H.a_push0 hL hr fr cc cn cl k sa so tc tb na en tn0 tn1 tn2 ab eb (zI z 0) (zI z 1) (zI z 2) tz0 tz1 tz2 (sg r 0) (sg r 1) (sg r 2) (stS r 3 s) tf aw X S x tx l3 tl p3 tp ea ep b8 t8 ql.1 (by rw [Str.length_append,sizeLine_eq];show 1+_<=_;omega) ?_
  intro tu ep b9 t9 e9
  refine law9_3 H.a_s9_3 hL hr fr cc cn cl k sa so tc tb na en tn0 tn1 tn2 ab eb (zI z 0) (zI z 1) (zI z 2) tz0 tz1 tz2 (sg r 0) (sg r 1) (sg r 2) (stS r 3 s) tf aw X S x tx l3 tl p3 tp ea ep (Y36++(stS r 3 s)) tu (0+((0+(0+1))+7*(0+1))) ((([],numB3 z s)::ways 3 (numB3 z s)).map (fun y=>(pathR (nm r) y.1,y.2))) b9 t9 (fun b' t' e'=>?_) ?_
  · exact walkOk3 hr8 hz H hs hW X ab na eb en (fun j=>([tz0,tz1,tz2]:List Tok).getD j 0) (fun j=>([tn0,tn1,tn2]:List Tok).getD j 0) (.int l3 tl) ep tu b' t' (fun j hj=>⟨(hn j hj).1,Nat.lt_of_lt_of_le (hn j hj).2 (Nat.le_trans e7 (Nat.le_trans e8 (Nat.le_trans e9 e')))⟩)
  intro at_ f et ep k b10 t10 e10 hV
  have hv0:(f 0).v=numB3 z s:=congrArg Prod.snd (head_of (n:=7) hV)
  refine cps fun Gp kp=>?_
  obtain ⟨w1,w2,w3,w4,w5⟩:=hW
  refine kp ?_
  exact law10_3 H.a_e3_3 H.a_e4_3 H.a_e5_3 (H.res _) hL hr fr cc cn cl k sa so tc tb na en tn0 tn1 tn2 ab eb (zI z 0) (zI z 1) (zI z 2) tz0 tz1 tz2 (sg r 0) (sg r 1) (sg r 2) (stS r 3 s) tf aw X S x tx l3 tl p3 tp ea ep at_ f et (numB3 z s) _ b10 t10 hV hv0 (fun ts b t=>wayOk3 H _ w2 (by simpa using w3) w4 na en (fun j=>([tn0,tn1,tn2]:List Tok).getD j 0) ts b t) (by rw [hpe];exact gZ H X S hz2 hxs tx ea ep l3) hQ
theorem comp2_3 {r z s:Nat}(H:AR T prog)(k0 k1 k2:Nat)(hrk:r=k2 % 8)(hzk:z=k0 % 8)(hsk:s=k1 % 8)(F:SF 3 r z)(hr:Room 116 A)(fr cc cn cl:Addr)(k:Nat->Tok)(sa:Addr)(so:Obj)(tc:Tok)(la:Addr)(el:Nat)(t0 t1 t2:Tok)(b t:Nat)
    (next:∀(k:Nat->Tok)(na:Addr)(en:Nat)(tn0 tn1 tn2:Tok)(ab:Addr)(eb:Nat)(tz0 tz1 tz2 tf:Tok)(aw:Addr)(ew:Nat)(tm0 tm1 tm2:Tok)(b t:Nat),(∀j,j<3->0<(fun j=>([tn0,tn1,tn2]:List Tok).getD j 0) j/\(fun j=>([tn0,tn1,tn2]:List Tok).getD j 0) j<t)->St T prog w A Q E s0 fr cc cn cl 6 ([(fr,frO #[ent w.params Y48 (k 0) (.ref sa),ent w.params Y49 (k 1) (.int 3 tc),ent w.params Y32 (k 2) (.ref ab),ent w.params Y51 (k 3) (.str (stS r 3 s) tf),ent w.params Y52 (k 4) (.ref aw)] 5),(cc,ceO (some (.ref la))),(cl,ceO none),(la,liO #[.int (k0:Int) t0,.int (k1:Int) t1,.int (k2:Int) t2] el),(aw,liO #[.str ⟨#[sg r 0+1]⟩ tm0,.str ⟨#[sg r 1+1]⟩ tm1,.str ⟨#[sg r 2+1]⟩ tm2,.str (stS r 3 s) tf] ew),(86,tabO #[]),(cn,ceO (some (.ref na))),(na,liO #[.str ⟨#[sg r 0+1]⟩ tn0,.str ⟨#[sg r 1+1]⟩ tn1,.str ⟨#[sg r 2+1]⟩ tn2] en),(ab,liO #[.int (zI z 0) tz0,.int (zI z 1) tz1,.int (zI z 2) tz2] eb),(sa,so)]) b t):St T prog w A Q E s0 fr cc cn cl 2 ([(fr,frO #[ent w.params Y48 (k 0) (.ref sa),ent w.params Y49 (k 1) (.int 3 tc)] 2),(cc,ceO (some (.ref la))),(cn,ceO none),(la,liO #[.int (k0:Int) t0,.int (k1:Int) t1,.int (k2:Int) t2] el),(cl,ceO none),(86,tabO #[]),(sa,so)]) b t:=by
  have hL:=H.len w.params
  have ql:=stS_len (s:=s) F
  have hi:=fun j=>(hrk▸(name_at k2 j).2:(seqIndex? (((k2+j) % 8:Nat):Int) Y50.length).bind (Y50.cps[·]?)=some (sg r j+1))
  refine law2_3 H.a_s2_3 hL hr fr cc cn cl k sa so tc la el (k0:Int) (k1:Int) (k2:Int) t0 t1 t2 ((((k2+0) % 8:Nat)):Int) ((((k2+1) % 8:Nat)):Int) ((((k2+2) % 8:Nat)):Int) (sg r 0) (sg r 1) (sg r 2) b t (mod8 (nmod (k2+0) 8)) (name_at k2 0).1 (hi 0) (mod8 (nmod (k2+1) 8)) (name_at k2 1).1 (hi 1) (mod8 (nmod (k2+2) 8)) (name_at k2 2).1 (hi 2) ?_
  intro na en tn0 tn1 tn2 b3 t3 e3 g0 h0 g1 h1 g2 h2
  refine law3_3 H.a_s3_3 hL hr fr cc cn cl k sa so tc la el (k0:Int) (k1:Int) (k2:Int) t0 t1 t2 (sg r 0) (sg r 1) (sg r 2) na en tn0 tn1 tn2 ((k0 / 1:Nat):Int) (zI z 0) ((k0 / 2:Nat):Int) (zI z 1) ((k0 / 4:Nat):Int) (zI z 2) b3 t3 (div1 (ndiv k0 1)) (mod2 ((nmod (k0 / 1) 2).trans (by rw [hzk];exact zbit (N:=3) (j:=0) k0 (by decide)))) (div2 (ndiv k0 2)) (mod2 ((nmod (k0 / 2) 2).trans (by rw [hzk];exact zbit (N:=3) (j:=1) k0 (by decide)))) (div4 (ndiv k0 4)) (mod2 ((nmod (k0 / 4) 2).trans (by rw [hzk];exact zbit (N:=3) (j:=2) k0 (by decide)))) ?_
  intro k ab eb tz0 tz1 tz2 b4 t4 e4
  refine law4_3 H.a_s4_3 hL hr fr cc cn cl k sa so tc la el (k0:Int) (k1:Int) (k2:Int) t0 t1 t2 (sg r 0) (sg r 1) (sg r 2) na en tn0 tn1 tn2 ab eb (zI z 0) (zI z 1) (zI z 2) tz0 tz1 tz2 ((k1 / 4:Nat):Int) (zI s 2) ((k1 / 2:Nat):Int) (zI s 1) ((k1 / 1:Nat):Int) (zI s 0) (stS r 3 s) b4 t4 (div4 (ndiv k1 4)) (mod2 ((nmod (k1 / 4) 2).trans (by rw [hsk];exact zbit (N:=3) (j:=2) k1 (by decide)))) (div2 (ndiv k1 2)) (mod2 ((nmod (k1 / 2) 2).trans (by rw [hsk];exact zbit (N:=3) (j:=1) k1 (by decide)))) (div1 (ndiv k1 1)) (mod2 ((nmod (k1 / 1) 2).trans (by rw [hsk];exact zbit (N:=3) (j:=0) k1 (by decide)))) (zI_or s 2) (zI_or s 1) (zI_or s 0) (not_long (m:=2) (fun x hx=>by
    simp only [List.mem_cons,List.mem_nil_iff,or_false] at hx
    rcases hx with rfl | rfl | rfl<;>exact rgT_len _ _) (by show 3*(2+0)<=_;decide)) (Str.ext' (by
      rw [glued_empty,stS_list]
      simp only [List.flatMap_cons,List.flatMap_nil,rgT_list,stL,List.append_assoc,List.append_nil,List.cons_append,List.nil_append])) (by rw [sizeLine_eq];omega) ?_
  intro k tf b5 t5 e5
  refine law5_3 H.a_s5_3 hL hr fr cc cn cl k sa so tc la el (k0:Int) (k1:Int) (k2:Int) t0 t1 t2 (sg r 0) (sg r 1) (sg r 2) na en tn0 tn1 tn2 ab eb (zI z 0) (zI z 1) (zI z 2) tz0 tz1 tz2 (stS r 3 s) tf b5 t5 ?_
  intro k aw ew tm0 tm1 tm2 b6 t6 e6
  exact next k na en tn0 tn1 tn2 ab eb tz0 tz1 tz2 tf aw ew tm0 tm1 tm2 b6 t6 (fun j hj=>match j,hj with
    | 0,_=>⟨g0,Nat.lt_of_lt_of_le h0 (Nat.le_trans e4 (Nat.le_trans e5 e6))⟩
    | 1,_=>⟨g1,Nat.lt_of_lt_of_le h1 (Nat.le_trans e4 (Nat.le_trans e5 e6))⟩
    | 2,_=>⟨g2,Nat.lt_of_lt_of_le h2 (Nat.le_trans e4 (Nat.le_trans e5 e6))⟩)
end
def qW (l:List (Option Nat)):Str:=(Y3++qJ l)++Y3
theorem qW_list (l:List (Option Nat)):(qW l).cps.toList=34::(qBody l++[34]):=by
  unfold qW
  rw [Str.toList_append,Str.toList_append]
  rfl
theorem bJ_list (l:List (Option Nat)):(bJ l).cps.toList=bBody l:=rfl
theorem qN (y:Nat):qBody [some y]=[y+1]:=rfl
theorem bN (y:Nat):bBody [some y]=[92,y+1]:=rfl
theorem qW_len {l:List (Option Nat)}(h:l.length<=8):(qW l).length<=30:=by
  rw [len_list,qW_list,List.length_cons,List.length_append]
  have:=(qBody_len l).1
  show _+1+1<=_
  omega
theorem bJ_len {l:List (Option Nat)}(h:l.length<=8):(bJ l).length<=30:=by
  rw [len_list,bJ_list,bBody_len];omega
section
variable {T:Params->KT}{prog:Program}{w:World}{A:Around}{Q:Flow->Shared->Prop}{E:Value->Shared->Prop}{s0:Shared}
theorem ys_ok (l:List (Option Nat))(h:WL l):∀y,some y∈l->okSign y:=fun y hy=>(h.ok y hy).1
theorem fQ3 (H:AR T prog){x:Str}(h2:2<=x.length)(hl:x.length<=sizeLine)(L:Int)(l:List (Option Nat))(B:List Nat){p':Int}{wd:Str}(hW:WL l)(hx:x.cps.toList=34::(qBody l++34::B))(hp':p'=(((qBody l).length+2:Nat):Int))(hw:wd=oT l)(X:Lx)(S:Sm)(tx:Tok)(ea ep:Nat):
    GtOk T prog w X S x tx ea ep L L 0 p' wd:=by subst hp' hw;exact gQ3 H X S h2 hl tx ea ep L (ys_ok l hW) (by have:=hW.n8;omega) hx
theorem fQ4 (H:AR T prog){x:Str}(h2:2<=x.length)(hl:x.length<=sizeLine)(L:Int)(l:List (Option Nat))(A B:List Nat){p p':Int}{wd:Str}(hW:WL l)(hx:x.cps.toList=A++(10::34::(qBody l++34::B)))(hp:p=(A.length:Int))(hp':p'=((A.length+(qBody l).length+3:Nat):Int))(hw:wd=oT l)(X:Lx)(S:Sm)(tx:Tok)(ea ep:Nat):
    GtOk T prog w X S x tx ea ep L (L+1) p p' wd:=by subst hp hp' hw;exact gQ4 H X S h2 hl tx ea ep L (ys_ok l hW) (by have:=hW.n8;omega) hx
theorem fB3 (H:AR T prog){x:Str}(h2:2<=x.length)(hl:x.length<=sizeLine)(L:Int)(l:List (Option Nat))(A B:List Nat){p p':Int}{wd:Str}(hW:WL l)(hx:x.cps.toList=A++(bBody l++10::B))(hp:p=(A.length:Int))(hp':p'=((A.length+(bBody l).length:Nat):Int)+1)(hw:wd=oT l)(X:Lx)(S:Sm)(tx:Tok)(ea ep:Nat):
    GtOk T prog w X S x tx ea ep L (L+1) p p' wd:=by
  obtain ⟨o,l,rfl⟩:=List.exists_cons_of_ne_nil hW.n0
  subst hp hp' hw
  exact gB3 H X S h2 hl tx ea ep L (ys_ok _ hW) (by have:=hW.n8;rw [List.length_cons] at this;omega) hx
theorem fBn (H:AR T prog){x:Str}(h2:2<=x.length)(hl:x.length<=sizeLine)(L:Int)(l:List (Option Nat))(A:List Nat){p:Int}{wd:Str}(hW:WL l)(hx:x.cps.toList=A++bBody l)(hp:p=(A.length:Int))(hw:wd=oT l)(X:Lx)(S:Sm)(tx:Tok)(ea ep:Nat):
    GtOk T prog w X S x tx ea ep L L p (x.length:Int) wd:=by
  obtain ⟨o,l,rfl⟩:=List.exists_cons_of_ne_nil hW.n0
  subst hp hw
  exact gBn H X S h2 hl tx ea ep L (ys_ok _ hW) (by have:=hW.n8;rw [List.length_cons] at this;omega) hx
theorem compL_4 (H:AR T prog)(k0 k1 k2:Nat)(hr:Room 116 A)(sa:Addr)(so:Obj)(hQ:∀s tb,KeepL s0 s->s.heap.get? sa=some so->s.heap.get? 86=some (tabO tb)->Q (.ret (.bool true)) s)(fr cc cn cl:Addr)(k:Nat->Tok)(tc:Tok)(la:Addr)(el:Nat)(t0 t1 t2:Tok)(b t:Nat):St T prog w A Q E s0 fr cc cn cl 2 ([(fr,frO #[ent w.params Y48 (k 0) (.ref sa),ent w.params Y49 (k 1) (.int 4 tc)] 2),(cc,ceO (some (.ref la))),(cn,ceO none),(la,liO #[.int (k0:Int) t0,.int (k1:Int) t1,.int (k2:Int) t2] el),(cl,ceO none),(86,tabO #[]),(sa,so)]) b t:=by
  obtain ⟨r,hrk⟩:∃r,r=k2 % 8:=⟨_,rfl⟩
  obtain ⟨z,hzk⟩:∃z,z=k0 % 16:=⟨_,rfl⟩
  obtain ⟨s,hsk⟩:∃s,s=k1 % 16:=⟨_,rfl⟩
  have hr8:r<8:=by omega
  have hz:z<16:=by omega
  have hs:s<16:=by omega
  have F:=SF4 hr8 hz
  have hW:=walk_all z hz s hs
  refine comp2_4 H k0 k1 k2 hrk hzk hsk F hr fr cc cn cl k sa so tc la el t0 t1 t2 b t ?_
  clear b t k
  intro k na en tn0 tn1 tn2 tn3 ab eb tz0 tz1 tz2 tz3 tf aw ew tm0 tm1 tm2 tm3 b t hn
  rcases (show k2 / 8 % 2=0∨k2 / 8 % 2=1 by omega) with hb2 | hb2
  ·
    obtain ⟨x,hx⟩:∃x,(glued Y14 [(qW [some (sg r 0)]),(qW [some (sg r 1)]),(qW [some (sg r 2)]),(qW [some (sg r 3)]),(qW (oL (sg r) 4 s))])=x:=⟨_,rfl⟩
    have hxl:x.cps.toList=34::(sg r 0+1)::34::10::34::(sg r 1+1)::34::10::34::(sg r 2+1)::34::10::34::(sg r 3+1)::34::10::34::(qBody (oL (sg r) 4 s)++[34]):=by
      rw [<- hx,glued_cons]
      simp [qW_list,bJ_list,qN,bN,List.flatMap_cons]
    have hlen:x.length=18+(qBody (oL (sg r) 4 s)).length:=by
      rw [len_list,hxl]
      simp
      try omega
    have hb:=(qBody_len (oL (sg r) 4 s)).1
    have hS:=WL.stand (s:=s) F
    have h8:=hS.n8
    have h2:2<=x.length:=by omega
    have h1000:x.length<=1000:=by omega
    have hxs:x.length<=sizeLine:=by rw [sizeLine_eq];omega
    have wn:=fun j=>WL.name r j
    have G0:=fQ3 (w:=w) H (p':=((3:Nat):Int)) (wd:=nm r 0) h2 hxs 1 [some (sg r 0)] (10::34::(sg r 1+1)::34::10::34::(sg r 2+1)::34::10::34::(sg r 3+1)::34::10::34::(qBody (oL (sg r) 4 s)++[34])) (wn 0) (by rw [hxl];rfl) (by rw [qN];simp) rfl
    have G1:=fQ4 (w:=w) H (p:=((3:Nat):Int)) (p':=((7:Nat):Int)) (wd:=nm r 1) h2 hxs 1 [some (sg r 1)] [34,sg r 0+1,34] (10::34::(sg r 2+1)::34::10::34::(sg r 3+1)::34::10::34::(qBody (oL (sg r) 4 s)++[34])) (wn 1) (by rw [hxl];rfl) (by simp) (by rw [qN];simp) rfl
    have G2:=fQ4 (w:=w) H (p:=((7:Nat):Int)) (p':=((11:Nat):Int)) (wd:=nm r 2) h2 hxs (1+1) [some (sg r 2)] [34,sg r 0+1,34,10,34,sg r 1+1,34] (10::34::(sg r 3+1)::34::10::34::(qBody (oL (sg r) 4 s)++[34])) (wn 2) (by rw [hxl];rfl) (by simp) (by rw [qN];simp) rfl
    have G3:=fQ4 (w:=w) H (p:=((11:Nat):Int)) (p':=((15:Nat):Int)) (wd:=nm r 3) h2 hxs ((1+1)+1) [some (sg r 3)] [34,sg r 0+1,34,10,34,sg r 1+1,34,10,34,sg r 2+1,34] (10::34::(qBody (oL (sg r) 4 s)++[34])) (wn 3) (by rw [hxl];rfl) (by simp) (by rw [qN];simp) rfl
    have G4:=fQ4 (w:=w) H (p:=((15:Nat):Int)) (p':=(x.length:Int)) (wd:=stS r 4 s) h2 hxs (((1+1)+1)+1) (oL (sg r) 4 s) [34,sg r 0+1,34,10,34,sg r 1+1,34,10,34,sg r 2+1,34,10,34,sg r 3+1,34] [] hS (by rw [hxl];rfl) (by simp) (by rw [hlen];simp;omega) oT_stand.symm
    have hlen2:∀y∈[(qW [some (sg r 0)]),(qW [some (sg r 1)]),(qW [some (sg r 2)]),(qW [some (sg r 3)]),(qW (oL (sg r) 4 s))],y.length<=30:=fun y hy=>by
      simp only [List.mem_cons,List.mem_nil_iff,or_false] at hy
      rcases hy with rfl | rfl | rfl | rfl | rfl
      · exact qW_len (by simp)
      · exact qW_len (by simp)
      · exact qW_len (by simp)
      · exact qW_len (by simp)
      · exact qW_len h8
    exact comp6_4 hr8 hz H hs F hW hr sa so hQ fr cc cn cl k tc la el (k0:Int) (k1:Int) k2 t0 t1 t2 na en tn0 tn1 tn2 tn3 ab eb tz0 tz1 tz2 tz3 tf aw ew tm0 tm1 tm2 tm3 b t hn 0 (by rw [hb2];rfl) (qW [some (sg r 0)]) (qW [some (sg r 1)]) (qW [some (sg r 2)]) (qW [some (sg r 3)]) (qW (oL (sg r) 4 s)) x 1 (1+1) ((1+1)+1) (((1+1)+1)+1) ((((1+1)+1)+1)+1) ((3:Nat):Int) ((7:Nat):Int) ((11:Nat):Int) ((15:Nat):Int) (x.length:Int) (name_q H r 0) (name_q H r 1) (name_q H r 2) (name_q H r 3) (stand_q F H hs) hx hlen2 h1000 G0 G1 G2 G3 G4 (by decide) h2 rfl
  ·
    obtain ⟨x,hx⟩:∃x,(glued Y14 [(bJ [some (sg r 0)]),(bJ [some (sg r 1)]),(bJ [some (sg r 2)]),(bJ [some (sg r 3)]),(bJ (oL (sg r) 4 s))])=x:=⟨_,rfl⟩
    have hxl:x.cps.toList=92::(sg r 0+1)::10::92::(sg r 1+1)::10::92::(sg r 2+1)::10::92::(sg r 3+1)::10::bBody (oL (sg r) 4 s):=by
      rw [<- hx,glued_cons]
      simp [qW_list,bJ_list,qN,bN,List.flatMap_cons]
    have hlen:x.length=12+(bBody (oL (sg r) 4 s)).length:=by
      rw [len_list,hxl]
      simp
      try omega
    have hb:=Nat.le_of_eq (bBody_len (oL (sg r) 4 s))
    have hS:=WL.stand (s:=s) F
    have h8:=hS.n8
    have h2:2<=x.length:=by omega
    have h1000:x.length<=1000:=by omega
    have hxs:x.length<=sizeLine:=by rw [sizeLine_eq];omega
    have wn:=fun j=>WL.name r j
    have G0:=fB3 (w:=w) H (p:=0) (p':=((3:Nat):Int)) (wd:=nm r 0) h2 hxs 1 [some (sg r 0)] [] (92::(sg r 1+1)::10::92::(sg r 2+1)::10::92::(sg r 3+1)::10::bBody (oL (sg r) 4 s)) (wn 0) (by rw [hxl];rfl) (by simp) (by rw [bN];simp) rfl
    have G1:=fB3 (w:=w) H (p:=((3:Nat):Int)) (p':=((6:Nat):Int)) (wd:=nm r 1) h2 hxs (1+1) [some (sg r 1)] [92,sg r 0+1,10] (92::(sg r 2+1)::10::92::(sg r 3+1)::10::bBody (oL (sg r) 4 s)) (wn 1) (by rw [hxl];rfl) (by simp) (by rw [bN];simp) rfl
    have G2:=fB3 (w:=w) H (p:=((6:Nat):Int)) (p':=((9:Nat):Int)) (wd:=nm r 2) h2 hxs ((1+1)+1) [some (sg r 2)] [92,sg r 0+1,10,92,sg r 1+1,10] (92::(sg r 3+1)::10::bBody (oL (sg r) 4 s)) (wn 2) (by rw [hxl];rfl) (by simp) (by rw [bN];simp) rfl
    have G3:=fB3 (w:=w) H (p:=((9:Nat):Int)) (p':=((12:Nat):Int)) (wd:=nm r 3) h2 hxs (((1+1)+1)+1) [some (sg r 3)] [92,sg r 0+1,10,92,sg r 1+1,10,92,sg r 2+1,10] (bBody (oL (sg r) 4 s)) (wn 3) (by rw [hxl];rfl) (by simp) (by rw [bN];simp) rfl
    have G4:=fBn (w:=w) H (p:=((12:Nat):Int)) (wd:=stS r 4 s) h2 hxs ((((1+1)+1)+1)+1) (oL (sg r) 4 s) [92,sg r 0+1,10,92,sg r 1+1,10,92,sg r 2+1,10,92,sg r 3+1,10] hS (by rw [hxl];rfl) (by simp) oT_stand.symm
    have hlen2:∀y∈[(bJ [some (sg r 0)]),(bJ [some (sg r 1)]),(bJ [some (sg r 2)]),(bJ [some (sg r 3)]),(bJ (oL (sg r) 4 s))],y.length<=30:=fun y hy=>by
      simp only [List.mem_cons,List.mem_nil_iff,or_false] at hy
      rcases hy with rfl | rfl | rfl | rfl | rfl
      · exact bJ_len (by simp)
      · exact bJ_len (by simp)
      · exact bJ_len (by simp)
      · exact bJ_len (by simp)
      · exact bJ_len h8
    exact comp6_4 hr8 hz H hs F hW hr sa so hQ fr cc cn cl k tc la el (k0:Int) (k1:Int) k2 t0 t1 t2 na en tn0 tn1 tn2 tn3 ab eb tz0 tz1 tz2 tz3 tf aw ew tm0 tm1 tm2 tm3 b t hn 1 (by rw [hb2];rfl) (bJ [some (sg r 0)]) (bJ [some (sg r 1)]) (bJ [some (sg r 2)]) (bJ [some (sg r 3)]) (bJ (oL (sg r) 4 s)) x (1+1) ((1+1)+1) (((1+1)+1)+1) ((((1+1)+1)+1)+1) ((((1+1)+1)+1)+1) ((3:Nat):Int) ((6:Nat):Int) ((9:Nat):Int) ((12:Nat):Int) (x.length:Int) (name_b H r 0) (name_b H r 1) (name_b H r 2) (name_b H r 3) (stand_b F H hs) hx hlen2 h1000 G0 G1 G2 G3 G4 (by decide) h2 rfl
theorem compL_3 (H:AR T prog)(k0:Nat)(hr:Room 116 A)(sa:Addr)(so:Obj)(hQ:∀s tb,KeepL s0 s->s.heap.get? sa=some so->s.heap.get? 86=some (tabO tb)->Q (.ret (.bool true)) s)(fr cc cn cl:Addr)(k:Nat->Tok)(tc:Tok)(la:Addr)(el:Nat)(t0 t1 t2:Tok)(b t:Nat):St T prog w A Q E s0 fr cc cn cl 2 ([(fr,frO #[ent w.params Y48 (k 0) (.ref sa),ent w.params Y49 (k 1) (.int 3 tc)] 2),(cc,ceO (some (.ref la))),(cn,ceO none),(la,liO #[.int (k0:Int) t0,.int 5 t1,.int 10 t2] el),(cl,ceO none),(86,tabO #[]),(sa,so)]) b t:=by
  obtain ⟨k1,hk1⟩:∃k1:Nat,k1=5:=⟨_,rfl⟩
  obtain ⟨k2,hk2⟩:∃k2:Nat,k2=10:=⟨_,rfl⟩
  have e1:(5:Int)=(k1:Int):=by omega
  have e2:(10:Int)=(k2:Int):=by omega
  rw [e1,e2]
  obtain ⟨r,hrk⟩:∃r,r=k2 % 8:=⟨_,rfl⟩
  obtain ⟨z,hzk⟩:∃z,z=k0 % 8:=⟨_,rfl⟩
  obtain ⟨s,hsk⟩:∃s,s=k1 % 8:=⟨_,rfl⟩
  have hr8:r=2:=by omega
  have hz:z<8:=by omega
  have hs5:s=5:=by omega
  have hs:s<2 ^ 3:=by omega
  have F:SF 3 r z:=hr8▸SF3 hz
  have hW:WalkP 3 z s (numB3 z s) (numB3 z):=hs5▸walk_all3 z hz
  refine comp2_3 H k0 k1 k2 hrk hzk hsk F hr fr cc cn cl k sa so tc la el t0 t1 t2 b t ?_
  clear b t k
  intro k na en tn0 tn1 tn2 ab eb tz0 tz1 tz2 tf aw ew tm0 tm1 tm2 b t hn
  have hb2:k2 / 8 % 2=1:=by omega
  ·
    obtain ⟨x,hx⟩:∃x,(glued Y14 [(bJ [some (sg r 0)]),(bJ [some (sg r 1)]),(bJ [some (sg r 2)]),(bJ (oL (sg r) 3 s))])=x:=⟨_,rfl⟩
    have hxl:x.cps.toList=92::(sg r 0+1)::10::92::(sg r 1+1)::10::92::(sg r 2+1)::10::bBody (oL (sg r) 3 s):=by
      rw [<- hx,glued_cons]
      simp [qW_list,bJ_list,qN,bN,List.flatMap_cons]
    have hlen:x.length=9+(bBody (oL (sg r) 3 s)).length:=by
      rw [len_list,hxl]
      simp
      try omega
    have hb:=Nat.le_of_eq (bBody_len (oL (sg r) 3 s))
    have hS:=WL.stand (s:=s) F
    have h8:=hS.n8
    have h2:2<=x.length:=by omega
    have h1000:x.length<=1000:=by omega
    have hxs:x.length<=sizeLine:=by rw [sizeLine_eq];omega
    have wn:=fun j=>WL.name r j
    have G0:=fB3 (w:=w) H (p:=0) (p':=((3:Nat):Int)) (wd:=nm r 0) h2 hxs 1 [some (sg r 0)] [] (92::(sg r 1+1)::10::92::(sg r 2+1)::10::bBody (oL (sg r) 3 s)) (wn 0) (by rw [hxl];rfl) (by simp) (by rw [bN];simp) rfl
    have G1:=fB3 (w:=w) H (p:=((3:Nat):Int)) (p':=((6:Nat):Int)) (wd:=nm r 1) h2 hxs (1+1) [some (sg r 1)] [92,sg r 0+1,10] (92::(sg r 2+1)::10::bBody (oL (sg r) 3 s)) (wn 1) (by rw [hxl];rfl) (by simp) (by rw [bN];simp) rfl
    have G2:=fB3 (w:=w) H (p:=((6:Nat):Int)) (p':=((9:Nat):Int)) (wd:=nm r 2) h2 hxs ((1+1)+1) [some (sg r 2)] [92,sg r 0+1,10,92,sg r 1+1,10] (bBody (oL (sg r) 3 s)) (wn 2) (by rw [hxl];rfl) (by simp) (by rw [bN];simp) rfl
    have G3:=fBn (w:=w) H (p:=((9:Nat):Int)) (wd:=stS r 3 s) h2 hxs (((1+1)+1)+1) (oL (sg r) 3 s) [92,sg r 0+1,10,92,sg r 1+1,10,92,sg r 2+1,10] hS (by rw [hxl];rfl) (by simp) oT_stand.symm
    have hlen2:∀y∈[(bJ [some (sg r 0)]),(bJ [some (sg r 1)]),(bJ [some (sg r 2)]),(bJ (oL (sg r) 3 s))],y.length<=30:=fun y hy=>by
      simp only [List.mem_cons,List.mem_nil_iff,or_false] at hy
      rcases hy with rfl | rfl | rfl | rfl
      · exact bJ_len (by simp)
      · exact bJ_len (by simp)
      · exact bJ_len (by simp)
      · exact bJ_len h8
    exact comp6_3 hr8 hz H hs F hW hr sa so hQ fr cc cn cl k tc la el (k0:Int) (k1:Int) k2 t0 t1 t2 na en tn0 tn1 tn2 ab eb tz0 tz1 tz2 tf aw ew tm0 tm1 tm2 b t hn 1 (by rw [hb2];rfl) (bJ [some (sg r 0)]) (bJ [some (sg r 1)]) (bJ [some (sg r 2)]) (bJ (oL (sg r) 3 s)) x (1+1) ((1+1)+1) (((1+1)+1)+1) (((1+1)+1)+1) ((3:Nat):Int) ((6:Nat):Int) ((9:Nat):Int) (x.length:Int) (name_b H r 0) (name_b H r 1) (name_b H r 2) (by have z:=stand_b3 (w:=w) F H;rw [hs5];exact z) hx hlen2 h1000 G0 G1 G2 G3 (by decide) h2 rfl
end
section
variable {T:Params->KT}{prog:Program}{w:World}{A:Around}{Q:Flow->Shared->Prop}{E:Value->Shared->Prop}{s0:Shared}
theorem slice_none (ys:Array Value)(n:Nat)(h:ys.size<=n):slicePick ys (some (n:Int)) none none=#[]:=by
  have e:sliceBounds (some (n:Int)) none none ys.size=((ys.size:Int),(ys.size:Int),1):=by
    unfold sliceBounds
    simp only [Option.getD_none,show ((1:Int) > 0)=True from by simp,if_true,show ¬ ((n:Int)<0) by omega,if_false]
    rw [show max (0:Int) (min (n:Int) (ys.size:Int))=(ys.size:Int) by omega]
  unfold slicePick
  rw [e]
  unfold sliceRange
  simp
theorem slice_three (ys:Array Value)(h:3<=ys.size):slicePick ys none (some 3) none=#[ys[0],ys[1],ys[2]]:=by
  have e:sliceBounds none (some 3) none ys.size=(0,3,1):=by
    unfold sliceBounds
    simp only [Option.getD_none,show ((1:Int) > 0)=True from by simp,if_true,show ¬ ((3:Int)<0) by omega,if_false]
    rw [show max (0:Int) (min (3:Int) (ys.size:Int))=3 by omega]
  unfold slicePick
  rw [e]
  show (List.filterMap (ys[·]?) [0,1,2]).toArray=_
  rw [List.filterMap_cons,List.filterMap_cons,List.filterMap_cons,List.filterMap_nil]
  rw [Array.getElem?_eq_getElem (show 0<ys.size by omega),Array.getElem?_eq_getElem (show 1<ys.size by omega),Array.getElem?_eq_getElem (show 2<ys.size by omega)]
theorem fmod_nat (x:Int):∃k:Nat,x.fmod 840=(k:Int):=⟨(x.fmod 840).toNat,by rw [Int.fmod_eq_emod_of_nonneg _ (by decide)];have:=Int.emod_nonneg x (show (840:Int)≠0 by decide);omega⟩
theorem law01_0 (H:AR T prog)(hr:Room 116 A)(fr cc cn cl:Addr)(k:Nat->Tok)(sa:Addr)(es:Nat)(hQ:∀s tb,KeepL s0 s->s.heap.get? sa=some (liO #[] es)->s.heap.get? 86=some (tabO tb)->Q (.ret (.bool true)) s)(b t:Nat):St T prog w A Q E s0 fr cc cn cl 0 ([(fr,frO #[ent w.params Y48 (k 0) (.ref sa)] 1),(cc,ceO none),(sa,liO #[] es),(cn,ceO none),(cl,ceO none),(86,tabO #[])]) b t:=by
  have hL:=H.len w.params
  refine St.job hL hr (H.a_s0_0 fr cc cn cl k sa es b t) rfl trivial ?_
  refine St.ord (l:=[(fr,frO #[ent w.params Y48 (k 0) (.ref sa)] 1),(sa,liO #[] es),(cc,ceO (some (.ref (b+10)))),(b+10,liO #[.int 6 (t+1),.int 5 (t+2),.int 10 (t+3)] 0),(cn,ceO none),(cl,ceO none),(86,tabO #[])]) [1,3,2,0,4,5,6] rfl rfl ?_
  refine St.job hL hr (H.a_s1_0 fr cc cn cl k sa es _ _) rfl trivial ?_
  exact St.ord [0,2,4,3,5,6,1] rfl rfl (compL_3 H 6 hr sa _ hQ fr cc cn cl (kL [k 0,_]) _ (b+10) 0 _ _ _ _ _)
theorem law01_1 (H:AR T prog)(hr:Room 116 A)(fr cc cn cl:Addr)(k:Nat->Tok)(sa:Addr)(es:Nat)(x0:Int)(tx0:Tok)(hQ:∀s tb,KeepL s0 s->s.heap.get? sa=some (liO #[.int x0 tx0] es)->s.heap.get? 86=some (tabO tb)->Q (.ret (.bool true)) s)(b t:Nat):St T prog w A Q E s0 fr cc cn cl 0 ([(fr,frO #[ent w.params Y48 (k 0) (.ref sa)] 1),(cc,ceO none),(sa,liO #[.int x0 tx0] es),(cn,ceO none),(cl,ceO none),(86,tabO #[])]) b t:=by
  have hL:=H.len w.params
  obtain ⟨k0,e0⟩:=fmod_nat x0
  refine St.job hL hr (H.a_s0_1 fr cc cn cl k sa es x0 (k0:Int) tx0 b t) rfl ⟨cMod_ok (mod840 e0),trivial⟩ ?_
  refine St.ord (l:=[(fr,frO #[ent w.params Y48 (k 0) (.ref sa)] 1),(sa,liO #[.int x0 tx0] es),(cc,ceO (some (.ref (b+10)))),(b+10,liO #[.int (k0:Int) (t+3),.int 5 (t+5),.int 10 (t+6)] 0),(cn,ceO none),(cl,ceO none),(86,tabO #[])]) [1,3,2,0,4,5,6] rfl rfl ?_
  refine St.job hL hr (H.a_s1_1 fr cc cn cl k sa es x0 tx0 _ _) rfl trivial ?_
  exact St.ord [0,2,4,3,5,6,1] rfl rfl (compL_3 H k0 hr sa _ hQ fr cc cn cl (kL [k 0,_]) _ (b+10) 0 _ _ _ _ _)
theorem law01_2 (H:AR T prog)(hr:Room 116 A)(fr cc cn cl:Addr)(k:Nat->Tok)(sa:Addr)(es:Nat)(x0 x1:Int)(tx0 tx1:Tok)(hQ:∀s tb,KeepL s0 s->s.heap.get? sa=some (liO #[.int x0 tx0,.int x1 tx1] es)->s.heap.get? 86=some (tabO tb)->Q (.ret (.bool true)) s)(b t:Nat):St T prog w A Q E s0 fr cc cn cl 0 ([(fr,frO #[ent w.params Y48 (k 0) (.ref sa)] 1),(cc,ceO none),(sa,liO #[.int x0 tx0,.int x1 tx1] es),(cn,ceO none),(cl,ceO none),(86,tabO #[])]) b t:=by
  have hL:=H.len w.params
  refine cps fun Gp kp=>?_
  obtain ⟨k0,e0⟩:=fmod_nat x0
  obtain ⟨k1,e1⟩:=fmod_nat x1
  refine kp ?_
  refine St.job hL hr (H.a_s0_2 fr cc cn cl k sa es x0 x1 (k0:Int) (k1:Int) tx0 tx1 b t) rfl ⟨cMod_ok (mod840 e0),cMod_ok (mod840 e1),trivial⟩ ?_
  refine St.ord (l:=[(fr,frO #[ent w.params Y48 (k 0) (.ref sa)] 1),(sa,liO #[.int x0 tx0,.int x1 tx1] es),(cc,ceO (some (.ref (b+10)))),(b+10,liO #[.int (k0:Int) (t+3),.int (k1:Int) (t+6),.int 10 (t+9)] 0),(cn,ceO none),(cl,ceO none),(86,tabO #[])]) [1,3,2,0,4,5,6] rfl rfl ?_
  refine St.job hL hr (H.a_s1_2 fr cc cn cl k sa es x0 x1 tx0 tx1 _ _) rfl trivial ?_
  exact St.ord [0,2,4,3,5,6,1] rfl rfl (compL_4 H k0 k1 10 hr sa _ hQ fr cc cn cl (kL [k 0,_]) _ (b+10) 0 _ _ _ _ _)
theorem law01_3 (H:AR T prog)(hr:Room 116 A)(fr cc cn cl:Addr)(k:Nat->Tok)(sa:Addr)(es:Nat)(x0 x1 x2:Int)(tx0 tx1 tx2:Tok)(xs:Array Value)(hx:xs.size<=sizeLine)(hx3:3<=xs.size)(hp:slicePick xs none (some 3) none=#[.int x0 tx0,.int x1 tx1,.int x2 tx2])(hQ:∀s tb,KeepL s0 s->s.heap.get? sa=some (liO xs es)->s.heap.get? 86=some (tabO tb)->Q (.ret (.bool true)) s)(b t:Nat):St T prog w A Q E s0 fr cc cn cl 0 ([(fr,frO #[ent w.params Y48 (k 0) (.ref sa)] 1),(cc,ceO none),(sa,liO xs es),(cn,ceO none),(cl,ceO none),(86,tabO #[])]) b t:=by
  have hL:=H.len w.params
  refine cps fun Gp kp=>?_
  obtain ⟨k0,e0⟩:=fmod_nat x0
  obtain ⟨k1,e1⟩:=fmod_nat x1
  obtain ⟨k2,e2⟩:=fmod_nat x2
  refine kp ?_
  refine St.job hL hr (H.a_s0_3 fr cc cn cl k sa es xs xs.size x0 x1 x2 (k0:Int) (k1:Int) (k2:Int) tx0 tx1 tx2 b t) rfl ⟨cSlL_ok hx hp,cMod_ok (mod840 e0),cMod_ok (mod840 e1),cMod_ok (mod840 e2),cLenL_ok rfl hx,cSlL_ok (by rw [sizeLine_eq];show 3<=_;decide) (slice_none _ _ (by show 3<=_;exact hx3)),trivial⟩ ?_
  refine St.ord (l:=[(fr,frO #[ent w.params Y48 (k 0) (.ref sa)] 1),(sa,liO xs es),(cc,ceO (some (.ref (b+10)))),(b+10,liO #[.int (k0:Int) (t+3),.int (k1:Int) (t+6),.int (k2:Int) (t+9)] 0),(cn,ceO none),(cl,ceO none),(86,tabO #[])]) [1,3,2,0,4,5,6] rfl rfl ?_
  refine St.job hL hr (H.a_s1_3 fr cc cn cl k sa es xs xs.size _ _) rfl ⟨cLenL_ok rfl hx,cGt_ok (by rw [decide_eq_true_eq];omega),trivial⟩ ?_
  exact St.ord [0,2,4,3,5,6,1] rfl rfl (compL_4 H k0 k1 k2 hr sa _ hQ fr cc cn cl (kL [k 0,_]) _ (b+10) 0 _ _ _ _ _)
theorem law_all (H:AR T prog){R:Result->Shared->Prop}{s:Shared}{G:Array GenState}(hr:Room 116 A){xs:Array Value}{es b t:Nat}(hx:xs.size<=sizeLine)(hints:∀v∈xs,∃i u,v=.int i u)(I:Inv (T w.params) s [(137,liO xs es),(86,tabO #[])] b t G)(hR:∀s' tb,KeepL s s'->s'.heap.get? 137=some (liO xs es)->s'.heap.get? 86=some (tabO tb)->R (.ok (.ret (.bool true))) s'):codeAny (model prog w) A (.call (.ref 136) ⟨[.ref 137],[]⟩) R s:=by
  have z:=(run_tr (jobQ (w:=w) (J:=fun K P=>lawAJ 137 b t K P) (H.a_lawA 137 b t)) (.inr rfl) rfl (fun ds q hm=>(hs_ok _ (C:=[]) trivial).all ds q hm)).frame (N:=[(137,liO xs es),(86,tabO #[])])
  refine z G A R s (hr.mono (Nat.le_of_ble_eq_true rfl)) I fun s1 I1 S1 N1=>?_
  have L1:LI (T w.params) s s1 _ _ _ _:=⟨I1,(KeepL.refl s).step I S1 I1.gens⟩
  refine codeAny_func ?_
  refine (show St T prog w A _ _ s (b+0) (b+1) (b+2) (b+3) 0 [(b+0,frO #[ent w.params Y48 (kL [t+0] 0) (.ref 137)] 1),(b+1,ceO none),(137,liO xs es),(b+2,ceO none),(b+3,ceO none),(86,tabO #[])] (b+4) (t+1) from ?_) s1 _ (L1.part [0,1,4,2,3,5] rfl rfl)
  obtain ⟨l⟩:=xs
  match l,hx,hints with
  | [],_,_=>exact law01_0 H hr _ _ _ _ (kL [t+0]) 137 es hR _ _
  | [v0],_,hints=>
    obtain ⟨x0,tx0,rfl⟩:=hints v0 (by simp)
    exact law01_1 H hr _ _ _ _ (kL [t+0]) 137 es x0 tx0 hR _ _
  | [v0,v1],_,hints=>
    obtain ⟨x0,tx0,rfl⟩:=hints v0 (by simp)
    obtain ⟨x1,tx1,rfl⟩:=hints v1 (by simp)
    exact law01_2 H hr _ _ _ _ (kL [t+0]) 137 es x0 x1 tx0 tx1 hR _ _
  | v0::v1::v2::l,hx,hints=>
    obtain ⟨x0,tx0,rfl⟩:=hints v0 (by simp)
    obtain ⟨x1,tx1,rfl⟩:=hints v1 (by simp)
    obtain ⟨x2,tx2,rfl⟩:=hints v2 (by simp)
    exact law01_3 H hr _ _ _ _ (kL [t+0]) 137 es x0 x1 x2 tx0 tx1 tx2 _ hx (by simp) (slice_three _ (by simp)) hR _ _
end
theorem tab_ex {K:KT}(h:tabOk K=true):∃o vs,K.get 90=some o/\o.cls=.type "code"/\o.data=.fields vs/\vs[11]?=some (.ref 86):=by
  unfold tabOk at h
  split at h
  · rename_i s dd vs sl e
    rw [Bool.and_eq_true] at h
    have h1:=eq_of_beq h.1
    have h2:=h.2
    split at h2
    · rename_i a e2
      have:=eq_of_beq h2
      subst this
      exact ⟨_,vs,e,by rw [h1],rfl,e2⟩
    · cases h2
  · cases h
theorem finN_bare {G:Array GenState}(h:AllBare G):∀n,AllBare (finN G n)
  | 0=>h
  | n+1=>(finN_bare h n).push rfl
theorem roomCaller:Room 116 callerA:=⟨rfl,by decide +kernel,by decide +kernel⟩
theorem ints_of:∀{vs:List Value}{ns:List Int},IntsAre vs ns->(∀v∈vs.toArray,∃i u,v=.int i u)/\vs.length=ns.length
  | _,_,.nil=>⟨fun v h=>by simp at h,rfl⟩
  | _,_,.cons n t h=>⟨fun v hv=>by
      rcases List.mem_cons.mp (show v∈_::_ by simpa using hv) with rfl | hv
      · exact ⟨n,t,rfl⟩
      · exact (ints_of h).1 v (by simpa using hv),by rw [List.length_cons,List.length_cons,(ints_of h).2]⟩
theorem fit63 {vs:List Value}{ns:List Int}(h:IntsAre vs ns)(hc:ns.length<=63):vs.toArray.size<=sizeLine:=by
  rw [sizeLine_eq,List.size_toArray,(ints_of h).2];omega
theorem law_top {T:Params->KT}{prog:Program}{w:World}(H:AR T prog){c:ClaimW}{cl:Str->Option Addr}{mean:ExcName->Option Value}{args:List WData}{s:Shared}{xs:Array Value}(ZH:KT.Holds s.heap 1 0 (T w.params))(hg:s.gens=#[])(hsz:s.heap.objs.size=138)(h137:s.heap.get? 137=some (liO xs 0))(hints:∀v∈xs,∃i u,v=.int i u)(hx:xs.size<=sizeLine)(hraise:∀cls,c.raises args cls=false)(hpost:c.post args (.bool true) args=true):
    wpAny (model prog w) callerA (call (.ref 136) [.ref 137]) (fun v s'=>GoodWG c cl mean args s (.ok (.ret v)) s') (fun e s'=>GoodWG c cl mean args s (.error e) s') s:=by
  have h86:s.heap.get? 86=some (tabO #[]):=kt_at ZH (H.g86 _)
  obtain ⟨o,vs,e90,ec,ed,ev⟩:=tab_ex (H.tab w.params)
  have e90':=kt_at ZH e90
  have I:Inv (T w.params) s [(137,liO xs 0),(86,tabO #[])] 138 s.toks #[]:=by
    refine ⟨fun a o _ e=>kt_at ZH e,hg,fun p hp=>?_,by simp,fun p hp=>?_,hsz,rfl,Nat.le_refl _⟩
    · rcases List.mem_cons.mp hp with rfl | hp
      · exact h137
      · rcases List.mem_cons.mp hp with rfl | hp
        · exact h86
        · cases hp
    · rcases List.mem_cons.mp hp with rfl | hp
      · rfl
      · rcases List.mem_cons.mp hp with rfl | hp
        · rfl
        · cases hp
  refine wpAny_call (law_all H roomCaller hx hints I fun s' tb K k137 k86=>?_)
  have keep:∀a o,a≠86->s.heap.get? a=some o->s'.heap.get? a=some o:=fun a o ha e=>by
    have hlt:a<138:=hsz▸Heap.lt_size e
    by_cases h:a<137
    · exact K.keep a o h ha e
    · have:a=137:=Nat.le_antisymm (Nat.le_of_lt_succ hlt) (Nat.le_of_not_lt h)
      subst this
      rw [h137] at e
      injection e with e
      rw [<- e];exact k137
  have t0:s.heap.TableAt 90 86 #[]:=⟨⟨o,vs,e90',ec,ed,ev⟩,h86⟩
  have t1:s'.heap.TableAt 90 86 (#[]++tb):=⟨⟨o,vs,keep 90 o (by decide) e90',ec,ed,ev⟩,by rw [Array.empty_append];exact k86⟩
  obtain ⟨n,hn⟩:=K.fin
  refine ⟨.inl ⟨.bool true,_,[],rfl,hraise,ReadsW.bool true,hpost,fun _=>⟨List.nodup_nil,fun _ hm=>(nomatch hm)⟩⟩,(OldK.refl s.heap).step_table t0 t0 t1 (fun a o ha e=>keep a o ha e) (by decide),K.os,?_⟩
  rw [hn,hg]
  exact finN_bare AllBare.empty n
end
open PySem.W.ZRun
def qq(n:Nat):Nat:=n
theorem qq0(_:PySem.Challenge.rw_re0080_01.Holds):qq 0=0:=rfl
theorem qq1:qq 1=1:=rfl
/-- the head's own constants are laid once ahead of the checks (the discharger's try leaves lay.ktop_300 behind) -/
theorem lay:qq 0=0/\qq 1=1:=by
  simp (disch:=(k_dflt (w_on;o_law;(set_option synthInstance.maxSize 1 in z_head)))) only [qq0,qq1]
  exact ⟨rfl,trivial⟩
noncomputable abbrev KK:=lay.ktop_300
local macro_rules | `(tactic|walk_at "r1")=>`(tactic|((repeat intro _);rename_i a b;cases a<;>(show _=_;kernel_rfl)))
local macro_rules | `(tactic|walk_at "r2")=>`(tactic|((repeat intro _);rename_i a b;cases a<;>cases b<;>(show _=_;kernel_rfl)))
theorem r_ell1(p):ell1Run KK p:=by walk_at "r1"
theorem r_ell0(p):ell0Run KK p:=by walk_at "r1"
theorem r_end(p):endRun KK p:=by walk_at "r1"
theorem r_num4(p):num4Run KK p:=by walk_at "r1"
theorem r_num3(p):num3Run KK p:=by walk_at "r1"
theorem r_wlk4(p):wlk4Run KK p:=by walk_at "r1"
theorem r_wlk3(p):wlk3Run KK p:=by walk_at "r1"
theorem r_enum(p):enumRun KK p:=by walk_at "r1"
theorem r_enit(p):enitRun KK p:=by walk_at "r1"
theorem r_tpit(p):tpitRun KK p:=by walk_at "r1"
theorem r_tpn0(p):tpn0Run KK p:=by walk_at "r1"
theorem r_tpn1(p):tpn1Run KK p:=by walk_at "r1"
theorem r_tpnE(p):tpnERun KK p:=by walk_at "r1"
theorem r_g0(p):g0Run KK p:=by walk_at "r1"
theorem r_gT3(p):gT3Run KK p:=by walk_at "r1"
theorem r_gT4(p):gT4Run KK p:=by walk_at "r1"
theorem r_gN1(p):gN1Run KK p:=by walk_at "r1"
theorem r_gN0(p):gN0Run KK p:=by walk_at "r1"
theorem r_hinge4(p):hinge4Run KK p:=by walk_at "r1"
theorem r_hinge3(p):hinge3Run KK p:=by walk_at "r1"
theorem r_s0_0(p):s0_0Run KK p:=by walk_at "r2"
theorem r_s0_1(p):s0_1Run KK p:=by walk_at "r2"
theorem r_s0_2(p):s0_2Run KK p:=by walk_at "r2"
theorem r_s0_3(p):s0_3Run KK p:=by walk_at "r2"
theorem r_s1_0(p):s1_0Run KK p:=by walk_at "r2"
theorem r_s1_1(p):s1_1Run KK p:=by walk_at "r2"
theorem r_s1_2(p):s1_2Run KK p:=by walk_at "r2"
theorem r_s1_3(p):s1_3Run KK p:=by walk_at "r2"
theorem r_s2_4(p):s2_4Run KK p:=by walk_at "r2"
theorem r_s2_3(p):s2_3Run KK p:=by walk_at "r2"
theorem r_s3_4(p):s3_4Run KK p:=by walk_at "r2"
theorem r_s3_3(p):s3_3Run KK p:=by walk_at "r2"
theorem r_s4_4(p):s4_4Run KK p:=by walk_at "r2"
theorem r_s4_3(p):s4_3Run KK p:=by walk_at "r2"
theorem r_s5_4(p):s5_4Run KK p:=by walk_at "r2"
theorem r_s5_3(p):s5_3Run KK p:=by walk_at "r2"
theorem r_s6_4(p):s6_4Run KK p:=by walk_at "r2"
theorem r_s6_3(p):s6_3Run KK p:=by walk_at "r2"
theorem r_e1_4(p):e1_4Run KK p:=by walk_at "r2"
theorem r_e1_3(p):e1_3Run KK p:=by walk_at "r2"
theorem r_e2_4(p):e2_4Run KK p:=by walk_at "r2"
theorem r_e2_3(p):e2_3Run KK p:=by walk_at "r2"
theorem r_s8_4(p):s8_4Run KK p:=by walk_at "r2"
theorem r_s8_3(p):s8_3Run KK p:=by walk_at "r2"
theorem r_s9_4(p):s9_4Run KK p:=by walk_at "r2"
theorem r_s9_3(p):s9_3Run KK p:=by walk_at "r2"
theorem r_e3_4(p):e3_4Run KK p:=by walk_at "r2"
theorem r_e4_4(p):e4_4Run KK p:=by walk_at "r2"
theorem r_e5_4(p):e5_4Run KK p:=by walk_at "r2"
theorem r_e3_3(p):e3_3Run KK p:=by walk_at "r2"
theorem r_e4_3(p):e4_3Run KK p:=by walk_at "r2"
theorem r_e5_3(p):e5_3Run KK p:=by walk_at "r2"
theorem r_lawA(p):lawARun KK p:=by walk_at "r1"
theorem r_e1r(p):e1rRun KK p:=by walk_at "r1"
theorem r_lexer(p):lexerRun KK p:=by walk_at "r1"
theorem r_nt4_0n(p):nt4_0nRun KK p:=by walk_at "r1"
theorem r_nt4_1a(p):nt4_1aRun KK p:=by walk_at "r1"
theorem r_nt4_2a(p):nt4_2aRun KK p:=by walk_at "r1"
theorem r_nt4_3n(p):nt4_3nRun KK p:=by walk_at "r1"
theorem r_nt4_0a(p):nt4_0aRun KK p:=by walk_at "r1"
theorem r_nt4_1n(p):nt4_1nRun KK p:=by walk_at "r1"
theorem r_nt4_2n(p):nt4_2nRun KK p:=by walk_at "r1"
theorem r_nt4_3a(p):nt4_3aRun KK p:=by walk_at "r1"
theorem r_nt3_0n(p):nt3_0nRun KK p:=by walk_at "r1"
theorem r_nt3_1n(p):nt3_1nRun KK p:=by walk_at "r1"
theorem r_nt3_2a(p):nt3_2aRun KK p:=by walk_at "r1"
theorem r_nt3_0a(p):nt3_0aRun KK p:=by walk_at "r1"
theorem r_nt3_1a(p):nt3_1aRun KK p:=by walk_at "r1"
theorem r_nt3_2n(p):nt3_2nRun KK p:=by walk_at "r1"
theorem r_nE(p):nERun KK p:=by walk_at "r1"
theorem r_su1_0(p):su1_0Run KK p:=by walk_at "r1"
theorem r_su1_1(p):su1_1Run KK p:=by walk_at "r1"
theorem r_su2_00(p):su2_00Run KK p:=by walk_at "r1"
theorem r_su2_01(p):su2_01Run KK p:=by walk_at "r1"
theorem r_su2_10(p):su2_10Run KK p:=by walk_at "r1"
theorem r_su2_11(p):su2_11Run KK p:=by walk_at "r1"
theorem r_su3_000(p):su3_000Run KK p:=by walk_at "r1"
theorem r_su3_001(p):su3_001Run KK p:=by walk_at "r1"
theorem r_su3_010(p):su3_010Run KK p:=by walk_at "r1"
theorem r_su3_011(p):su3_011Run KK p:=by walk_at "r1"
theorem r_su3_100(p):su3_100Run KK p:=by walk_at "r1"
theorem r_su3_101(p):su3_101Run KK p:=by walk_at "r1"
theorem r_su3_110(p):su3_110Run KK p:=by walk_at "r1"
theorem r_su3_111(p):su3_111Run KK p:=by walk_at "r1"
theorem r_rB(p):rBRun KK p:=by walk_at "r1"
theorem r_rA(p):rARun KK p:=by walk_at "r1"
theorem r_rD(p):rDRun KK p:=by walk_at "r1"
theorem r_turn0(p):turn0Run KK p:=by walk_at "r1"
theorem r_turn1(p):turn1Run KK p:=by walk_at "r1"
theorem r_push0(p):push0Run KK p:=by walk_at "r1"
theorem r_push1(p):push1Run KK p:=by walk_at "r1"
theorem r_pop1(p):pop1Run KK p:=by walk_at "r1"
theorem r_pop2(p):pop2Run KK p:=by walk_at "r1"
theorem r_sN4(p):sN4Run KK p:=by walk_at "r1"
theorem r_sN6(p):sN6Run KK p:=by walk_at "r1"
theorem r_sO4(p):sO4Run KK p:=by walk_at "r1"
theorem r_sO6(p):sO6Run KK p:=by walk_at "r1"
theorem r_sC6(p):sC6Run KK p:=by walk_at "r1"
theorem r_sD6(p):sD6Run KK p:=by walk_at "r1"
theorem r_sA(p):sARun KK p:=by walk_at "r1"
theorem r_genit(p):genitRun KK p:=by walk_at "r1"
theorem r_gM(p):gMRun KK p:=by walk_at "r1"
theorem r_sBody(p):sBodyRun KK p:=by walk_at "r1"
theorem r_strip1(p):strip1Run KK p:=by walk_at "r1"
theorem r_strip0(p):strip0Run KK p:=by walk_at "r1"
theorem r_t_q1(p):t_q1Run KK p:=by walk_at "r1"
theorem r_t_q2(p):t_q2Run KK p:=by walk_at "r1"
theorem r_t_q2e(p):t_q2eRun KK p:=by walk_at "r1"
theorem r_t_q3(p):t_q3Run KK p:=by walk_at "r1"
theorem r_t_q3e(p):t_q3eRun KK p:=by walk_at "r1"
theorem r_t_b1(p):t_b1Run KK p:=by walk_at "r1"
theorem r_t_b2(p):t_b2Run KK p:=by walk_at "r1"
theorem r_t_b3(p):t_b3Run KK p:=by walk_at "r1"
theorem r_t_oN(p):t_oNRun KK p:=by walk_at "r1"
theorem r_t_oQ3r(p):t_oQ3rRun KK p:=by walk_at "r1"
theorem r_t_oQ4r(p):t_oQ4rRun KK p:=by walk_at "r1"
theorem r_t_oB3r(p):t_oB3rRun KK p:=by walk_at "r1"
theorem r_t_oB3n(p):t_oB3nRun KK p:=by walk_at "r1"
theorem r_t_oE3(p):t_oE3Run KK p:=by walk_at "r1"
theorem r_t_oE4(p):t_oE4Run KK p:=by walk_at "r1"
theorem r_t_Gr(p):t_GrRun KK p:=by walk_at "r1"
theorem r_t_Gn(p):t_GnRun KK p:=by walk_at "r1"
theorem r_t_Gz(p):t_GzRun KK p:=by walk_at "r1"
theorem r_iE(p):iERun KK p:=by walk_at "r1"
theorem r_i9m(p):i9mRun KK p:=by walk_at "r1"
theorem r_ime1(p):ime1Run KK p:=by walk_at "r1"
theorem r_ino(p):inoRun KK p:=by walk_at "r1"
theorem r_iskip(p):iskipRun KK p:=by walk_at "r1"
theorem r_imp1(p):imp1Run KK p:=by walk_at "r1"
theorem r_imp0(p):imp0Run KK p:=by walk_at "r1"
theorem r_oE(p):oERun KK p:=by walk_at "r1"
theorem r_oF_4(p):oF_4Run KK p:=by walk_at "r1"
theorem r_oT1_4(p):oT1_4Run KK p:=by walk_at "r1"
theorem r_oT2_4(p):oT2_4Run KK p:=by walk_at "r1"
theorem r_oF_3(p):oF_3Run KK p:=by walk_at "r1"
theorem r_oT1_3(p):oT1_3Run KK p:=by walk_at "r1"
theorem r_oT2_3(p):oT2_3Run KK p:=by walk_at "r1"
theorem r_wq1(p):wq1Run KK p:=by walk_at "r2"
theorem r_wb1(p):wb1Run KK p:=by walk_at "r2"
theorem r_wb_3_5(p):wbRun 3 5 KK p:=by walk_at "r2"
theorem r_wq_4_0(p):wqRun 4 0 KK p:=by walk_at "r2"
theorem r_wb_4_0(p):wbRun 4 0 KK p:=by walk_at "r2"
theorem r_wq_4_1(p):wqRun 4 1 KK p:=by walk_at "r2"
theorem r_wb_4_1(p):wbRun 4 1 KK p:=by walk_at "r2"
theorem r_wq_4_2(p):wqRun 4 2 KK p:=by walk_at "r2"
theorem r_wb_4_2(p):wbRun 4 2 KK p:=by walk_at "r2"
theorem r_wq_4_3(p):wqRun 4 3 KK p:=by walk_at "r2"
theorem r_wb_4_3(p):wbRun 4 3 KK p:=by walk_at "r2"
theorem r_wq_4_4(p):wqRun 4 4 KK p:=by walk_at "r2"
theorem r_wb_4_4(p):wbRun 4 4 KK p:=by walk_at "r2"
theorem r_wq_4_5(p):wqRun 4 5 KK p:=by walk_at "r2"
theorem r_wb_4_5(p):wbRun 4 5 KK p:=by walk_at "r2"
theorem r_wq_4_6(p):wqRun 4 6 KK p:=by walk_at "r2"
theorem r_wb_4_6(p):wbRun 4 6 KK p:=by walk_at "r2"
theorem r_wq_4_7(p):wqRun 4 7 KK p:=by walk_at "r2"
theorem r_wb_4_7(p):wbRun 4 7 KK p:=by walk_at "r2"
theorem r_wq_4_8(p):wqRun 4 8 KK p:=by walk_at "r2"
theorem r_wb_4_8(p):wbRun 4 8 KK p:=by walk_at "r2"
theorem r_wq_4_9(p):wqRun 4 9 KK p:=by walk_at "r2"
theorem r_wb_4_9(p):wbRun 4 9 KK p:=by walk_at "r2"
theorem r_wq_4_10(p):wqRun 4 10 KK p:=by walk_at "r2"
theorem r_wb_4_10(p):wbRun 4 10 KK p:=by walk_at "r2"
theorem r_wq_4_11(p):wqRun 4 11 KK p:=by walk_at "r2"
theorem r_wb_4_11(p):wbRun 4 11 KK p:=by walk_at "r2"
theorem r_wq_4_12(p):wqRun 4 12 KK p:=by walk_at "r2"
theorem r_wb_4_12(p):wbRun 4 12 KK p:=by walk_at "r2"
theorem r_wq_4_13(p):wqRun 4 13 KK p:=by walk_at "r2"
theorem r_wb_4_13(p):wbRun 4 13 KK p:=by walk_at "r2"
theorem r_wq_4_14(p):wqRun 4 14 KK p:=by walk_at "r2"
theorem r_wb_4_14(p):wbRun 4 14 KK p:=by walk_at "r2"
theorem r_wq_4_15(p):wqRun 4 15 KK p:=by walk_at "r2"
theorem r_wb_4_15(p):wbRun 4 15 KK p:=by walk_at "r2"
theorem r_whl(p):whlRun KK p:=by walk_at "r1"
theorem r_whx(p):whxRun KK p:=by walk_at "r1"
theorem r_wz(p):wzRun KK p:=by walk_at "r1"
theorem r_wE(p):wERun KK p:=by walk_at "r1"
theorem r_w0_ff(p):w0Run false false KK p:=by walk_at "r1"
theorem r_w0_ft(p):w0Run false true KK p:=by walk_at "r1"
theorem r_w1_ff(p):w1Run false false KK p:=by walk_at "r1"
theorem r_w1_ft(p):w1Run false true KK p:=by walk_at "r1"
theorem r_w1_tf(p):w1Run true false KK p:=by walk_at "r1"
theorem r_w1_tt(p):w1Run true true KK p:=by walk_at "r1"
theorem r_w2_ff(p):w2Run false false KK p:=by walk_at "r1"
theorem r_w2_ft(p):w2Run false true KK p:=by walk_at "r1"
theorem r_w2_tf(p):w2Run true false KK p:=by walk_at "r1"
theorem r_w2_tt(p):w2Run true true KK p:=by walk_at "r1"
theorem r_wa_fff(p):waRun false false false KK p:=by walk_at "r1"
theorem r_wa_tft(p):waRun true false true KK p:=by walk_at "r1"
theorem r_wc_fff(p):wcRun false false false KK p:=by walk_at "r1"
theorem r_wc_tft(p):wcRun true false true KK p:=by walk_at "r1"
theorem r_wc_ftt(p):wcRun false true true KK p:=by walk_at "r1"
theorem r_wc_ttf(p):wcRun true true false KK p:=by walk_at "r1"
theorem r_wi_fff(p):wiRun false false false KK p:=by walk_at "r1"
theorem r_wi_tft(p):wiRun true false true KK p:=by walk_at "r1"
theorem r_wi_ftt(p):wiRun false true true KK p:=by walk_at "r1"
theorem r_wi_ttf(p):wiRun true true false KK p:=by walk_at "r1"
theorem r_wh_fff(p):whRun false false false KK p:=by walk_at "r1"
theorem r_wh_ttf(p):whRun true true false KK p:=by walk_at "r1"
theorem r_wl_ftt(p):wlRun false true true KK p:=by walk_at "r1"
theorem r_wl_tft(p):wlRun true false true KK p:=by walk_at "r1"
theorem r_way_f4(p):wayRun false 4 15 KK p:=by walk_at "r1"
theorem r_way_f3(p):wayRun false 3 7 KK p:=by walk_at "r1"
theorem r_way_t4(p):wayRun true 4 15 KK p:=by walk_at "r1"
theorem r_way_t3(p):wayRun true 3 7 KK p:=by walk_at "r1"
theorem r_fo35:∀ P, forOk (KK P):=fun P=>⟨fun fr en=>by kernel_rfl,by kernel_rfl⟩
theorem r_ifs:∀ P, IfS (lawN (KK P) 7):=by intros;show _=_;kernel_rfl
theorem r_res:∀ P, ReS (lawN (KK P) 10):=by intros;show _=_;kernel_rfl
theorem r_len:∀ P, (bodyOf (KK P) 136).length = 11:=by intros;show _=_;kernel_rfl
theorem r_isgen:∀ P, isGenFn (KK P) 35 = true:=by intros;show _=_;kernel_rfl
theorem r_nolim:∀ P, isNoLim (KK P) = true:=by intros;show _=_;kernel_rfl
theorem r_bind:∀ P, bindOk (KK P):=fun P x tx=>by kernel_rfl
theorem r_codeT:∀ P, codeTop (KK P) 35 = true:=by intros;show _=_;kernel_rfl
theorem r_g86:∀ P, (KK P).get 86 = some (tabO #[]):=by intros;show _=_;kernel_rfl
theorem r_tab:∀ P, tabOk (KK P) = true:=by intros;show _=_;kernel_rfl
theorem r_fn63:∀ P, isFn (KK P) 63 = true:=by intros;show _=_;kernel_rfl
theorem r_c1:∀ P fr en, cl (L35 (KK P) fr en) = false:=by intros;show _=_;kernel_rfl
theorem r_c2:∀ P fr, cl (F35 (KK P) fr) = false:=by intros;show _=_;kernel_rfl
theorem r_q1:∀ P fr en, (L35 (KK P) fr en).quiet = true:=by intros;show _=_;kernel_rfl
theorem r_fo42:∀ P fr ge, L42 (KK P) fr ge = .forLoop (tgOf (bodyOf (KK P) 42) 4) (.ref ge) (bdOf (bodyOf (KK P) 42) 4) [] (e42 (KK P) fr):=by intros;show _=_;kernel_rfl
theorem r_q42:∀ P fr ge, (L42 (KK P) fr ge).quiet = true:=by intros;show _=_;kernel_rfl
theorem r_c42:∀ P fr, cl (F42 (KK P) fr) = false:=by intros;show _=_;kernel_rfl
theorem ar(p):AR KK p:=⟨r_ell1 p,r_ell0 p,r_end p,r_num4 p,r_num3 p,r_wlk4 p,r_wlk3 p,r_enum p,r_enit p,r_tpit p,r_tpn0 p,r_tpn1 p,r_tpnE p,r_g0 p,r_gT3 p,r_gT4 p,r_gN1 p,r_gN0 p,r_hinge4 p,r_hinge3 p,r_s0_0 p,r_s0_1 p,r_s0_2 p,r_s0_3 p,r_s1_0 p,r_s1_1 p,r_s1_2 p,r_s1_3 p,r_s2_4 p,r_s2_3 p,r_s3_4 p,r_s3_3 p,r_s4_4 p,r_s4_3 p,r_s5_4 p,r_s5_3 p,r_s6_4 p,r_s6_3 p,r_e1_4 p,r_e1_3 p,r_e2_4 p,r_e2_3 p,r_s8_4 p,r_s8_3 p,r_s9_4 p,r_s9_3 p,r_e3_4 p,r_e4_4 p,r_e5_4 p,r_e3_3 p,r_e4_3 p,r_e5_3 p,r_lawA p,r_e1r p,r_lexer p,r_nt4_0n p,r_nt4_1a p,r_nt4_2a p,r_nt4_3n p,r_nt4_0a p,r_nt4_1n p,r_nt4_2n p,r_nt4_3a p,r_nt3_0n p,r_nt3_1n p,r_nt3_2a p,r_nt3_0a p,r_nt3_1a p,r_nt3_2n p,r_nE p,r_su1_0 p,r_su1_1 p,r_su2_00 p,r_su2_01 p,r_su2_10 p,r_su2_11 p,r_su3_000 p,r_su3_001 p,r_su3_010 p,r_su3_011 p,r_su3_100 p,r_su3_101 p,r_su3_110 p,r_su3_111 p,r_rB p,r_rA p,r_rD p,r_turn0 p,r_turn1 p,r_push0 p,r_push1 p,r_pop1 p,r_pop2 p,r_sN4 p,r_sN6 p,r_sO4 p,r_sO6 p,r_sC6 p,r_sD6 p,r_sA p,r_genit p,r_gM p,r_sBody p,r_strip1 p,r_strip0 p,r_t_q1 p,r_t_q2 p,r_t_q2e p,r_t_q3 p,r_t_q3e p,r_t_b1 p,r_t_b2 p,r_t_b3 p,r_t_oN p,r_t_oQ3r p,r_t_oQ4r p,r_t_oB3r p,r_t_oB3n p,r_t_oE3 p,r_t_oE4 p,r_t_Gr p,r_t_Gn p,r_t_Gz p,r_iE p,r_i9m p,r_ime1 p,r_ino p,r_iskip p,r_imp1 p,r_imp0 p,r_oE p,r_oF_4 p,r_oT1_4 p,r_oT2_4 p,r_oF_3 p,r_oT1_3 p,r_oT2_3 p,r_wq1 p,r_wb1 p,r_wb_3_5 p,r_wq_4_0 p,r_wb_4_0 p,r_wq_4_1 p,r_wb_4_1 p,r_wq_4_2 p,r_wb_4_2 p,r_wq_4_3 p,r_wb_4_3 p,r_wq_4_4 p,r_wb_4_4 p,r_wq_4_5 p,r_wb_4_5 p,r_wq_4_6 p,r_wb_4_6 p,r_wq_4_7 p,r_wb_4_7 p,r_wq_4_8 p,r_wb_4_8 p,r_wq_4_9 p,r_wb_4_9 p,r_wq_4_10 p,r_wb_4_10 p,r_wq_4_11 p,r_wb_4_11 p,r_wq_4_12 p,r_wb_4_12 p,r_wq_4_13 p,r_wb_4_13 p,r_wq_4_14 p,r_wb_4_14 p,r_wq_4_15 p,r_wb_4_15 p,r_whl p,r_whx p,r_wz p,r_wE p,r_w0_ff p,r_w0_ft p,r_w1_ff p,r_w1_ft p,r_w1_tf p,r_w1_tt p,r_w2_ff p,r_w2_ft p,r_w2_tf p,r_w2_tt p,r_wa_fff p,r_wa_tft p,r_wc_fff p,r_wc_tft p,r_wc_ftt p,r_wc_ttf p,r_wi_fff p,r_wi_tft p,r_wi_ftt p,r_wi_ttf p,r_wh_fff p,r_wh_ttf p,r_wl_ftt p,r_wl_tft p,r_way_f4 p,r_way_f3 p,r_way_t4 p,r_way_t3 p,r_fo35,r_ifs,r_res,r_len,r_isgen,r_nolim,r_bind,r_codeT,r_g86,r_tab,r_fn63,r_c1,r_c2,r_q1,r_fo42,r_q42,r_c42⟩
end Mine
end
open PySem.W.ZRun
theorem PySem.Challenge.cw_re0080_01_holds : PySem.Challenge.rw_re0080_01.Holds := by
  w_on;o_law;(set_option synthInstance.maxSize 1 in z_head);(case hw=>w_witness2)
  k_fill
  intro w s₀ s₁ mg mb G y fa o pm cd doc dV kV ho hd hcd hD hmg hg args vals as L hpre hlay hrd hwl hlo
  z_open y L KX ZH ZN ZT
  refine Ground.open G ?_
  intro T B D TE TW
  wrow_args hpre hlay hrd hwl hlo
  obtain ⟨hat,hsz⟩:=script_at L
  have htk:=script_toks L ZT
  rw [ZN] at hat hsz
  subst hat
  x_fa T KX hmg
  rename_i ns hs hl0 hL0 hr1 hl2 as1 as2 vs as3 ra hI hr hc1 hc2 hL w1 r0
  have h137:=script_obj L hL
  have h1:=Mine.ints_of hI
  have ZH2:KT.Holds s₁.heap 1 0 (Mine.lay.ktop_300 w.params):=ZH
  refine Mine.law_top (Mine.ar _) ZH2 hg hsz h137 h1.1 ?_ (fun _=>rfl) ?_
  · exact Mine.fit63 hI (by omega)
  · first | rfl | wrow_post
