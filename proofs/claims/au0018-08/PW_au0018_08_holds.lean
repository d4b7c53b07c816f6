import PyProof.Rows.All
import Wide.All
import OpenK.AllK
import Wide.FinOn
import Open.Head
import Lean
import PySem.Challenge.RW_au0018_08
set_option maxRecDepth 100000
set_option Elab.async false
set_option linter.all false
open PySem PySem.W PyProof.Rows PySem.Calls PyProof PySem.SeqAt
namespace Mine
set_option tactic.hygienic false
set_option compiler.extract_closed false
open Lean in
def TaR:Syntax:=Unhygienic.run `(Parser.Tactic.tacticSeq|rfl)
open Lean in
def TaD:Syntax:=Unhygienic.run `(Parser.Tactic.tacticSeq|decide)
local macro_rules |`(tactic|lia)=>`(tactic|lia -abstractProof)
set_option hygiene false in
local macro_rules |`(tactic|right)=>`(tactic|(refine hG ?_;clear hG))
set_option hygiene false in
local macro_rules |`(tactic|ac_rfl)=>`(tactic|refine Classical.byContradiction fun hG=>?_)
open Lean in
local macro_rules |`(tactic|intros $xs*)=>do
 if xs.isEmpty then Macro.throwUnsupported
 let ys:Array Ident:=xs.map (⟨·.raw⟩)
 let mut r:=#[<-`(tactic|revert $ys*)]
 let mut k:=0
 for p in [16,8,4,2,1] do
  if xs.size-k>=p then
   let zs:=xs.extract k (k+p)
   r:=r.push (<-`(tactic|injections $zs*))
   k:=k+p
 `(tactic|($[$r];*))
local macro_rules |`(⋯)=>`(by kernel_rfl)
local macro_rules |`(nofun)=>`(by decide +kernel)
local macro_rules |`(∅)=>`(by intro c;injection c)
local macro_rules |`(tactic|exists $e)=>`(tactic|refine wpAny_bind $e)
local macro_rules |`(command|abbrev $i:declId $s:optDeclSig $v:declVal)=>`(command|noncomputable def $i:declId $s:optDeclSig $v:declVal)
abbrev IN:=@List.mem_singleton
abbrev IP:=@List.length_map
abbrev IQ:=@List.Nodup.length_le_of_subset
abbrev IR:=@List.mem_map_of_mem
abbrev IS:=@List.mem_append_left
abbrev IT:=@List.mem_append_right
abbrev IU:=@Nat.le_of_ble_eq_true
abbrev IV:=@List.length_append
abbrev IW:=@Classical.byContradiction
abbrev IX:=@List.getElem?_eq_getElem
abbrev IY:=@Array.getElem?_eq_getElem
abbrev IZ:=@List.mem_cons
abbrev I0:=@List.mem_map
abbrev I1:=@List.mem_append
abbrev I2:=@List.map_append
abbrev I3:=@List.not_mem_nil
abbrev I4:=@Nat.le_refl
abbrev I5:=@decide_eq_true
abbrev I6:=@List.nodup_cons
abbrev I7:=@Heap.get?_push_size
abbrev I8:=@Heap.get?_push_of_some
abbrev I9:=@Heap.lt_size
abbrev Ja:=@List.mem_reverse
abbrev Jb:=@List.nodup_append
abbrev Jc:=@Heap.get?_update_self
abbrev Jd:=@Nat.lt_of_lt_of_le
abbrev Je:=@Nat.lt_of_le_of_lt
abbrev Jf:=@of_decide_eq_true
abbrev Jg:=@Bool.false_ne_true
abbrev Jh:=@List.length_reverse
abbrev Ji:=@Nat.lt_irrefl
abbrev Jj:=@beq_iff_eq
abbrev Jk:=@List.map_map
open Lean in
local macro_rules
 | `(tactic| injections $xs*)=>do
  let n:=xs.size
  let mut ts:Array (TSyntax `tactic):= #[]
  let f:=if n==1 then mkIdent `Mine.ep1 else if n==2 then mkIdent `Mine.ep2 else if n==4 then mkIdent `Mine.ep4 else if n==8 then mkIdent `Mine.ep8 else mkIdent `Mine.ep16
  let t:=if n==1 then mkIdent `Mine.t1 else if n==2 then mkIdent `Mine.t2 else if n==4 then mkIdent `Mine.t4 else if n==8 then mkIdent `Mine.t8 else mkIdent `Mine.t16
  let mut e <- `($t _ _)
  for i in [0:n] do
   let x:=xs[i]!.raw
   let p <- if i+1<n then `(($e).1) else pure e
   ts:=ts.push (<- `(tactic| generalize $p = $(⟨x⟩)))
   e <- `(($e).2)
  let hs:=Array.replicate n (<- `(_))
  ts:= #[<- `(tactic| refine @$f $hs* _ _ ?_)]++ts
  `(tactic| ($[$ts];*))
theorem lr {x a b:Nat} (h:x<=a) (e:Nat.blt a b=true):x<b:=Je h (Nat.blt_eq.mp e)
theorem eW {x a b:Nat} (h:x<a) (e:Nat.ble a b=true):x<b:=Jd h (Nat.ble_eq.mp e)
theorem Fq {x a b:Nat} (h:x<=a) (e:Nat.ble a b=true):x<=b:=Nat.le_trans h (Nat.ble_eq.mp e)
theorem rF {x a b:Nat} (h:x<a) (e:Nat.ble a (b+1)=true):x<=b:=Nat.le_of_lt_succ (eW h e)
theorem jR {x y a b:Nat} (h:x<=y) (k:y<=a) (e:Nat.blt a b=true):x<b:=lr (Nat.le_trans h k) e
theorem sY {x y a b:Nat} (h:x<=y) (k:y<a) (e:Nat.ble a b=true):x<b:=eW (Je h k) e
theorem E4 {x y a b:Nat} (h:x<=y) (k:y<a) (e:Nat.ble a (b+1)=true):x<=b:=rF (Je h k) e
theorem CG {x a b c d:Nat} (h:x+a<=b) (e:Nat.blt (b+c) (a+d)=true):x+c<d:=by have:=Nat.blt_eq.mp e;lia
theorem Fr {x a b c c' d:Nat} (h:x+a<=b) (e:Nat.blt (b+c+c') (a+d)=true):x+c+c'<d:=by have:=Nat.blt_eq.mp e;lia
theorem GE {x b c d:Nat} (h:x<b) (e:Nat.ble (b+c) d=true):x+c<d:=Jd (Nat.add_lt_add_right h c) (Nat.ble_eq.mp e)
theorem F9 {x b c c' d:Nat} (h:x<b) (e:Nat.ble (b+c+c') d=true):x+c+c'<d:=GE (Nat.add_lt_add_right h c) e
theorem GF {x b c d:Nat} (h:x<=b) (e:Nat.blt (b+c) d=true):x+c<d:=Je (Nat.add_le_add_right h c) (Nat.blt_eq.mp e)
theorem Ga {x b c d y:Nat} (h:x+(y+c)<=b) (e:Nat.ble b d=true):x+c+y<=d:=by have:=Nat.ble_eq.mp e;lia
theorem zC {x y a b c:Nat} (h:x<=c*y) (k:y<a) (e:Nat.ble (c*a) b=true) (e':Nat.blt 0 c=true):x<b:=
 Je h (eW (Nat.mul_lt_mul_of_pos_left k (Nat.blt_eq.mp e')) e)
theorem Dm {x y a b c d:Nat} (h:x<=c*y+d) (k:y<a) (e:Nat.ble (c*a+d) b=true) (e':Nat.blt 0 c=true):x<b:=
 Je h (eW (Nat.add_lt_add_right (Nat.mul_lt_mul_of_pos_left k (Nat.blt_eq.mp e')) d) e)
theorem Dn {x y a b:Nat} (h:x+a<y) (e:Nat.ble b a=true):x+b<y:=Je (Nat.add_le_add_left (Nat.ble_eq.mp e) x) h
theorem zD {x y a:Nat} (h:x+a<y):x<y:=Je (Nat.le_add_right x a) h
theorem E7 {x y a b:Nat} (h:x<=y+a) (e:Nat.ble a b=true):x<=y+b:=Nat.le_trans h (Nat.add_le_add_left (Nat.ble_eq.mp e) y)
theorem GH {x y a:Nat} (h:x<=y):x<=y+a:=Nat.le_trans h (Nat.le_add_right y a)
theorem Fs {x y z a:Nat} (h:x<=y+z):x<=y+(z+a):=Nat.le_trans h (Nat.add_le_add_left (Nat.le_add_right z a) y)
theorem Ft {x y z u a:Nat} (h:u=y+a) (k:x<=u+z):x<=y+(z+a):=by lia
theorem Gb {x y a b c c':Nat} (h:x+a*(y+1)<=b) (e:Nat.ble (c+c') a=true):x+c+c'+a*y<=b:=by rw [Nat.mul_add] at h;have:=Nat.ble_eq.mp e;lia
theorem Gc {x y a b c:Nat} (h:x+a*(y+1)<=b) (e:Nat.ble c a=true):x+c+a*y<=b:=by rw [Nat.mul_add] at h;have:=Nat.ble_eq.mp e;lia
theorem wX {x y:Nat} (h:x<y) (k:y<=x):False:=Nat.not_lt_of_ge k h
theorem GA {x c:Nat} {b:Int} (h:x<c) (e:decide ((c:Int)<=b)=true):(x:Int)<b:=Int.lt_of_lt_of_le (Int.ofNat_lt.mpr h) (Jf e)
theorem GB {x c:Nat} {b:Int} (h:x<=c) (e:decide ((c:Int)<b)=true):(x:Int)<b:=Int.lt_of_le_of_lt (Int.ofNat_le.mpr h) (Jf e)
theorem E5 {x:Nat} {b:Int} (e:decide (b<=0)=true):b<=(x:Int):=Int.le_trans (Jf e) (Int.natCast_nonneg x)
theorem GC {x b c:Int} (h:x<c) (e:decide (c<=b)=true):x<b:=Int.lt_of_lt_of_le h (Jf e)
theorem F8 {x b c:Int} (h:c<=x) (e:decide (b<=c)=true):b<=x:=Int.le_trans (Jf e) h
theorem GD {x b c:Int} (h:x<=c) (e:decide (c<b)=true):x<b:=Int.lt_of_le_of_lt h (Jf e)
theorem nI (o:Obj):∀ (t:BT) (a:Nat),(∀ i,i<a->(t.get i).isSome=true)->((t.ins a o).get a).isSome=true
 | .nil,0,_=>rfl
 | .nil,a+1,h=>nomatch h 0 (Nat.succ_pos a)
 | .node v l r,a,h=>by
  rw [BT.ins_node]
  by_cases ha:a=0
  ·rw [if_pos ha,BT.get_node,if_pos ha];rfl
  ·rw [if_neg ha]
   by_cases pa:a % 2=1
   ·rw [if_pos pa,BT.get_node,if_neg ha,if_pos pa];refine nI o l _ fun i hi=>?_;have q:=h (2*i+1) (by lia);rwa [BT.get_node,if_neg (Nat.add_one_ne_zero (2*_)),if_pos (by lia),show (2*i+1) / 2=i by lia] at q
   ·rw [if_neg pa,BT.get_node,if_neg ha,if_neg pa];refine nI o r _ fun i hi=>?_;have q:=h (2*i+2) (by lia);rwa [BT.get_node,if_neg (Nat.add_one_ne_zero (2*_+1)),if_neg (by lia),show (2*i+2) / 2 - 1=i by lia] at q
abbrev kE:List Obj->Nat->BT->BT
 | [],_,t=>t
 | o::r,n,t=>kE r (n+1) (t.ins n o)
theorem mY:∀ (l:List Obj) (n:Nat) (t:BT),(∀ i,i<n->(t.get i).isSome=true)->∀ i,(kE l n t).get i=if i<n+l.length then (if i<n then t.get i else l[i - n]?) else t.get i
 | [],n,t,_,i=>by
  by_cases q:i<n
  ·rw [if_pos (by simpa using q),if_pos q];rfl
  ·rw [if_neg (by simpa using q)];rfl
 | o::r,n,t,h,i=>by
  have g:=BT.get_ins o t n (nI o t n h)
  rw [show kE (o::r) n t=kE r (n+1) (t.ins n o) from rfl,mY r (n+1) (t.ins n o) (fun j hj=>by
   rw [g j]
   by_cases q:j=n
   ·rw [if_pos q];rfl
   ·rw [if_neg q];exact h j (by lia)) i,g i]
  by_cases h1:i<n
  ·rw [if_pos (by lia),if_pos (by lia),if_neg (by lia),if_pos (by simp;lia),if_pos h1]
  ·by_cases h2:i=n
   ·subst h2;rw [if_pos (by lia),if_pos (by lia),if_pos rfl,if_pos (by simp),if_neg h1];simp
   ·by_cases h3:i<n+1+r.length
    ·rw [if_pos h3,if_neg (by lia),if_pos (by simp;lia),if_neg h1,show i - n=i - (n+1)+1 by lia,List.getElem?_cons_succ]
    ·rw [if_neg h3,if_neg h2,if_neg (by simp;lia)]
abbrev FL (s:Shared):SharedT:=⟨kE s.heap.objs.toList 0 .nil,s.heap.objs.size,s.heap.life,s.gens,s.drawn,s.toks,s.os⟩
theorem uX (s:Shared):(FL s).abs=s:=by
 ac_rfl;obtain ⟨⟨objs,life⟩,gens,drawn,toks,os⟩:=s;right
 have e:(absHeap (kE objs.toList 0 .nil) objs.size life).objs=objs:=by
  apply Array.ext_getElem?;intro i;rw [absHeap_at,mY objs.toList 0 .nil (fun i h=>absurd h (Nat.not_lt_zero i))]
  by_cases h:i<objs.size
  ·rw [if_pos h,if_pos (by simpa using h),if_neg (Nat.not_lt_zero i)];simp [h]
  ·rw [if_neg h];simp at h;simp [h]
 exact congrArg (fun x=>(⟨⟨x,life⟩,gens,drawn,toks,os⟩: Shared)) e
theorem A4:PySem.W.Fast.tw10156331382660048174=@stepT:=PySem.W.Fast.te10156331382660048174.symm
theorem uE:PySem.W.Fast.tw11892475500146522536=@denote:=PySem.W.Fast.te11892475500146522536.symm
theorem yo:PySem.W.Fast.tw14364793385576792824=treeTable:=PySem.W.Fast.te14364793385576792824.symm
theorem Ii:PySem.W.Fast.tw6613529449190102663=@stepOk:=PySem.W.Fast.te6613529449190102663.symm
theorem Dq:PySem.W.Fast.tw3805553451399329143=@Thread.atExitBegin:=PySem.W.Fast.te3805553451399329143.symm
theorem BC:PySem.W.Fast.tw14289696077712309145=@fenceModules? :=PySem.W.Fast.te14289696077712309145.symm
theorem DG: @PySem.W.Fast.tw4187177175401517315=@openSeen:=PySem.W.Fast.te4187177175401517315.symm
abbrev Af (p:Program) (w:World):Nat->SharedT->Thread->Option SharedT
 | 0,_,_=>none
 | n+1,s,t=>match PySem.W.Fast.tw3805553451399329143 t with
  | some []=>some s
  | some (_::_)=>none
  | none=>match PySem.W.Fast.tw10156331382660048174 (PySem.W.Fast.tw11892475500146522536 PySem.W.Fast.tw14364793385576792824) p w s t with
   | some r=>Af p w n r.1 r.2
   | none=>none
abbrev Ar (p:Program) (w:World) (n₀:Nat) (ann:Option Value):Nat->SharedT->Thread->Option SharedT
 | 0,_,_=>none
 | n+1,s,t=>match through t with
  | true=>some s
  | false=>match PySem.W.Fast.tw6613529449190102663 n₀ ann t with
   | false=>none
   | true=>match PySem.W.Fast.tw10156331382660048174 (PySem.W.Fast.tw11892475500146522536 PySem.W.Fast.tw14364793385576792824) p w s t with
    | some r=>Ar p w n₀ ann n r.1 r.2
    | none=>none
theorem pJ {p:Program} {w:World}:∀ {n:Nat} {s:SharedT} {t:Thread} {r:SharedT},Af p w n s t=some r->importEnds treeTable p w n s.abs t=some r.abs
 | 0,_,_,_,h=>by injection h
 | n+1,s,t,r,h=>by
  change (match PySem.W.Fast.tw3805553451399329143 t with | some []=>some s | some (_::_)=>none | none=>match PySem.W.Fast.tw10156331382660048174 (PySem.W.Fast.tw11892475500146522536 PySem.W.Fast.tw14364793385576792824) p w s t with | some r=>Af p w n r.1 r.2 | none=>none)=some r at h
  unfold importEnds;rw [Dq] at h
  cases q:t.atExitBegin with
  | some l=>
   rw [q] at h
   cases l with
   | nil=>obtain rfl:=Option.some.inj h;rfl
   | cons a b=>injection h
  | none=>
   rw [q,A4,uE,yo] at h
   cases e:stepT (denote treeTable) p w s t with
   | none=>rw [e] at h;injection h
   | some x=>obtain ⟨s',t'⟩:=x;rw [e] at h;rw [stepT_spec e];exact pJ h
theorem pV {p:Program} {w:World} {n₀:Nat} {ann:Option Value}:∀ {n:Nat} {s:SharedT} {t:Thread} {r:SharedT},Ar p w n₀ ann n s t=some r->topRun treeTable p w n₀ ann n s.abs t=some r.abs
 | 0,_,_,_,h=>by injection h
 | n+1,s,t,r,h=>by
  change (match through t with | true=>some s | false=>match PySem.W.Fast.tw6613529449190102663 n₀ ann t with | false=>none | true=>match PySem.W.Fast.tw10156331382660048174 (PySem.W.Fast.tw11892475500146522536 PySem.W.Fast.tw14364793385576792824) p w s t with | some r=>Ar p w n₀ ann n r.1 r.2 | none=>none)=some r at h
  unfold topRun;rw [Ii] at h
  cases q:through t with
  | true=>rw [q] at h;obtain rfl:=Option.some.inj h;rfl
  | false=>
   rw [q] at h
   cases k:stepOk n₀ ann t with
   | false=>rw [k] at h;injection h
   | true=>
    rw [k,A4,uE,yo] at h
    cases e:stepT (denote treeTable) p w s t with
    | none=>rw [e] at h;injection h
    | some x=>obtain ⟨s',t'⟩:=x;rw [e] at h;rw [stepT_spec e];exact pV h
abbrev tV (p:Program) (w:World) (N:Nat):Option Shared:=(Af (opening p) w N (FL (start (opening p)).1) (start (opening p)).2).bind fun s=>PySem.W.Fast.tw14289696077712309145 p s.abs
abbrev yp (p:Program) (w:World) (N:Nat) (s₀:Shared):Option SharedT:=
 match s₀.heap.isNs mainGlobals&&s₀.gens.size==0 with
 | true=>Ar p w s₀.heap.objs.size (s₀.heap.nsMap mainGlobals "__annotations__") N (FL s₀) (topStub p)
 | false=>none
abbrev B1 {α:Type} (p q:Program) (loose:List Str) (Xt:Shared->Bool) (Yf:Shared->α) (s₀ s₁:Shared):=
 ((staticsOk (importedModules p.main.body) s₀.heap s₁.heap&&namesBound p s₁.heap&&gensDone s₁&&laidKept s₀.heap s₁.heap),PySem.W.Fast.tw4187177175401517315 q loose (importedModules p.main.body) Xt true s₁,Yf s₁)
abbrev Bu {α:Type} (p q:Program) (loose:List Str) (Xt:Shared->Bool) (Yf:Shared->α) (N:Nat) (w:World):=
 (tV p w N).bind fun s₀=>(yp p w N s₀).map fun s=>B1 p q loose Xt Yf s₀ s.abs
theorem Al {p q:Program} {loose:List Str} {Xt:Shared->Bool} {α:Type} {Yf:Shared->α} {Ya:World->α} {N:Nat}
  (h:∀ w,Bu p q loose Xt Yf N w=some (true,openGood q loose,Ya w)):LeftO p q loose Xt Yf Ya N:=fun w=>by
 have e:=h w;unfold Bu at e
 cases e0:tV p w N with
 | none=>rw [e0] at e;injection e
 | some s0=>
  rw [e0] at e;have e:(yp p w N s0).map (fun s=>B1 p q loose Xt Yf s0 s.abs)=some (true,openGood q loose,Ya w):=e;unfold tV at e0;ac_rfl;obtain ⟨sT,i,f⟩:=Option.bind_eq_some_iff.mp e0;right;rw [BC] at f;have i:=pJ i;rw [uX] at i;ac_rfl;obtain ⟨s,t,k⟩:=Option.map_eq_some_iff.mp e;right;unfold yp at t
  cases c:(s0.heap.isNs mainGlobals&&s0.gens.size==0) with
  | false=>rw [c] at t;injection t
  | true=>
   rw [c] at t;have t:=pV t;rw [uX] at t;unfold B1 at k;rw [DG] at k;injection k with k1 k2;unfold openEnds fencedOpening;rw [i];show ((fenceModules? p sT.abs).bind _).map _=_;rw [f];show (topFrom treeTable p w N s0).map _=_;unfold topFrom;rw [c];show ((topRun treeTable p w s0.heap.objs.size (s0.heap.nsMap mainGlobals "__annotations__") N s0 (topStub p)).bind _).map _=_;rw [t]
   show (match (staticsOk (importedModules p.main.body) s0.heap s.abs.heap&&namesBound p s.abs.heap&&gensDone s.abs&&laidKept s0.heap s.abs.heap) with | true=>some s.abs | false=>none).map _=_
   rw [k1];exact congrArg some k2
set_option maxHeartbeats 4000000
abbrev z0:Str:=⟨⟨[95,102,117,110,99,116,111,111,108,115]⟩⟩
theorem e0:Str.ofString "_functools" = z0:=rfl
abbrev z1:Str:=⟨⟨[114,101,100,117,99,101]⟩⟩
theorem e1:Str.ofString "reduce" = z1:=rfl
abbrev z2:Str:=⟨⟨[95,119,97,108,108]⟩⟩
theorem e2:Str.ofString "_wall" = z2:=rfl
abbrev z3:Str:=⟨⟨[107]⟩⟩
theorem e3:Str.ofString "k" = z3:=rfl
abbrev z4:Str:=⟨⟨[95,112,101,95,110,97,109,101]⟩⟩
theorem e4:Str.ofString "_pe_name" = z4:=rfl
abbrev z5:Str:=⟨⟨[110]⟩⟩
theorem e5:Str.ofString "n" = z5:=rfl
abbrev z6:Str:=⟨⟨[116,121,112,101]⟩⟩
theorem e6:Str.ofString "type" = z6:=rfl
abbrev z7:Str:=⟨⟨[115,116,114]⟩⟩
theorem e7:Str.ofString "str" = z7:=rfl
abbrev z8:Str:=⟨⟨[95,95]⟩⟩
theorem e8:Str.ofString "__" = z8:=rfl
abbrev z9:Str:=⟨⟨[95,95,110,97,109,101,95,95]⟩⟩
theorem e9:Str.ofString "__name__" = z9:=rfl
abbrev CJ:Str:=⟨⟨[102,117,110,99,116,111,111,108,115]⟩⟩
theorem Do:Str.ofString "functools" = CJ:=rfl
abbrev DP:Str:=⟨⟨[95,78,79,84,95,70,79,85,78,68]⟩⟩
theorem uF:Str.ofString "_NOT_FOUND" = DP:=rfl
abbrev Im:Str:=⟨⟨[111,98,106,101,99,116]⟩⟩
theorem tE:Str.ofString "object" = Im:=rfl
abbrev A8:Str:=⟨⟨[99,97,99,104,101,100,95,112,114,111,112,101,114,116,121]⟩⟩
theorem yV:Str.ofString "cached_property" = A8:=rfl
abbrev yW:Str:=⟨⟨[95,95,105,110,105,116,95,95]⟩⟩
theorem qR:Str.ofString "__init__" = yW:=rfl
abbrev gK:Str:=⟨⟨[115,101,108,102]⟩⟩
theorem FD:Str.ofString "self" = gK:=rfl
abbrev yX:Str:=⟨⟨[102,117,110,99]⟩⟩
theorem zQ:Str.ofString "func" = yX:=rfl
abbrev yY:Str:=⟨⟨[97,116,116,114,110,97,109,101]⟩⟩
theorem GI:Str.ofString "attrname" = yY:=rfl
abbrev uk:Str:=⟨⟨[95,95,100,111,99,95,95]⟩⟩
theorem GJ:Str.ofString "__doc__" = uk:=rfl
abbrev wi:Str:=⟨⟨[95,95,109,111,100,117,108,101,95,95]⟩⟩
theorem GK:Str.ofString "__module__" = wi:=rfl
abbrev EK:Str:=⟨⟨[95,95,115,101,116,95,110,97,109,101,95,95]⟩⟩
theorem GL:Str.ofString "__set_name__" = EK:=rfl
abbrev FS:Str:=⟨⟨[111,119,110,101,114]⟩⟩
theorem GM:Str.ofString "owner" = FS:=rfl
abbrev Ct:Str:=⟨⟨[110,97,109,101]⟩⟩
theorem GN:Str.ofString "name" = Ct:=rfl
abbrev Io:Str:=⟨⟨[84,121,112,101,69,114,114,111,114]⟩⟩
theorem CH:Str.ofString "TypeError" = Io:=rfl
abbrev Ip:Str:=⟨⟨[67,97,110,110,111,116,32,97,115,115,105,103,110,32,116,104,101,32,115,97,109,101,32,99,97,99,104,101,100,95,112,114,111,112,101,114,116,121,32,116,111,32,116,119,111,32,100,105,102,102,101,114,101,110,116,32,110,97,109,101,115,32,40]⟩⟩
theorem GO:Str.ofString "Cannot assign the same cached_property to two different names (" = Ip:=rfl
abbrev Iq:Str:=⟨⟨[32,97,110,100,32]⟩⟩
theorem GP:Str.ofString " and " = Iq:=rfl
abbrev Ir:Str:=⟨⟨[41,46]⟩⟩
theorem GQ:Str.ofString ")." = Ir:=rfl
abbrev CK:Str:=⟨⟨[95,95,103,101,116,95,95]⟩⟩
theorem GR:Str.ofString "__get__" = CK:=rfl
abbrev FT:Str:=⟨⟨[105,110,115,116,97,110,99,101]⟩⟩
theorem GS:Str.ofString "instance" = FT:=rfl
abbrev Iu:Str:=⟨⟨[99,97,99,104,101]⟩⟩
theorem GT:Str.ofString "cache" = Iu:=rfl
abbrev qS:Str:=⟨⟨[95,95,100,105,99,116,95,95]⟩⟩
theorem GU:Str.ofString "__dict__" = qS:=rfl
abbrev Iw:Str:=⟨⟨[65,116,116,114,105,98,117,116,101,69,114,114,111,114]⟩⟩
theorem GW:Str.ofString "AttributeError" = Iw:=rfl
abbrev Ix:Str:=⟨⟨[107,105,110,100]⟩⟩
theorem GX:Str.ofString "kind" = Ix:=rfl
abbrev Iy:Str:=⟨⟨[109,115,103]⟩⟩
theorem GY:Str.ofString "msg" = Iy:=rfl
abbrev Iz:Str:=⟨⟨[78,111,32,39,95,95,100,105,99,116,95,95,39,32,97,116,116,114,105,98,117,116,101,32,111,110,32]⟩⟩
theorem GZ:Str.ofString "No '__dict__' attribute on " = Iz:=rfl
abbrev IA:Str:=⟨⟨[32,105,110,115,116,97,110,99,101,32,116,111,32,99,97,99,104,101,32]⟩⟩
theorem G0:Str.ofString " instance to cache " = IA:=rfl
abbrev IB:Str:=⟨⟨[32,112,114,111,112,101,114,116,121,46]⟩⟩
theorem G4:Str.ofString " property." = IB:=rfl
abbrev IC:Str:=⟨⟨[118,97,108]⟩⟩
theorem G5:Str.ofString "val" = IC:=rfl
abbrev ID:Str:=⟨⟨[103,101,116]⟩⟩
theorem G6:Str.ofString "get" = ID:=rfl
abbrev IE:Str:=⟨⟨[84,104,101,32,39,95,95,100,105,99,116,95,95,39,32,97,116,116,114,105,98,117,116,101,32,111,110,32]⟩⟩
theorem G7:Str.ofString "The '__dict__' attribute on " = IE:=rfl
abbrev IF:Str:=⟨⟨[32,105,110,115,116,97,110,99,101,32,100,111,101,115,32,110,111,116,32,115,117,112,112,111,114,116,32,105,116,101,109,32,97,115,115,105,103,110,109,101,110,116,32,102,111,114,32,99,97,99,104,105,110,103,32]⟩⟩
theorem Ha:Str.ofString " instance does not support item assignment for caching " = IF:=rfl
abbrev FU:Str:=⟨⟨[95,95,99,108,97,115,115,95,103,101,116,105,116,101,109,95,95]⟩⟩
theorem Hb:Str.ofString "__class_getitem__" = FU:=rfl
abbrev IG:Str:=⟨⟨[99,108,115]⟩⟩
theorem Hc:Str.ofString "cls" = IG:=rfl
abbrev II:Str:=⟨⟨[105,116,101,109]⟩⟩
theorem Hd:Str.ofString "item" = II:=rfl
abbrev eu:Str:=⟨⟨[110,117,109,98,97,46,99,111,114,101,46,99,111,110,116,114,111,108,102,108,111,119]⟩⟩
theorem He:Str.ofString "numba.core.controlflow" = eu:=rfl
abbrev yZ:Str:=⟨⟨[67,70,71,114,97,112,104]⟩⟩
theorem Hf:Str.ofString "CFGraph" = yZ:=rfl
abbrev CM:Str:=⟨⟨[95,100,101,97,100,95,110,111,100,101,115]⟩⟩
theorem Hg:Str.ofString "_dead_nodes" = CM:=rfl
abbrev ER:Str:=⟨⟨[95,101,100,103,101,95,100,97,116,97]⟩⟩
theorem Hh:Str.ofString "_edge_data" = ER:=rfl
abbrev u0:Str:=⟨⟨[95,101,110,116,114,121,95,112,111,105,110,116]⟩⟩
theorem Hi:Str.ofString "_entry_point" = u0:=rfl
abbrev y3:Str:=⟨⟨[95,110,111,100,101,115]⟩⟩
theorem Hj:Str.ofString "_nodes" = y3:=rfl
abbrev Cu:Str:=⟨⟨[95,112,114,101,100,115]⟩⟩
theorem Hk:Str.ofString "_preds" = Cu:=rfl
abbrev wo:Str:=⟨⟨[95,115,117,99,99,115]⟩⟩
theorem Hl:Str.ofString "_succs" = wo:=rfl
abbrev ul:Str:=⟨⟨[108,97,119,95,97,117,48,48,49,56,95,48,56]⟩⟩
theorem Hm:Str.ofString "law_au0018_08" = ul:=rfl
abbrev yK:Str:=⟨⟨[95,108,97,119,95,110,101,120,116]⟩⟩
theorem Hn:Str.ofString "_law_next" = yK:=rfl
abbrev CN:Str:=⟨⟨[115,116,97,116,101]⟩⟩
theorem Ho:Str.ofString "state" = CN:=rfl
abbrev Ge:Str:=⟨⟨[115,105,122,101]⟩⟩
theorem Hp:Str.ofString "size" = Ge:=rfl
abbrev ES:Str:=⟨⟨[112,108,97,99,101]⟩⟩
theorem Hq:Str.ofString "place" = ES:=rfl
abbrev Gf:Str:=⟨⟨[108,101,110]⟩⟩
theorem Hr:Str.ofString "len" = Gf:=rfl
abbrev Gg:Str:=⟨⟨[97,98,115]⟩⟩
theorem Hs:Str.ofString "abs" = Gg:=rfl
abbrev yL:Str:=⟨⟨[95,108,97,119,95,115,116,97,116,101]⟩⟩
theorem Ht:Str.ofString "_law_state" = yL:=rfl
abbrev ET:Str:=⟨⟨[115,99,114,105,112,116]⟩⟩
theorem Hu:Str.ofString "script" = ET:=rfl
abbrev Gh:Str:=⟨⟨[115,117,109]⟩⟩
theorem Hv:Str.ofString "sum" = Gh:=rfl
abbrev IJ:Str:=⟨⟨[110,117,109,98,101,114]⟩⟩
theorem Hw:Str.ofString "number" = IJ:=rfl
abbrev IK:Str:=⟨⟨[46,48]⟩⟩
theorem Hx:Str.ofString ".0" = IK:=rfl
abbrev IL:Str:=⟨⟨[102,97,115,116]⟩⟩
theorem Hy:Str.ofString "fast" = IL:=rfl
abbrev yM:Str:=⟨⟨[95,108,97,119,95,110,97,109,101,115]⟩⟩
theorem Hz:Str.ofString "_law_names" = yM:=rfl
abbrev EU:Str:=⟨⟨[99,111,117,110,116]⟩⟩
theorem HA:Str.ofString "count" = EU:=rfl
abbrev CO:Str:=⟨⟨[115,116,101,112]⟩⟩
theorem HB:Str.ofString "step" = CO:=rfl
abbrev FV:Str:=⟨⟨[115,104,105,102,116]⟩⟩
theorem HC:Str.ofString "shift" = FV:=rfl
abbrev Gi:Str:=⟨⟨[114,97,110,103,101]⟩⟩
theorem HD:Str.ofString "range" = Gi:=rfl
abbrev yN:Str:=⟨⟨[95,108,97,119,95,103,114,97,112,104]⟩⟩
theorem HE:Str.ofString "_law_graph" = yN:=rfl
abbrev AG:Str:=⟨⟨[110,97,109,101,115]⟩⟩
theorem HF:Str.ofString "names" = AG:=rfl
abbrev sZ:Str:=⟨⟨[119,97,121,115]⟩⟩
theorem HG:Str.ofString "ways" = sZ:=rfl
abbrev Fa:Str:=⟨⟨[101,110,116,114,121]⟩⟩
theorem HH:Str.ofString "entry" = Fa:=rfl
abbrev A9:Str:=⟨⟨[103,114,97,112,104]⟩⟩
theorem HI:Str.ofString "graph" = A9:=rfl
abbrev CP:Str:=⟨⟨[97,100,100,95,110,111,100,101]⟩⟩
theorem HJ:Str.ofString "add_node" = CP:=rfl
abbrev FW:Str:=⟨⟨[115,111,117,114,99,101]⟩⟩
theorem HK:Str.ofString "source" = FW:=rfl
abbrev CQ:Str:=⟨⟨[116,97,114,103,101,116]⟩⟩
theorem HL:Str.ofString "target" = CQ:=rfl
abbrev CR:Str:=⟨⟨[97,100,100,95,101,100,103,101]⟩⟩
theorem HM:Str.ofString "add_edge" = CR:=rfl
abbrev CS:Str:=⟨⟨[115,101,116,95,101,110,116,114,121,95,112,111,105,110,116]⟩⟩
theorem HN:Str.ofString "set_entry_point" = CS:=rfl
abbrev CT:Str:=⟨⟨[112,114,111,99,101,115,115]⟩⟩
theorem HO:Str.ofString "process" = CT:=rfl
abbrev yO:Str:=⟨⟨[95,108,97,119,95,99,104,97,105,110]⟩⟩
theorem HP:Str.ofString "_law_chain" = yO:=rfl
abbrev yP:Str:=⟨⟨[110,101,97,114,101,115,116]⟩⟩
theorem HQ:Str.ofString "nearest" = yP:=rfl
abbrev Gj:Str:=⟨⟨[99,104,97,105,110]⟩⟩
theorem HR:Str.ofString "chain" = Gj:=rfl
abbrev IM:Str:=⟨⟨[97,112,112,101,110,100]⟩⟩
theorem HS:Str.ofString "append" = IM:=rfl
abbrev yQ:Str:=⟨⟨[95,108,97,119,95,103,114,111,119,110]⟩⟩
theorem HT:Str.ofString "_law_grown" = yQ:=rfl
abbrev CU:Str:=⟨⟨[100,101,112,116,104]⟩⟩
theorem HU:Str.ofString "depth" = CU:=rfl
abbrev Fb:Str:=⟨⟨[97,98,111,118,101]⟩⟩
theorem HV:Str.ofString "above" = Fb:=rfl
abbrev EV:Str:=⟨⟨[99,111,109,109,111,110]⟩⟩
theorem HW:Str.ofString "common" = EV:=rfl
abbrev EW:Str:=⟨⟨[103,114,111,119,110]⟩⟩
theorem HX:Str.ofString "grown" = EW:=rfl
abbrev Cv:Str:=⟨⟨[108,105,109,105,116]⟩⟩
theorem HY:Str.ofString "limit" = Cv:=rfl
abbrev EX:Str:=⟨⟨[114,101,97,99,104,101,100]⟩⟩
theorem HZ:Str.ofString "reached" = EX:=rfl
abbrev Cw:Str:=⟨⟨[102,105,114,115,116]⟩⟩
theorem H0:Str.ofString "first" = Cw:=rfl
abbrev Cz:Str:=⟨⟨[115,101,99,111,110,100]⟩⟩
theorem H7:Str.ofString "second" = Cz:=rfl
abbrev yR:Str:=⟨⟨[108,97,119]⟩⟩
theorem Ia:Str.ofString "law" = yR:=rfl
abbrev FX:Str:=⟨⟨[112,97,114,101,110,116]⟩⟩
theorem Ib:Str.ofString "parent" = FX:=rfl
abbrev y4:Str:=⟨⟨[108,97,116,101,114]⟩⟩
theorem Ic:Str.ofString "later" = y4:=rfl
abbrev yS:Str:=⟨⟨[116,117,114,110]⟩⟩
theorem Id:Str.ofString "turn" = yS:=rfl
abbrev EY:Str:=⟨⟨[119,97,121]⟩⟩
theorem Ie:Str.ofString "way" = EY:=rfl
abbrev CA:Str:=⟨⟨[116,111,108,100]⟩⟩
theorem Ig:Str.ofString "told" = CA:=rfl
abbrev ui:Str:=⟨⟨[105,109,109,101,100,105,97,116,101,95,100,111,109,105,110,97,116,111,114,115]⟩⟩
theorem Fv:Str.ofString "immediate_dominators" = ui:=rfl
abbrev wb:Str:=⟨⟨[116,114,101,101]⟩⟩
theorem Fw:Str.ofString "tree" = wb:=rfl
abbrev wd:Str:=⟨⟨[100,111,109,105,110,97,116,111,114,95,116,114,101,101]⟩⟩
theorem Fx:Str.ofString "dominator_tree" = wd:=rfl
abbrev yA:Str:=⟨⟨[112,97,115,115,101,100]⟩⟩
theorem Fy:Str.ofString "passed" = yA:=rfl
abbrev we:Str:=⟨⟨[100,111,109,105,110,97,116,111,114,115]⟩⟩
theorem Fz:Str.ofString "dominators" = we:=rfl
abbrev uj:Str:=⟨⟨[115,111,114,116,101,100]⟩⟩
theorem FA:Str.ofString "sorted" = uj:=rfl
abbrev FO:Str:=⟨⟨[111,116,104,101,114]⟩⟩
theorem FB:Str.ofString "other" = FO:=rfl
abbrev bw:Str:=⟨⟨[47,99,108,97,105,109,47,99,117,116,46,112,121]⟩⟩
theorem FC:Str.ofString "/claim/cut.py" = bw:=rfl
abbrev DN:Str:=⟨⟨[105,109,112,111,114,116,46,108,111,97,100,101,100,46,95,102,117,110,99,116,111,111,108,115]⟩⟩
abbrev DO:Str:=⟨⟨[99,108,97,115,115,46,95,102,114,111,122,101,110,95,105,109,112,111,114,116,108,105,98,46,66,117,105,108,116,105,110,73,109,112,111,114,116,101,114]⟩⟩
abbrev DQ:Str:=⟨⟨[119,97,116,99,104,101,100,46,105,109,112,111,114,116]⟩⟩
abbrev DR:Str:=⟨⟨[99,108,97,115,115,46,95,102,114,111,122,101,110,95,105,109,112,111,114,116,108,105,98,46,77,111,100,117,108,101,83,112,101,99]⟩⟩
abbrev DT:Str:=⟨⟨[115,121,115,46,109,111,100,117,108,101,115,46,98,111,111,107,101,100,45,101,112,111,99,104]⟩⟩
abbrev DU:Str:=⟨⟨[115,121,115,46,109,111,100,117,108,101,115,46,108,97,110,100,101,100,46,95,102,117,110,99,116,111,111,108,115]⟩⟩
abbrev DV:Str:=⟨⟨[105,109,112,111,114,116,46,108,97,116,101,114,45,108,97,105,100,46,95,102,117,110,99,116,111,111,108,115]⟩⟩
abbrev DW:Str:=⟨⟨[119,97,116,99,104,101,100,46,108,105,98,114,97,114,121]⟩⟩
abbrev DX:Str:=⟨⟨[119,97,116,99,104,101,100,46,108,105,98,114,97,114,121,45,111,98,106,101,99,116,115]⟩⟩
abbrev FP:Str:=⟨⟨[13]⟩⟩
abbrev DY:Str:=⟨⟨[119,97,116,99,104,101,100,46,108,105,98,114,97,114,121,45,100,101,101,112,46,95,102,117,110,99,116,111,111,108,115]⟩⟩
abbrev FQ:Str:=⟨⟨[4,0,0,12,4,0,0,12,4,0,0,3,4,0,0,12,8,4,100,105,99,116,2]⟩⟩
abbrev DZ:Str:=⟨⟨[95,95,112,97,99,107,97,103,101,95,95]⟩⟩
abbrev D5:Str:=⟨⟨[95,95,108,111,97,100,101,114,95,95]⟩⟩
abbrev D6:Str:=⟨⟨[95,95,115,112,101,99,95,95]⟩⟩
abbrev D7:Str:=⟨⟨[95,95,97,110,110,111,116,97,116,105,111,110,115,95,95]⟩⟩
abbrev D8:Str:=⟨⟨[95,95,98,117,105,108,116,105,110,115,95,95]⟩⟩
abbrev D9:Str:=⟨⟨[95,95,102,105,108,101,95,95]⟩⟩
abbrev Ea:Str:=⟨⟨[95,95,99,97,99,104,101,100,95,95]⟩⟩
abbrev Eb:Str:=⟨⟨[95,95,109,97,105,110,95,95]⟩⟩
abbrev Ec:Str:=⟨⟨[99,97,99,104,101,100,95,112,114,111,112,101,114,116,121,46,95,95,105,110,105,116,95,95]⟩⟩
abbrev Ee:Str:=⟨⟨[99,97,99,104,101,100,95,112,114,111,112,101,114,116,121,46,95,95,115,101,116,95,110,97,109,101,95,95]⟩⟩
abbrev B7:Str:=⟨⟨[99,97,99,104,101,100,95,112,114,111,112,101,114,116,121,46,95,95,103,101,116,95,95]⟩⟩
abbrev Ay:Str:=⟨⟨[95,95,102,105,114,115,116,108,105,110,101,110,111,95,95]⟩⟩
abbrev Az:Str:=⟨⟨[95,95,115,116,97,116,105,99,95,97,116,116,114,105,98,117,116,101,115,95,95]⟩⟩
abbrev wf:Str:=⟨⟨[95,95,119,101,97,107,114,101,102,95,95]⟩⟩
abbrev B8:Str:=⟨⟨[67,70,71,114,97,112,104,46,95,95,105,110,105,116,95,95]⟩⟩
abbrev B9:Str:=⟨⟨[67,70,71,114,97,112,104,46,97,100,100,95,110,111,100,101]⟩⟩
abbrev Ca:Str:=⟨⟨[67,70,71,114,97,112,104,46,97,100,100,95,101,100,103,101]⟩⟩
abbrev Cb:Str:=⟨⟨[67,70,71,114,97,112,104,46,115,101,116,95,101,110,116,114,121,95,112,111,105,110,116]⟩⟩
abbrev Cc:Str:=⟨⟨[67,70,71,114,97,112,104,46,112,114,111,99,101,115,115]⟩⟩
abbrev Cd:Str:=⟨⟨[67,70,71,114,97,112,104,46,100,111,109,105,110,97,116,111,114,115]⟩⟩
abbrev Ce:Str:=⟨⟨[67,70,71,114,97,112,104,46,105,109,109,101,100,105,97,116,101,95,100,111,109,105,110,97,116,111,114,115]⟩⟩
abbrev Cf:Str:=⟨⟨[67,70,71,114,97,112,104,46,100,111,109,105,110,97,116,111,114,95,116,114,101,101]⟩⟩
abbrev oE:Str:=⟨⟨[95,100,111,109,115]⟩⟩
abbrev Cg:Str:=⟨⟨[67,70,71,114,97,112,104,46,95,100,111,109,115]⟩⟩
abbrev jP:Str:=⟨⟨[95,98,97,99,107,95,101,100,103,101,115]⟩⟩
abbrev Ci:Str:=⟨⟨[67,70,71,114,97,112,104,46,95,98,97,99,107,95,101,100,103,101,115]⟩⟩
abbrev gJ:Str:=⟨⟨[95,105,100,111,109]⟩⟩
abbrev AA:Str:=⟨⟨[67,70,71,114,97,112,104,46,95,105,100,111,109]⟩⟩
abbrev kU:Str:=⟨⟨[95,100,111,109,116,114,101,101]⟩⟩
abbrev Cj:Str:=⟨⟨[67,70,71,114,97,112,104,46,95,100,111,109,116,114,101,101]⟩⟩
abbrev yB:Str:=⟨⟨[101,110,116,114,121,95,112,111,105,110,116]⟩⟩
abbrev Ck:Str:=⟨⟨[67,70,71,114,97,112,104,46,101,110,116,114,121,95,112,111,105,110,116]⟩⟩
abbrev AB:Str:=⟨⟨[110,111,100,101,115]⟩⟩
abbrev Ef:Str:=⟨⟨[67,70,71,114,97,112,104,46,110,111,100,101,115]⟩⟩
abbrev wg:Str:=⟨⟨[95,97,100,100,95,101,100,103,101]⟩⟩
abbrev Cl:Str:=⟨⟨[67,70,71,114,97,112,104,46,95,97,100,100,95,101,100,103,101]⟩⟩
abbrev AC:Str:=⟨⟨[95,114,101,109,111,118,101,95,110,111,100,101,95,101,100,103,101,115]⟩⟩
abbrev Eg:Str:=⟨⟨[67,70,71,114,97,112,104,46,95,114,101,109,111,118,101,95,110,111,100,101,95,101,100,103,101,115]⟩⟩
abbrev yC:Str:=⟨⟨[95,100,102,115]⟩⟩
abbrev Cm:Str:=⟨⟨[67,70,71,114,97,112,104,46,95,100,102,115]⟩⟩
abbrev wh:Str:=⟨⟨[95,101,108,105,109,105,110,97,116,101,95,100,101,97,100,95,98,108,111,99,107,115]⟩⟩
abbrev Cn:Str:=⟨⟨[67,70,71,114,97,112,104,46,95,101,108,105,109,105,110,97,116,101,95,100,101,97,100,95,98,108,111,99,107,115]⟩⟩
abbrev yD:Str:=⟨⟨[95,102,105,110,100,95,112,111,115,116,111,114,100,101,114]⟩⟩
abbrev Co:Str:=⟨⟨[67,70,71,114,97,112,104,46,95,102,105,110,100,95,112,111,115,116,111,114,100,101,114]⟩⟩
abbrev yE:Str:=⟨⟨[95,102,105,110,100,95,105,109,109,101,100,105,97,116,101,95,100,111,109,105,110,97,116,111,114,115]⟩⟩
abbrev yF:Str:=⟨⟨[67,70,71,114,97,112,104,46,95,102,105,110,100,95,105,109,109,101,100,105,97,116,101,95,100,111,109,105,110,97,116,111,114,115]⟩⟩
abbrev yG:Str:=⟨⟨[95,102,105,110,100,95,100,111,109,105,110,97,116,111,114,95,116,114,101,101]⟩⟩
abbrev Cp:Str:=⟨⟨[67,70,71,114,97,112,104,46,95,102,105,110,100,95,100,111,109,105,110,97,116,111,114,95,116,114,101,101]⟩⟩
abbrev yH:Str:=⟨⟨[95,102,105,110,100,95,100,111,109,105,110,97,116,111,114,115,95,102,114,111,109,95,105,109,109,101,100,105,97,116,101,95,100,111,109,115]⟩⟩
abbrev Cr:Str:=⟨⟨[67,70,71,114,97,112,104,46,95,102,105,110,100,95,100,111,109,105,110,97,116,111,114,115,95,102,114,111,109,95,105,109,109,101,100,105,97,116,101,95,100,111,109,115]⟩⟩
abbrev yI:Str:=⟨⟨[95,102,105,110,100,95,100,111,109,105,110,97,116,111,114,115]⟩⟩
abbrev Cs:Str:=⟨⟨[67,70,71,114,97,112,104,46,95,102,105,110,100,95,100,111,109,105,110,97,116,111,114,115]⟩⟩
abbrev yJ:Str:=⟨⟨[95,102,105,110,100,95,98,97,99,107,95,101,100,103,101,115]⟩⟩
abbrev AD:Str:=⟨⟨[67,70,71,114,97,112,104,46,95,102,105,110,100,95,98,97,99,107,95,101,100,103,101,115]⟩⟩
abbrev AE:Str:=⟨⟨[95,95,101,113,95,95]⟩⟩
abbrev Eh:Str:=⟨⟨[67,70,71,114,97,112,104,46,95,95,101,113,95,95]⟩⟩
abbrev AF:Str:=⟨⟨[95,95,110,101,95,95]⟩⟩
abbrev Ei:Str:=⟨⟨[67,70,71,114,97,112,104,46,95,95,110,101,95,95]⟩⟩
abbrev Ej:Str:=⟨⟨[115,117,99,99,101,115,115,111,114,115]⟩⟩
abbrev Ek:Str:=⟨⟨[112,114,101,100,101,99,101,115,115,111,114,115]⟩⟩
abbrev El:Str:=⟨⟨[112,111,115,116,95,100,111,109,105,110,97,116,111,114,115]⟩⟩
abbrev Em:Str:=⟨⟨[100,111,109,105,110,97,110,99,101,95,102,114,111,110,116,105,101,114]⟩⟩
abbrev En:Str:=⟨⟨[95,101,120,105,116,95,112,111,105,110,116,115]⟩⟩
abbrev Eo:Str:=⟨⟨[95,116,111,112,111,95,111,114,100,101,114]⟩⟩
abbrev Er:Str:=⟨⟨[95,100,101,115,99,115]⟩⟩
abbrev Et:Str:=⟨⟨[95,108,111,111,112,115]⟩⟩
abbrev Eu:Str:=⟨⟨[95,105,110,95,108,111,111,112,115]⟩⟩
abbrev Ev:Str:=⟨⟨[95,112,111,115,116,95,100,111,109,115]⟩⟩
abbrev Ey:Str:=⟨⟨[95,100,102]⟩⟩
abbrev Ez:Str:=⟨⟨[100,101,115,99,101,110,100,101,110,116,115]⟩⟩
abbrev EA:Str:=⟨⟨[101,120,105,116,95,112,111,105,110,116,115]⟩⟩
abbrev EB:Str:=⟨⟨[98,97,99,107,98,111,110,101]⟩⟩
abbrev EC:Str:=⟨⟨[108,111,111,112,115]⟩⟩
abbrev ED:Str:=⟨⟨[105,110,95,108,111,111,112,115]⟩⟩
abbrev EE:Str:=⟨⟨[100,101,97,100,95,110,111,100,101,115]⟩⟩
abbrev EF:Str:=⟨⟨[116,111,112,111,95,111,114,100,101,114]⟩⟩
abbrev EG:Str:=⟨⟨[116,111,112,111,95,115,111,114,116]⟩⟩
abbrev EH:Str:=⟨⟨[95,102,105,110,100,95,101,120,105,116,95,112,111,105,110,116,115]⟩⟩
abbrev EI:Str:=⟨⟨[95,102,105,110,100,95,114,101,118,101,114,115,101,95,112,111,115,116,111,114,100,101,114]⟩⟩
abbrev EJ:Str:=⟨⟨[95,102,105,110,100,95,100,111,109,105,110,97,110,99,101,95,102,114,111,110,116,105,101,114]⟩⟩
abbrev EL:Str:=⟨⟨[95,102,105,110,100,95,112,111,115,116,95,100,111,109,105,110,97,116,111,114,115]⟩⟩
abbrev EM:Str:=⟨⟨[95,102,105,110,100,95,116,111,112,111,95,111,114,100,101,114]⟩⟩
abbrev EN:Str:=⟨⟨[95,102,105,110,100,95,100,101,115,99,101,110,100,101,110,116,115]⟩⟩
abbrev EO:Str:=⟨⟨[95,102,105,110,100,95,108,111,111,112,115]⟩⟩
abbrev EP:Str:=⟨⟨[95,102,105,110,100,95,105,110,95,108,111,111,112,115]⟩⟩
abbrev EQ:Str:=⟨⟨[95,95,104,97,115,104,95,95]⟩⟩
inductive zb:Program->Prop
 | mk:zb PySem.Challenge.pw_au0018_08
theorem Ai {p q:Program} (h:zb p) (e:p=q):zb q:=e▸h
abbrev Ij:Subtype zb:=by
 refine ⟨?q,Ai .mk ?h⟩
 case h=>
  dsimp only [PySem.Challenge.pw_au0018_08,e0,e1,e2,e3,e4,e5,e6,e7,e8,e9,Do,uF,tE,yV,qR,FD,zQ,GI,GJ,GK,GL,GM,GN,CH,GO,GP,GQ,GR,GS,GT,GU,GW,GX,GY,GZ,G0,G4,G5,G6,G7,Ha,Hb,Hc,Hd,He,Hf,Hg,Hh,Hi,Hj,Hk,Hl,Hm,Hn,Ho,Hp,Hq,Hr,Hs,Ht,Hu,Hv,Hw,Hx,Hy,Hz,HA,HB,HC,HD,HE,HF,HG,HH,HI,HJ,HK,HL,HM,HN,HO,HP,HQ,HR,HS,HT,HU,HV,HW,HX,HY,HZ,H0,H7,Ia,Ib,Ic,Id,Ie,Ig,Fv,Fw,Fx,Fy,Fz,FA,FB,FC];exact rfl
abbrev qD:Program:=Ij.1
abbrev DH:Stmt->Arguments×List Stmt×Scope×Expr
 | .FunctionDef _ a b _ _ _ s _ _ _=>(a,b,s,default)
 | .ClassDef _ _ _ b _ _ _ _ _ _ _=>(default,b,default,default)
 | .While t b _ _=>(default,b,default,t)
 | .For t _ b _ _=>(default,b,default,t)
 | .If t b _ _=>(default,b,default,t)
 | .Expr e _=>(default,[],default,e)
 | _=>(default,[],default,default)
abbrev kD (s:Stmt):List Stmt:=(DH s).2.1
abbrev ub (i:Nat) (j:Option Nat):Stmt:=match j with
 | some j=>(kD (qD.main.body.getD i (.Pass default))).getD j (.Pass default)
 | none=>qD.main.body.getD i (.Pass default)
abbrev AY (s:Stmt):Arguments:=(DH s).1
abbrev uW (s:Stmt):Scope:=(DH s).2.2.1
abbrev cR (n q:Str) (i:Nat) (j:Option Nat) (g:Addr) (cl:List (Str×Addr)) (df kd doc pm:Value) (an:Option Addr) (cd ct:Value) (b:Addr):FuncData:=
 ⟨n,q,AY (ub i j), .stmts (kD (ub i j)),uW (ub i j),g,cl,df,kd,doc,pm,an,cd,ct,b⟩
noncomputable def fnEE (a b:Str) (i:Nat) (j:Option Nat) (r:Nat):FuncData:=cR a b i j 3 [] .none .none .none (.str eu 357) .none (.ref r) .none 0
abbrev K (P:Params):Frag:=[
(2,⟨.none, .none,(.dict ⟨[⟨PyData.keyHash P DN,(.str DN 185),(.bool true)⟩,⟨PyData.keyHash P DO,(.str DO 187),(.ref 15)⟩,⟨PyData.keyHash P DQ,(.str DQ 208),(.ref 19)⟩,⟨PyData.keyHash P DR,(.str DR 218),(.ref 23)⟩,⟨PyData.keyHash P DT,(.str DT 247),(.int 3 0)⟩,⟨PyData.keyHash P DU,(.str DU 248),(.bool true)⟩,⟨PyData.keyHash P DV,(.str DV 261),(.bool true)⟩,⟨PyData.keyHash P DW,(.str DW 263),(.ref 28)⟩,⟨PyData.keyHash P DX,(.str DX 0),(.str FP 0)⟩,⟨PyData.keyHash P DY,(.str DY 264),(.str FQ 0)⟩]⟩ 10),⟨[]⟩⟩),
(3,⟨(.type "dict"), .none,(.dict ⟨[⟨PyData.keyHash P z9,(.str z9 165),(.str ul 1017)⟩,⟨PyData.keyHash P uk,(.str uk 166), .none⟩,⟨PyData.keyHash P DZ,(.str DZ 167), .none⟩,⟨PyData.keyHash P D5,(.str D5 168),(.builtin "__main__.__loader__#opaque")⟩,⟨PyData.keyHash P D6,(.str D6 169), .none⟩,⟨PyData.keyHash P D7,(.str D7 170),(.ref 6)⟩,⟨PyData.keyHash P D8,(.str D8 171),(.ref 4)⟩,⟨PyData.keyHash P D9,(.str D9 173),(.str bw 172)⟩,⟨PyData.keyHash P Ea,(.str Ea 174), .none⟩,⟨PyData.keyHash P z1,(.str z1 270),(.builtin "_functools.reduce")⟩,⟨PyData.keyHash P z2,(.str z2 283),(.ref 39)⟩,⟨PyData.keyHash P z4,(.str z4 290),(.ref 46)⟩,⟨PyData.keyHash P DP,(.str DP 293),(.ref 47)⟩,⟨PyData.keyHash P A8,(.str A8 356),(.ref 86)⟩,⟨PyData.keyHash P yZ,(.str yZ 1016),(.ref 510)⟩,⟨PyData.keyHash P yK,(.str yK 1027),(.ref 532)⟩,⟨PyData.keyHash P yL,(.str yL 1033),(.ref 537)⟩,⟨PyData.keyHash P yM,(.str yM 1039),(.ref 542)⟩,⟨PyData.keyHash P yN,(.str yN 1052),(.ref 549)⟩,⟨PyData.keyHash P yO,(.str yO 1061),(.ref 556)⟩,⟨PyData.keyHash P yQ,(.str yQ 1067),(.ref 561)⟩,⟨PyData.keyHash P yR,(.str yR 1073),(.ref 566)⟩]⟩ 22),⟨[]⟩⟩),
(38,⟨(.type "code"), .none,(.fields ⟨[(.str z2 277),(.str z2 278),(.str bw 279),(.int 2 0),(.int 1 0),(.int 0 0),(.int 0 0),(.int 3 0),(.ref 33),(.bool true),(.int 271 0),(.ref 34), .none,(.ref 35),(.ref 36),(.ref 37),(.int 281 0),(.int 2 0),(.str bw 282)]⟩),⟨[]⟩⟩),
(39,⟨(.type "function"), .none,(.func (cR z2 z2 1 .none 3 [] .none .none .none (.str Eb 164) .none (.ref 38) .none 0)),⟨[]⟩⟩),
(45,⟨(.type "code"), .none,(.fields ⟨[(.str z4 284),(.str z4 285),(.str bw 286),(.int 5 0),(.int 1 0),(.int 0 0),(.int 0 0),(.int 3 0),(.ref 40),(.bool true),(.int 271 0),(.ref 41), .none,(.ref 42),(.ref 43),(.ref 44),(.int 288 0),(.int 5 0),(.str bw 289)]⟩),⟨[]⟩⟩),
(46,⟨(.type "function"), .none,(.func (cR z4 z4 2 .none 3 [] .none .none .none (.str Eb 164) .none (.ref 45) .none 0)),⟨[]⟩⟩),
(47,⟨(.type "object"), .none, .plain,⟨[]⟩⟩),
(60,⟨(.type "code"), .none,(.fields ⟨[(.str yW 306),(.str Ec 307),(.str bw 308),(.int 13 0),(.int 2 0),(.int 0 0),(.int 0 0),(.int 3 0),(.ref 55),(.bool true),(.int 271 0),(.ref 56), .none,(.ref 57),(.ref 58),(.ref 59),(.int 311 0),(.int 13 0),(.str bw 312)]⟩),⟨[]⟩⟩),
(61,⟨(.type "function"), .none,(.func (cR yW Ec 5 (.some 0) 3 [] .none .none .none (.str CJ 291) .none (.ref 60) .none 0)),⟨[]⟩⟩),
(67,⟨(.type "code"), .none,(.fields ⟨[(.str EK 314),(.str Ee 315),(.str bw 316),(.int 19 0),(.int 3 0),(.int 0 0),(.int 0 0),(.int 3 0),(.ref 62),(.bool true),(.int 271 0),(.ref 63), .none,(.ref 64),(.ref 65),(.ref 66),(.int 320 0),(.int 19 0),(.str bw 321)]⟩),⟨[]⟩⟩),
(68,⟨(.type "function"), .none,(.func (cR EK Ee 5 (.some 1) 3 [] .none .none .none (.str CJ 291) .none (.ref 67) .none 0)),⟨[]⟩⟩),
(69,⟨(.type "tuple"), .none,(.seq ⟨[.none]⟩ 0),⟨[]⟩⟩),
(75,⟨(.type "code"), .none,(.fields ⟨[(.str CK 323),(.str B7 324),(.str bw 325),(.int 25 0),(.int 3 0),(.int 0 0),(.int 0 0),(.int 3 0),(.ref 70),(.bool true),(.int 271 0),(.ref 71), .none,(.ref 72),(.ref 73),(.ref 74),(.int 333 0),(.int 25 0),(.str bw 334)]⟩),⟨[]⟩⟩),
(76,⟨(.type "function"), .none,(.func (cR CK B7 5 (.some 2) 3 [] (.ref 69) .none .none (.str CJ 291) .none (.ref 75) .none 0)),⟨[]⟩⟩),
(85,⟨(.type "dict"), .none,(.dict ⟨[⟨PyData.keyHash P wi,(.str wi 301),(.str CJ 291)⟩,⟨PyData.keyHash P Ay,(.str Ay 305),(.int 11 304)⟩,⟨PyData.keyHash P yW,(.str yW 313),(.ref 61)⟩,⟨PyData.keyHash P EK,(.str EK 322),(.ref 68)⟩,⟨PyData.keyHash P CK,(.str CK 335),(.ref 76)⟩,⟨PyData.keyHash P FU,(.str FU 343),(.ref 87)⟩,⟨PyData.keyHash P Az,(.str Az 348),(.ref 84)⟩,⟨PyData.keyHash P qS,(.str qS 351),(.ref 88)⟩,⟨PyData.keyHash P wf,(.str wf 353),(.ref 89)⟩,⟨PyData.keyHash P uk,(.str uk 354), .none⟩]⟩ 4),⟨[]⟩⟩),
(86,⟨(.type "type"), .none,(.cls ⟨A8,[(.type "object")],[(.ref 86),(.type "object")],85,A8,true,[],[],false, .none,false⟩),⟨[.none, .none,(.some (.str A8 294)),(.some (.str A8 302)),(.some (.builtin "object.__new__")),(.some (.bool true))]⟩⟩),
(87,⟨(.type "classmethod"), .none,(.fields ⟨[(.ref 83)]⟩),⟨[]⟩⟩),
(88,⟨(.type "getset_descriptor"), .none,(.fields ⟨[(.str qS 350),(.ref 86),(.builtin "function.__dict__"),(.builtin "function.__dict__#set")]⟩),⟨[]⟩⟩),
(89,⟨(.type "getset_descriptor"), .none,(.fields ⟨[(.str wf 352),(.ref 86),(.builtin "ExceptionGroup.__weakref__"), .none]⟩),⟨[]⟩⟩),
(104,⟨(.type "code"), .none,(.fields ⟨[(.str yW 371),(.str B8 372),(.str bw 373),(.int 52 0),(.int 1 0),(.int 0 0),(.int 0 0),(.int 3 0),(.ref 99),(.bool true),(.int 271 0),(.ref 100), .none,(.ref 101),(.ref 102),(.ref 103),(.int 375 0),(.int 52 0),(.str bw 376)]⟩),⟨[]⟩⟩),
(105,⟨(.type "function"), .none,(.func (fnEE yW B8 7 (.some 0) 104)),⟨[]⟩⟩),
(111,⟨(.type "code"), .none,(.fields ⟨[(.str CP 378),(.str B9 379),(.str bw 380),(.int 59 0),(.int 2 0),(.int 0 0),(.int 0 0),(.int 3 0),(.ref 106),(.bool true),(.int 271 0),(.ref 107), .none,(.ref 108),(.ref 109),(.ref 110),(.int 383 0),(.int 59 0),(.str bw 384)]⟩),⟨[]⟩⟩),
(112,⟨(.type "function"), .none,(.func (fnEE CP B9 7 (.some 1) 111)),⟨[]⟩⟩),
(113,⟨(.type "tuple"), .none,(.seq ⟨[.none]⟩ 0),⟨[]⟩⟩),
(119,⟨(.type "code"), .none,(.fields ⟨[(.str CR 386),(.str Ca 387),(.str bw 388),(.int 64 0),(.int 4 0),(.int 0 0),(.int 0 0),(.int 3 0),(.ref 114),(.bool true),(.int 271 0),(.ref 115), .none,(.ref 116),(.ref 117),(.ref 118),(.int 393 0),(.int 64 0),(.str bw 394)]⟩),⟨[]⟩⟩),
(120,⟨(.type "function"), .none,(.func (cR CR Ca 7 (.some 2) 3 [] (.ref 113) .none .none (.str eu 357) .none (.ref 119) .none 0)),⟨[]⟩⟩),
(140,⟨(.type "code"), .none,(.fields ⟨[(.str CS 412),(.str Cb 413),(.str bw 414),(.int 77 0),(.int 2 0),(.int 0 0),(.int 0 0),(.int 3 0),(.ref 135),(.bool true),(.int 271 0),(.ref 136), .none,(.ref 137),(.ref 138),(.ref 139),(.int 417 0),(.int 77 0),(.str bw 418)]⟩),⟨[]⟩⟩),
(141,⟨(.type "function"), .none,(.func (fnEE CS Cb 7 (.some 5) 140)),⟨[]⟩⟩),
(147,⟨(.type "code"), .none,(.fields ⟨[(.str CT 420),(.str Cc 421),(.str bw 422),(.int 81 0),(.int 1 0),(.int 0 0),(.int 0 0),(.int 3 0),(.ref 142),(.bool true),(.int 271 0),(.ref 143), .none,(.ref 144),(.ref 145),(.ref 146),(.int 424 0),(.int 81 0),(.str bw 425)]⟩),⟨[]⟩⟩),
(148,⟨(.type "function"), .none,(.func (fnEE CT Cc 7 (.some 6) 147)),⟨[]⟩⟩),
(154,⟨(.type "code"), .none,(.fields ⟨[(.str we 427),(.str Cd 428),(.str bw 429),(.int 86 0),(.int 1 0),(.int 0 0),(.int 0 0),(.int 3 0),(.ref 149),(.bool true),(.int 271 0),(.ref 150), .none,(.ref 151),(.ref 152),(.ref 153),(.int 431 0),(.int 86 0),(.str bw 432)]⟩),⟨[]⟩⟩),
(155,⟨(.type "function"), .none,(.func (fnEE we Cd 7 (.some 7) 154)),⟨[]⟩⟩),
(168,⟨(.type "code"), .none,(.fields ⟨[(.str ui 441),(.str Ce 442),(.str bw 443),(.int 92 0),(.int 1 0),(.int 0 0),(.int 0 0),(.int 3 0),(.ref 163),(.bool true),(.int 271 0),(.ref 164), .none,(.ref 165),(.ref 166),(.ref 167),(.int 445 0),(.int 92 0),(.str bw 446)]⟩),⟨[]⟩⟩),
(169,⟨(.type "function"), .none,(.func (fnEE ui Ce 7 (.some 9) 168)),⟨[]⟩⟩),
(182,⟨(.type "code"), .none,(.fields ⟨[(.str wd 455),(.str Cf 456),(.str bw 457),(.int 98 0),(.int 1 0),(.int 0 0),(.int 0 0),(.int 3 0),(.ref 177),(.bool true),(.int 271 0),(.ref 178), .none,(.ref 179),(.ref 180),(.ref 181),(.int 459 0),(.int 98 0),(.str bw 460)]⟩),⟨[]⟩⟩),
(183,⟨(.type "function"), .none,(.func (fnEE wd Cf 7 (.some 11) 182)),⟨[]⟩⟩),
(199,⟨(.type "code"), .none,(.fields ⟨[(.str oE 481),(.str Cg 482),(.str bw 483),(.int 105 0),(.int 1 0),(.int 0 0),(.int 0 0),(.int 3 0),(.ref 194),(.bool true),(.int 271 0),(.ref 195), .none,(.ref 196),(.ref 197),(.ref 198),(.int 485 0),(.int 105 0),(.str bw 486)]⟩),⟨[]⟩⟩),
(200,⟨(.type "function"), .none,(.func (fnEE oE Cg 7 (.some 13) 199)),⟨[]⟩⟩),
(201,⟨(.type "dict"), .none,(.dict ⟨[⟨PyData.keyHash P yX,(.str yX 490),(.ref 200)⟩,⟨PyData.keyHash P yY,(.str yY 492),(.str oE 499)⟩,⟨PyData.keyHash P uk,(.str uk 495), .none⟩,⟨PyData.keyHash P wi,(.str wi 498),(.str eu 357)⟩]⟩ 4),⟨[]⟩⟩),
(202,⟨(.ref 86),(.some 201), .plain,⟨[]⟩⟩),
(209,⟨(.type "code"), .none,(.fields ⟨[(.str jP 500),(.str Ci 501),(.str bw 502),(.int 109 0),(.int 1 0),(.int 0 0),(.int 0 0),(.int 3 0),(.ref 204),(.bool true),(.int 271 0),(.ref 205), .none,(.ref 206),(.ref 207),(.ref 208),(.int 504 0),(.int 109 0),(.str bw 505)]⟩),⟨[]⟩⟩),
(210,⟨(.type "function"), .none,(.func (fnEE jP Ci 7 (.some 14) 209)),⟨[]⟩⟩),
(211,⟨(.type "dict"), .none,(.dict ⟨[⟨PyData.keyHash P yX,(.str yX 509),(.ref 210)⟩,⟨PyData.keyHash P yY,(.str yY 511),(.str jP 518)⟩,⟨PyData.keyHash P uk,(.str uk 514), .none⟩,⟨PyData.keyHash P wi,(.str wi 517),(.str eu 357)⟩]⟩ 4),⟨[]⟩⟩),
(212,⟨(.ref 86),(.some 211), .plain,⟨[]⟩⟩),
(269,⟨(.type "code"), .none,(.fields ⟨[(.str gJ 614),(.str AA 615),(.str bw 616),(.int 133 0),(.int 1 0),(.int 0 0),(.int 0 0),(.int 3 0),(.ref 264),(.bool true),(.int 271 0),(.ref 265), .none,(.ref 266),(.ref 267),(.ref 268),(.int 618 0),(.int 133 0),(.str bw 619)]⟩),⟨[]⟩⟩),
(270,⟨(.type "function"), .none,(.func (fnEE gJ AA 7 (.some 20) 269)),⟨[]⟩⟩),
(271,⟨(.type "dict"), .none,(.dict ⟨[⟨PyData.keyHash P yX,(.str yX 623),(.ref 270)⟩,⟨PyData.keyHash P yY,(.str yY 625),(.str gJ 632)⟩,⟨PyData.keyHash P uk,(.str uk 628), .none⟩,⟨PyData.keyHash P wi,(.str wi 631),(.str eu 357)⟩]⟩ 4),⟨[]⟩⟩),
(272,⟨(.ref 86),(.some 271), .plain,⟨[]⟩⟩),
(289,⟨(.type "code"), .none,(.fields ⟨[(.str kU 652),(.str Cj 653),(.str bw 654),(.int 141 0),(.int 1 0),(.int 0 0),(.int 0 0),(.int 3 0),(.ref 284),(.bool true),(.int 271 0),(.ref 285), .none,(.ref 286),(.ref 287),(.ref 288),(.int 656 0),(.int 141 0),(.str bw 657)]⟩),⟨[]⟩⟩),
(290,⟨(.type "function"), .none,(.func (fnEE kU Cj 7 (.some 22) 289)),⟨[]⟩⟩),
(291,⟨(.type "dict"), .none,(.dict ⟨[⟨PyData.keyHash P yX,(.str yX 661),(.ref 290)⟩,⟨PyData.keyHash P yY,(.str yY 663),(.str kU 670)⟩,⟨PyData.keyHash P uk,(.str uk 666), .none⟩,⟨PyData.keyHash P wi,(.str wi 669),(.str eu 357)⟩]⟩ 4),⟨[]⟩⟩),
(292,⟨(.ref 86),(.some 291), .plain,⟨[]⟩⟩),
(306,⟨(.type "code"), .none,(.fields ⟨[(.str yB 679),(.str Ck 680),(.str bw 681),(.int 148 0),(.int 1 0),(.int 0 0),(.int 0 0),(.int 3 0),(.ref 301),(.bool true),(.int 271 0),(.ref 302), .none,(.ref 303),(.ref 304),(.ref 305),(.int 683 0),(.int 148 0),(.str bw 684)]⟩),⟨[]⟩⟩),
(307,⟨(.type "function"), .none,(.func (fnEE yB Ck 7 (.some 24) 306)),⟨[]⟩⟩),
(348,⟨(.type "code"), .none,(.fields ⟨[(.str AB 722),(.str Ef 723),(.str bw 724),(.int 167 0),(.int 1 0),(.int 0 0),(.int 0 0),(.int 3 0),(.ref 343),(.bool true),(.int 271 0),(.ref 344), .none,(.ref 345),(.ref 346),(.ref 347),(.int 726 0),(.int 167 0),(.str bw 727)]⟩),⟨[]⟩⟩),
(349,⟨(.type "function"), .none,(.func (fnEE AB Ef 7 (.some 30) 348)),⟨[]⟩⟩),
(365,⟨(.type "tuple"), .none,(.seq ⟨[.none]⟩ 0),⟨[]⟩⟩),
(371,⟨(.type "code"), .none,(.fields ⟨[(.str wg 745),(.str Cl 746),(.str bw 747),(.int 176 0),(.int 4 0),(.int 0 0),(.int 0 0),(.int 3 0),(.ref 366),(.bool true),(.int 271 0),(.ref 367), .none,(.ref 368),(.ref 369),(.ref 370),(.int 752 0),(.int 176 0),(.str bw 753)]⟩),⟨[]⟩⟩),
(372,⟨(.type "function"), .none,(.func (cR wg Cl 7 (.some 33) 3 [] (.ref 365) .none .none (.str eu 357) .none (.ref 371) .none 0)),⟨[]⟩⟩),
(378,⟨(.type "code"), .none,(.fields ⟨[(.str AC 755),(.str Eg 756),(.str bw 757),(.int 181 0),(.int 2 0),(.int 0 0),(.int 0 0),(.int 3 0),(.ref 373),(.bool true),(.int 271 0),(.ref 374), .none,(.ref 375),(.ref 376),(.ref 377),(.int 762 0),(.int 181 0),(.str bw 763)]⟩),⟨[]⟩⟩),
(379,⟨(.type "function"), .none,(.func (fnEE AC Eg 7 (.some 34) 378)),⟨[]⟩⟩),
(380,⟨(.type "tuple"), .none,(.seq ⟨[.none]⟩ 0),⟨[]⟩⟩),
(386,⟨(.type "code"), .none,(.fields ⟨[(.str yC 765),(.str Cm 766),(.str bw 767),(.int 189 0),(.int 2 0),(.int 0 0),(.int 0 0),(.int 35 0),(.ref 381),(.bool true),(.int 271 0),(.ref 382), .none,(.ref 383),(.ref 384),(.ref 385),(.int 774 0),(.int 189 0),(.str bw 775)]⟩),⟨[]⟩⟩),
(387,⟨(.type "function"), .none,(.func (cR yC Cm 7 (.some 35) 3 [] (.ref 380) .none .none (.str eu 357) .none (.ref 386) .none 0)),⟨[]⟩⟩),
(393,⟨(.type "code"), .none,(.fields ⟨[(.str wh 777),(.str Cn 778),(.str bw 779),(.int 202 0),(.int 1 0),(.int 0 0),(.int 0 0),(.int 3 0),(.ref 388),(.bool true),(.int 271 0),(.ref 389), .none,(.ref 390),(.ref 391),(.ref 392),(.int 784 0),(.int 202 0),(.str bw 785)]⟩),⟨[]⟩⟩),
(394,⟨(.type "function"), .none,(.func (fnEE wh Cn 7 (.some 36) 393)),⟨[]⟩⟩),
(402,⟨(.type "tuple"), .none,(.seq ⟨[.none, .none, .none]⟩ 0),⟨[]⟩⟩),
(408,⟨(.type "code"), .none,(.fields ⟨[(.str yD 794),(.str Co 795),(.str bw 796),(.int 214 0),(.int 4 0),(.int 0 0),(.int 0 0),(.int 3 0),(.ref 403),(.bool true),(.int 271 0),(.ref 404), .none,(.ref 405),(.ref 406),(.ref 407),(.int 807 0),(.int 214 0),(.str bw 808)]⟩),⟨[]⟩⟩),
(409,⟨(.type "function"), .none,(.func (cR yD Co 7 (.some 38) 3 [] (.ref 402) .none .none (.str eu 357) .none (.ref 408) .none 0)),⟨[]⟩⟩),
(417,⟨(.type "tuple"), .none,(.seq ⟨[.none, .none, .none, .none]⟩ 0),⟨[]⟩⟩),
(421,⟨(.type "code"), .none,(.fields ⟨[(.str yE 817),(.str yF 818),(.str bw 819),(.int 240 0),(.int 5 0),(.int 0 0),(.int 0 0),(.int 3 0),(.ref 418),(.bool true),(.int 271 0),(.ref 419), .none, .none, .none,(.ref 420),(.int 820 0),(.int 240 0),(.str bw 821)]⟩),⟨[]⟩⟩),
(422,⟨(.type "function"), .none,(.func (cR yE yF 7 (.some 40) 3 [] (.ref 417) .none .none (.str eu 357) .none (.ref 421) .none 0)),⟨[]⟩⟩),
(428,⟨(.type "code"), .none,(.fields ⟨[(.str yG 823),(.str Cp 824),(.str bw 825),(.int 272 0),(.int 1 0),(.int 0 0),(.int 0 0),(.int 3 0),(.ref 423),(.bool true),(.int 271 0),(.ref 424), .none,(.ref 425),(.ref 426),(.ref 427),(.int 831 0),(.int 272 0),(.str bw 832)]⟩),⟨[]⟩⟩),
(429,⟨(.type "function"), .none,(.func (fnEE yG Cp 7 (.some 41) 428)),⟨[]⟩⟩),
(442,⟨(.type "code"), .none,(.fields ⟨[(.str yH 841),(.str Cr 842),(.str bw 843),(.int 285 0),(.int 2 0),(.int 0 0),(.int 0 0),(.int 3 0),(.ref 437),(.bool true),(.int 271 0),(.ref 438), .none,(.ref 439),(.ref 440),(.ref 441),(.int 851 0),(.int 285 0),(.str bw 852)]⟩),⟨[]⟩⟩),
(443,⟨(.type "function"), .none,(.func (fnEE yH Cr 7 (.some 43) 442)),⟨[]⟩⟩),
(449,⟨(.type "code"), .none,(.fields ⟨[(.str yI 854),(.str Cs 855),(.str bw 856),(.int 309 0),(.int 1 0),(.int 0 0),(.int 0 0),(.int 3 0),(.ref 444),(.bool true),(.int 271 0),(.ref 445), .none,(.ref 446),(.ref 447),(.ref 448),(.int 858 0),(.int 309 0),(.str bw 859)]⟩),⟨[]⟩⟩),
(450,⟨(.type "function"), .none,(.func (fnEE yI Cs 7 (.some 44) 449)),⟨[]⟩⟩),
(458,⟨(.type "tuple"), .none,(.seq ⟨[.none, .none, .none]⟩ 0),⟨[]⟩⟩),
(464,⟨(.type "code"), .none,(.fields ⟨[(.str yJ 868),(.str AD 869),(.str bw 870),(.int 315 0),(.int 4 0),(.int 0 0),(.int 0 0),(.int 3 0),(.ref 459),(.bool true),(.int 271 0),(.ref 460), .none,(.ref 461),(.ref 462),(.ref 463),(.int 886 0),(.int 315 0),(.str bw 887)]⟩),⟨[]⟩⟩),
(465,⟨(.type "function"), .none,(.func (cR yJ AD 7 (.some 46) 3 [] (.ref 458) .none .none (.str eu 357) .none (.ref 464) .none 0)),⟨[]⟩⟩),
(499,⟨(.type "code"), .none,(.fields ⟨[(.str AE 917),(.str Eh 918),(.str bw 919),(.int 366 0),(.int 2 0),(.int 0 0),(.int 0 0),(.int 3 0),(.ref 494),(.bool true),(.int 271 0),(.ref 495), .none,(.ref 496),(.ref 497),(.ref 498),(.int 925 0),(.int 366 0),(.str bw 926)]⟩),⟨[]⟩⟩),
(500,⟨(.type "function"), .none,(.func (fnEE AE Eh 7 (.some 51) 499)),⟨[]⟩⟩),
(506,⟨(.type "code"), .none,(.fields ⟨[(.str AF 928),(.str Ei 929),(.str bw 930),(.int 376 0),(.int 2 0),(.int 0 0),(.int 0 0),(.int 3 0),(.ref 501),(.bool true),(.int 271 0),(.ref 502), .none,(.ref 503),(.ref 504),(.ref 505),(.int 933 0),(.int 376 0),(.str bw 934)]⟩),⟨[]⟩⟩),
(507,⟨(.type "function"), .none,(.func (fnEE AF Ei 7 (.some 52) 506)),⟨[]⟩⟩),
(509,⟨(.type "dict"), .none,(.dict ⟨[⟨PyData.keyHash P wi,(.str wi 366),(.str eu 357)⟩,⟨PyData.keyHash P Ay,(.str Ay 370),(.int 50 369)⟩,⟨PyData.keyHash P yW,(.str yW 377),(.ref 105)⟩,⟨PyData.keyHash P CP,(.str CP 385),(.ref 112)⟩,⟨PyData.keyHash P CR,(.str CR 395),(.ref 120)⟩,⟨PyData.keyHash P Ej,(.str Ej 403),(.ref 127)⟩,⟨PyData.keyHash P Ek,(.str Ek 411),(.ref 134)⟩,⟨PyData.keyHash P CS,(.str CS 419),(.ref 141)⟩,⟨PyData.keyHash P CT,(.str CT 426),(.ref 148)⟩,⟨PyData.keyHash P we,(.str we 433),(.ref 155)⟩,⟨PyData.keyHash P El,(.str El 440),(.ref 162)⟩,⟨PyData.keyHash P ui,(.str ui 447),(.ref 169)⟩,⟨PyData.keyHash P Em,(.str Em 454),(.ref 176)⟩,⟨PyData.keyHash P wd,(.str wd 461),(.ref 183)⟩,⟨PyData.keyHash P En,(.str En 480),(.ref 192)⟩,⟨PyData.keyHash P oE,(.str oE 499),(.ref 202)⟩,⟨PyData.keyHash P jP,(.str jP 518),(.ref 212)⟩,⟨PyData.keyHash P Eo,(.str Eo 537),(.ref 222)⟩,⟨PyData.keyHash P Er,(.str Er 556),(.ref 232)⟩,⟨PyData.keyHash P Et,(.str Et 575),(.ref 242)⟩,⟨PyData.keyHash P Eu,(.str Eu 594),(.ref 252)⟩,⟨PyData.keyHash P Ev,(.str Ev 613),(.ref 262)⟩,⟨PyData.keyHash P gJ,(.str gJ 632),(.ref 272)⟩,⟨PyData.keyHash P Ey,(.str Ey 651),(.ref 282)⟩,⟨PyData.keyHash P kU,(.str kU 670),(.ref 292)⟩,⟨PyData.keyHash P Ez,(.str Ez 678),(.ref 300)⟩,⟨PyData.keyHash P yB,(.str yB 685),(.ref 307)⟩,⟨PyData.keyHash P EA,(.str EA 692),(.ref 314)⟩,⟨PyData.keyHash P EB,(.str EB 699),(.ref 321)⟩,⟨PyData.keyHash P EC,(.str EC 706),(.ref 328)⟩,⟨PyData.keyHash P ED,(.str ED 714),(.ref 335)⟩,⟨PyData.keyHash P EE,(.str EE 721),(.ref 342)⟩,⟨PyData.keyHash P AB,(.str AB 728),(.ref 349)⟩,⟨PyData.keyHash P EF,(.str EF 735),(.ref 356)⟩,⟨PyData.keyHash P EG,(.str EG 744),(.ref 364)⟩,⟨PyData.keyHash P wg,(.str wg 754),(.ref 372)⟩,⟨PyData.keyHash P AC,(.str AC 764),(.ref 379)⟩,⟨PyData.keyHash P yC,(.str yC 776),(.ref 387)⟩,⟨PyData.keyHash P wh,(.str wh 786),(.ref 394)⟩,⟨PyData.keyHash P EH,(.str EH 793),(.ref 401)⟩,⟨PyData.keyHash P yD,(.str yD 809),(.ref 409)⟩,⟨PyData.keyHash P EI,(.str EI 816),(.ref 416)⟩,⟨PyData.keyHash P yE,(.str yE 822),(.ref 422)⟩,⟨PyData.keyHash P yG,(.str yG 833),(.ref 429)⟩,⟨PyData.keyHash P EJ,(.str EJ 840),(.ref 436)⟩,⟨PyData.keyHash P yH,(.str yH 853),(.ref 443)⟩,⟨PyData.keyHash P yI,(.str yI 860),(.ref 450)⟩,⟨PyData.keyHash P EL,(.str EL 867),(.ref 457)⟩,⟨PyData.keyHash P yJ,(.str yJ 888),(.ref 465)⟩,⟨PyData.keyHash P EM,(.str EM 895),(.ref 472)⟩,⟨PyData.keyHash P EN,(.str EN 902),(.ref 479)⟩,⟨PyData.keyHash P EO,(.str EO 909),(.ref 486)⟩,⟨PyData.keyHash P EP,(.str EP 916),(.ref 493)⟩,⟨PyData.keyHash P AE,(.str AE 927),(.ref 500)⟩,⟨PyData.keyHash P AF,(.str AF 935),(.ref 507)⟩,⟨PyData.keyHash P Az,(.str Az 942),(.ref 508)⟩,⟨PyData.keyHash P qS,(.str qS 944),(.ref 511)⟩,⟨PyData.keyHash P wf,(.str wf 946),(.ref 512)⟩,⟨PyData.keyHash P uk,(.str uk 947), .none⟩,⟨PyData.keyHash P EQ,(.str EQ 948), .none⟩]⟩ 5),⟨[]⟩⟩),
(510,⟨(.type "type"), .none,(.cls ⟨yZ,[(.type "object")],[(.ref 510),(.type "object")],509,yZ,true,[],[],false, .none,false⟩),⟨[(.some (.ref 92)), .none,(.some (.str yZ 359)),(.some (.str yZ 367)),(.some (.builtin "object.__new__")),(.some (.bool true))]⟩⟩),
(511,⟨(.type "getset_descriptor"), .none,(.fields ⟨[(.str qS 943),(.ref 510),(.builtin "function.__dict__"),(.builtin "function.__dict__#set")]⟩),⟨[]⟩⟩),
(512,⟨(.type "getset_descriptor"), .none,(.fields ⟨[(.str wf 945),(.ref 510),(.builtin "ExceptionGroup.__weakref__"), .none]⟩),⟨[]⟩⟩),
(531,⟨(.type "code"), .none,(.fields ⟨[(.str yK 1019),(.str yK 1020),(.str bw 1021),(.int 379 0),(.int 2 0),(.int 0 0),(.int 0 0),(.int 3 0),(.ref 526),(.bool true),(.int 271 0),(.ref 527), .none,(.ref 528),(.ref 529),(.ref 530),(.int 1025 0),(.int 379 0),(.str bw 1026)]⟩),⟨[]⟩⟩),
(532,⟨(.type "function"), .none,(.func (cR yK yK 9 .none 3 [] .none .none .none (.str ul 1017) .none (.ref 531) .none 0)),⟨[]⟩⟩),
(536,⟨(.type "code"), .none,(.fields ⟨[(.str yL 1028),(.str yL 1029),(.str bw 1030),(.int 385 0),(.int 1 0),(.int 0 0),(.int 0 0),(.int 3 0),(.ref 533),(.bool true),(.int 271 0),(.ref 534), .none, .none, .none,(.ref 535),(.int 1031 0),(.int 385 0),(.str bw 1032)]⟩),⟨[]⟩⟩),
(537,⟨(.type "function"), .none,(.func (cR yL yL 10 .none 3 [] .none .none .none (.str ul 1017) .none (.ref 536) .none 0)),⟨[]⟩⟩),
(541,⟨(.type "code"), .none,(.fields ⟨[(.str yM 1034),(.str yM 1035),(.str bw 1036),(.int 387 0),(.int 2 0),(.int 0 0),(.int 0 0),(.int 3 0),(.ref 538),(.bool true),(.int 271 0),(.ref 539), .none, .none, .none,(.ref 540),(.int 1037 0),(.int 387 0),(.str bw 1038)]⟩),⟨[]⟩⟩),
(542,⟨(.type "function"), .none,(.func (cR yM yM 11 .none 3 [] .none .none .none (.str ul 1017) .none (.ref 541) .none 0)),⟨[]⟩⟩),
(548,⟨(.type "code"), .none,(.fields ⟨[(.str yN 1040),(.str yN 1041),(.str bw 1042),(.int 391 0),(.int 3 0),(.int 0 0),(.int 0 0),(.int 3 0),(.ref 543),(.bool true),(.int 271 0),(.ref 544), .none,(.ref 545),(.ref 546),(.ref 547),(.int 1050 0),(.int 391 0),(.str bw 1051)]⟩),⟨[]⟩⟩),
(549,⟨(.type "function"), .none,(.func (cR yN yN 12 .none 3 [] .none .none .none (.str ul 1017) .none (.ref 548) .none 0)),⟨[]⟩⟩),
(555,⟨(.type "code"), .none,(.fields ⟨[(.str yO 1053),(.str yO 1054),(.str bw 1055),(.int 400 0),(.int 2 0),(.int 0 0),(.int 0 0),(.int 3 0),(.ref 550),(.bool true),(.int 271 0),(.ref 551), .none,(.ref 552),(.ref 553),(.ref 554),(.int 1059 0),(.int 400 0),(.str bw 1060)]⟩),⟨[]⟩⟩),
(556,⟨(.type "function"), .none,(.func (cR yO yO 13 .none 3 [] .none .none .none (.str ul 1017) .none (.ref 555) .none 0)),⟨[]⟩⟩),
(560,⟨(.type "code"), .none,(.fields ⟨[(.str yQ 1062),(.str yQ 1063),(.str bw 1064),(.int 405 0),(.int 4 0),(.int 0 0),(.int 0 0),(.int 3 0),(.ref 557),(.bool true),(.int 271 0),(.ref 558), .none, .none, .none,(.ref 559),(.int 1065 0),(.int 405 0),(.str bw 1066)]⟩),⟨[]⟩⟩),
(561,⟨(.type "function"), .none,(.func (cR yQ yQ 14 .none 3 [] .none .none .none (.str ul 1017) .none (.ref 560) .none 0)),⟨[]⟩⟩),
(565,⟨(.type "code"), .none,(.fields ⟨[(.str yR 1068),(.str yR 1069),(.str bw 1070),(.int 426 0),(.int 1 0),(.int 0 0),(.int 0 0),(.int 3 0),(.ref 562),(.bool true),(.int 271 0),(.ref 563), .none, .none, .none,(.ref 564),(.int 1071 0),(.int 426 0),(.str bw 1072)]⟩),⟨[]⟩⟩),
(566,⟨(.type "function"), .none,(.func (cR yR yR 15 .none 3 [] .none .none .none (.str ul 1017) .none (.ref 565) .none 0)),⟨[]⟩⟩),
(419,⟨.none, .none,(.fields ⟨[]⟩),⟨[]⟩⟩),
(460,⟨.none, .none,(.fields ⟨[]⟩),⟨[]⟩⟩)]
abbrev DC:List Addr:=[2,3,38,39,45,46,47,60,61,67,68,69,75,76,85,86,87,88,89,104,105,111,112,113,119,120,140,141,147,148,154,155,168,169,182,183,199,200,201,202,209,210,211,212,269,270,271,272,289,290,291,292,306,307,348,349,365,371,372,378,379,380,386,387,393,394,402,408,409,417,421,422,428,429,442,443,449,450,458,464,465,499,500,506,507,509,510,511,512,531,532,536,537,541,542,548,549,555,556,560,561,565,566,419,460]
abbrev q0:Program:=view qD [0,15]
abbrev tP:List Str:=[z2,z4,DP,A8,yZ,yK,yL,yM,yN,yO,yQ]
theorem DK:∀ w,Bu qD q0 tP (fun _=>true) (fun s=>DC.map s.heap.get?) 6000 w=some (true,openGood q0 tP,(K w.params).map fun p=>some p.2):=fun w=>by kernel_rfl
inductive V where
 | none | bool (b:Bool) | int (i:Int) | str (x:Str) | ref (a:Addr) | ty (n:String) | bi (id:String) | tup (vs:List V)
structure PB where
 o:Addr->Option Obj
 g:Nat->Option GenState
abbrev PB.le (B B':PB):Prop:=(∀ a o,B.o a=some o->B'.o a=some o)/\∀ g x,B.g g=some x->B'.g g=some x
theorem PB.le.refl (B:PB):B.le B:=⟨fun _ _ e=>e,fun _ _ e=>e⟩
theorem PB.le.trans {B B' B'':PB} (x:B.le B') (y:B'.le B''):B.le B'':=⟨fun a o e=>y.1 a o (x.1 a o e),fun a o e=>y.2 a o (x.2 a o e)⟩
abbrev ej (xs:Array Value):Obj:={ cls:= .type "tuple",data:= .seq xs }
mutual
inductive VR (B:PB):V->Value->Prop
 | none:VR B .none .none
 | bool (b:Bool):VR B (.bool b) (.bool b)
 | int (i:Int) (t:Tok):VR B (.int i) (.int i t)
 | str (x:Str) (t:Tok):VR B (.str x) (.str x t)
 | ref (a:Addr):VR B (.ref a) (.ref a)
 | ty (n:String):VR B (.ty n) (.type n)
 | bi (n:String):VR B (.bi n) (.builtin n)
 | tup {a:Addr} {xs:Array Value} {vs:List V}:B.o a=some (ej xs)->VRs B vs xs.toList->VR B (.tup vs) (.ref a)
inductive VRs (B:PB):List V->List Value->Prop
 | nil:VRs B [] []
 | cons {v:V} {x:Value} {vs:List V} {xs:List Value}:VR B v x->VRs B vs xs->VRs B (v::vs) (x::xs)
end
section
variable {B:PB}
theorem VR.intE {i:Int} {x:Value} (h:VR B (.int i) x):∃ t,x = .int i t:=by cases h;exact ⟨_,rfl⟩
theorem VR.refE {i:Addr} {x:Value} (h:VR B (.ref i) x):x = .ref i:=by cases h;rfl
theorem VR.boolE {i:Bool} {x:Value} (h:VR B (.bool i) x):x = .bool i:=by cases h;rfl
theorem VR.noneE {x:Value} (h:VR B .none x):x = .none:=by cases h;rfl
theorem VR.strE {i:Str} {x:Value} (h:VR B (.str i) x):∃ t,x = .str i t:=by cases h;exact ⟨_,rfl⟩
theorem VR.tupE {vs:List V} {x:Value} (h:VR B (.tup vs) x):∃ a xs,x = .ref a/\B.o a=some (ej xs)/\VRs B vs xs.toList:=by cases h with | tup e r=>exact ⟨_,_,rfl,e,r⟩
theorem VR.biE {n:String} {x:Value} (h:VR B (.bi n) x):x = .builtin n:=by cases h;rfl
theorem VR.tyE {n:String} {x:Value} (h:VR B (.ty n) x):x = .type n:=by cases h;rfl
theorem VRs.nilE {x:List Value} (h:VRs B [] x):x=[]:=by cases h;rfl
end
abbrev cA (o:Obj):Bool:=match o.data with | .seq .. =>true | _=>false
abbrev PB.lt (B B':PB):Prop:=∀ a o,B.o a=some o->cA o=true->B'.o a=some o
theorem PB.le.lt {B B':PB} (l:B.le B'):B.lt B':=fun a o e _=>l.1 a o e
theorem VRs.ind {B:PB} {P:List V->List Value->Prop} (n:P [] []) (c:∀ {v x vs xs},VR B v x->VRs B vs xs->P vs xs->P (v::vs) (x::xs)) {vs xs} (h:VRs B vs xs):P vs xs:=
 VRs.rec (motive_1:=fun _ _ _=>True) (motive_2:=fun vs xs _=>P vs xs) trivial (fun _=>trivial) (fun _ _=>trivial) (fun _ _=>trivial) (fun _=>trivial) (fun _=>trivial) (fun _=>trivial) (fun _ _ _=>trivial) n (fun a b _ h=>c a b h) h
theorem VR.mono' {B B':PB} (l:B.lt B') {v:V} {x:Value} (h:VR B v x):VR B' v x:=
 VR.rec (motive_1:=fun v x _=>VR B' v x) (motive_2:=fun vs xs _=>VRs B' vs xs) .none .bool .int .str .ref .ty .bi (fun e _ r=> .tup (l _ _ e rfl) r) .nil (fun _ _=> .cons) h
theorem VRs.mono' {B B':PB} (l:B.lt B') {v:List V} {x:List Value} (h:VRs B v x):VRs B' v x:=
 h.ind .nil fun a _ r=> .cons (a.mono' l) r
theorem VR.mono {B B':PB} (l:B.le B') {v:V} {x:Value} (h:VR B v x):VR B' v x:=h.mono' l.lt
theorem VRs.mono {B B':PB} (l:B.le B') {v:List V} {x:List Value} (h:VRs B v x):VRs B' v x:=h.mono' l.lt
theorem VRs.uncons {B:PB} {v:V} {vs:List V} {xs:List Value} (h:VRs B (v::vs) xs):∃ x ys,xs=x::ys/\VR B v x/\VRs B vs ys:=by
 cases h with | cons a b=>exact ⟨_,_,rfl,a,b⟩
theorem VRs.length {B:PB} {vs:List V} {xs:List Value} (h:VRs B vs xs):vs.length=xs.length:=h.ind (P:=fun vs xs=>vs.length=xs.length) rfl fun _ _ r=>congrArg (· + 1) r
theorem VRs.append {B:PB} {vs vs':List V} {xs xs':List Value} (r:VRs B vs xs) (r':VRs B vs' xs'):VRs B (vs++vs') (xs++xs'):=r.ind (P:=fun vs xs=>VRs B (vs++vs') (xs++xs')) r' fun a _ h=> .cons a h
theorem VRs.get {B:PB} {vs:List V} {xs:List Value} (r:VRs B vs xs) {i:Nat} {v:V} (e:vs[i]?=some v):∃ x,xs[i]?=some x/\VR B v x:=by
 refine r.ind (P:=fun vs xs=>∀ i,vs[i]?=some v->∃ x,xs[i]?=some x/\VR B v x) (fun i e=>by simp at e) (fun a _ h i=>?_) i e
 cases i with
 | zero=>exact fun e=>by obtain rfl:=Option.some.inj e;exact ⟨_,rfl,a⟩
 | succ i=>exact h i
theorem VRs.reverse {B:PB} {vs:List V} {xs:List Value} (r:VRs B vs xs):VRs B vs.reverse xs.reverse:=
 r.ind (P:=fun vs xs=>VRs B vs.reverse xs.reverse) .nil fun a _ h=>by rw [List.reverse_cons,List.reverse_cons];exact h.append (.cons a .nil)
theorem VRs.drop {B:PB} {vs:List V} {xs:List Value} (r:VRs B vs xs):∀ n,VRs B (vs.drop n) (xs.drop n):=
 r.ind (P:=fun vs xs=>∀ n,VRs B (vs.drop n) (xs.drop n)) (fun n=>by cases n <;> exact .nil) fun a b h n=>by
  cases n with
  | zero=>exact .cons a b
  | succ n=>exact h n
theorem VRs.take {B:PB} {vs:List V} {xs:List Value} (r:VRs B vs xs):∀ n,VRs B (vs.take n) (xs.take n):=
 r.ind (P:=fun vs xs=>∀ n,VRs B (vs.take n) (xs.take n)) (fun n=>by cases n <;> exact .nil) fun a b h n=>by
  cases n with
  | zero=>exact .nil
  | succ n=>exact .cons a (h n)
theorem VRs.split {B:PB} {vs':List V}:∀ {vs:List V} {xs:List Value},VRs B (vs++vs') xs->∃ ys zs,xs=ys++zs/\VRs B vs ys/\VRs B vs' zs:=by
 intro vs
 induction vs with
 | nil=>exact fun r=>⟨[],_,rfl, .nil,r⟩
 | cons v vs ih=>
  intro xs r;obtain ⟨x,ys,rfl,a,b⟩:=VRs.uncons r;obtain ⟨y,z,rfl,c,d⟩:=ih b;exact ⟨x::y,z,rfl, .cons a c,d⟩
@[reducible] noncomputable def jD (G:Program) (w:World) (i:Int):Int:=(intKind G w).hash i
abbrev uM (M i:Nat):Nat:=(i*5+1) % M
abbrev j3 (M:Nat):Nat->Nat->Nat
 | 0,i=>i
 | n+1,i=>j3 M n (uM M i)
abbrev iJ (M:Nat):Prop:=0<M/\∀ i j,i<M->j<M->∃ m,m<M/\j3 M m i=j
abbrev dq (t:SetTable):Prop:=iJ (t.mask+1)/\t.fill*5<t.mask*3/\t.place.toList.Pairwise (· < ·)
inductive bL where
 | list (xs:List V)
 | flist (xs:List V)
 | iset (xs:List Int) (ob:Obj)
 | idict (kvs:List (Int×V)) (ob:Obj)
 | ns (m:Str->Option V) (n:Nat) (b:Bool) (ob:Obj)
 | inst (c d:Addr)
 | cell (v:Option V)
 | tset (xs:List (Int×Int)) (n:Nat)
 | tdict (n:Nat)
 | raw (o:Obj)
set_option genInjectivity false in
structure aK where
 prog:Program
 w:World
 P:Heap->Prop
 os:OsState
 K:Frag
 PK:∀ h,P h->K.In h
 lim:∀ h,P h->h.NoLimit
 two:∀ h,P h->1<h.objs.size
inductive OR (B:PB):Option V->Option Value->Prop
 | none:OR B Option.none Option.none
 | some {v x}:VR B v x->OR B (Option.some v) (Option.some x)
theorem OR.mono' {B B':PB} (l:B.lt B') {v x} (h:OR B v x):OR B' v x:=by cases h with | none=>exact .none | some h=>exact .some (h.mono' l)
theorem OR.mono {B B':PB} (l:B.le B') {v x} (h:OR B v x):OR B' v x:=h.mono' l.lt
inductive kX (B:PB):List (Int×V)->List (Int×Value)->Prop
 | nil:kX B [] []
 | cons {k v x kvs kxs}:VR B v x->kX B kvs kxs->kX B ((k,v)::kvs) ((k,x)::kxs)
theorem kX.mono' {B B':PB} (l:B.lt B') {v x} (h:kX B v x):kX B' v x:=by
 induction h with | nil=>exact .nil | cons h _ ih=>exact .cons (h.mono' l) ih
inductive q7 (B:PB) (xs:List (Int×Int)) (x:Value):Prop
 | mk (a b:Int) (u v:Tok) (r:Addr) (e:x = .ref r) (h:B.o r=some (ej #[.int a u, .int b v])) (m:(a,b)∈xs):q7 B xs x
theorem q7.mono' {B B':PB} (l:B.lt B') {xs x} (h:q7 B xs x):q7 B' xs x:=by cases h with | mk a b u v r e h m=>exact ⟨a,b,u,v,r,e,l _ _ h rfl,m⟩
inductive wL (P:Program) (w:World) (B:PB) (x:List Int×Addr×Value):Prop
 | mk (vs:Array Value) (h:B.o x.2.1=some (ej vs)) (i:ItemsAre (intKind P w) x.1 vs.toList):wL P w B x
theorem wL.mono' {P w} {B B':PB} (l:B.lt B') {x} (h:wL P w B x):wL P w B' x:=by cases h with | mk vs h i=>exact ⟨vs,l _ _ h rfl,i⟩
inductive AJ (B:PB) (hash:Int->Int):List Int->List (Int×Value)->Prop
 | nil:AJ B hash [] []
 | cons {i t xs es}:AJ B hash xs es->AJ B hash (i::xs) ((hash i, .int i t)::es)
abbrev qu (vs:Array Value) (ep:Nat):Obj:={ cls:= .type "list",data:= .seq vs ep }
abbrev r8 (c d:Addr):Obj:={ cls:= .ref c,dict:=some d,data:= .plain }
abbrev led (w:World) (t:SetTable):Prop:=w.params.followText "set-order" = true\/t.led=true
inductive kY (B:PB) (xs:List V) (o:Obj):Prop
 | mk (vs:Array Value) (ep:Nat) (e:o=qu vs ep) (r:VRs B xs vs.toList)
inductive Fo (G:aK) (B:PB) (xs:List Int) (ob o:Obj):Prop
 | mk (e:o=ob) (ex:o.ExactSet) (es:Array (Int×Value)) (ver:Nat) (t:SetTable) (d:o.data = .set es ver t) (els:AJ B (jD G.prog G.w) xs es.toList) (nd:xs.Nodup) (fits:t.fits es.size=true) (plain:t.plain=true) (ld:led G.w t) (good:dq t) (few:xs.length<64)
abbrev gY (o:Obj):Nat:=match o.data with
 | .dict _ v=>v
 | _=>0
inductive C0 (G:aK) (B:PB) (kvs:List (Int×V)) (ob o:Obj):Prop
 | mk (e:o=ob) (es:Array DictEntry) (kxs:List (Int×Value)) (ex:o.ExactDict) (d:o.data = .dict es (gY ob)) (ks:KeysOf (intKind G.prog G.w) es) (ps:Pairs (intKind G.prog G.w) es.toList kxs) (nd:(kxs.map (·.1)).Nodup) (r:kX B kvs kxs)
inductive CF (G:aK) (B:PB) (m:Str->Option V) (n:Nat) (b:Bool) (ob o:Obj):Prop
 | mk (e:o=ob) (es:Array DictEntry) (ep:Nat) (m':Str->Option Value) (sz:es.size<=n) (ex:o.cls = .type "dict" /\o.dict=none/\o.slots=if b=true then #[none] else #[]) (d:o.data = .dict es ep) (ks:KeysOf (strKind G.prog G.w) es) (f:∀ k,findBy (strKind G.prog G.w).is es k=m' k) (r:∀ k,OR B (m k) (m' k))
inductive CV (B:PB) (v:Option V) (o:Obj):Prop
 | mk (x:Option Value) (e:o={ cls:= .type "cell",data:= .cell x }) (r:OR B v x)
inductive AV (G:aK) (B:PB) (xs:List (Int×Int)) (n:Nat) (o:Obj):Prop
 | mk (ex:o.ExactSet) (es:Array (Int×Value)) (ver:Nat) (t:SetTable) (d:o.data = .set es ver t) (els:∀ e∈es.toList,q7 B xs e.2) (fits:t.fits es.size=true) (good:dq t) (odd:t.mask % 2=1/\t.mask<1024) (few:es.size<=n):AV G B xs n o
inductive wK (G:aK) (B:PB) (n:Nat) (o:Obj):Prop
 | mk (ex:o.ExactDict) (es:Array DictEntry) (ep:Nat) (xs:List (List Int×Addr×Value)) (d:o.data = .dict es ep) (e:es.toList=xs.map (entryOfKey (tupleKind (intKind G.prog G.w)))) (nd:(xs.map (·.1)).Nodup) (k:∀ x∈xs,wL G.prog G.w B x) (few:xs.length<=n):wK G B n o
abbrev OV (G:aK) (B:PB):bL->Obj->Prop
 | .list xs,o=>kY B xs o
 | .flist xs,o=>kY B xs o
 | .iset xs ob,o=>Fo G B xs ob o
 | .idict kvs ob,o=>C0 G B kvs ob o
 | .ns m n b ob,o=>CF G B m n b ob o
 | .inst c d,o=>o=r8 c d
 | .cell v,o=>CV B v o
 | .tset xs n,o=>AV G B xs n o
 | .tdict n,o=>wK G B n o
 | .raw o',o=>o=o'
theorem AJ.any {B B':PB} {f} {xs es} (h:AJ B f xs es):AJ B' f xs es:=by induction h with | nil=>exact .nil | cons _ ih=>exact .cons ih
theorem kY.mono' {B B':PB} (l:B.lt B') {xs o} (h:kY B xs o):kY B' xs o:=(by obtain ⟨a,b,c,d⟩:=h;exact ⟨a,b,c,d.mono' l⟩)
theorem OV.mono' {G:aK} {B B':PB} (l:B.lt B') {x:bL} {o:Obj} (h:OV G B x o):OV G B' x o:=by
 cases x with
 | list xs=>exact kY.mono' l h
 | flist xs=>exact kY.mono' l h
 | iset xs ob=>cases h with | mk a b c d e f g i j k l' m n=>exact ⟨a,b,c,d,e,f,g.any,i,j,k,l',m,n⟩
 | idict kvs ob=>cases h with | mk z es kxs a b c d e f=>exact ⟨z,es,kxs,a,b,c,d,e,f.mono' l⟩
 | ns m n b ob=>cases h with | mk y es ep m' z a b c d e=>exact ⟨y,es,ep,m',z,a,b,c,d,fun k=>(e k).mono' l⟩
 | inst c d=>exact h
 | cell v=>cases h with | mk x a b=>exact ⟨x,a,b.mono' l⟩
 | tset xs n=>cases h with | mk a es v t b c d e f g=>exact ⟨a,es,v,t,b,fun x m=>(c x m).mono' l,d,e,f,g⟩
 | tdict n=>cases h with | mk a es ep xs b c d e f=>exact ⟨a,es,ep,xs,b,c,d,fun x m=>(e x m).mono' l,f⟩
 | raw o=>exact h
theorem OV.mono {G:aK} {B B':PB} (l:B.le B') {x:bL} {o:Obj} (h:OV G B x o):OV G B' x o:=h.mono' l.lt
@[reducible] noncomputable def aX:=Str->Option V
@[reducible] noncomputable def am:=Addr->Option bL
abbrev bL.mut:bL->Bool
 | .flist _=>false
 | _=>true
inductive l6 (G:aK) (B:PB) (h:Heap) (a:Addr) (x:bL):Prop
 | mk (o:Obj) (e:h.get? a=some o) (v:OV G B x o) (b:B.o a=if x.mut=true then none else some o)
structure St (G:aK) (L:Addr) (B:PB) (ρ:aX) (σ:am) (s:Shared):Prop where
 base:∀ h:Heap,(∀ a o,B.o a=some o->h.get? a=some o)->G.P h
 keep:∀ a o,B.o a=some o->s.heap.get? a=some o
 keepG:∀ g x,B.g g=some x->s.gens[g]?=some x
 own:∀ a x,σ a=some x->l6 G B s.heap a x
 loc:∃ m,s.heap.Ns L m/\∀ x,OR B (ρ x) (m x)
 LB:B.o L=none
 Lσ:σ L=none
 os:s.os=G.os
 bare:AllBare s.gens
 two:∀ a x,σ a=some x->a≠1
section
variable {G:aK} {A:Around} {L:Addr} {B:PB} {ρ:aX} {σ:am} {s:Shared} {α β γ δ:Type}
inductive qY (G:aK) (L:Addr) (R:PB->β->α->Prop) (Q:β->aX->am->Prop) (B:PB) (x:α) (s':Shared):Prop
 | mk (B':PB) (y:β) (ρ':aX) (σ':am) (l:B.le B') (st:St G L B' ρ' σ' s') (r:R B' y x) (q:Q y ρ' σ'):qY G L R Q B x s'
abbrev jH (_: Value) (_: Shared):Prop:=False
abbrev Wp (G:aK) (A:Around) (L:Addr) (R:PB->β->α->Prop) (t:Sem α) (Q:β->aX->am->Prop) (B:PB) (s:Shared):Prop:=
 wpAny (model G.prog G.w) A t (qY G L R Q B) jH s
theorem qY.le {R:PB->β->α->Prop} {Q:β->aX->am->Prop} {B':PB} {x:α} {s':Shared} (h:qY G L R Q B' x s') (l:B.le B'):qY G L R Q B x s':=
 (by obtain ⟨a,b,c,d,e,f,g,i⟩:=h;exact ⟨a,b,c,d,l.trans e,f,g,i⟩)
theorem Wp.le {R:PB->β->α->Prop} {Q:β->aX->am->Prop} {B':PB} {t:Sem α} (l:B.le B') (h:Wp G A L R t Q B' s):Wp G A L R t Q B s:=wpAny_mono h (fun _ _ z=>z.le l) fun _ _ e=>e
theorem Wp.bind {R:PB->β->α->Prop} {R':PB->δ->γ->Prop} {t:Sem α} {f:α->Sem γ} {Q:β->aX->am->Prop} {Q':δ->aX->am->Prop}
  (h:Wp G A L R t Q B s) (k:∀ B' s' x y ρ' σ',B.le B'->St G L B' ρ' σ' s'->R B' y x->Q y ρ' σ'->Wp G A L R' (f x) Q' B' s'):Wp G A L R' (t>>=f) Q' B s:=by
 exact wpAny_bind (wpAny_mono h (fun x s' z=>by cases z with | mk B' y ρ' σ' l st r q=>exact (k B' s' x y ρ' σ' l st r q).le l) fun _ _ e=>e)
theorem Wp.mono {R:PB->β->α->Prop} {t:Sem α} {Q Q':β->aX->am->Prop} (h:Wp G A L R t Q B s) (k:∀ y ρ' σ',Q y ρ' σ'->Q' y ρ' σ'):Wp G A L R t Q' B s:=by
 exact wpAny_mono h (fun _ _ z=>(by obtain ⟨B',y,ρ',σ',l,st,r,q⟩:=z;exact ⟨B',y,ρ',σ',l,st,r,k _ _ _ q⟩)) fun _ _ e=>e
theorem Wp.pure {R:PB->β->α->Prop} {Q:β->aX->am->Prop} {x:α} {y:β} (st:St G L B ρ σ s) (r:R B y x) (q:Q y ρ σ):Wp G A L R (Pure.pure x) Q B s:=
 wpAny_pure ⟨B,y,ρ,σ, .refl B,st,r,q⟩
inductive ip (G:aK) (L:Addr) (R:PB->β->α->Prop) (ρ:aX) (Q:β->am->Prop) (B:PB) (x:α) (s':Shared):Prop
 | mk (B':PB) (y:β) (σ':am) (l:B.le B') (st:St G L B' ρ σ' s') (r:R B' y x) (q:Q y σ'):ip G L R ρ Q B x s'
abbrev cq (G:aK) (A:Around) (L:Addr) (R:PB->β->α->Prop) (ρ:aX) (t:Sem α) (Q:β->am->Prop) (B:PB) (s:Shared):Prop:=
 wpAny (model G.prog G.w) A t (ip G L R ρ Q B) jH s
theorem ip.le {R:PB->β->α->Prop} {Q:β->am->Prop} {B':PB} {x:α} {s':Shared} (h:ip G L R ρ Q B' x s') (l:B.le B'):ip G L R ρ Q B x s':=
 (by obtain ⟨a,b,d,e,f,g,i⟩:=h;exact ⟨a,b,d,l.trans e,f,g,i⟩)
theorem cq.le {R:PB->β->α->Prop} {Q:β->am->Prop} {B':PB} {t:Sem α} (l:B.le B') (h:cq G A L R ρ t Q B' s):cq G A L R ρ t Q B s:=wpAny_mono h (fun _ _ z=>z.le l) fun _ _ e=>e
theorem cq.to {R:PB->β->α->Prop} {t:Sem α} {Q:β->am->Prop} {Q':α->Shared->Prop} (h:cq G A L R ρ t Q B s) {E:Value->Shared->Prop} (k:∀ B' s' x y σ',B.le B'->St G L B' ρ σ' s'->R B' y x->Q y σ'->Q' x s'):wpAny (model G.prog G.w) A t Q' E s:=
 wpAny_mono h (fun x s' z=>by cases z with | mk B' y σ' l st r q=>exact k B' s' x y σ' l st r q) fun _ _ e=>False.elim e
theorem Wp.to {R:PB->β->α->Prop} {t:Sem α} {Q:β->aX->am->Prop} {Q':α->Shared->Prop} (h:Wp G A L R t Q B s) {E:Value->Shared->Prop} (k:∀ B' s' x y ρ' σ',B.le B'->St G L B' ρ' σ' s'->R B' y x->Q y ρ' σ'->Q' x s'):wpAny (model G.prog G.w) A t Q' E s:=
 wpAny_mono h (fun x s' z=>by cases z with | mk B' y ρ' σ' l st r q=>exact k B' s' x y ρ' σ' l st r q) fun _ _ e=>False.elim e
theorem cq.bind {R:PB->β->α->Prop} {R':PB->δ->γ->Prop} {t:Sem α} {f:α->Sem γ} {Q:β->am->Prop} {Q':δ->am->Prop}
  (h:cq G A L R ρ t Q B s) (k:∀ B' s' x y σ',B.le B'->St G L B' ρ σ' s'->R B' y x->Q y σ'->cq G A L R' ρ (f x) Q' B' s'):cq G A L R' ρ (t>>=f) Q' B s:=
 wpAny_bind (h.to fun B' s' x y σ' l st r q=>(k B' s' x y σ' l st r q).le l)
theorem cq.bindS {R:PB->β->α->Prop} {R':PB->δ->γ->Prop} {t:Sem α} {f:α->Sem γ} {Q:β->am->Prop} {Q':δ->aX->am->Prop}
  (h:cq G A L R ρ t Q B s) (k:∀ B' s' x y σ',B.le B'->St G L B' ρ σ' s'->R B' y x->Q y σ'->Wp G A L R' (f x) Q' B' s'):Wp G A L R' (t>>=f) Q' B s:=
 wpAny_bind (h.to fun B' s' x y σ' l st r q=>(k B' s' x y σ' l st r q).le l)
theorem cq.mono {R:PB->β->α->Prop} {t:Sem α} {Q Q':β->am->Prop} (h:cq G A L R ρ t Q B s) (k:∀ y σ',Q y σ'->Q' y σ'):cq G A L R ρ t Q' B s:=
 h.to fun B' s' x y σ' l st r q=>⟨B',y,σ',l,st,r,k _ _ q⟩
theorem cq.pure {R:PB->β->α->Prop} {Q:β->am->Prop} {x:α} {y:β} (st:St G L B ρ σ s) (r:R B y x) (q:Q y σ):cq G A L R ρ (Pure.pure x) Q B s:=
 wpAny_pure ⟨B,y,σ, .refl B,st,r,q⟩
theorem cq.standAt {R:PB->β->α->Prop} {Q:β->am->Prop} {f:Unit->Sem α} {p:Pos} (h:cq G A L R ρ (f ()) Q B s):cq G A L R ρ (PySem.standAt p>>=f) Q B s:=wpAny_bind (wpAny_standAt h)
theorem cq.holding {R:PB->β->α->Prop} {Q:β->am->Prop} {t:Sem α} {vs:List Value} (h:cq G A L R ρ t Q B s):cq G A L R ρ (PySem.holding vs t) Q B s:=wpAny_holding h
theorem cq.operate {R:PB->β->Value->Prop} {Q:β->am->Prop} {t:Sem Value} {vs:List Value} (h:cq G A L R ρ t Q B s):cq G A L R ρ (PySem.operate vs t) Q B s:=
 fun Γ p hΓ=>by rw [Sem.wp_operate];exact h Γ p hΓ
theorem Wp.standAt {R:PB->β->α->Prop} {Q:β->aX->am->Prop} {f:Unit->Sem α} {p:Pos} (h:Wp G A L R (f ()) Q B s):Wp G A L R (PySem.standAt p>>=f) Q B s:=
 wpAny_bind (wpAny_standAt h)
theorem Wp.holding {R:PB->β->α->Prop} {Q:β->aX->am->Prop} {t:Sem α} {vs:List Value} (h:Wp G A L R t Q B s):Wp G A L R (holding vs t) Q B s:=wpAny_holding h
theorem Wp.release' {R:PB->β->Unit->Prop} {Q:β->aX->am->Prop} {y:β} {vs ws:List Value} (st:St G L B ρ σ s) (r:R B y ()) (q:Q y ρ σ):Wp G A L R (PySem.release vs ws) Q B s:=
 fun Γ p hΓ=>by rw [Sem.wp_release];exact ⟨B,y,ρ,σ, .refl B,st,r,q⟩
theorem l6.mono {B B':PB} {h h':Heap} {a:Addr} {x:bL} (l:B.le B') (hB:B'.o a=B.o a) (hk:h'.get? a=h.get? a) (w:l6 G B h a x):l6 G B' h' a x:=
 (by obtain ⟨o,e,v,b⟩:=w;exact ⟨o,hk.trans e,v.mono l,hB.trans b⟩)
theorem St.lt {a:Addr} {x:bL} (st:St G L B ρ σ s) (e:σ a=some x):a<s.heap.objs.size:=
 (by obtain ⟨_,e,_,_⟩:=st.own a x e;exact I9 e)
theorem St.fresh (st:St G L B ρ σ s) {a:Addr} (h:s.heap.objs.size<=a):σ a=none:=by
 cases e:σ a with
 | none=>rfl
 | some x=>exact absurd (st.lt e) (Nat.not_lt.mpr h)
theorem St.freshB (st:St G L B ρ σ s) {a:Addr} (h:s.heap.objs.size<=a):B.o a=none:=by
 cases e:B.o a with
 | none=>rfl
 | some x=>exact absurd (I9 (st.keep _ _ e)) (Nat.not_lt.mpr h)
theorem St.Llt (st:St G L B ρ σ s):L<s.heap.objs.size:=(by obtain ⟨_,n,_⟩:=st.loc;exact n.lt)
theorem St.quiet {s':Shared} (st:St G L B ρ σ s) (hk:∀ a o,s.heap.get? a=some o->s'.heap.get? a=some o) (hg:s'.gens=s.gens) (ho:s'.os=s.os):St G L B ρ σ s' where
 base:=st.base
 keep:=fun a o e=>hk a o (st.keep a o e)
 keepG:=fun g x e=>by rw [hg];exact st.keepG g x e
 own:=fun a x e=>(by obtain ⟨o,e,v,b⟩:=st.own a x e;exact ⟨o,hk _ _ e,v,b⟩)
 loc:=(by obtain ⟨m,n,r⟩:=st.loc;exact ⟨m,n.keeps hk,r⟩)
 LB:=st.LB
 Lσ:=st.Lσ
 os:=ho.trans st.os
 bare:=by rw [hg];exact st.bare
 two:=st.two
theorem St.toks (st:St G L B ρ σ s) (t:Nat):St G L B ρ σ { s with toks:=t }:=st.quiet (fun _ _ e=>e) rfl rfl
theorem St.push (st:St G L B ρ σ s) (o:Obj):St G L B ρ σ { s with heap:=s.heap.push o }:=st.quiet (fun _ _ e=>I8 o e) rfl rfl
abbrev am.set (σ:am) (a:Addr) (x:bL):am:=fun b=>if b=a then some x else σ b
@[simp] theorem am.set_self (σ:am) (a:Addr) (x:bL):σ.set a x a=some x:=by simp [am.set]
theorem am.set_ne (σ:am) {a b:Addr} (x:bL) (h:b≠a):σ.set a x b=σ b:=by simp [am.set,h]
abbrev aX.set (ρ:aX) (a:Str) (x:V):aX:=fun b=>if b=a then some x else ρ b
theorem l6.of {h:Heap} {a:Addr} {x:bL} {o:Obj} (hx:x.mut=true) (n:B.o a=none) (e:h.get? a=some o) (v:OV G B x o):l6 G B h a x:=⟨o,e,v,by rw [if_pos hx];exact n⟩
theorem l6.get {h:Heap} {a:Addr} {x:bL} (hx:x.mut=true) (w:l6 G B h a x):B.o a=none/\∃ o,h.get? a=some o/\OV G B x o:=
 (by obtain ⟨o,e,v,b⟩:=w;exact ⟨by rw [if_pos hx] at b;exact b,o,e,v⟩)
theorem St.get {a:Addr} {x:bL} (st:St G L B ρ σ s) (e:σ a=some x):∃ o,s.heap.get? a=some o/\OV G B x o:=(by obtain ⟨o,e,v,_⟩:=st.own a x e;exact ⟨o,e,v⟩)
theorem St.ne (st:St G L B ρ σ s) {a:Addr} {x:bL} (e:σ a=some x):a≠L:=fun q=>by rw [q,st.Lσ] at e;injection e
theorem St.alloc (st:St G L B ρ σ s) {o:Obj} {x:bL} (hx:x.mut=true) (ho:o.isFreed=false) (v:OV G B x o):St G L B ρ (σ.set s.heap.objs.size x) { s with heap:=s.heap.push o } where
 base:=st.base
 keep:=fun a o' e=>I8 o (st.keep a o' e)
 keepG:=st.keepG
 own:=fun a y e=>by
  by_cases q:a=s.heap.objs.size
  ·subst q;rw [am.set_self] at e;obtain rfl:=Option.some.inj e;exact .of hx (st.freshB (I4 _)) (I7 _ ho) v
  ·rw [am.set_ne _ _ q] at e;exact (st.push o).own a y e
 loc:=(st.push o).loc
 LB:=st.LB
 Lσ:=by rw [am.set_ne _ _ (Nat.ne_of_lt st.Llt)];exact st.Lσ
 os:=st.os
 bare:=st.bare
 two:=fun a y e=>by
  by_cases q:a=s.heap.objs.size
  ·have:=G.two _ (st.base _ st.keep)
   exact fun h=>by rw [q] at h;rw [h] at this;exact Ji _ this
  ·rw [am.set_ne _ _ q] at e;exact st.two a y e
abbrev PB.set (B:PB) (a:Addr) (o:Option Obj):PB:=⟨fun b=>if b=a then o else B.o b,B.g⟩
theorem PB.le_set {B:PB} {a:Addr} (o:Option Obj) (h:B.o a=none):B.le (B.set a o):=
 ⟨fun b x e=>by
  by_cases q:b=a
  ·rw [q,h] at e;injection e
  ·simpa [PB.set,q] using e,fun _ _ e=>e⟩
theorem PB.set_self (B:PB) (a:Addr) (o:Option Obj):(B.set a o).o a=o:=by simp [PB.set]
theorem PB.set_ne (B:PB) {a b:Addr} (o:Option Obj) (h:b≠a):(B.set a o).o b=B.o b:=by simp [PB.set,h]
theorem St.freeze (st:St G L B ρ σ s) {o:Obj} (ho:o.isFreed=false):St G L (B.set s.heap.objs.size (some o)) ρ σ { s with heap:=s.heap.push o } where
 base:=fun h k=>st.base h fun a o' e=>k a o' ((PB.le_set _ (st.freshB (I4 _))).1 _ _ e)
 keep:=fun a o' e=>by
  by_cases q:a=s.heap.objs.size
  ·subst q;rw [PB.set_self] at e;obtain rfl:=Option.some.inj e;exact I7 _ ho
  ·rw [PB.set_ne _ _ q] at e;exact I8 o (st.keep a o' e)
 keepG:=st.keepG
 own:=fun a y e=>by
  have q:=Nat.ne_of_lt (st.lt e);refine l6.mono (PB.le_set _ (st.freshB (I4 _))) (PB.set_ne _ _ q) ?_ (st.own a y e);have w:=st.get e;obtain ⟨o',hz0⟩:=w;show (s.heap.push o).get? a=_;rw [hz0.1,I8 o hz0.1]
 loc:=(by obtain ⟨m,n,r⟩:=st.loc;exact ⟨m,n.push o,fun x=>(r x).mono (PB.le_set _ (st.freshB (I4 _)))⟩)
 LB:=by rw [PB.set_ne _ _ (Nat.ne_of_lt st.Llt)];exact st.LB
 Lσ:=st.Lσ
 os:=st.os
 bare:=st.bare
 two:=st.two
theorem St.thaw {B₀:PB} (st:St G L B ρ σ s) (h0:∀ h:Heap,(∀ a o,B₀.o a=some o->h.get? a=some o)->G.P h) (l:B₀.le B) {a:Addr} {o:Obj} (n:B₀.o a=none) (e:B.o a=some o) (hc:cA o=false):
  St G L (B.set a none) ρ σ s/\B₀.le (B.set a none)/\B.lt (B.set a none):=by
 have l':B₀.le (B.set a none):=⟨fun b x q=>by
  have:b≠a:=fun z=>by rw [z,n] at q;injection q
  rw [PB.set_ne _ _ this];exact l.1 _ _ q,l.2⟩
 have l'':B.lt (B.set a none):=fun b x q hx=>by
  have:b≠a:=fun z=>by
   rw [z,e] at q;obtain rfl:=Option.some.inj q;rw [hc] at hx;injection hx
  rw [PB.set_ne _ _ this];exact q
 have nn:∀ {b x},(B.set a none).o b=some x->B.o b=some x:=fun {b x} q=>by
  by_cases z:b=a
  ·rw [z,PB.set_self] at q;injection q
  ·rwa [PB.set_ne _ _ z] at q
 refine ⟨⟨fun h k=>h0 h fun b x q=>k _ _ (l'.1 _ _ q),fun b x q=>st.keep b x (nn q),st.keepG,fun b x q=>?_,?_,?_,st.Lσ,st.os,st.bare,st.two⟩,l',l''⟩
 ·obtain ⟨o',e',v,hb⟩:=st.own b x q;refine ⟨o',e',v.mono' l'',?_⟩
  by_cases z:b=a
  ·rw [z,PB.set_self];rw [z,e] at hb
   cases hm:x.mut with
   | true=>rfl
   | false=>
    rw [if_neg (by rw [hm];exact Jg)] at hb;obtain rfl:=Option.some.inj hb
    cases x <;> first | exact Bool.noConfusion (hm:true=false) | (obtain ⟨_,_,rfl,_⟩:=v;exact Bool.noConfusion (hc:true=false))
  ·rw [PB.set_ne _ _ z];exact hb
 ·obtain ⟨m,hz2⟩:=st.loc;exact ⟨m,hz2.1,fun x=>(hz2.2 x).mono' l''⟩
 ·by_cases z:L=a
  ·rw [z,PB.set_self]
  ·rw [PB.set_ne _ _ z];exact st.LB
theorem St.frost (st:St G L B ρ σ s) {a:Addr} {o:Obj} (hB:B.o a=none) (hσ:σ a=none) (hL:a≠L) (e:s.heap.get? a=some o):St G L (B.set a (some o)) ρ σ s:=by
 have l:=PB.le_set (B:=B) (some o) hB;refine ⟨fun h k=>st.base h fun b x q=>k _ _ (l.1 _ _ q),fun b x q=>?_,st.keepG,fun b x q=>?_,?_,?_,st.Lσ,st.os,st.bare,st.two⟩
 ·by_cases z:b=a
  ·rw [z,PB.set_self] at q;obtain rfl:=Option.some.inj q;rw [z];exact e
  ·rw [PB.set_ne _ _ z] at q;exact st.keep _ _ q
 ·have z:b≠a:=fun z=>by rw [z,hσ] at q;injection q
  exact l6.mono l (PB.set_ne _ _ z) rfl (st.own b x q)
 ·obtain ⟨m,hz3⟩:=st.loc;exact ⟨m,hz3.1,fun x=>(hz3.2 x).mono l⟩
 ·rw [PB.set_ne _ _ (Ne.symm hL)];exact st.LB
theorem St.upd (st:St G L B ρ σ s) {a:Addr} {x x':bL} {h':Heap} {o':Obj} (e:σ a=some x) (hx:x.mut=true) (hx':x'.mut=true) (hs:Heap.SameBut a s.heap h') (ho:h'.get? a=some o') (v:OV G B x' o') (t:Nat):St G L B ρ (σ.set a x') { s with heap:=h',toks:=t } where
 base:=st.base
 keep:=fun b o e'=>by
  have n:=(l6.get hx (st.own a x e)).1
  have q:b≠a:=fun q=>by rw [q,n] at e';injection e'
  exact (hs.2 b q).trans (st.keep b o e')
 keepG:=st.keepG
 own:=fun b y e'=>by
  by_cases q:b=a
  ·subst q;rw [am.set_self] at e';obtain rfl:=Option.some.inj e';exact .of hx' (l6.get hx (st.own b x e)).1 ho v
  ·rw [am.set_ne _ _ q] at e';exact l6.mono (.refl B) rfl (hs.2 b q) (st.own b y e')
 loc:=(by obtain ⟨m,n,r⟩:=st.loc;exact ⟨m,n.sameBut hs (Ne.symm (st.ne e)),r⟩)
 LB:=st.LB
 Lσ:=by rw [am.set_ne _ _ (Ne.symm (st.ne e))];exact st.Lσ
 os:=st.os
 bare:=st.bare
 two:=fun b y e'=>by
  by_cases q:b=a
  ·rw [q];exact st.two a x e
  ·rw [am.set_ne _ _ q] at e';exact st.two b y e'
theorem St.reloc (st:St G L B ρ σ s) {ρ':aX} {h':Heap} {m:Str->Option Value} (hn:h'.Ns L m) (hm:∀ y,OR B (ρ' y) (m y)) (hs:Heap.SameBut L s.heap h') (t:Nat):St G L B ρ' σ { s with heap:=h',toks:=t } where
 base:=st.base
 keep:=fun b o e'=>(hs.2 b fun q=>by rw [q,st.LB] at e';injection e').trans (st.keep b o e')
 keepG:=st.keepG
 own:=fun b y e'=>l6.mono (.refl B) rfl (hs.2 b (st.ne e')) (st.own b y e')
 loc:=⟨_,hn,hm⟩
 LB:=st.LB
 Lσ:=st.Lσ
 os:=st.os
 bare:=st.bare
 two:=st.two
theorem St.store (st:St G L B ρ σ s) {x:Str} {v:V} {val:Value} (r:VR B v val) {h':Heap} {m:Str->Option Value} (hm:∀ y,OR B (ρ y) (m y)) (hn:h'.Ns L (fun y=>if y=x then some val else m y)) (hs:Heap.SameBut L s.heap h') (t:Nat):St G L B (ρ.set x v) σ { s with heap:=h',toks:=t } where
 base:=st.base
 keep:=fun b o e'=>(hs.2 b fun q=>by rw [q,st.LB] at e';injection e').trans (st.keep b o e')
 keepG:=st.keepG
 own:=fun b y e'=>l6.mono (.refl B) rfl (hs.2 b (st.ne e')) (st.own b y e')
 loc:=⟨_,hn,fun y=>by
  unfold aX.set
  by_cases q:y=x
  ·simp only [q,if_true];exact .some r
  ·simp only [q,if_false];exact hm y⟩
 LB:=st.LB
 Lσ:=st.Lσ
 os:=st.os
 bare:=st.bare
 two:=st.two
end
inductive F where
 | next | brk | cont | ret (v:V)
inductive FR (B:PB):F->Flow->Prop
 | next:FR B .next .next
 | brk:FR B .brk .brk
 | cont:FR B .cont .cont
 | ret {v x}:VR B v x->FR B (.ret v) (.ret x)
abbrev qP {α:Type} (_: PB) (y x:α):Prop:=y=x
abbrev t1 {T1:Type} (n:Nonempty (T1)) (P:T1->Prop):T1:= @Classical.epsilon _ n fun t=>¬ P t
theorem ep1 {T1:Type} [n:Nonempty (T1)] {P:T1->Prop} (h:P (t1 n P)) (a1:T1):P a1:=IW fun k=>Classical.epsilon_spec (p:=fun t:T1=>¬ P t) ⟨(a1),k⟩ h
abbrev t2 {T1 T2:Type} (n:Nonempty (T1×T2)) (P:T1->T2->Prop):T1×T2:= @Classical.epsilon _ n fun t=>¬ P t.1 t.2
theorem ep2 {T1 T2:Type} [n:Nonempty (T1×T2)] {P:T1->T2->Prop} (h:P (t2 n P).1 (t2 n P).2) (a1:T1) (a2:T2):P a1 a2:=IW fun k=>Classical.epsilon_spec (p:=fun t:T1×T2=>¬ P t.1 t.2) ⟨(a1,a2),k⟩ h
abbrev t4 {T1 T2 T3 T4:Type} (n:Nonempty (T1×T2×T3×T4)) (P:T1->T2->T3->T4->Prop):T1×T2×T3×T4:= @Classical.epsilon _ n fun t=>¬ P t.1 t.2.1 t.2.2.1 t.2.2.2
theorem ep4 {T1 T2 T3 T4:Type} [n:Nonempty (T1×T2×T3×T4)] {P:T1->T2->T3->T4->Prop} (h:P (t4 n P).1 (t4 n P).2.1 (t4 n P).2.2.1 (t4 n P).2.2.2) (a1:T1) (a2:T2) (a3:T3) (a4:T4):P a1 a2 a3 a4:=IW fun k=>Classical.epsilon_spec (p:=fun t:T1×T2×T3×T4=>¬ P t.1 t.2.1 t.2.2.1 t.2.2.2) ⟨(a1,a2,a3,a4),k⟩ h
abbrev t8 {T1 T2 T3 T4 T5 T6 T7 T8:Type} (n:Nonempty (T1×T2×T3×T4×T5×T6×T7×T8)) (P:T1->T2->T3->T4->T5->T6->T7->T8->Prop):T1×T2×T3×T4×T5×T6×T7×T8:= @Classical.epsilon _ n fun t=>¬ P t.1 t.2.1 t.2.2.1 t.2.2.2.1 t.2.2.2.2.1 t.2.2.2.2.2.1 t.2.2.2.2.2.2.1 t.2.2.2.2.2.2.2
theorem ep8 {T1 T2 T3 T4 T5 T6 T7 T8:Type} [n:Nonempty (T1×T2×T3×T4×T5×T6×T7×T8)] {P:T1->T2->T3->T4->T5->T6->T7->T8->Prop} (h:P (t8 n P).1 (t8 n P).2.1 (t8 n P).2.2.1 (t8 n P).2.2.2.1 (t8 n P).2.2.2.2.1 (t8 n P).2.2.2.2.2.1 (t8 n P).2.2.2.2.2.2.1 (t8 n P).2.2.2.2.2.2.2) (a1:T1) (a2:T2) (a3:T3) (a4:T4) (a5:T5) (a6:T6) (a7:T7) (a8:T8):P a1 a2 a3 a4 a5 a6 a7 a8:=IW fun k=>Classical.epsilon_spec (p:=fun t:T1×T2×T3×T4×T5×T6×T7×T8=>¬ P t.1 t.2.1 t.2.2.1 t.2.2.2.1 t.2.2.2.2.1 t.2.2.2.2.2.1 t.2.2.2.2.2.2.1 t.2.2.2.2.2.2.2) ⟨(a1,a2,a3,a4,a5,a6,a7,a8),k⟩ h
abbrev t16 {T1 T2 T3 T4 T5 T6 T7 T8 T9 T10 T11 T12 T13 T14 T15 T16:Type} (n:Nonempty (T1×T2×T3×T4×T5×T6×T7×T8×T9×T10×T11×T12×T13×T14×T15×T16)) (P:T1->T2->T3->T4->T5->T6->T7->T8->T9->T10->T11->T12->T13->T14->T15->T16->Prop):T1×T2×T3×T4×T5×T6×T7×T8×T9×T10×T11×T12×T13×T14×T15×T16:= @Classical.epsilon _ n fun t=>¬ P t.1 t.2.1 t.2.2.1 t.2.2.2.1 t.2.2.2.2.1 t.2.2.2.2.2.1 t.2.2.2.2.2.2.1 t.2.2.2.2.2.2.2.1 t.2.2.2.2.2.2.2.2.1 t.2.2.2.2.2.2.2.2.2.1 t.2.2.2.2.2.2.2.2.2.2.1 t.2.2.2.2.2.2.2.2.2.2.2.1 t.2.2.2.2.2.2.2.2.2.2.2.2.1 t.2.2.2.2.2.2.2.2.2.2.2.2.2.1 t.2.2.2.2.2.2.2.2.2.2.2.2.2.2.1 t.2.2.2.2.2.2.2.2.2.2.2.2.2.2.2
theorem ep16 {T1 T2 T3 T4 T5 T6 T7 T8 T9 T10 T11 T12 T13 T14 T15 T16:Type} [n:Nonempty (T1×T2×T3×T4×T5×T6×T7×T8×T9×T10×T11×T12×T13×T14×T15×T16)] {P:T1->T2->T3->T4->T5->T6->T7->T8->T9->T10->T11->T12->T13->T14->T15->T16->Prop} (h:P (t16 n P).1 (t16 n P).2.1 (t16 n P).2.2.1 (t16 n P).2.2.2.1 (t16 n P).2.2.2.2.1 (t16 n P).2.2.2.2.2.1 (t16 n P).2.2.2.2.2.2.1 (t16 n P).2.2.2.2.2.2.2.1 (t16 n P).2.2.2.2.2.2.2.2.1 (t16 n P).2.2.2.2.2.2.2.2.2.1 (t16 n P).2.2.2.2.2.2.2.2.2.2.1 (t16 n P).2.2.2.2.2.2.2.2.2.2.2.1 (t16 n P).2.2.2.2.2.2.2.2.2.2.2.2.1 (t16 n P).2.2.2.2.2.2.2.2.2.2.2.2.2.1 (t16 n P).2.2.2.2.2.2.2.2.2.2.2.2.2.2.1 (t16 n P).2.2.2.2.2.2.2.2.2.2.2.2.2.2.2) (a1:T1) (a2:T2) (a3:T3) (a4:T4) (a5:T5) (a6:T6) (a7:T7) (a8:T8) (a9:T9) (a10:T10) (a11:T11) (a12:T12) (a13:T13) (a14:T14) (a15:T15) (a16:T16):P a1 a2 a3 a4 a5 a6 a7 a8 a9 a10 a11 a12 a13 a14 a15 a16:=IW fun k=>Classical.epsilon_spec (p:=fun t:T1×T2×T3×T4×T5×T6×T7×T8×T9×T10×T11×T12×T13×T14×T15×T16=>¬ P t.1 t.2.1 t.2.2.1 t.2.2.2.1 t.2.2.2.2.1 t.2.2.2.2.2.1 t.2.2.2.2.2.2.1 t.2.2.2.2.2.2.2.1 t.2.2.2.2.2.2.2.2.1 t.2.2.2.2.2.2.2.2.2.1 t.2.2.2.2.2.2.2.2.2.2.1 t.2.2.2.2.2.2.2.2.2.2.2.1 t.2.2.2.2.2.2.2.2.2.2.2.2.1 t.2.2.2.2.2.2.2.2.2.2.2.2.2.1 t.2.2.2.2.2.2.2.2.2.2.2.2.2.2.1 t.2.2.2.2.2.2.2.2.2.2.2.2.2.2.2) ⟨(a1,a2,a3,a4,a5,a6,a7,a8,a9,a10,a11,a12,a13,a14,a15,a16),k⟩ h
instance iW:Nonempty World:=⟨⟨fun _ _=>0,{ strHash:=fun _=>0,shareClass:=fun _=>0,mergeTok:=id,idOf:=fun _=>0,idOfShared:=fun _ _=>0,followText:=fun _=>true,idOfImm:=fun _=>0 }⟩⟩
instance iA:Nonempty Around:=⟨{}⟩
instance iV:Nonempty V:=⟨.none⟩
instance iO:Nonempty bL:=⟨.tdict 0⟩
instance iB:Nonempty PB:=⟨⟨fun _=>none,fun _=>none⟩⟩
instance iS:Nonempty Shared:=⟨{}⟩
instance iF:Nonempty F:=⟨.next⟩
instance iG:Nonempty aK:=iW.elim fun w=>⟨⟨default,w,fun _=>False,default,[],fun _ h=>h.elim,fun _ h=>h.elim,fun _ h=>h.elim⟩⟩
section
variable {G:aK} {A:Around} {env:Env} {ρ:aX} {σ:am}
abbrev WE (G:aK) (A:Around) (env:Env) (e:Expr) (ρ:aX) (σ:am) (Q:V->am->Prop):Prop:=
 ∀ B s,St G env.locals B ρ σ s->cq G A env.locals VR ρ (eval e env) Q B s
abbrev WT (G:aK) (A:Around) (env:Env) (e:Expr) (ρ:aX) (σ:am) (Q:Bool->am->Prop):Prop:=
 ∀ B s,St G env.locals B ρ σ s->cq G A env.locals qP ρ (isTrue e env (eval e env)) Q B s
abbrev p7 (G:aK) (A:Around) (env:Env) (es:List Expr) (ρ:aX) (σ:am) (Q:List V->am->Prop):Prop:=
 ∀ B s pos,St G env.locals B ρ σ s->cq G A env.locals VRs ρ (spliced (backTo pos (starEach es env))) Q B s
abbrev WO (G:aK) (A:Around) (L:Addr) (f:List Value->Sem Value) (vs:List V) (ρ:aX) (σ:am) (Q:V->am->Prop):Prop:=
 ∀ B s xs,St G L B ρ σ s->VRs B vs xs->cq G A L VR ρ (f xs) Q B s
abbrev Dj (G:aK) (A:Around) (L:Addr) (f:List Value->Sem Bool) (vs:List V) (ρ:aX) (σ:am) (Q:Bool->am->Prop):Prop:=
 ∀ B s xs,St G L B ρ σ s->VRs B vs xs->cq G A L qP ρ (f xs) Q B s
abbrev Dk (G:aK) (A:Around) (L:Addr) (f:List Value->Sem Unit) (vs:List V) (ρ:aX) (σ:am) (Q:aX->am->Prop):Prop:=
 ∀ B s xs,St G L B ρ σ s->VRs B vs xs->Wp G A L qP (f xs) (fun _ ρ' σ'=>Q ρ' σ') B s
abbrev WS (G:aK) (A:Around) (env:Env) (st:Stmt) (ρ:aX) (σ:am) (Q:F->aX->am->Prop):Prop:=
 ∀ B s,St G env.locals B ρ σ s->Wp G A env.locals FR (exec st env) Q B s
abbrev WL (G:aK) (A:Around) (env:Env) (st:List Stmt) (ρ:aX) (σ:am) (Q:F->aX->am->Prop):Prop:=
 ∀ B s,St G env.locals B ρ σ s->Wp G A env.locals FR (execs st env) Q B s
abbrev lH (op:Operator):List Value->Sem Value
 | [a,b]=>binaryOp op a b
 | _=>unsupported ""
abbrev yb (op:Operator):List Value->Sem Value
 | [a,b]=>inplaceOp op a b
 | _=>unsupported ""
abbrev dA (op:CmpOp):List Value->Sem Value
 | [a,b]=>compareOp op a b
 | _=>unsupported ""
abbrev DD (op:UnaryOp):List Value->Sem Value
 | [a]=>unaryOp op a
 | _=>unsupported ""
abbrev qz:List Value->Sem Bool
 | [a]=>truthy a
 | _=>unsupported ""
theorem WE.mono {e:Expr} {Q Q':V->am->Prop} (h:WE G A env e ρ σ Q) (k:∀ v σ',Q v σ'->Q' v σ'):WE G A env e ρ σ Q':=
 fun B s st=>(h B s st).mono k
theorem WT.mono {e:Expr} {Q Q':Bool->am->Prop} (h:WT G A env e ρ σ Q) (k:∀ v σ',Q v σ'->Q' v σ'):WT G A env e ρ σ Q':=
 fun B s st=>(h B s st).mono k
theorem WL.mono {e:List Stmt} {Q Q':F->aX->am->Prop} (h:WL G A env e ρ σ Q) (k:∀ v ρ' σ',Q v ρ' σ'->Q' v ρ' σ'):WL G A env e ρ σ Q':=
 fun B s st=>(h B s st).mono k
theorem WS.mono {e:Stmt} {Q Q':F->aX->am->Prop} (h:WS G A env e ρ σ Q) (k:∀ v ρ' σ',Q v ρ' σ'->Q' v ρ' σ'):WS G A env e ρ σ Q':=
 fun B s st=>(h B s st).mono k
noncomputable abbrev Gv (G:aK) (A:Around) (L:Addr) (f:List Value->Sem Value) (ρ:aX) (Q:V->am->Prop):V->am->Prop:=fun a σ=>WO G A L f [a] ρ σ Q
noncomputable abbrev Gw (G:aK) (A:Around) (L:Addr) (f:List Value->Sem Value) (a:V) (ρ:aX) (Q:V->am->Prop):V->am->Prop:=fun b σ=>WO G A L f [a,b] ρ σ Q
noncomputable abbrev Fj (G:aK) (A:Around) (env:Env) (r:Expr) (f:List Value->Sem Value) (ρ:aX) (Q:V->am->Prop):V->am->Prop:=fun a σ=>WE G A env r ρ σ (Gw G A env.locals f a ρ Q)
noncomputable abbrev F6 (G:aK) (A:Around) (L:Addr) (ρ:aX) (Q:Bool->am->Prop):V->am->Prop:=fun c σ=>Dj G A L qz [c] ρ σ Q
noncomputable abbrev Fh (G:aK) (A:Around) (env:Env) (b o:Expr) (ρ:aX) (Q:V->am->Prop):Bool->am->Prop:=fun c σ=>if c then WE G A env b ρ σ Q else WE G A env o ρ σ Q
noncomputable abbrev Go (v:V) (Q:List V->am->Prop):List V->am->Prop:=fun vs σ=>Q (v::vs) σ
noncomputable abbrev Gp (G:aK) (A:Around) (env:Env) (es:List Expr) (ρ:aX) (Q:List V->am->Prop):V->am->Prop:=fun v σ=>p7 G A env es ρ σ (Go v Q)
noncomputable abbrev Fn (Q:V->am->Prop):List V->am->Prop:=fun vs σ=>vs.length<=1000/\Q (.tup vs) σ
noncomputable abbrev Fi (Q:V->am->Prop):List V->am->Prop:=fun vs σ=>vs.length<=1000/\∀ a,σ a=none->Q (.ref a) (σ.set a (.list vs))
noncomputable abbrev KL (G:aK) (A:Around) (env:Env) (l:List Stmt) (Q:F->aX->am->Prop):aX->am->Prop:=fun ρ σ=>WL G A env l ρ σ Q
noncomputable abbrev Fk (ρ:aX) (Q:F->aX->am->Prop):V->am->Prop:=fun v σ=>Q (.ret v) ρ σ
noncomputable abbrev KX (ρ:aX) (Q:F->aX->am->Prop):V->am->Prop:=fun _ σ=>Q .next ρ σ
noncomputable abbrev Ff (ρ:aX) (Q:F->aX->am->Prop):Bool->am->Prop:=fun c σ=>c=true/\Q .next ρ σ
theorem bp {i:Int} {k pos} {Q:V->am->Prop} (h:Q (.int i) σ):WE G A env (.Constant (.int i) k pos) ρ σ Q:=fun B _ st=>
 wpAny_Constant_int ⟨B,_,σ, .refl B,st.toks _, .int i _,h⟩
theorem g8 {i:Bool} {k pos} {Q:V->am->Prop} (h:Q (.bool i) σ):WE G A env (.Constant (.bool i) k pos) ρ σ Q:=fun B _ st=>
 wpAny_Constant_bool ⟨B,_,σ, .refl B,st, .bool i,h⟩
theorem bV {k pos} {Q:V->am->Prop} (h:Q .none σ):WE G A env (.Constant .none k pos) ρ σ Q:=fun B _ st=>
 wpAny_Constant_none ⟨B,_,σ, .refl B,st, .none,h⟩
abbrev WN (G:aK) (A:Around) (env:Env) (x:Str) (ρ:aX) (σ:am) (Q:V->am->Prop):Prop:=
 ∀ B s,St G env.locals B ρ σ s->cq G A env.locals VR ρ (loadName env x) Q B s
theorem ah {x:Str} {pos} {Q:V->am->Prop} (h:WN G A env x ρ σ Q) (hd:autoParam ((x==("__debug__" :Str))=false) TaD):WE G A env (.Name x pos) ρ σ Q:=fun B s st=>
 wpAny_Name (h B s st) hd
theorem ak {x:Str} {v:V} {Q:V->am->Prop} (hv:ρ x=some v) (h:Q v σ) (hk:autoParam (env.scope.kind = .function) TaR) (hl:autoParam (env.kindOf x=some .local) TaR):WN G A env x ρ σ Q:=fun B s st=>by
 obtain ⟨m,n,r⟩:=st.loc;have q:=r x;rw [hv] at q
 cases q':m x with
 | none=>rw [q'] at q;cases q
 | some val=>
  rw [q'] at q
  cases q with | some q=>exact wpAny_loadName_local hk hl n q' ⟨B,v,σ, .refl B,st,q,h⟩
theorem St.cell {L B s} (st:St G L B ρ σ s) {c:Addr} {v:Option V} (e:σ c=some (.cell v)):∃ x,s.heap.IsCell c x/\OR B v x:=by
 obtain ⟨o,ho,x,rfl,r⟩:=st.get e;exact ⟨x,⟨_,ho,rfl⟩,r⟩
theorem bJ {x:Str} {c:Addr} {v:V} {Q:V->am->Prop} (hc:env.cells.lookup x=some c) (hv:σ c=some (.cell (some v))) (h:Q v σ) (hk:autoParam (env.scope.kind = .function) TaR) (hl:autoParam (env.kindOf x=some .cell) TaR):WN G A env x ρ σ Q:=fun B s st=>by
 obtain ⟨y,hy,r⟩:=st.cell hv
 cases r with | some r=>exact wpAny_loadName_cell hk hl hc hy ⟨B,v,σ, .refl B,st,r,h⟩
theorem eA {x:Str} {c:Addr} {v:V} {Q:V->am->Prop} (hc:env.cells.lookup x=some c) (hv:σ c=some (.cell (some v))) (h:Q v σ) (hk:autoParam (env.scope.kind = .function) TaR) (hl:autoParam (env.kindOf x=some .free) TaR) (hn:autoParam ((x==("__classdict__" :Str))=false) TaD):WN G A env x ρ σ Q:=fun B s st=>by
 obtain ⟨y,hy,r⟩:=st.cell hv
 cases r with | some r=>exact wpAny_loadName_free hk hl hc hy ⟨B,v,σ, .refl B,st,r,h⟩ hn
abbrev GV (G:aK) (x:Str) (v:V):Prop:=∃ val,(∀ B,VR B v val)/\∀ h,G.P h->
 (∃ mg,h.Ns mainGlobals mg/\mg x=some val)\/(∃ mg mb,h.Ns mainGlobals mg/\mg x=none/\h.Ns builtinsNs mb/\mb x=some val)
theorem aQ {x:Str} {v:V} {Q:V->am->Prop} (hv:GV G x v) (h:Q v σ) (hk:autoParam (env.scope.kind = .function) TaR) (hl:autoParam (env.kindOf x=some .globalImplicit) TaR)
  (hg:autoParam (env.globals=mainGlobals) TaR) (hb:autoParam (env.builtins=builtinsNs) TaR):WN G A env x ρ σ Q:=fun B s st=>by
 obtain ⟨val,r,hv⟩:=hv;rw [loadName_read hk hl];rcases hv s.heap (st.base _ st.keep) with ⟨mg,n,e⟩ | ⟨mg,mb,n,e,n',e'⟩
 ·exact PySem.Calls.loadGlobal_global (by rw [hg];exact n) e ⟨B,v,σ, .refl B,st,r B,h⟩
 ·exact PySem.Calls.loadGlobal_builtin (by rw [hg];exact n) e (by rw [hb];exact n') e' ⟨B,v,σ, .refl B,st,r B,h⟩
theorem bF {l r:Expr} {op pos} {Q:V->am->Prop} (h:WE G A env l ρ σ (Fj G A env r (lH op) ρ Q)):WE G A env (.BinOp l op r pos) ρ σ Q:=fun B s st=>by
 dsimp only [arm_eval_BinOp];refine (h B s st).bind fun B1 s1 x a σ1 l₁ st1 r1 h=>?_;refine ((h B1 s1 st1).holding).bind fun B2 s2 y b σ2 l₂ st2 r2 h=>?_;exact .standAt (.operate (h B2 s2 [x,y] st2 (.cons (r1.mono l₂) (.cons r2 .nil))))
theorem fF {l:Expr} {op pos} {Q:V->am->Prop} (h:WE G A env l ρ σ (Gv G A env.locals (DD op) ρ Q)):WE G A env (.UnaryOp op l pos) ρ σ Q:=fun B s st=>by
 dsimp only [arm_eval_UnaryOp];refine (h B s st).bind fun B1 s1 x a σ1 l₁ st1 r1 h=>?_;exact .standAt (.holding (h B1 s1 [x] st1 (.cons r1 .nil)))
theorem aI {l r:Expr} {op pos} {Q:Bool->am->Prop} (h:WE G A env l ρ σ (Fj G A env r (dA op) ρ (F6 G A env.locals ρ Q)))
  (hm:behindInMarks op r=false:=by with_unfolding_all rfl):WT G A env (.Compare l [op] [r] pos) ρ σ Q:=fun B s st=>by
 rw [isTrue_Compare1,markedBehindIn_of_false hm];refine (h B s st).bind fun B1 s1 x a σ1 l₁ st1 r1 h=>?_;refine ((h B1 s1 st1).holding).bind fun B2 s2 y b σ2 l₂ st2 r2 h=>?_;refine .standAt ((cq.operate (h B2 s2 [x,y] st2 (.cons (r1.mono l₂) (.cons r2 .nil)))).bind fun B3 s3 z c σ3 l3 st3 r3 h=>?_);exact .holding (h B3 s3 [z] st3 (.cons r3 .nil))
abbrev WA (G:aK) (A:Around) (env:Env) (op:BoolOp) (es:List Expr) (ρ:aX) (σ:am) (Q:Bool->am->Prop):Prop:=
 ∀ B s,St G env.locals B ρ σ s->cq G A env.locals qP ρ (allTrue op es env) Q B s
theorem dv {op:BoolOp} {xs:List Expr} {pos:Pos} {Q:Bool->am->Prop} (h:WA G A env op xs ρ σ Q):WT G A env (.BoolOp op xs pos) ρ σ Q:=fun B s st=>by
 dsimp only [arm_isTrue_BoolOp];exact h B s st
theorem fC {Q:Bool->am->Prop} (h:Q true σ):WA G A env .And [] ρ σ Q:=fun _ _ st=> .pure st rfl h
theorem kq {Q:Bool->am->Prop} (h:Q false σ):WA G A env .Or [] ρ σ Q:=fun _ _ st=> .pure st rfl h
noncomputable abbrev Fe (G:aK) (A:Around) (env:Env) (xs:List Expr) (ρ:aX) (Q:Bool->am->Prop):Bool->am->Prop:=fun b σ=>if b then WA G A env .And xs ρ σ Q else Q false σ
noncomputable abbrev Gx (G:aK) (A:Around) (env:Env) (xs:List Expr) (ρ:aX) (Q:Bool->am->Prop):Bool->am->Prop:=fun b σ=>if b then Q true σ else WA G A env .Or xs ρ σ Q
theorem fA {x:Expr} {xs:List Expr} {Q:Bool->am->Prop} (h:WT G A env x ρ σ (Fe G A env xs ρ Q)):WA G A env .And (x::xs) ρ σ Q:=fun B s st=>by
 dsimp only [arm_allTrue_cons];refine (h B s st).bind fun B1 s1 x a σ1 l₁ st1 r1 h=>?_;cases r1
 cases x with
 | true=>exact h B1 s1 st1
 | false=>exact .pure st1 rfl h
theorem mF {x:Expr} {xs:List Expr} {Q:Bool->am->Prop} (h:WT G A env x ρ σ (Gx G A env xs ρ Q)):WA G A env .Or (x::xs) ρ σ Q:=fun B s st=>by
 dsimp only [arm_allTrue_cons];refine (h B s st).bind fun B1 s1 x a σ1 l₁ st1 r1 h=>?_;cases r1
 cases x with
 | false=>exact h B1 s1 st1
 | true=>exact .pure st1 rfl h
theorem eK {e:Expr} {Q:Bool->am->Prop} (h:WE G A env e ρ σ (F6 G A env.locals ρ Q))
  (he:autoParam (isTrue e env (eval e env)=(do let v <- eval e env;standAt e.pos;holding [v] (truthy v))) TaR):WT G A env e ρ σ Q:=fun B s st=>by
 rw [he];refine (h B s st).bind fun B1 s1 x a σ1 l₁ st1 r1 h=>?_;exact .standAt (.holding (h B1 s1 [x] st1 (.cons r1 .nil)))
theorem ri {t b o:Expr} {pos:Pos} {Q:V->am->Prop} (h:WT G A env t ρ σ (Fh G A env b o ρ Q)):WE G A env (.IfExp t b o pos) ρ σ Q:=fun B s st=>by
 dsimp only [arm_eval_IfExp];refine (h B s st).bind fun B1 s1 x a σ1 l₁ st1 r1 h=>?_;cases r1
 cases x with
 | true=>exact h B1 s1 st1
 | false=>exact h B1 s1 st1
theorem aA {Q:List V->am->Prop} (h:Q [] σ):p7 G A env [] ρ σ Q:=fun _ _ _ st=> .pure st .nil h
theorem ao {e:Expr} {es:List Expr} {Q:List V->am->Prop} (h:WE G A env e ρ σ (Gp G A env es ρ Q))
  (he:autoParam (starEach (e::es) env=(false,eval e env)::starEach es env) TaR):p7 G A env (e::es) ρ σ Q:=fun B s pos st=>
 wpAny_items_cons ((h B s st).to fun B1 s1 x v σ1 l₁ st1 r1 h=>(h B1 s1 pos st1).to fun B2 _ xs vs σ2 l₂ st2 r2 h=>⟨B2,v::vs,σ2,l₁.trans l₂,st2, .cons (r1.mono l₂) r2,h⟩) he
theorem dH {es:List Expr} {k pos} {Q:V->am->Prop} (h:p7 G A env es ρ σ (Fn Q)):WE G A env (.Tuple es k pos) ρ σ Q:=fun B s st=>
 wpAny_Tuple ((h B s _ st).to fun B1 s1 xs vs σ1 l₁ st1 r1 h=>by
  have lS:=PB.le_set (B:=B1) (some (ej xs.toArray)) (st1.freshB (I4 _))
  exact ⟨r1.length▸Nat.le_trans h.1 (by decide),_, .tup vs,σ1,l₁.trans lS,st1.freeze rfl, .tup (xs:=xs.toArray) (PB.set_self ..) (r1.mono lS),h.2⟩)
theorem dG {es:List Expr} {pos} {Q:V->am->Prop} (h:p7 G A env es ρ σ (Fi Q)):WE G A env (.List es pos) ρ σ Q:=fun B s st=>
 wpAny_List ((h B s _ st).to fun B1 s1 xs vs σ1 l₁ st1 r1 h=>
  ⟨r1.length▸Nat.le_trans h.1 (by decide),B1,_,_,l₁,st1.alloc (x:= .list vs) rfl rfl ⟨xs.toArray,0,rfl,r1⟩, .ref _,h.2 _ (st1.fresh (I4 _))⟩)
theorem aE {Q:F->aX->am->Prop} (h:Q .next ρ σ):WL G A env [] ρ σ Q:=fun _ _ st=> .pure st .next h
noncomputable abbrev Nx (K:aX->am->Prop) (Q:F->aX->am->Prop):F->aX->am->Prop
 | .next,ρ,σ=>K ρ σ
 | f,ρ,σ=>Q f ρ σ
noncomputable abbrev Lp (K:aX->am->Prop) (Q:F->aX->am->Prop):F->aX->am->Prop
 | .next,ρ,σ | .cont,ρ,σ=>K ρ σ
 | .brk,ρ,σ=>Q .next ρ σ
 | .ret v,ρ,σ=>Q (.ret v) ρ σ
theorem al {st:Stmt} {rest:List Stmt} {Q:F->aX->am->Prop} (h:WS G A env st ρ σ (Nx (KL G A env rest Q) Q)):WL G A env (st::rest) ρ σ Q:=fun B s hs=>by
 dsimp only [arm_execs_cons];refine (h B s hs).bind fun B1 s1 x f ρ1 σ1 l₁ st1 r1 h=>?_
 cases r1 with
 | next=>exact h B1 s1 st1
 | brk=>exact .pure st1 .brk h
 | cont=>exact .pure st1 .cont h
 | ret r=>exact .pure st1 (.ret r) h
theorem rE {pos} {Q:F->aX->am->Prop} (h:Q .cont ρ σ):WS G A env (.Continue pos) ρ σ Q:=fun _ _ st=> .standAt (.pure st .cont h)
theorem bA {e:Expr} {pos} {Q:F->aX->am->Prop} (h:WE G A env e ρ σ (Fk ρ Q)):WS G A env (.Return (some e) pos) ρ σ Q:=fun B s st=>by
 dsimp only [exec_Return_some];refine .standAt ((h B s st).bindS fun B1 s1 x f σ1 l₁ st1 r1 h=>?_);exact .pure st1 (.ret r1) h
noncomputable abbrev Gs (G:aK) (A:Around) (env:Env) (b o:List Stmt) (ρ:aX) (Q:F->aX->am->Prop):Bool->am->Prop:=fun c σ=>if c then WL G A env b ρ σ Q else WL G A env o ρ σ Q
theorem bO {t:Expr} {b o:List Stmt} {pos} {Q:F->aX->am->Prop} (h:WT G A env t ρ σ (Gs G A env b o ρ Q)):WS G A env (.If t b o pos) ρ σ Q:=fun B s st=>by
 dsimp only [arm_exec_If];refine .standAt ((h B s st).bindS fun B1 s1 x a σ1 l₁ st1 r1 h=>?_);cases r1
 cases x with
 | true=>exact h B1 s1 st1
 | false=>exact h B1 s1 st1
theorem pA {t:Expr} {msg:Option Expr} {pos} {Q:F->aX->am->Prop} (h:WT G A env t ρ σ (Ff ρ Q)):WS G A env (.Assert t msg pos) ρ σ Q:=fun B s st=>by
 dsimp only [arm_exec_Assert];refine .standAt ((h B s st).bindS fun B1 s1 x a σ1 l₁ st1 r1 ⟨c,h⟩=>?_);subst r1;subst c;exact .pure st1 .next h
abbrev WB (G:aK) (A:Around) (env:Env) (x:Str) (v:V) (ρ:aX) (σ:am) (Q:aX->am->Prop):Prop:=
 ∀ B s val,St G env.locals B ρ σ s->VR B v val->Wp G A env.locals (qP (α:=Unit)) (storeName env x val) (fun _ ρ' σ'=>Q ρ' σ') B s
noncomputable abbrev KB (G:aK) (A:Around) (env:Env) (x:Str) (ρ:aX) (Q:aX->am->Prop):V->am->Prop:=fun v σ=>WB G A env x v ρ σ Q
theorem az {x:Str} {v:V} {Q:aX->am->Prop} (h:Q (ρ.set x v) σ) (hk:autoParam (env.scope.kind = .function) TaR) (hl:autoParam (env.kindOf x=some .local) TaR):WB G A env x v ρ σ Q:=fun B s val st r=>by
 obtain ⟨m,hz4⟩:=st.loc;exact wpAny_storeName_local hl hz4.1 (fun h' hn hs=>⟨B,(),_,σ, .refl B,st.store r hz4.2 hn hs _,rfl,h⟩) (by rw [hk];rfl)
theorem cO {x:Str} {c:Addr} {v:V} {v0:Option V} {Q:aX->am->Prop} (hc:env.cells.lookup x=some c) (hv:σ c=some (.cell v0)) (h:Q ρ (σ.set c (.cell (some v)))) (hk:autoParam (env.scope.kind = .function) TaR) (hl:autoParam (env.kindOf x=some .cell) TaR):WB G A env x v ρ σ Q:=fun B s val st r=>by
 obtain ⟨o,ho,x0,rfl,r₀⟩:=st.get hv;unfold storeName;rw [hl];dsimp only;rw [hk];exists (wpAny_cellOf hc ?_);exists (wpAny_load ho ?_);dsimp only;refine wpAny_update ho ⟨B,(),ρ,_, .refl B,st.upd (x':= .cell (some v)) (o':={ cls:= .type "cell",data:= .cell (some val) }) hv rfl rfl (Heap.SameBut.update ..) ?_ ⟨some val,rfl, .some r⟩ _,rfl,h⟩;exact Jc _ ho rfl
theorem ar {x:Str} {p pos} {e:Expr} {Q:F->aX->am->Prop} (h:WE G A env e ρ σ (KB G A env x ρ (Q .next))) (hs:autoParam (swapsWith e (some (.Name x p)) pos.line env=pure false) TaR):WS G A env (.Assign [.Name x p] e pos) ρ σ Q:=fun B s st=>
 wpAny_Assign_Name ((h B s st).to fun B1 s1 x v σ1 l₁ st1 r1 h=>(h B1 s1 x st1 r1).to fun B2 _ _ _ ρ2 σ2 l₂ st2 _ h=>⟨B2, .next,ρ2,σ2,l₁.trans l₂,st2, .next,h⟩) hs
theorem gf {x:Str} {p pos op} {e:Expr} {Q:F->aX->am->Prop} (h:WN G A env x ρ σ (Fj G A env e (yb op) ρ (KB G A env x ρ (Q .next)))):WS G A env (.AugAssign (.Name x p) op e pos) ρ σ Q:=fun B s st=>
 wpAny_AugAssign_Name ((h B s st).to fun B1 s1 x1 v1 σ1 l₁ st1 r1 h=>(h B1 s1 st1).to fun B2 s2 x2 v2 σ2 l₂ st2 r2 h=>
  (h B2 s2 [x1,x2] st2 (.cons (r1.mono l₂) (.cons r2 .nil))).to fun B3 s3 x3 v3 σ3 l3 st3 r3 h=>(h B3 s3 x3 st3 r3).to fun B4 _ _ _ ρ4 σ4 l4 st4 _ h=>⟨B4, .next,ρ4,σ4,((l₁.trans l₂).trans l3).trans l4,st4, .next,h⟩)
theorem St.ext {L B s} (st:St G L B ρ σ s) {h':Heap} {t:Nat} (h:Heap.ExtBut s.heap.objs.size s.heap h'):St G L B ρ σ { s with heap:=h',toks:=t }:=
 st.quiet (fun a o e=>h a o (Nat.ne_of_lt (I9 e)) e) rfl rfl
inductive FZ (G:aK) (L:Addr) (B:PB) (Iv:Nat->aX->am->Prop) (n:Nat) (s:Shared):Prop
 | mk (B':PB) (ρ:aX) (σ:am) (l:B.le B') (st:St G L B' ρ σ s) (i:Iv n ρ σ):FZ G L B Iv n s
theorem dJ {test:Expr} {body orelse:List Stmt} {pos} {Q:F->aX->am->Prop} (Iv:Nat->aX->am->Prop) (n:Nat) (h0:Iv n ρ σ)
  (turn:∀ n ρ σ,Iv n ρ σ->WT G A env test ρ σ fun b σ1=>if b then WL G A env body ρ σ1 (Lp (fun ρ2 σ2=>∃ m,m<n/\Iv m ρ2 σ2) Q) else WL G A env orelse ρ σ1 Q):WS G A env (.While test body orelse pos) ρ σ Q:=fun B s st=>
 wpAny_While (codeAny_whileLoop (FZ G env.locals B Iv) (fun n s z=>by
  cases z with | mk B1 ρ1 σ1 l₁ st1 i1=>
  refine (turn n ρ1 σ1 i1 B1 s st1).to fun B2 s2 b b' σ2 l₂ st2 r2 h=>?_;cases r2
  cases b with
  | true=>
   refine (h B2 s2 st2).to fun B3 s3 f f' ρ3 σ3 l3 st3 r3 h=>?_;have l:=(l₁.trans l₂).trans l3
   cases r3 with
   | next=>exact h.imp fun m h=>⟨h.1,B3,ρ3,σ3,l,st3,h.2⟩
   | cont=>exact h.imp fun m h=>⟨h.1,B3,ρ3,σ3,l,st3,h.2⟩
   | brk=>exact ⟨B3, .next,ρ3,σ3,l,st3, .next,h⟩
   | ret r=>exact ⟨B3, .ret _,ρ3,σ3,l,st3, .ret r,h⟩
  | false=>exact (h B2 s2 st2).to fun B3 s3 f f' ρ3 σ3 l3 st3 r3 h=>⟨B3,f',ρ3,σ3,(l₁.trans l₂).trans l3,st3,r3,h⟩) n ⟨B,ρ,σ, .refl B,st,h0⟩)
abbrev lV (G:aK) (A:Around) (env:Env) (t:Expr) (v:V) (ρ:aX) (σ:am) (Q:aX->am->Prop):Prop:=
 ∀ B s val,St G env.locals B ρ σ s->VR B v val->Wp G A env.locals (qP (α:=Unit)) (assign t env val) (fun _ ρ' σ'=>Q ρ' σ') B s
theorem bo {x:Str} {p} {v:V} {Q:aX->am->Prop} (h:WB G A env x v ρ σ Q):lV G A env (.Name x p) v ρ σ Q:=fun B s val st r=>by
 dsimp only [arm_assign_Name];exact .standAt (wpAny_bindName (h B s val st r))
abbrev pZ (G:aK) (A:Around) (env:Env):List Expr->List V->aX->am->(aX->am->Prop)->Prop
 | t::ts,v::vs,ρ,σ,Q=>lV G A env t v ρ σ fun ρ' σ'=>pZ G A env ts vs ρ' σ' Q
 | _,_,ρ,σ,Q=>Q ρ σ
theorem Au (ts:List Expr):∀ (vs:List V) {ρ σ} {Q:aX->am->Prop} {B s xs},pZ G A env ts vs ρ σ Q->St G env.locals B ρ σ s->VRs B vs xs->
  Wp G A env.locals (qP (α:=Unit)) (assignInOrder (ts.map (assign · env)) xs) (fun _ ρ' σ'=>Q ρ' σ') B s:=by
 induction ts with
 | nil=>
  intro vs ρ σ Q B s xs h st r
  have h:Q ρ σ:=by cases vs <;> exact h
  exact .pure st rfl h
 | cons t ts ih=>
  intro vs ρ σ Q B s xs h st r
  cases r with
  | nil=>exact .pure st rfl h
  | cons a b=>exact (Wp.holding (h B s _ st a)).bind fun B1 s1 _ _ ρ1 σ1 l₁ st1 _ h=>ih _ h st1 (b.mono l₁)
theorem sV {L B s a} {xs:Array Value} (st:St G L B ρ σ s) (h:B.o a=some (ej xs)):s.heap.IsTuple a xs:=⟨_,st.keep _ _ h,rfl,0,rfl⟩
theorem fq {ts:List Expr} {k p} {vs:List V} {Q:aX->am->Prop} (hh:A.handled=none) (h:pZ G A env ts vs ρ σ Q) (hp:autoParam (assignEach ts env=ts.map (fun t=>(false,assign t env))) TaR) (hn:autoParam (ts.length=vs.length) TaR):lV G A env (.Tuple ts k p) (.tup vs) ρ σ Q:=fun B s val st r=>by
 cases r with
 | @tup a xs _ hB rs=>
  rw [arm_assign_Tuple,hp];refine .standAt (wpAny_unpack_tuple (items:=xs) hh (sV st hB) ?_ ?_ fun h' he=>?_)
  ·rw [IP,hn,rs.length];rfl
  ·exact List.findIdx?_eq_none_iff.mpr fun x m=>by obtain ⟨t,_,rfl⟩:=I0.mp m;rfl
  ·rw [Jk];exact Au ts vs h (st.ext (t:=s.toks) he) rs
noncomputable abbrev Gk (G:aK) (A:Around) (env:Env) (t:Expr) (ρ:aX) (Q:aX->am->Prop):V->am->Prop:=fun v σ=>lV G A env t v ρ σ Q
theorem aY {t:Expr} {pos} {e:Expr} {Q:F->aX->am->Prop} (h:WE G A env e ρ σ (Gk G A env t ρ (Q .next)))
  (hs:autoParam (swapsWith e (some t) pos.line env=pure false) TaR) (hw:autoParam (swappedStores [t] e env=pure none) TaR) (he:autoParam (assignEach [t] env=[(false,assign t env)]) TaR):WS G A env (.Assign [t] e pos) ρ σ Q:=fun B s st=>by
 dsimp only [arm_exec_Assign];show Wp _ _ _ _ (PySem.standAt pos>>=fun _=>(swapsWith e (some t) pos.line env)>>=_) _ _ _;rw [hs,hw];refine .standAt ?_;exists (wpAny_pure ?_);refine (h B s st).bindS fun B1 s1 x v σ1 l₁ st1 r1 h=>?_;show Wp _ _ _ _ (pure none>>=fun o=>assignStores env x o ((assignEach [t] env).map (·.2))) _ _ _;exists (wpAny_pure ?_);rw [he];show Wp _ _ _ _ (assign t env x>>=fun _=>pure Flow.next) _ _ _;refine (h B1 s1 x st1 r1).bind fun B2 s2 _ _ ρ2 σ2 l₂ st2 _ h=>?_;exact .pure st2 .next h
abbrev pk (M:Model) (A:Around) (tgt:Expr) (it:Value) (Q:Option Value->Shared->Prop) (s:Shared):Prop:=
 wpAny M A (pyNext it) (fun r s₁=>match r with
  | none=>Q none s₁
  | some v=>wpAny M A (letOwnedTupleGo tgt it v) (fun _ s₂=>Q (some v) s₂) jH s₁) jH s
abbrev da (os:List (Addr×Obj)) (L:Addr) (B:PB) (σ:am) (s:Shared):Prop:=
 (os.map (·.1)).Nodup/\∀ p∈os,B.o p.1=none/\σ p.1=none/\p.1≠L/\s.heap.get? p.1=some p.2/\cA p.2=false
theorem da.one {a:Addr} {o:Obj} {s:Shared} (h1:B.o a=none) (h2:σ a=none) (h3:a≠L) (h4:s.heap.get? a=some o) (h5:cA o=false):da [(a,o)] L B σ s:=
 ⟨by simp,fun p h=>by rw [IN] at h;subst h;exact ⟨h1,h2,h3,h4,h5⟩⟩
theorem da.get {a:Addr} {o:Obj} {os} {s:Shared} (h:da ((a,o)::os) L B σ s):B.o a=none/\σ a=none/\a≠L/\s.heap.get? a=some o/\cA o=false:=h.2 _ (.head _)
theorem da.tail {p} {os} {s:Shared} (h:da (p::os) L B σ s):da os L B σ s:=⟨(I6.mp h.1).2,fun q m=>h.2 q (.tail _ m)⟩
inductive AM (G:aK) (L:Addr) (B:PB) (os:List (Addr×Obj)) (ρ:aX) (σ:am) (s:Shared):Prop
 | mk (Bf:PB) (l:B.le Bf) (st:St G L Bf ρ σ s) (h:∀ p∈os,Bf.o p.1=some p.2):AM G L B os ρ σ s
theorem St.frosts {L s} (os:List (Addr×Obj)):∀ {B},St G L B ρ σ s->da os L B σ s->AM G L B os ρ σ s:=by
 induction os with
 | nil=>exact fun {B} st _=>⟨B, .refl B,st,fun _ h=>nomatch h⟩
 | cons p r ih=>
  intro B st f;obtain ⟨a,o⟩:=p;have g:=f.get;have hn:=(I6.mp f.1).1
  cases ih (st.frost g.1 g.2.1 g.2.2.1 g.2.2.2.1) ⟨f.tail.1,fun q m=>⟨(PB.set_ne _ _ (fun e=>hn (by show a∈_;rw [<- e];exact IR m))).trans (f.tail.2 q m).1,(f.tail.2 q m).2⟩⟩ with
  | mk Bf lf stf hf=>
   exact ⟨Bf,(PB.le_set _ g.1).trans lf,stf,fun p m=>(IZ.mp m).elim (fun e=>e▸lf.1 _ _ (PB.set_self ..)) (hf p)⟩
inductive Bp (G:aK) (L:Addr) (B B₃:PB) (os:List (Addr×Obj)) (ρ:aX) (σ:am) (s:Shared):Prop
 | mk (Bt:PB) (l:B.le Bt) (lt:B₃.lt Bt) (z:∀ b,B₃.o b=none->Bt.o b=none) (st:St G L Bt ρ σ s) (free:da os L Bt σ s):Bp G L B B₃ os ρ σ s
theorem St.unowned {L B s} (st:St G L B ρ σ s) {a:Addr} {o:Obj} (g:B.o a=some o) (hc:cA o=false):σ a=none:=by
 cases q:σ a with
 | none=>rfl
 | some y=>
  cases st.own a y q with | mk o' e v hb=>
  rw [g] at hb
  cases hm:y.mut with
  | true=>rw [hm] at hb;injection hb
  | false=>
   rw [hm] at hb;obtain rfl:=(Option.some.inj hb:o=o')
   cases y <;> first | exact Bool.noConfusion (hm:true=false) | (cases v with | mk _ _ e _=>subst e;exact Bool.noConfusion (hc:true=false))
theorem St.thaws {B₀:PB} (h0:∀ h:Heap,(∀ a o,B₀.o a=some o->h.get? a=some o)->G.P h) {L s} (os:List (Addr×Obj)):∀ {B},St G L B ρ σ s->B₀.le B->(os.map (·.1)).Nodup->(∀ p∈os,B₀.o p.1=none/\B.o p.1=some p.2/\p.1≠L/\cA p.2=false)->
  Bp G L B₀ B os ρ σ s:=by
 induction os with
 | nil=>exact fun {B} st l _ _=>⟨B,l,(PB.le.refl B).lt,fun _ h=>h,st,List.nodup_nil,fun _ h=>nomatch h⟩
 | cons p r ih=>
  intro B st l hn h;obtain ⟨a,o⟩:=p;have g:=h (a,o) (.head _);have hn':=I6.mp hn;have st':=st.thaw h0 l g.1 g.2.1 g.2.2.2;have ne:∀ p∈r,p.1≠a:=fun p m e=>hn'.1 (by show a∈_;rw [<- e];exact IR m)
  cases ih st'.1 st'.2.1 hn'.2 fun p m=>⟨(h p (.tail _ m)).1,(PB.set_ne _ _ (ne p m)).trans (h p (.tail _ m)).2.1,(h p (.tail _ m)).2.2⟩ with
  | mk B' l' q' z' st'' f'=>
   refine ⟨B',l',fun b x e hx=>q' b x (st'.2.2 b x e hx) hx,fun b hb=>z' b ?_,st'',hn,fun p m=>?_⟩
   ·by_cases q:b=a
    ·rw [q];exact PB.set_self ..
    ·exact (PB.set_ne _ _ q).trans hb
   ·rcases IZ.mp m with e | m
    ·rw [e];exact ⟨z' _ (PB.set_self ..),st.unowned g.2.1 g.2.2.2,g.2.2.1,st.keep _ _ g.2.1,g.2.2.2⟩
    ·exact f'.2 p m
inductive C8 (G:aK) (L:Addr) (B:PB) (os:List (Addr×Obj)) (ρ:aX) (σ:am) (s:Shared):Prop
 | mk (Bf:PB) (l:B.le Bf) (st:St G L Bf ρ σ s) (back:∀ {B₃ ρ₃ σ₃ s₃},Bf.le B₃->St G L B₃ ρ₃ σ₃ s₃->Bp G L B B₃ os ρ₃ σ₃ s₃):C8 G L B os ρ σ s
theorem St.loan {os:List (Addr×Obj)} {L B s} (st:St G L B ρ σ s) (hF:da os L B σ s):C8 G L B os ρ σ s:=by
 cases st.frosts os hF with
 | mk Bf lf stf hf=>exact ⟨Bf,lf,stf,fun l st3=>st3.thaws st.base os (lf.trans l) hF.1 fun p m=>⟨(hF.2 p m).1,l.1 _ _ (hf p m),(hF.2 p m).2.2.1,(hF.2 p m).2.2.2.2⟩⟩
abbrev gM (G:aK) (A:Around) (tgt:Expr) (it:Addr) (C:am->Prop):List V->List (Addr×Obj)->Prop
 | [],os=>∀ L B ρ σ s Q,St G L B ρ σ s->da os L B σ s->C σ->(∀ s',St G L B ρ σ s'->Q none s')->
   pk (model G.prog G.w) A tgt (.ref it) Q s
 | x::xs,os=>∀ L B ρ σ s Q,St G L B ρ σ s->da os L B σ s->C σ->
   (∀ B' s' val os',B.le B'->St G L B' ρ σ s'->da os' L B' σ s'->VR B' x val->gM G A tgt it C xs os'->Q (some val) s')->
   pk (model G.prog G.w) A tgt (.ref it) Q s
abbrev zg (G:aK) (A:Around) (it:Addr) (os:List (Addr×Obj)):Prop:=∀ s (Q:Value->Shared->Prop),(∀ p∈os,s.heap.get? p.1=some p.2)->Q (.ref it) s->wpAny (model G.prog G.w) A (pyIter (.ref it)) Q jH s
inductive F7 (G:aK) (A:Around) (L:Addr) (tgt:Expr) (ρ:aX) (Q:am->(am->Prop)->List V->Prop) (B:PB) (r:Value) (s':Shared):Prop
 | mk (it:Addr) (os:List (Addr×Obj)) (C:am->Prop) (xs:List V) (B':PB) (σ':am) (e:r = .ref it) (l:B.le B') (st:St G L B' ρ σ' s') (hF:da os L B' σ' s') (hC:C σ') (hS:gM G A tgt it C xs os) (self:zg G A it os) (q:Q σ' C xs):F7 G A L tgt ρ Q B r s'
abbrev WI (G:aK) (A:Around) (L:Addr) (tgt:Expr) (v:V) (ρ:aX) (σ:am) (Q:am->(am->Prop)->List V->Prop):Prop:=
 ∀ B s val,St G L B ρ σ s->VR B v val->wpAny (model G.prog G.w) A (pyIter val) (F7 G A L tgt ρ Q B) jH s
abbrev zp (G:aK) (A:Around) (env:Env) (C:am->Prop) (tgt:Expr) (body orelse:List Stmt) (Q:F->aX->am->Prop):List V->aX->am->Prop
 | [],ρ,σ=>WL G A env orelse ρ σ Q
 | x::xs,ρ,σ=>lV G A env tgt x ρ σ fun ρ₁ σ₁=>WL G A env body ρ₁ σ₁ (Lp (fun ρ₂ σ₂=>C σ₂/\zp G A env C tgt body orelse Q xs ρ₂ σ₂) Q)
theorem gP {prog:Program} {w:World} {A:Around} {s:Shared} {R:Result->Shared->Prop} {target it body orelse env} (I:Nat->Shared->Prop)
  (turn:∀ n s,I n s->pk (model prog w) A target it (fun r s1=>match r with
   | none=>wpAny (model prog w) A (execs orelse env) (fun f s3=>R (.ok f) s3) jH s1
   | some v=>wpAny (model prog w) A (assign target env v) (fun _ s2=>wpAny (model prog w) A (execs body env) (fun f s3=>match f with
     | .next | .cont=>∃ m,m<n/\I m s3
     | .brk=>R (.ok .next) s3
     | .ret v=>R (.ok (.ret v)) s3) jH s2) jH s1) s)
  (n:Nat) (h:I n s):codeAny (model prog w) A (.forLoop target it body orelse env) R s:=by
 revert prog w A s R target it body orelse env I n
 injections prog w A s R target it body
 injections orelse env
 injections I
 intro turn
 injections n
 intro h;refine codeAny_loop' rfl I (fun n s hI=>?_) n h
 show wpAny _ _ ((forTurn target it body orelse env).onRaise (fun x=>do noteFrame x env;theTreesLotGoes x)) _ _ s
 refine wpAny_noted ?_;dsimp only [forTurn];exists (wpAny_standAt (wpAny_bind (wpAny_onRaise (wpAny_mono (turn n s hI) (fun r s1 h1=>?_) fun _ _ h'=>h'.elim))))
 cases r with
 | none=>exact wpAny_pure (.inr ⟨rfl,codeAny_block (wpAny_mono h1 (fun _ _ x=>x) fun _ _ x=>x.elim)⟩)
 | some v=>
  exists (wpAny_mono h1 (fun _ s2 h2=>?_) fun _ _ h'=>h'.elim);exists (wpAny_mono h2 (fun _ s3 h3=>?_) fun _ _ h'=>h'.elim);exists (wpAny_mono h3 (fun f s4 h4=>?_) fun _ _ h'=>h'.elim)
  cases f with
  | next=>exact wpAny_pure (.inl ⟨rfl,h4⟩)
  | cont=>exact wpAny_pure (.inl ⟨rfl,h4⟩)
  | brk=>exact wpAny_pure h4
  | ret v=>exact wpAny_pure h4
inductive wz (G:aK) (A:Around) (env:Env) (C:am->Prop) (tgt:Expr) (it:Addr) (B:PB) (K:List V->aX->am->Prop) (n:Nat) (s:Shared):Prop
 | mk (B':PB) (ρ:aX) (σ:am) (xs:List V) (os:List (Addr×Obj)) (l:B.le B') (st:St G env.locals B' ρ σ s) (hF:da os env.locals B' σ s) (hC:C σ) (hS:gM G A tgt it C xs os) (e:n=xs.length) (h:K xs ρ σ):wz G A env C tgt it B K n s
theorem d6 {tgt iter:Expr} {body orelse:List Stmt} {pos} {Q:F->aX->am->Prop} (h:WE G A env iter ρ σ fun v σ1=>WI G A env.locals tgt v ρ σ1 fun σ2 C xs=>zp G A env C tgt body orelse Q xs ρ σ2)
  (hs:∀ x,foldedSetIterable iter env x=pure x:=by intro _;rfl):WS G A env (.For tgt iter body orelse pos) ρ σ Q:=fun B s st=>
 wpAny_For ((h B s st).to fun B1 s1 x v σ1 l₁ st1 r1 h=>wpAny_mono (h B1 s1 x st1 r1) (fun _ s2 z=>by
  cases z with | mk it os C xs B2 σ2 e l₂ st2 hF hC hS _ h=>
  subst e;refine gP (wz G A env C tgt it B (zp G A env C tgt body orelse Q)) (fun n s z=>?_) xs.length ⟨B2,_,σ2,xs,os,l₁.trans l₂,st2,hF,hC,hS,rfl,h⟩
  cases z with | mk B' ρ σ xs os l st hF hC hS e h=>
  subst e
  cases xs with
  | nil=>exact hS _ _ _ _ _ _ st hF hC fun s' st'=>(h B' s' st').to fun B3 s3 f f' ρ3 σ3 l3 st3 r3 h=>⟨B3,f',ρ3,σ3,l.trans l3,st3,r3,h⟩
  | cons x xs=>
   refine hS _ _ _ _ _ _ st hF hC fun B1 s1 val os1 l₁ st1 hF1 r1 hS1=>?_
   cases st1.loan hF1 with | mk Bf lf stf back=>
   refine (h Bf s1 val stf (r1.mono lf)).to fun B2 s2 _ _ ρ2 σ2 l₂ st2 _ h=>(h B2 s2 st2).to fun B3 s3 f f' ρ3 σ3 l3 st3 r3 h=>?_;have lB:=(l.trans l₁).trans (lf.trans (l₂.trans l3))
   cases r3 with
   | next=>cases back (l₂.trans l3) st3 with | mk Bt lt _ _ stt hFt=>exact ⟨xs.length,Nat.lt_succ_self _,Bt,ρ3,σ3,xs,os1,(l.trans l₁).trans lt,stt,hFt,h.1,hS1,rfl,h.2⟩
   | cont=>cases back (l₂.trans l3) st3 with | mk Bt lt _ _ stt hFt=>exact ⟨xs.length,Nat.lt_succ_self _,Bt,ρ3,σ3,xs,os1,(l.trans l₁).trans lt,stt,hFt,h.1,hS1,rfl,h.2⟩
   | brk=>exact ⟨B3, .next,ρ3,σ3,lB,st3, .next,h⟩
   | ret r=>exact ⟨B3, .ret _,ρ3,σ3,lB,st3, .ret r,h⟩) fun _ _ x=>False.elim x) hs
end
section
variable {G:aK} {A:Around} {env:Env} {ρ:aX} {σ:am} {L:Addr} {B:PB} {s:Shared}
abbrev bE (σ:am) (l:Addr) (xs:List V):Prop:=σ l=some (.list xs)\/σ l=some (.flist xs)
inductive wA (B:PB) (xs:List V) (h:Heap) (l:Addr):Prop
 | mk (vs:Array Value) (ep:Nat) (e:h.get? l=some (qu vs ep)) (r:VRs B xs vs.toList):wA B xs h l
theorem wA.of {B:PB} {xs:List V} {h:Heap} {l:Addr} {o:Obj} (e:h.get? l=some o) (v:kY B xs o):wA B xs h l:=by cases v with | mk vs ep e' r=>exact ⟨vs,ep,e'▸e,r⟩
theorem St.lst (st:St G L B ρ σ s) {l:Addr} {xs:List V} (h:bE σ l xs):wA B xs s.heap l:=
 h.elim (fun h=>(by obtain ⟨o,ho,v,_⟩:=st.own _ _ h;exact .of ho v)) fun h=>(by obtain ⟨o,ho,v,_⟩:=st.own _ _ h;exact .of ho v)
theorem bg {h:Heap} {l:Addr} {vs:Array Value} {ep:Nat} (e:h.get? l=some (qu vs ep)):h.IsList l vs:=⟨_,e,rfl,ep,rfl⟩
abbrev ownsTuple (n:String):Bool:=["enumerate", "zip", "dict_itemiterator", "dict_reverseitemiterator", "odict_iterator", "itertools.zip_longest", "itertools.pairwise"].contains n
theorem dQ {M:Model} {E:Value->Shared->Prop} {tgt:Expr} {it:Addr} {o:Obj} {n:String} {v:Value} {Q:Unit->Shared->Prop} (ho:s.heap.get? it=some o) (hc:o.cls = .type n) (hn:ownsTuple n=false) (h:Q () s):
  wpAny M A (letOwnedTupleGo tgt (.ref it) v) Q E s:=by
 have key:wpAny M A (do
  let (.ref r, .ref a):=(Value.ref it,v) | return
  let o <- load r
  match o.cls,o.data with
  | .type n, .fields vs=>
   if ["enumerate", "zip", "dict_itemiterator", "dict_reverseitemiterator", "odict_iterator", "itertools.zip_longest", "itertools.pairwise"].contains n&&vs[0]?==some (rawInt a) then
    PySem.rule "for.unpacks-the-owned-tuple"
    updateField r 0 .none
  | _,_=>pure ()) Q E s:=by
  cases v <;> try exact wpAny_pure h
  exists (wpAny_load ho ?_);rw [hc]
  cases hd:o.data <;> try exact wpAny_pure h
  have:(["enumerate", "zip", "dict_itemiterator", "dict_reverseitemiterator", "odict_iterator", "itertools.zip_longest", "itertools.pairwise"].contains n)=false:=hn
  simp only [this,Bool.false_and,Bool.false_eq_true,if_false];exact wpAny_pure h
 cases tgt <;> first | exact key | exact wpAny_pure h
theorem St.extBut (st:St G L B ρ σ s) {a:Addr} (hB:B.o a=none) (hσ:σ a=none) (hL:a≠L) {h':Heap} {t:Nat} (he:Heap.ExtBut a s.heap h'):St G L B ρ σ { s with heap:=h',toks:=t } where
 base:=st.base
 keep:=fun b o e=>he b o (fun q=>by rw [q,hB] at e;injection e) (st.keep b o e)
 keepG:=st.keepG
 own:=fun b x e=>(by obtain ⟨o,e',v,hb⟩:=st.own b x e;exact ⟨o,he _ _ (fun q=>by rw [q,hσ] at e;injection e) e',v,hb⟩)
 loc:=(by obtain ⟨m,n,r⟩:=st.loc;exact ⟨m,n.extBut he (Ne.symm hL),r⟩)
 LB:=st.LB
 Lσ:=st.Lσ
 os:=st.os
 bare:=st.bare
 two:=st.two
theorem nY (hh:A.handled=none) {tgt:Expr} {it l:Addr} {xs:List V} (ys:List V):∀ (i:Nat) (o:Obj),xs.drop i=ys->(o.cls = .type "list_iterator" /\o.data = .fields #[.ref l, .int i 0])->gM G A tgt it (fun σ=>bE σ l xs) ys [(it,o)]:=by
 induction ys with
 | nil=>
  intro i o hd ho L B ρ σ s Q st hF hC h;have f:=hF.get
  cases st.lst hC with | mk vs ep el r=>
  exact wpAny_pyNext_list_end hh ⟨o,f.2.2.2.1,ho⟩ (bg el) (by
   rw [Array.getElem?_eq_none_iff,<- Array.length_toList,<- r.length]
   exact List.drop_eq_nil_iff.mp hd) fun h' he=>h _ (st.extBut (t:=s.toks) f.1 f.2.1 f.2.2.1 he)
 | cons y ys ih=>
  intro i o hd ho L B ρ σ s Q st hF hC h;have f:=hF.get;ac_rfl
  cases st.lst hC with | mk vs ep el r=>
  have hx:xs[i]?=some y:=by rw [<- List.head?_drop,hd];rfl
  obtain ⟨v,hz0⟩:=r.get hx;right;refine wpAny_pyNext_list_item ⟨o,f.2.2.2.1,ho⟩ (bg el) (by rw [<- Array.getElem?_toList];exact hz0.1) fun h' hit hs=>?_
  cases hit with | intro o' z=>
  refine dQ (s:={ s with heap:=h' }) z.1 z.2.1 (by decide) ?_;exact h B _ v [(it,o')] (.refl B) (st.extBut (t:=s.toks) f.1 f.2.1 f.2.2.1 hs.extBut) (.one f.1 f.2.1 f.2.2.1 z.1 (by unfold cA;rw [z.2.2])) hz0.2 (ih (i+1) o' (by rw [<- List.drop_drop,hd];rfl) ⟨z.2.1,by rw [z.2.2]⟩)
theorem zg.one {it:Addr} {o:Obj} (h:∀ s (Q:Value->Shared->Prop),s.heap.get? it=some o->Q (.ref it) s->wpAny (model G.prog G.w) A (pyIter (.ref it)) Q jH s):zg G A it [(it,o)]:=
 fun s Q e q=>h s Q (e _ (.head _)) q
theorem St.one (st:St G L B ρ σ s) {o:Obj} (ho:o.isFreed=false) (hs:cA o=false):da [(s.heap.objs.size,o)] L B σ { s with heap:=s.heap.push o }:=
 .one (st.freshB (I4 _)) (st.fresh (I4 _)) (fun e=>Ji _ (e▸st.Llt)) (I7 _ ho) hs
theorem fY (hh:A.handled=none) {tgt:Expr} {l:Addr} {xs:List V} {Q:am->(am->Prop)->List V->Prop} (h:bE σ l xs) (q:Q σ (fun σ=>bE σ l xs) xs):WI G A L tgt (.ref l) ρ σ Q:=fun B s val st r=>by
 obtain rfl:=r.refE
 cases st.lst h with | mk vs ep el r=>
 exact wpAny_pyIter_list (bg el) ⟨_,_,_,xs,B,_,rfl, .refl B,st.push _,st.one rfl rfl,h,nY hh xs 0 _ rfl ⟨rfl,rfl⟩, .one fun s Q e q=>wpAny_pyIter_listiter ⟨_,e,rfl,rfl⟩ q,q⟩
theorem St.K (st:St G L B ρ σ s):G.K.In s.heap:=G.PK _ (st.base _ st.keep)
theorem St.lim (st:St G L B ρ σ s):s.heap.NoLimit:=G.lim _ (st.base _ st.keep)
inductive AL (G:aK) (L:Addr) (B:PB) (σ:am) (s:Shared) (cls:Value):Prop
 | mk (oL:Obj) (hq:cA oL=false) (hB:B.o L=none) (ho:s.heap.get? L=some oL) (st:St G s.heap.objs.size (B.set L (some oL)) (fun _=>none) σ { s with heap:=s.heap.push { cls:=cls,data:= .dict #[] } }):AL G L B σ s cls
theorem St.enter (st:St G L B ρ σ s) {cls:Value}:AL G L B σ s cls:=by
 revert G ρ σ L B s cls
 injections G ρ σ L
 injections B s
 intro st
 injections cls
 ac_rfl;obtain ⟨m,hz0⟩:=st.loc;ac_rfl;obtain ⟨oL,es,ep,hz1⟩:=id hz0.1;right;right;have l:=PB.le_set (B:=B) (some oL) st.LB;refine ⟨oL,by unfold cA;rw [hz1.2.1],st.LB,hz1.1,?_⟩;refine ⟨fun h k=>st.base h fun a o e=>k _ _ (l.1 _ _ e),fun a o e=>?_,st.keepG,fun a x e=>?_,?_,?_,st.fresh (I4 _),st.os,st.bare,st.two⟩
 ·by_cases q:a=L
  ·subst q;rw [PB.set_self] at e;obtain rfl:=Option.some.inj e;exact I8 _ hz1.1
  ·rw [PB.set_ne _ _ q] at e;exact I8 _ (st.keep _ _ e)
 ·refine l6.mono l (PB.set_ne _ _ (st.ne e)) ?_ (st.own a x e);ac_rfl;obtain ⟨o',hz2⟩:=st.get e;right;show (s.heap.push _).get? a=_;rw [hz2.1,I8 _ hz2.1]
 ·exact ⟨fun _=>none,Heap.Ns.new s.heap cls,fun _=> .none⟩
 ·rw [PB.set_ne _ _ (Nat.ne_of_gt st.Llt)];exact st.freshB (I4 _)
theorem St.leave (st:St G L B ρ σ s) {oL:Obj} (hq:cA oL=false) (ho:s.heap.get? L=some oL) {L':Addr} {B':PB} {ρ':aX} {σ':am} {s':Shared} (l:(B.set L (some oL)).le B') (st':St G L' B' ρ' σ' s'):
  St G L (B'.set L none) ρ σ' s'/\B.le (B'.set L none)/\B'.lt (B'.set L none):=by
 have e:B'.o L=some oL:=l.1 _ _ (PB.set_self ..);have l0:B.le B':=(PB.le_set _ st.LB).trans l;ac_rfl;have hz3:=st'.thaw st.base l0 st.LB e hq;right;refine ⟨⟨hz3.1.base,hz3.1.keep,hz3.1.keepG,hz3.1.own,?_,PB.set_self ..,?_,hz3.1.os,hz3.1.bare,hz3.1.two⟩,hz3.2.1,hz3.2.2⟩
 ·obtain ⟨m,hz4⟩:=st.loc;ac_rfl;obtain ⟨o,es,ep,h1,h2⟩:=hz4.1;right;rw [ho] at h1;obtain rfl:=Option.some.inj h1;exact ⟨m,⟨oL,es,ep,st'.keep _ _ e,h2⟩,fun x=>(hz4.2 x).mono hz3.2.1⟩
 ·exact st'.unowned e hq
inductive oF (B:PB):List (Str×V)->List (Str×Value)->Prop
 | nil:oF B [] []
 | cons {n v x kv kx}:VR B v x->oF B kv kx->oF B ((n,v)::kv) ((n,x)::kx)
theorem oF.nilE {B:PB} {x:List (Str×Value)} (h:oF B [] x):x=[]:=by cases h;rfl
abbrev WC (G:aK) (A:Around) (f:V) (vs:List V) (kv:List (Str×V)) (σ:am) (Q:V->am->Prop):Prop:=
 ∀ L B ρ s fv xs kx,St G L B ρ σ s->VR B f fv->VRs B vs xs->oF B kv kx->cq G A L VR ρ (call fv xs kx) Q B s
theorem WC.mono {f:V} {vs kv} {Q Q':V->am->Prop} (h:WC G A f vs kv σ Q) (k:∀ v σ',Q v σ'->Q' v σ'):WC G A f vs kv σ Q':=fun L B ρ s fv xs kx st r1 r2 r3=>
 (h L B ρ s fv xs kx st r1 r2 r3).mono k
inductive mh (G:aK) (L:Addr) (ρ:aX) (Q:V->am->Prop) (B:PB) (r:Result) (s':Shared):Prop
 | mk (val:Value) (v:V) (B':PB) (σ':am) (e:r = .ok (.ret val)) (l:B.le B') (st:St G L B' ρ σ' s') (rv:VR B' v val) (q:Q v σ'):mh G L ρ Q B r s'
abbrev eS (G:aK) (A:Around) (f:V) (vs:List V) (kv:List (Str×V)) (σ:am) (Q:V->am->Prop):Prop:=
 ∀ L B ρ s fv xs kx,St G L B ρ σ s->VR B f fv->VRs B vs xs->oF B kv kx->codeAny (model G.prog G.w) A (.call fv ⟨xs,kx⟩) (mh G L ρ Q B) s
theorem eS.wc {f:V} {vs kv} {Q:V->am->Prop} (h:eS G A f vs kv σ Q):WC G A f vs kv σ Q:=fun L B ρ s fv xs kx st r1 r2 r3=>
 wpAny_call (codeAny_mono (h L B ρ s fv xs kx st r1 r2 r3) fun _ s2 z=>by cases z with | mk val v B2 σ2 e l₂ st2 r₂ q=>subst e;exact ⟨B2,v,σ2,l₂,st2,r₂,q⟩)
abbrev cM (L:Addr):List (Str×NameKind)->List (Str×Addr)->am->(List (Str×Addr)->am->Prop)->Prop
 | [],cells,σ,K=>K cells σ
 | (n,k)::r,cells,σ,K=>if (k == .cell)=true then ∀ c,σ c=none->c≠L->cM L r ((n,c)::cells) (σ.set c (.cell none)) K else cM L r cells σ K
abbrev iM (G:aK) (A:Around) (env:Env):List (Str×V)->aX->am->(aX->am->Prop)->Prop
 | [],ρ,σ,K=>K ρ σ
 | (n,v)::r,ρ,σ,K=>WB G A env n v ρ σ fun ρ' σ'=>iM G A env r ρ' σ' K
theorem yy {M:Model} {E:Value->Shared->Prop} (f:Str×NameKind->List (Str×Addr)->Sem (ForInStep (List (Str×Addr))))
  (hf:∀ n k cells,f (n,k) cells=(if (k==NameKind.cell)=true then (do let a <- alloc { cls:= .type "cell",data:= .cell none };pure (.yield ((n,a)::cells))) else pure (.yield cells)))
  {B:PB} {Kf:List (Str×Addr)->am->Prop} {Q:List (Str×Addr)->Shared->Prop} (names:List (Str×NameKind)):∀ (cells:List (Str×Addr)) (σ:am) (s:Shared),cM L names cells σ Kf->St G L B ρ σ s->
   (∀ cells' σ' s',Kf cells' σ'->St G L B ρ σ' s'->Q cells' s')->wpAny M A (forIn names cells f) Q E s:=by
 induction names with
 | nil=>exact fun cells σ s h st k=>by dsimp only [List.forIn_nil];exact wpAny_pure (k _ _ _ h st)
 | cons p r ih=>
  intro cells σ s h st k;rw [List.forIn_cons,hf];unfold cM at h
  by_cases hc:(p.2==NameKind.cell)=true
  ·rw [if_pos hc] at h ⊢;exact wpAny_bind (wpAny_bind (wpAny_alloc (wpAny_pure (ih _ _ _ (h _ (st.fresh (I4 _)) (Nat.ne_of_gt st.Llt)) (st.alloc (x:= .cell none) rfl rfl ⟨none,rfl, .none⟩) k))))
  ·rw [if_neg hc] at h ⊢;exact wpAny_bind (wpAny_pure (ih _ _ _ h st k))
theorem yv {env:Env} (f:Str×Value->PUnit->Sem (ForInStep PUnit)) (hf:∀ n v u,f (n,v) u=(do storeName env n v;pure (.yield ⟨⟩))) {Kf:aX->am->Prop} {Q:PUnit->Shared->Prop} {B₀:PB} {bv:List (Str×V)} {bx:List (Str×Value)} (r:oF B₀ bv bx):
  ∀ (B:PB) (ρ:aX) (σ:am) (s:Shared),B₀.le B->iM G A env bv ρ σ Kf->St G env.locals B ρ σ s->
   (∀ B' ρ' σ' s',B.le B'->Kf ρ' σ'->St G env.locals B' ρ' σ' s'->Q ⟨⟩ s')->wpAny (model G.prog G.w) A (forIn bx ⟨⟩ f) Q jH s:=by
 induction r with
 | nil=>exact fun B ρ σ s _ h st k=>by dsimp only [List.forIn_nil];exact wpAny_pure (k _ _ _ _ (.refl B) h st)
 | cons r _ ih=>
  intro B ρ σ s l h st k;rw [List.forIn_cons,hf];exact wpAny_bind (wpAny_bind ((h B s _ st (r.mono l)).to fun B1 s1 _ _ ρ1 σ1 l₁ st1 _ h1=>wpAny_pure (ih B1 ρ1 σ1 s1 (l.trans l₁) h1 st1 fun B' ρ' σ' s' l=>k B' ρ' σ' s' (l₁.trans l))))
abbrev jF:F->V
 | .ret v=>v
 | _=> .none
abbrev aR (fd:FuncData) (f L:Addr) (cells:List (Str×Addr)):Env:=
 { scope:=fd.scope,locals:=L,globals:=fd.globals,cells,qual:=fd.qualname ++ ".<locals>.",func:=some f,code:=fd.code,frame:=some L,builtins:=fd.builtins }
theorem qN {f:Addr} {fd:FuncData} {bv:List (Str×V)} {bx:List (Str×Value)} {Kf:List (Str×Addr)->aX->am->Prop} {Q:Env->Shared->Prop} (st:St G L B ρ σ s) (rb:oF B bv bx)
  (h:cM s.heap.objs.size fd.scope.names fd.closure σ fun cells σ1=>iM G A (aR fd f s.heap.objs.size cells) bv (fun _=>none) σ1 (Kf cells))
  (k:∀ oL cells B3 ρ3 σ3 s3,cA oL=false->s.heap.get? L=some oL->(B.set L (some oL)).le B3->St G s.heap.objs.size B3 ρ3 σ3 s3->Kf cells ρ3 σ3->Q (aR fd f s.heap.objs.size cells) s3):
  wpAny (model G.prog G.w) A (newFunctionEnv fd.scope fd.globals fd.closure bx (fd.qualname ++ ".<locals>.") (some f) fd.code none fd.builtins) Q jH s:=by
 unfold newFunctionEnv;dsimp only [Option.isSome_none,Bool.false_eq_true,if_false];exists (wpAny_alloc ?_)
 cases st.enter (cls:= .type "frame") with | mk oL hq hL hoL st1=>
 exists (yy _ (fun n k cells=>by cases hkc:k==NameKind.cell <;> simp [hkc]) _ _ _ _ h st1 fun cells σ2 s2 h2 st2=>?_)
 show wpAny _ _ (forIn bx PUnit.unit _>>=fun _=>pure (aR fd f s.heap.objs.size cells)) _ _ _;exact wpAny_bind (yv (env:=aR fd f s.heap.objs.size cells) _ (fun _ _ _=>rfl) rb _ _ _ _ (PB.le_set (B:=B) (some oL) hL) h2 st2 fun B3 ρ3 σ3 s3 l3 h3 st3=>wpAny_pure (k oL cells B3 ρ3 σ3 s3 hq hoL l3 st3 h3))
@[reducible] noncomputable def l9 (fl:Flow):Value:=match fl with | .ret v=>v | _=> .none
theorem yz {Q:V->am->Prop} (st:St G L B ρ σ s) {oL:Obj} (hq:cA oL=false) (hoL:s.heap.get? L=some oL) {L':Addr} {B4:PB} {ρ4:aX} {σ4:am} {s4:Shared} {fl:Flow} {fl':F} (l:(B.set L (some oL)).le B4) (st4:St G L' B4 ρ4 σ4 s4) (r4:FR B4 fl' fl) (q:Q (jF fl') σ4):
  mh G L ρ Q B (.ok (.ret (l9 fl))) s4:=by
 have z:=st.leave hq hoL l st4;refine ⟨_,jF fl',_,σ4,rfl,z.2.1,z.1,?_,q⟩
 cases r4 with
 | ret r=>exact r.mono' z.2.2
 | _=>exact .none
inductive u1 (G:aK) (f:Addr) (fd:FuncData) (body:List Stmt) (vs:List V) (kv:List (Str×V)) (bv:List (Str×V)) (σ:am):Prop
 | mk (hf:∀ L B ρ s,St G L B ρ σ s->∃ o,s.heap.get? f=some o/\o.data = .func fd/\s.heap.CodeRec fd.code fd.qualname) (hbody:fd.body = .stmts body)
   (hb:∀ B s xs kx,G.K.In s.heap->VRs B vs xs->oF B kv kx->∃ bx,BindsTo s fd ⟨xs,kx⟩ bx/\oF B bv bx) (hco:fd.scope.isCoroutine=false) (hgen:fd.scope.isGenerator=false):u1 G f fd body vs kv bv σ
theorem jt {f:Addr} {fd:FuncData} {body:List Stmt} {vs:List V} {kv:List (Str×V)} {Q:V->am->Prop} {bv:List (Str×V)} (D:u1 G f fd body vs kv bv σ) (hroom:A.depth<recursionLimit)
  (h:∀ L,σ L=none->cM L fd.scope.names fd.closure σ fun cells σ1=>
   iM G A.in1 (aR fd f L cells) bv (fun _=>none) σ1 fun ρ2 σ2=>WL G (A.deeper (aR fd f L cells)) (aR fd f L cells) body ρ2 σ2 fun fl _ σ'=>Q (jF fl) σ'):eS G A (.ref f) vs kv σ Q:=fun L B ρ s fv xs kx st r1 r2 r3=>by
 obtain rfl:=r1.refE
 cases D with | mk hf hbody hb hco hgen=>
 cases hf L B ρ s st with | intro o z=>
 cases hb B s xs kx st.K r2 r3 with | intro bx w=>
 exact codeAny_call_function hroom z.1 z.2.1 hco hgen hbody z.2.2 (w.1 _ _ _ _ (wpAny_mono (qN st w.2 (h _ (st.fresh (I4 _))) (Q:=fun env s2=>s2.heap.NoLimit/\codeAny (model G.prog G.w) A (.func body env) (mh G L ρ Q B) s2) fun oL cells B3 ρ3 σ3 s3 hq hoL l3 st3 h3=>
  ⟨st3.lim,codeAny_func ((h3 B3 s3 st3).to fun B4 s4 fl fl' ρ4 σ4 l4 st4 r4 q=>yz st hq hoL (l3.trans l4) st4 r4 q)⟩) (fun _ _ q=>q) fun _ _ e=>False.elim e))
abbrev Dh (G:aK) (A:Around) (env:Env):List Keyword->aX->am->(List V->am->Prop)->Prop
 | [],ρ,σ,Q=>Q [] σ
 | k::r,ρ,σ,Q=>WE G A env k.value ρ σ fun v σ₁=>Dh G A env r ρ σ₁ fun kv=>Q (v::kv)
theorem xR (pos:Pos) (kws:List Keyword):backToKw pos (keywordEach kws env)=kws.map fun k=>(k.arg,do let v <- eval k.value env;standAt pos;pure v):=by
 induction kws with
 | nil=>rfl
 | cons k r ih=>obtain ⟨n,e,p⟩:=k;rw [List.map_cons,<- ih];rfl
theorem Il {pos:Pos} (kws:List Keyword):∀ {σ:am} {Q:List V->am->Prop} {B:PB} {s:Shared},Dh G A env kws ρ σ Q->St G env.locals B ρ σ s->
  cq G A env.locals VRs ρ (evalAll (kws.map fun k=>(do let v <- eval k.value env;standAt pos;pure v))) Q B s:=by
 induction kws with
 | nil=>exact fun h st=> .pure st .nil h
 | cons k r ih=>
  intro σ Q B s h st;rw [List.map_cons]
  exact cq.bind (cq.bind (h B s st) fun B1 s1 x v σ1 l₁ st1 r1 q=> .standAt (.pure st1 r1 q)) fun B1 s1 x v σ1 l₁ st1 r1 h1=>
   (cq.holding (ih h1 st1)).bind fun B2 s2 xs vs σ2 l₂ st2 r2 q=> .pure st2 (.cons (r1.mono l₂) r2) q
theorem oF.zip {B:PB} {vs:List V} {xs:List Value} (r:VRs B vs xs):∀ (ns:List Str),oF B (ns.zip vs) (ns.zip xs):=
 r.ind (P:=fun vs xs=>∀ (ns:List Str),oF B (ns.zip vs) (ns.zip xs)) (fun ns=>by cases ns <;> exact .nil) fun a _ h ns=>by
  cases ns with
  | nil=>exact .nil
  | cons n ns=>exact .cons a (h ns)
abbrev AR (B:PB) (y:List V×List (Str×V)) (a:Args):Prop:=VRs B y.1 a.pos/\oF B y.2 a.kw
abbrev mC (env:Env) (es:List Expr):Prop:=starEach es env=es.map fun e=>(false,eval e env)
theorem qc (pos:Pos) {es:List Expr} (h:mC env es):backTo pos (starEach es env)=es.map fun e=>(false,eval e env):=by
 rw [h];unfold backTo;rw [Jk]
 rfl
theorem A5 {f:Value} {es:List Expr} {kws:List Keyword} {pos:Pos} {Q:List V->List (Str×V)->am->Prop} (hp:mC env es) (hk:kws.all (·.arg.isSome)=true)
  (h:p7 G A env es ρ σ fun vs σ1=>Dh G A env kws ρ σ1 fun kv σ2=>Q vs ((kws.filterMap (·.arg)).zip kv) σ2) (st:St G env.locals B ρ σ s):
  cq G A env.locals AR ρ (evalArgs f true (backTo pos (starEach es env)) (backToKw pos (keywordEach kws env))) (fun y σ'=>Q y.1 y.2 σ') B s:=by
 intros G A env ρ σ B s f es kws pos Q
 intro hp hk h st
 have hall:(backToKw pos (keywordEach kws env)).all (·.1.isSome)=true:=by rw [xR,List.all_map];exact hk
 have k:wpAny (model G.prog G.w) A (spliced (backTo pos (starEach es env))) (fun vs s1=>wpAny (model G.prog G.w) A (evalAll ((backToKw pos (keywordEach kws env)).map (·.2))) (fun ks s2=>
   ip G env.locals AR ρ (fun y σ'=>Q y.1 y.2 σ') B ⟨vs,((backToKw pos (keywordEach kws env)).filterMap (·.1)).zip ks⟩ s2) jH s1) jH s:=
  (h B s pos st).to fun B1 s1 xs vs σ1 l₁ st1 r1 h1=>by
   rw [xR,Jk,List.filterMap_map];exact (Il (pos:=pos) kws h1 st1).to fun B2 s2 ks kv σ2 l₂ st2 r2 h2=>⟨B2,⟨vs,(kws.filterMap (·.arg)).zip kv⟩,σ2,l₁.trans l₂,st2,⟨r1.mono l₂,oF.zip r2 _⟩,h2⟩
 cases es with
 | nil=>exact evalArgs_kw_nil hall fun Γ p hΓ=>k Γ p hΓ Γ p hΓ
 | cons e es=>
  have hb:=qc pos hp;rw [hb,List.map_cons] at k ⊢;exact evalArgs_kw hall k
abbrev ba (G:aK) (A:Around) (f:V) (σ:am):Prop:=
 ∀ L B ρ s fv,St G L B ρ σ s->VR B f fv->∃ k,∀ (Q:Keeper->Shared->Prop),Q k s->wpAny (model G.prog G.w) A (keeperOf fv) Q jH s
theorem ba.bi {id:String}:ba G A (.bi id) σ:=fun L B ρ s fv st r=>by rw [r.biE];exact ⟨_,fun Q q=>wpAny_pure q⟩
theorem ba.ty {id:String}:ba G A (.ty id) σ:=fun L B ρ s fv st r=>by rw [r.tyE];exact ⟨_,fun Q q=>wpAny_pure q⟩
theorem ba.fn {f:Addr} (h:∀ L B ρ s,St G L B ρ σ s->∃ o fd,s.heap.get? f=some o/\o.data = .func fd):ba G A (.ref f) σ:=fun L B ρ s fv st r=>by
 obtain rfl:=r.refE;refine ⟨.frame,fun Q q=>?_⟩;obtain ⟨o,fd,hz0⟩:=h L B ρ s st;exists (wpAny_load hz0.1 ?_);rw [hz0.2];exact wpAny_pure q
theorem ba.peek {f:Addr} {k:Keeper} (h:∀ S,PySem.W.peek G.K S (keeperOf (.ref f))=some k):ba G A (.ref f) σ:=fun L B ρ s fv st r=>by
 obtain rfl:=r.refE;exact ⟨k,fun Q q=>(Looks.of_peek (M:=model G.prog G.w) st.K (h _)).here q⟩
abbrev Fp (G:aK) (A:Around) (env:Env) (f:V) (first:List V) (es:List Expr) (kws:List Keyword) (ρ:aX) (σ:am) (Q:V->am->Prop):Prop:=
 ∀ B s fv xs pos,St G env.locals B ρ σ s->VR B f fv->VRs B first xs->cq G A env.locals VR ρ (callWith pos fv xs (backTo pos (starEach es env)) (backToKw pos (keywordEach kws env))) Q B s
noncomputable abbrev Fg (G:aK) (A:Around) (f:V) (vs:List V) (kws:List Keyword) (Q:V->am->Prop):List V->am->Prop:=fun kv σ=>ba G A f σ/\WC G A f vs ((kws.filterMap (·.arg)).zip kv) σ Q
noncomputable abbrev Gn (G:aK) (A:Around) (env:Env) (f:V) (first:List V) (kws:List Keyword) (ρ:aX) (Q:V->am->Prop):List V->am->Prop:=fun vs σ=>Dh G A env kws ρ σ (Fg G A f (first++vs) kws Q)
noncomputable abbrev Gm (G:aK) (A:Around) (env:Env) (es:List Expr) (kws:List Keyword) (ρ:aX) (Q:V->am->Prop):V->am->Prop:=fun f σ=>Fp G A env f [] es kws ρ σ Q
noncomputable abbrev Gl (G:aK) (A:Around) (env:Env) (es:List Expr) (kws:List Keyword) (ρ:aX) (Q:V->am->Prop):V->List V->am->Prop:=fun f first σ=>Fp G A env f first es kws ρ σ Q
theorem aJ {f:V} {first:List V} {es:List Expr} {kws:List Keyword} {Q:V->am->Prop}
  (h:p7 G A env es ρ σ (Gn G A env f first kws ρ Q))
  (hp:autoParam (mC env es) TaR) (hk:autoParam (kws.all (·.arg.isSome)=true) TaR):Fp G A env f first es kws ρ σ Q:=fun B s fv fs pos st r rf=>by
 refine cq.bind (cq.holding (A5 (pos:=pos) (Q:=fun vs kv σ2=>ba G A f σ2/\WC G A f (first++vs) kv σ2 Q) hp hk h st)) fun B1 s1 a y σ1 l₁ st1 ra h=> .standAt ?_;have call:=h.2 _ _ _ _ _ _ _ st1 (r.mono l₁) ((rf.mono l₁).append ra.1) ra.2
 have tail:∀ {t:Sem Value},cq G A env.locals VR ρ t Q B1 s1->cq G A env.locals VR ρ (t>>=fun r=>holding [r] point>>=fun _=>pure r) Q B1 s1:=
  fun ht=>ht.bind fun B2 s2 x v σ2 l₂ st2 r2 q=>wpAny_bind (wpAny_holding (wpAny_point (cq.pure st2 r2 q)))
 have tk:∀ m:Value,_:=fun m=>tail (t:=callMarked m fv (fs++a.pos) a.kw) (by unfold callMarked;exact Calls.wpAny_keep call);have to:∀ vs:List Value,_:=fun vs=>tail (cq.operate (vs:=vs) call);have tc:=tail call
 cases h.1 _ _ _ _ _ st1 (r.mono l₁) with | intro k hkeep=>
 exists (hkeep _ ?_);clear hkeep h;dsimp only;generalize ((backTo pos (starEach es env)).any (·.1) || (backToKw pos (keywordEach kws env)).any (·.1.isNone))=hs
 cases k <;> cases hs <;> (try dsimp only) <;> first
  | exact tc
  | exact tk _
  | exact to _
  | (split <;> first | exact tc | exact tk _)
theorem aF {id:Str} {p pos:Pos} {es:List Expr} {kws:List Keyword} {Q:V->am->Prop} (h:WE G A env (.Name id p) ρ σ (Gm G A env es kws ρ Q)):WE G A env (.Call (.Name id p) es kws pos) ρ σ Q:=fun B s st=>by
 dsimp only [arm_eval_Call_Name'];refine (h B s st).bind fun B1 s1 x v σ1 l₁ st1 r1 h=>?_;exact h B1 s1 x [] pos st1 r1 .nil
abbrev WM (G:aK) (A:Around) (L:Addr) (o:V) (name:Str) (ρ:aX) (σ:am) (Q:V->List V->am->Prop):Prop:=
 ∀ B s ov pl,St G L B ρ σ s->VR B o ov->cq G A L (fun B y x=>VR B y.1 x.1/\VRs B y.2 x.2) ρ (getMethod ov name pl) (fun (y:V×List V) σ'=>Q y.1 y.2 σ') B s
noncomputable abbrev Gu (G:aK) (A:Around) (env:Env) (name:Str) (es:List Expr) (kws:List Keyword) (ρ:aX) (Q:V->am->Prop):V->am->Prop:=fun ov σ=>WM G A env.locals ov name ρ σ (Gl G A env es kws ρ Q)
theorem ay {o:Expr} {name:Str} {apos pos:Pos} {es:List Expr} {kws:List Keyword} {Q:V->am->Prop} (h:WE G A env o ρ σ (Gu G A env name es kws ρ Q))
  (hbase:autoParam (attributeBase o name env (eval o env)=eval o env) TaR) (hform:autoParam (methodCallForm (es.length+kws.length) (backTo pos (starEach es env)) (backToKw pos (keywordEach kws env))=true) TaR)
  (hline:autoParam ((apos.endLine==pos.line)=true) TaR):WE G A env (.Call (.Attribute o name apos) es kws pos) ρ σ Q:=by
 intros G A env ρ σ o name apos pos es kws Q
 intro h hbase hform hline;intro B s st;rw [arm_eval_Call,hbase];refine (h B s st).bind fun B1 s1 x v σ1 l₁ st1 r1 h=>?_;refine .standAt ?_;unfold methodCall calleeOf methodCallPos;rw [if_pos hform,if_pos (by rw [hform,hline];rfl)];refine (cq.holding (h B1 s1 x _ st1 r1)).bind fun B2 s2 y w σ2 l₂ st2 r2 h=>?_;exact wpAny_bind (wpAny_pure (h B2 s2 _ _ pos st2 r2.1 r2.2))
theorem t3 {e:DictEntry} {x t} (h:e.key = .str x t):e.refKey=false:=by
 unfold DictEntry.refKey;rw [h]
theorem uS {es:Array DictEntry} (hk:KeysOf (strKind G.prog G.w) es):es.toList.any (·.refKey)=false:=by
 rw [List.any_eq_false];intro e he;ac_rfl;obtain ⟨k,hz0⟩:=hk e (Array.mem_toList_iff.mp he);obtain ⟨t,q⟩:=Value.isStrOf_shape hz0.1;right;rw [t3 q];exact Jg
theorem sn {name:Str} {o:Obj} {es:Array DictEntry} {ep:Nat} (hd:o.data = .dict es ep) (hk:es.toList.any (·.refKey)=false):lookIn name o=some ((es.toList.find? (·.key.isStr name)).map (·.val)):=by
 unfold lookIn;rw [hd];dsimp only;rw [hk]
 cases es.toList.find? (·.key.isStr name) <;> rfl
theorem pO {m:Str->Option V} {n:Nat} {b:Bool} {ob:Obj} {o:Obj} (h:OV G B (.ns m n b ob) o) (name:Str):∃ r,lookIn name o=some r/\OR B (m name) r:=by
 cases h with | mk _ es ep m' hz hx hd hk hf hr=>
 refine ⟨m' name,?_,hr name⟩;have e:=hf name;have q:(fun d:DictEntry=>(strKind G.prog G.w).is name d.key)=fun d=>d.key.isStr name:=funext fun d=>(isStr_of name d.key).symm;unfold findBy at e;rw [q,<- Array.find?_toList] at e;rw [sn hd (uS hk),e]
inductive AP (G:aK) (B:PB) (x C d:Addr) (m:Str->Option V) (n:Nat) (b:Bool) (ob:Obj) (s:Shared):Prop
 | mk (od:Obj) (I:InstAt s.heap x (instObj C d) C (some od)) (v:CF G B m n b ob od) (e:s.heap.get? d=some od):AP G B x C d m n b ob s
theorem St.inst (st:St G L B ρ σ s) {x C d:Addr} {m n b ob} (hx:σ x=some (.inst C d)) (hd:σ d=some (.ns m n b ob)):AP G B x C d m n b ob s:=by
 cases st.own _ _ hx with | mk o ho v _=>cases st.own _ _ hd with | mk od hod v' _=>
 obtain rfl:=(v:o=r8 C d);exact ⟨od,⟨ho,rfl,rfl,hod⟩,v',hod⟩
abbrev probe (name:Str):Option Value->Obj
 | none=>{ cls:= .type "dict",data:= .dict #[] }
 | some v=>{ cls:= .type "dict",data:= .dict #[⟨0, .str name 0,v⟩] }
theorem tX (name:Str) (r:Option Value):lookIn name (probe name r)=some r:=by
 cases r with
 | none=>rfl
 | some v=>
  have h:(Value.str name 0).isStr name=true:=Jj.mpr rfl
  show (match List.find? (fun d:DictEntry=>d.key.isStr name) [⟨0, .str name 0,v⟩] with | some e=>some (some e.val) | none=>_)=_
  rw [List.find?_cons_of_pos (by exact h)]
theorem fH {K:Frag} {C:Addr} {od:Obj} {name:Str} {r:Option Value} (e:lookIn name od=some r):findObj K C (some od) name=findObj K C (some (probe name r)) name:=by
 unfold findObj PySem.W.ownOf;dsimp only;rw [e,tX]
abbrev vh (G:aK) (A:Around) (L:Addr) (o:V) (name:Str) (ρ:aX) (σ:am) (Q:V->am->Prop):Prop:=
 ∀ B s ov expr,St G L B ρ σ s->VR B o ov->cq G A L VR ρ (getAttr ov name expr) Q B s
noncomputable abbrev Gq (G:aK) (A:Around) (L:Addr) (attr:Str) (ρ:aX) (Q:V->am->Prop):V->am->Prop:=fun o σ=>vh G A L o attr ρ σ Q
theorem aH {x:Str} {p pos:Pos} {attr:Str} {Q:V->am->Prop} (h:WE G A env (.Name x p) ρ σ (Gq G A env.locals attr ρ Q)):WE G A env (.Attribute (.Name x p) attr pos) ρ σ Q:=fun B s st=>by
 dsimp only [arm_eval_Attribute]
 exact cq.bind (t:=attributeBase (.Name x p) attr env (eval (.Name x p) env)) (h B s st) fun B1 s1 y v σ1 l₁ st1 r1 h=>
  .standAt ((cq.holding (h B1 s1 y true st1 r1)).bind fun B2 s2 z w σ2 l₂ st2 r2 h=>wpAny_bind (wpAny_pure (cq.pure st2 r2 h)))
theorem bG {x C d:Addr} {m n b ob} {name:Str} {v:V} {Q:V->am->Prop} (hx:σ x=some (.inst C d)) (hd:σ d=some (.ns m n b ob)) (hv:m name=some v) (h:Q v σ)
  (hh:∀ B val,VR B v val->handedIn val=true)
  (hga:findIn G.K (.ref C) "__getattribute__" = some (some (.builtin "object.__getattribute__"))) (ho:∀ v,findObj G.K C (some (probe name (some v))) name=some (.value v)):vh G A L (.ref x) name ρ σ Q:=fun B s ov expr st r=>by
 obtain rfl:=r.refE;ac_rfl
 cases st.inst hx hd with | mk od I hod _=>
 obtain ⟨r,e,q⟩:=pO hod name;right;rw [hv] at q
 cases q with
 | some q=>exact get_value st.K I hga ((fH e).trans (ho _)) (hh B _ q) ⟨B,v,σ, .refl B,st.toks _,q,h⟩
theorem bB {a:Addr} {B:PB} {val:Value} (h:VR B (.ref a) val):handedIn val=true:=by rw [h.refE];rfl
theorem fM {a:Int} {B:PB} {val:Value} (h:VR B (.int a) val):handedIn val=true:=by obtain ⟨_,rfl⟩:=h.intE;rfl
theorem cY {m:Str->Option V} {n:Nat} {b:Bool} {ob:Obj} {o:Obj} (h:OV G B (.ns m n b ob) o) {name:Str} (hv:m name=none):lookIn name o=some none:=by
 obtain ⟨r,e,q⟩:=pO h name;rw [hv] at q;cases q;exact e
theorem th {x C d f p:Addr} {m n b ob} {name:Str} {Q:V->am->Prop} (hx:σ x=some (.inst C d)) (hd:σ d=some (.ns m n b ob)) (hv:m name=none)
  (hga:findIn G.K (.ref C) "__getattribute__" = some (some (.builtin "object.__getattribute__"))) (hk:findIn G.K (.ref C) "__getattr__" = some none) (ho:findObj G.K C (some (probe name none)) name=some (.bind (.ref f) (.ref p)))
  (h:WC G A.in1 (.ref f) [.ref p, .ref x, .ref C] [] σ fun v σ'=>Q v σ'/\∀ B val,VR B v val->handedIn val=true):vh G A L (.ref x) name ρ σ Q:=fun B s ov expr st r=>by
 obtain rfl:=r.refE
 cases st.inst hx hd with | mk od I hod _=>
 exact get_bind st.K I hga ((fH (cY hod hv)).trans ho) hk ((h L B ρ _ _ _ _ (st.toks (s.toks+1)) (.ref f) (.cons (.ref p) (.cons (.ref x) (.cons (.ref C) .nil))) .nil).to fun B' s' val v σ' l st' r' q=>by
  rw [handedOut_of (q.2 _ _ r')]
  exact wpAny_pure ⟨B',v,σ',l,st',r',q.1⟩)
theorem fZ {x C d f:Addr} {m n b ob} {name:Str} {Q:V->List V->am->Prop} (hx:σ x=some (.inst C d)) (hd:σ d=some (.ns m n b ob)) (hv:m name=none)
  (hga:findIn G.K (.ref C) "__getattribute__" = some (some (.builtin "object.__getattribute__"))) (hk:findIn G.K (.ref C) "__getattr__" = some none)
  (hf:findIn G.K (.ref C) name=some (some (.ref f))) (ht:typeIn G.K (.ref f)=some (.type "function")) (h:Q (.ref f) [.ref x] σ):WM G A L (.ref x) name ρ σ Q:=fun B s ov pl st r=>by
 obtain rfl:=r.refE
 cases st.inst hx hd with | mk od I hod _=>
 exact method_fn st.K I hga hk hf ht (show (lookIn name od).map (·.isSome)=some false by rw [cY hod hv];rfl) ⟨B,(.ref f,[.ref x]),σ, .refl B,st,⟨.ref f, .cons (.ref x) .nil⟩,h⟩
inductive Bm (G:aK) (B:PB) (m:Str->Option V) (n:Nat) (b:Bool) (es₀:Array DictEntry) (name:Str) (v:V) (val:Value) (t:Tok) (o:Obj):Prop
 | mk (es:Array DictEntry) (ep:Nat) (e:(Obj.putName name (hashStr G.w name) (.str name t) val o).data = .dict es ep) (sz:es.size<=n+1) (quiet:aRefKeyMayBeTheName name es₀=false)
   (v':CF G B (fun y=>if y=name then some v else m y) (n+1) b (Obj.putName name (hashStr G.w name) (.str name t) val o) (Obj.putName name (hashStr G.w name) (.str name t) val o)):Bm G B m n b es₀ name v val t o
theorem yc {m:Str->Option V} {m':Str->Option Value} (hr:∀ k,OR B (m k) (m' k)) {v:V} {val:Value} (r:VR B v val) (name k:Str):OR B (if k=name then some v else m k) (if k=name then some val else m' k):=by
 by_cases c:k=name
 ·rw [if_pos c,if_pos c];exact .some r
 ·rw [if_neg c,if_neg c];exact hr k
theorem tY {m:Str->Option V} {n:Nat} {b:Bool} {ob:Obj} {o:Obj} (h:CF G B m n b ob o) (name:Str) {v:V} {val:Value} (r:VR B v val) (t:Tok):∃ es ep,o.data = .dict es ep/\Bm G B m n b es name v val t o:=by
 revert G B m n b ob o name v val t
 injections G B m n
 injections b ob
 injections o
 intro h
 injections name v
 injections val
 intro r
 injections t
 ac_rfl
 cases h with | mk _ es ep m' hz hx hd hk hf hr=>
 obtain ⟨c,d,dt,sl⟩:=o;right;obtain rfl:=(hd:dt=_);refine ⟨es,ep,rfl,?_⟩;have q:(fun d:DictEntry=>(strKind G.prog G.w).is name d.key)=fun d=>d.key.isStr name:=funext fun d=>(isStr_of name d.key).symm
 have quiet:aRefKeyMayBeTheName name es=false:=by rw [aRefKeyMayBeTheName_at,<- Array.any_toList (p:=fun x:DictEntry=>x.refKey),uS hk,Bool.and_false]
 have mf:∀ k,(if k=name then some val else findBy (strKind G.prog G.w).is es k)=if k=name then some val else m' k:=fun k=>by rw [hf k]
 have goal:∀ es' ep',Obj.putName name (hashStr G.w name) (.str name t) val ⟨c,d, .dict es ep,sl⟩=⟨c,d, .dict es' ep',sl⟩->es'.size<=n+1->KeysOf (strKind G.prog G.w) es'->
   (∀ k,findBy (strKind G.prog G.w).is es' k=if k=name then some val else findBy (strKind G.prog G.w).is es k)->Bm G B m n b es name v val t ⟨c,d, .dict es ep,sl⟩:=fun es' ep' e sz ks f=>by
  refine ⟨es',ep',by rw [e],sz,quiet,?_⟩;rw [e]
  exact ⟨rfl,es',ep',fun y=>if y=name then some val else m' y,sz,⟨hx.1,hx.2.1,hx.2.2⟩,rfl,ks,fun k=>(f k).trans (mf k),fun k=>yc hr r name k⟩
 have e0:=congrFun (congrFun (congrFun (congrFun (congrFun Obj.putName_eq name) (hashStr G.w name)) (.str name t)) val) ⟨c,d, .dict es ep,sl⟩;unfold Obj.putNameByArray at e0;dsimp only at e0
 cases hi:es.findIdx? (·.key.isStr name) with
 | some i=>
  rw [hi] at e0;exact goal _ _ e0 (by rw [Array.size_modify];exact Nat.le_succ_of_le hz) (hk.modify i val) fun k=>findBy_modify (strKind G.prog G.w).is (strKind G.prog G.w).inj es name k val i (by rw [q];exact hi)
 | none=>
  rw [hi] at e0;exact goal _ _ e0 (by rw [Array.size_push];exact Nat.succ_le_succ hz) (hk.push (strKind_is G.prog G.w name t) val) fun k=>findBy_push (strKind G.prog G.w).is es name k (hashStr G.w name) (.str name t) val (fun y=>KeyKind.is_eq_decide (strKind_is G.prog G.w name t) y) (by rw [q];exact hi)
abbrev Dl (G:aK) (A:Around) (L:Addr) (o:V) (name:Str) (v:V) (ρ:aX) (σ:am) (Q:am->Prop):Prop:=
 ∀ B s ov val,St G L B ρ σ s->VR B o ov->VR B v val->cq G A L (qP (α:=Unit)) ρ (setAttr ov name val) (fun _=>Q) B s
theorem b5 {o:Expr} {attr:Str} {p:Pos} {v:V} {Q:aX->am->Prop} (h:WE G A env o ρ σ fun ov σ1=>Dl G A env.locals ov attr v ρ σ1 (Q ρ)):lV G A env (.Attribute o attr p) v ρ σ Q:=fun B s val st r=>by
 dsimp only [arm_assign_Attribute];exact cq.bindS (cq.holding (h B s st)) fun B1 s1 y ov σ1 l₁ st1 r1 h=> .standAt (cq.bindS (cq.holding (h B1 s1 y val st1 r1 (r.mono l₁))) fun B2 s2 _ _ σ2 l₂ st2 _ h=>Wp.release' (y:=()) st2 rfl h)
theorem eJ {x C d:Addr} {m n b ob} {name:Str} {v:V} {Q:am->Prop} (hx:σ x=some (.inst C d)) (hd:σ d=some (.ns m n b ob)) (hn:n<900) (h:∀ ob',Q (σ.set d (.ns (fun y=>if y=name then some v else m y) (n+1) b ob')))
  (hs:findIn G.K (.ref C) "__setattr__" = some (some (.builtin "object.__setattr__"))) (hp:plainOver G.K C=true) (ht:takerIn G.K C name=some none) (hh:(clsIn G.K C).any (·.hasDict)=true):Dl G A L (.ref x) name v ρ σ Q:=by
 intros G A ρ σ L x C d m n b ob name v Q
 intro hx hd hn h hs hp ht hh
 injections B s ov val
 intro st r rv;obtain rfl:=r.refE
 cases st.inst hx hd with | mk od I hod D=>
 refine set_plain st.K I hs ?_;have st:=st.toks (s.toks+1);refine osa_open st.K I hp ht fun _=>?_;ac_rfl;obtain ⟨cd,hz5⟩:=any_some hh;obtain ⟨es,ep,hdd,pp⟩:=tY hod name rv (s.toks+1)
 cases pp with | mk es' ep' p2 p3 p1 p4=>
 right;exists (wpAny_pure (wpAny_bind (wpAny_bind (wpAny_loadPart I.at_ (wpAny_bind ((looks_clsIn st.K hz5.1).here ?_))))));rw [hz5.2];refine wpAny_pure (a:=some d) (wpAny_bind (wpAny_pure (wpAny_bind ?_)));have D':=Jc (h:=s.heap) (Obj.putName name (hashStr G.w name) (.str name (s.toks+1)) val) D (Obj.isFreed_of_dict p2)
 have fin:ip G L (qP (α:=Unit)) ρ (fun _=>Q) B () { s with heap:=s.heap.update d (Obj.putName name (hashStr G.w name) (.str name (s.toks+1)) val),toks:=s.toks+1+1 }:=
  ⟨B,(),_, .refl B,st.upd (x':= .ns (fun y=>if y=name then some v else m y) (n+1) b _) hd rfl rfl (Heap.SameBut.update ..) D' p4 (s.toks+1+1),rfl,h _⟩
 exists (wpAny_bind (wpAny_askSetting (wpAny_pure (wpAny_bind (wpAny_mkText (wpAny_bind (wpAny_loadPart D ?_)))))));rw [hdd];dsimp only;rw [p1];exact wpAny_updatePart D (wpAny_bind (wpAny_lookBehind D' (by rw [p2];exact pastItsLine_dict (by rw [sizeLine_eq];exact Fq (Nat.le_trans p3 hn) rfl)) (wpAny_pure fin)))
theorem lF {xs:List Value} {kx:List (Str×Value)}:(Code.builtin "type.__call__" ⟨xs,kx⟩).frames=0:=by kernel_rfl
theorem sr {x:Value} {xs:List Value} {kx:List (Str×Value)}:(Code.builtin "type.__call__" ⟨x::xs,kx⟩).weight<=2:=by
 have hg:(Code.builtin "type.__call__" ⟨x::xs,kx⟩).isGuard=false:=by show guardIds.contains "type.__call__" = false;decide
 have hc:(Code.builtin "type.__call__" ⟨x::xs,kx⟩).isCaller=false:=by kernel_rfl
 unfold Code.weight;rw [lF,hg,hc]
 split <;> decide
theorem tQ {x:Value} {xs:List Value} {kx:List (Str×Value)}:(Code.builtin "type.__call__" ⟨x::xs,kx⟩).cUnits<=8:=by
 show 1+3*(Code.builtin "type.__call__" ⟨x::xs,kx⟩).frames<=8;rw [lF];decide
theorem wO {C fI:Addr} {vs:List V} {kv:List (Str×V)} {Q:V->am->Prop} (hm:makesIn G.K C=true) (hi:findIn G.K (.ref C) "__init__" = some (some (.ref fI))) (hf:typeIn G.K (.ref fI)=some (.type "function"))
  (h:∀ A' x d,A'.handled=A.handled->A'.depth<=A.depth+2->A'.units<=A.units+8->σ x=none->σ d=none->x≠d->
   eS G A' (.ref fI) (.ref x::vs) kv ((σ.set d (.ns (fun _=>none) 0 false emptyDict)).set x (.inst C d)) fun v σ'=>v = .none/\Q (.ref x) σ'):eS G A (.ref C) vs kv σ Q:=fun L B ρ s fv xs kx st r1 r2 r3=>by
 obtain rfl:=r1.refE;ac_rfl;obtain ⟨hh,g,dr,t,os⟩:=s;right;refine make_core (makes_of st.K hm) (looks_findIn st.K hi) (fun self=>bind_fn st.K self hf) (.inl rfl) ?_;have st1:=st.alloc (o:=emptyDict) (x:= .ns (fun _=>none) 0 false emptyDict) rfl rfl ⟨rfl, #[],0,fun _=>none,I4 _,⟨rfl,rfl,rfl⟩,rfl,fun _ hm=>by simp at hm,fun _=>rfl,fun _=> .none⟩;have st2:=st1.alloc (o:=instObj C hh.objs.size) (x:= .inst C hh.objs.size) rfl rfl rfl;have sz:(hh.push emptyDict).objs.size=hh.objs.size+1:=Heap.size_push ..
 have st3:St G L B ρ ((σ.set hh.objs.size (.ns (fun _=>none) 0 false emptyDict)).set (hh.objs.size+1) (.inst C hh.objs.size)) ⟨(hh.push emptyDict).push (instObj C hh.objs.size),g,dr,t,os⟩:=by
  have:=st2;rw [sz] at this;exact this
 refine codeAny_mono (h (A.under (.builtin "type.__call__" ⟨.ref C::xs,kx⟩)) (hh.objs.size+1) hh.objs.size rfl (Nat.add_le_add_left sr _) (Nat.add_le_add_left tQ _) (st.fresh (Nat.le_succ _)) (st.fresh (I4 _)) (Nat.succ_ne_self _) L B ρ _ _ _ _ st3 (.ref fI) (.cons (.ref _) r2) r3) fun _ s' z=>?_
 cases z with | mk val v B' σ' e l st' r q=>
 subst e;obtain rfl:=q.1;cases r;exact ⟨rfl,_, .ref (hh.objs.size+1),B',σ',rfl,l,st', .ref _,q.2⟩
end
section
variable {G:aK} {A:Around} {env:Env} {ρ:aX} {σ:am} {L:Addr} {B:PB} {s:Shared} {a b:Int}
theorem VRs.one {v:V} {xs:List Value} (h:VRs B [v] xs):∃ x,xs=[x]/\VR B v x:=by
 cases h with | cons r r'=>cases r';exact ⟨_,rfl,r⟩
theorem VRs.two {v w:V} {xs:List Value} (h:VRs B [v,w] xs):∃ x y,xs=[x,y]/\VR B v x/\VR B w y:=by
 cases h with | cons r r'=>obtain ⟨y,e,r''⟩:=r'.one;subst e;exact ⟨_,_,rfl,r,r''⟩
theorem VRs.three {v w u:V} {xs:List Value} (h:VRs B [v,w,u] xs):∃ x y z,xs=[x,y,z]/\VR B v x/\VR B w y/\VR B u z:=by
 intros B v w u xs
 intro h
 cases h with | cons r r'=>obtain ⟨y,z,e,r''⟩:=r'.two;subst e;exact ⟨_,_,_,rfl,r,r''⟩
theorem WO.two {f:List Value->Sem Value} {v w:V} {Q:V->am->Prop} (k:∀ B s x y,St G L B ρ σ s->VR B v x->VR B w y->cq G A L VR ρ (f [x,y]) Q B s):WO G A L f [v,w] ρ σ Q:=fun B s xs st r=>by
 obtain ⟨x,y,rfl,r1,r2⟩:=r.two;exact k B s x y st r1 r2
theorem WO.refs {f:List Value->Sem Value} {l l':Addr} {Q:V->am->Prop} (k:∀ B s,St G L B ρ σ s->cq G A L VR ρ (f [.ref l, .ref l']) Q B s):WO G A L f [.ref l, .ref l'] ρ σ Q:= .two fun B s x y st r1 r2=>by
 obtain rfl:=r1.refE;obtain rfl:=r2.refE;exact k B s st
theorem WO.refint {f:List Value->Sem Value} {l:Addr} {Q:V->am->Prop} (k:∀ B s t,St G L B ρ σ s->cq G A L VR ρ (f [.ref l, .int a t]) Q B s):WO G A L f [.ref l, .int a] ρ σ Q:= .two fun B s x y st r1 r2=>by
 obtain rfl:=r1.refE;obtain ⟨t,rfl⟩:=r2.intE;exact k B s t st
theorem WO.ints {f:List Value->Sem Value} {Q:V->am->Prop} (k:∀ B s t u,St G L B ρ σ s->cq G A L VR ρ (f [.int a t, .int b u]) Q B s):WO G A L f [.int a, .int b] ρ σ Q:= .two fun B s x y st r1 r2=>by
 obtain ⟨t,rfl⟩:=r1.intE;obtain ⟨u,rfl⟩:=r2.intE;exact k B s t u st
theorem WO.int1 {f:List Value->Sem Value} {Q:V->am->Prop} (k:∀ B s t,St G L B ρ σ s->cq G A L VR ρ (f [.int a t]) Q B s):WO G A L f [.int a] ρ σ Q:=fun B s xs st r=>by
 obtain ⟨x,rfl,r1⟩:=r.one;obtain ⟨t,rfl⟩:=r1.intE;exact k B s t st
theorem Dj.one {f:List Value->Sem Bool} {v:V} {Q:Bool->am->Prop} (k:∀ B s x,St G L B ρ σ s->VR B v x->cq G A L qP ρ (f [x]) Q B s):Dj G A L f [v] ρ σ Q:=fun B s xs st r=>by
 obtain ⟨x,rfl,r1⟩:=r.one;exact k B s x st r1
theorem WC.bi1 {id:String} {v:V} {Q:V->am->Prop} (k:∀ L B ρ s x,St G L B ρ σ s->VR B v x->cq G A L VR ρ (call (.builtin id) [x] []) Q B s):WC G A (.bi id) [v] [] σ Q:=fun L B ρ s fv xs kx st rf r rk=>by
 obtain ⟨x,rfl,r1⟩:=r.one;obtain rfl:=rf.biE;obtain rfl:=rk.nilE;exact k L B ρ s x st r1
theorem WC.bi2 {id:String} {v w:V} {Q:V->am->Prop} (k:∀ L B ρ s x y,St G L B ρ σ s->VR B v x->VR B w y->cq G A L VR ρ (call (.builtin id) [x,y] []) Q B s):WC G A (.bi id) [v,w] [] σ Q:=fun L B ρ s fv xs kx st rf r rk=>by
 obtain ⟨x,y,rfl,r1,r2⟩:=r.two;obtain rfl:=rf.biE;obtain rfl:=rk.nilE;exact k L B ρ s x y st r1 r2
theorem kA {Q:V->am->Prop} (h:Q (.int (a+b)) σ):WO G A L (lH .Add) [.int a, .int b] ρ σ Q:= .ints fun B s t u st=>add_int ⟨B,_,σ, .refl B,st.toks _, .int _ _,h⟩
theorem uw {Q:V->am->Prop} (h:Q (.int (a+b)) σ):WO G A L (yb .Add) [.int a, .int b] ρ σ Q:= .ints fun B s t u st=>iadd_int ⟨B,_,σ, .refl B,st.toks _, .int _ _,h⟩
theorem mL {Q:V->am->Prop} (h:Q (.int (a - b)) σ):WO G A L (lH .Sub) [.int a, .int b] ρ σ Q:= .ints fun B s t u st=>sub_int ⟨B,_,σ, .refl B,st.toks _, .int _ _,h⟩
theorem wU {Q:V->am->Prop} (hm:IntMulOk a b) (h:Q (.int (a*b)) σ):WO G A L (lH .Mult) [.int a, .int b] ρ σ Q:= .ints fun B s t u st=>mul_int ⟨B,_,σ, .refl B,st.toks _, .int _ _,h⟩ hm
theorem kB {Q:V->am->Prop} (hh:A.handled=none) (hb:b≠0) (h:Q (.int (a.fmod b)) σ):WO G A L (lH .Mod) [.int a, .int b] ρ σ Q:= .ints fun B s t u st=>mod_int_or hh (fun e=>absurd e hb) fun _=>⟨B,_,σ, .refl B,st.toks _, .int _ _,h⟩
theorem zu {Q:V->am->Prop} (hh:A.handled=none) (hb:b≠0) (hp:Builtin.divisionGoesByPylong a b=false) (h:Q (.int (a.fdiv b)) σ):WO G A L (lH .FloorDiv) [.int a, .int b] ρ σ Q:= .ints fun B s t u st=>floordiv_int_or hh (fun e=>absurd e hb) (fun _=>⟨B,_,σ, .refl B,st.toks _, .int _ _,h⟩) fun _=> .inl hp
theorem mK {Q:V->am->Prop} (h:Q (.int (-a)) σ):WO G A L (DD .USub) [.int a] ρ σ Q:= .int1 fun B s t st=>neg_int ⟨B,_,σ, .refl B,st.toks _, .int _ _,h⟩
theorem wT {Q:V->am->Prop} (h:Q (.bool (a==b)) σ):WO G A L (dA .Eq) [.int a, .int b] ρ σ Q:= .ints fun B s t u st=>eq_int ⟨B,_,σ, .refl B,st, .bool _,h⟩
theorem pv {Q:V->am->Prop} (h:Q (.bool (a != b)) σ):WO G A L (dA .NotEq) [.int a, .int b] ρ σ Q:= .ints fun B s t u st=>ne_int ⟨B,_,σ, .refl B,st, .bool _,h⟩
theorem ux {Q:V->am->Prop} (h:Q (.bool (decide (a<b))) σ):WO G A L (dA .Lt) [.int a, .int b] ρ σ Q:= .ints fun B s t u st=>lt_int ⟨B,_,σ, .refl B,st, .bool _,h⟩
theorem uu {Q:V->am->Prop} (h:Q (.bool (decide (a > b))) σ):WO G A L (dA .Gt) [.int a, .int b] ρ σ Q:= .ints fun B s t u st=>gt_int ⟨B,_,σ, .refl B,st, .bool _,h⟩
abbrev V.isNone:V->Bool
 | .none=>true
 | _=>false
theorem VR.isNone {v:V} {x:Value} (h:VR B v x):(x==Value.none)=v.isNone:=by cases h <;> rfl
theorem bI {v:V} {Q:V->am->Prop} (h:Q (.bool v.isNone) σ):WO G A L (dA .Is) [v, .none] ρ σ Q:= .two fun B s x y st r1 r2=>by
 obtain rfl:=r2.noneE;exact is_none ⟨B,_,σ, .refl B,st, .bool _,by rw [r1.isNone];exact h⟩
theorem gC {v:V} {Q:V->am->Prop} (h:Q (.bool (!v.isNone)) σ):WO G A L (dA .IsNot) [v, .none] ρ σ Q:= .two fun B s x y st r1 r2=>by
 obtain rfl:=r2.noneE;exact isNot_none ⟨B,_,σ, .refl B,st, .bool _,by rw [r1.isNone];exact h⟩
theorem aV {c:Bool} {Q:Bool->am->Prop} (h:Q c σ):Dj G A L qz [.bool c] ρ σ Q:= .one fun B s x st r1=>by
 obtain rfl:=r1.boolE;exact wpAny_truthy_bool ⟨B,_,σ, .refl B,st,rfl,h⟩
theorem wM {Q:V->am->Prop} (h:Q (.int (if a<0 then -a else a)) σ):WC G A (.bi "abs") [.int a] [] σ Q:= .bi1 fun L B ρ s x st r1=>by
 obtain ⟨t,rfl⟩:=r1.intE;exact call_abs_int fun u tk=>⟨B,_,σ, .refl B,st.toks _, .int _ _,h⟩
variable {l:Addr} {xs:List V} {v:V}
theorem dZ {vs:Array Value} (r:VRs B xs vs.toList):vs.size=xs.length:=by rw [<- Array.length_toList,<- r.length]
theorem mG {Q:V->am->Prop} (hl:bE σ l xs) (hz:xs.length<2 ^ 60) (h:Q (.int xs.length) σ):WC G A (.bi "len") [.ref l] [] σ Q:= .bi1 fun L B ρ s x st r1=>by
 obtain rfl:=r1.refE
 cases st.lst hl with | mk vs ep el re=>
 have e:=dZ re;exact call_len_list (bg el) (by rw [e];exact GA hz rfl) ⟨B,_,σ, .refl B,st.toks _,e▸ .int _ _,h⟩
theorem St.slist (st:St G L B ρ σ s) (h:σ l=some (.list xs)):wA B xs s.heap l:=st.lst (.inl h)
theorem St.updList (st:St G L B ρ σ s) (h:σ l=some (.list xs)) {vs:Array Value} {ep:Nat} (el:IsL s.heap l vs ep) {ys:List V} (f:Array Value->Array Value) (r:VRs B ys (f vs).toList) (t:Nat):
  St G L B ρ (σ.set l (.list ys)) { s with heap:=s.heap.update l (Obj.mapSeq f),toks:=t }:=
 st.upd (x':= .list ys) h rfl rfl (Heap.SameBut.update ..) (el.update f) ⟨f vs,_,rfl,r⟩ t
theorem ig (el:∃ vs ep,IsL s.heap l vs ep):s.TypeIs (.ref l) "list" :=(by obtain ⟨vs,ep,e⟩:=el;exact ⟨_,e,rfl⟩)
theorem iT {T id:String} {a:Addr} {name:Str} {Q:V->List V->am->Prop} (hT:∀ B ρ s,St G L B ρ σ s->∃ o,s.heap.get? a=some o/\o.cls = .type T/\o.dict=none) (pa:PlainAttrs T) (slot:Slot T name id) (hty:typeOf (.builtin id)=pure (.type "method_descriptor"))
  (h:Q (.bi id) [.ref a] σ):WM G A L (.ref a) name ρ σ Q:=fun B s ov pl st r=>by
 obtain rfl:=r.refE;ac_rfl;obtain ⟨o,hz0⟩:=hT B ρ s st;right;exact getMethod_builtin (T:=T) ⟨o,hz0.1,hz0.2.1⟩ pa slot hty (fun b e=>by (injection e with zz;subst zz);exact ⟨o,hz0.1,hz0.2.2⟩) ⟨B,(.bi id,[.ref a]),σ, .refl B,st,⟨.bi id, .cons (.ref a) .nil⟩,h⟩
theorem nQ (h:bE σ l xs):∀ B ρ s,St G L B ρ σ s->∃ o,s.heap.get? l=some o/\o.cls = .type "list" /\o.dict=none:=fun B ρ s st=>by
 cases st.lst h with | mk vs ep e _=>exact ⟨_,e,rfl,rfl⟩
theorem cz {Q:V->List V->am->Prop} (hl:bE σ l xs) (h:Q (.bi "list.append") [.ref l] σ):WM G A L (.ref l) "append" ρ σ Q:=iT (nQ hl) F.plainAttrs_list F.slot_list_append F.type_list_append h
theorem iU {Q:V->List V->am->Prop} (hl:bE σ l xs) (h:Q (.bi "list.pop") [.ref l] σ):WM G A L (.ref l) "pop" ρ σ Q:=iT (nQ hl) F.plainAttrs_list F.slot_list_pop F.type_list_pop h
theorem tj {Q:V->List V->am->Prop} (hl:bE σ l xs) (h:Q (.bi "list.reverse") [.ref l] σ):WM G A L (.ref l) "reverse" ρ σ Q:=iT (nQ hl) F.plainAttrs_list F.slot_list_reverse F.type_list_reverse h
theorem co {Q:V->am->Prop} (hl:σ l=some (.list xs)) (hz:xs.length<2 ^ 20) (h:Q .none (σ.set l (.list (xs++[v])))):WC G A (.bi "list.append") [.ref l,v] [] σ Q:= .bi2 fun L B ρ s x y st r1 r2=>by
 obtain rfl:=r1.refE
 cases st.slist hl with | mk vs ep el re=>
 have e:=dZ re;refine call_meets F.slot_list_append (ig ⟨_,_,el⟩) F.entry_list_append (F.args_list_append_2 _ _) (list_append l vs ep y (by rw [e,sizeLine_eq];exact rF hz rfl)) ⟨el,?_⟩;exact ⟨B, .none,_, .refl B,st.updList hl el _ (by rw [Array.toList_push];exact re.append (.cons r2 .nil)) _, .none,h⟩
theorem iN {Q:V->am->Prop} (hl:σ l=some (.list (xs++[v]))) (hz:xs.length<2 ^ 20) (h:Q v (σ.set l (.list xs))):WC G A (.bi "list.pop") [.ref l] [] σ Q:= .bi1 fun L B ρ s x st r1=>by
 obtain rfl:=r1.refE;ac_rfl
 cases st.slist hl with | mk vs ep el re=>
 have e:=dZ re;obtain ⟨ys,zs,hz1⟩:=re.split;obtain ⟨z,rfl,rz⟩:=hz1.2.2.one;right
 have e1:vs.size - 1=ys.length:=by rw [e,IV,hz1.2.1.length];rfl
 have hy:vs[vs.size - 1]?=some z:=by rw [e1,<- Array.getElem?_toList,hz1.1];simp
 refine call_meets F.slot_list_pop (ig ⟨_,_,el⟩) F.entry_list_pop (F.args_list_pop_1 _) (MeetsSeq.list_pop_last l vs ep z hy (by rw [e,sizeLine_eq,IV];simp;exact rF hz rfl)) ⟨el,?_⟩;refine ⟨B,v,_, .refl B,st.updList (ys:=xs) hl el _ ?_ _,rz,h⟩
 have e2:(vs.eraseIdxIfInBounds (vs.size - 1)).toList=ys:=by
  have hp:0<vs.size:=by rw [e,IV];simp
  rw [Array.eraseIdxIfInBounds,dif_pos (Nat.sub_one_lt_of_lt hp),Array.toList_eraseIdx,e1,hz1.1,List.eraseIdx_append_of_length_le (I4 _),Nat.sub_self];exact List.append_nil _
 rw [e2];exact hz1.2.1
theorem td {Q:V->am->Prop} (hl:σ l=some (.list xs)) (hz:xs.length<2 ^ 20) (h:Q .none (σ.set l (.list xs.reverse))):WC G A (.bi "list.reverse") [.ref l] [] σ Q:= .bi1 fun L B ρ s x st r1=>by
 obtain rfl:=r1.refE
 cases st.slist hl with | mk vs ep el re=>
 have e:=dZ re;refine call_meets F.slot_list_reverse (ig ⟨_,_,el⟩) F.entry_list_reverse (F.args_list_reverse_1 _) (AutoSeq1.list_reverse_list_0 l vs ep (by rw [e,sizeLine_eq];exact rF hz rfl)) ⟨el,?_⟩;exact ⟨B, .none,_, .refl B,st.updList hl el _ (by rw [Array.toList_reverse];exact re.reverse) _, .none,h⟩
end
section
variable {G:aK} {A:Around} {env:Env} {ρ:aX} {σ:am} {L:Addr} {B:PB} {s:Shared} {a b:Int} {l:Addr} {xs:List V} {v:V}
abbrev aB (ns:List Int):List V:=ns.map V.int
abbrev CI (p:Int×Int):V:= .tup [.int p.1, .int p.2]
abbrev c6 (ps:List (Int×Int)):List V:=ps.map CI
@[simp] theorem a0 (ns:List Int):(aB ns).length=ns.length:=by simp [aB]
abbrev uU:List Value->Sem Value
 | [o,i]=>getItem o i
 | _=>unsupported ""
abbrev PG (G:aK) (o:V) (σ:am):Prop:=∀ L B ρ s ov,St G L B ρ σ s->VR B o ov->∃ T id,s.TypeIs ov T/\typeLookup (.type T) "__getitem__" = pure (some (.builtin id))
theorem PG.list (h:bE σ l xs):PG G (.ref l) σ:=fun L B ρ s ov st r=>by
 obtain rfl:=r.refE
 cases st.lst h with | mk vs ep e _=>exact ⟨"list",_,⟨_,e,rfl⟩,list_getitem_lookup⟩
abbrev zd (e:Expr):Prop:=∀ o i,subscripted e false o i=operate [o,i] (getItem o i)
theorem tU {v:V} {x:Value} {T:String} (r:VR B v x) (hT:s.TypeIs x T):x≠ .builtin "sys.modules#opaque" :=fun e=>by
 rw [e] at hT;exact nomatch hT
noncomputable abbrev Fm (G:aK) (A:Around) (L:Addr) (ov:V) (ρ:aX) (Q:V->am->Prop):V->am->Prop:=fun iv σ=>PG G ov σ/\WO G A L uU [ov,iv] ρ σ Q
noncomputable abbrev Gz (G:aK) (A:Around) (env:Env) (i:Expr) (ρ:aX) (Q:V->am->Prop):V->am->Prop:=fun ov σ=>WE G A env i ρ σ (Fm G A env.locals ov ρ Q)
theorem aG {o i:Expr} {pos:Pos} {Q:V->am->Prop} (h:WE G A env o ρ σ (Gz G A env i ρ Q)) (hs:zd i:=by intro _ _;rfl):WE G A env (.Subscript o i pos) ρ σ Q:=fun B s st=>by
 dsimp only [eval_Subscript];refine (h B s st).bind fun B1 s1 x v σ1 l₁ st1 r1 h=>(cq.holding (h B1 s1 st1)).bind fun B2 s2 y w σ2 l₂ st2 r2 h=> .standAt ?_;ac_rfl;obtain ⟨T,id,hz0⟩:=h.1 _ _ _ _ _ st2 (r1.mono l₂);right;rw [getitemInPython_of_ne (tU (r1.mono l₂) hz0.1)];exists (wpAny_bind (wpAny_specialOf hz0.1 hz0.2 (wpAny_pure ?_)));rw [hs];exact cq.bind (cq.operate (h.2 B2 s2 [x,y] st2 (.cons (r1.mono l₂) (.cons r2 .nil)))) fun B3 s3 z u σ3 l3 st3 r3 q=>wpAny_bind (wpAny_letTemporaryGo (cq.pure st3 r3 q))
theorem bq {Q:V->am->Prop} (hl:bE σ l xs) (h0:0<=a) (hz:xs.length<2 ^ 60) (hx:xs[a.toNat]?=some v) (h:Q v σ):WO G A L uU [.ref l, .int a] ρ σ Q:= .refint fun B s t st=>by
 ac_rfl
 cases st.lst hl with | mk vs ep el re=>
 obtain ⟨z,hz1⟩:=re.get hx;right
 have:=(List.getElem?_eq_some_iff.mp hx).1
 exact wpAny_getItem_list (bg el) h0 (by lia) (by rw [<- Array.getElem?_toList];exact hz1.1) ⟨B,v,σ, .refl B,st,hz1.2,h⟩
theorem eI {Q:V->am->Prop} (hl:bE σ l (xs++[v])) (hz:xs.length<2 ^ 60) (h:Q v σ):WO G A L uU [.ref l, .int (-1)] ρ σ Q:= .refint fun B s t st=>by
 ac_rfl
 cases st.lst hl with | mk vs ep el re=>
 have e:vs.size=xs.length+1:=(dZ re).trans (IV ..);obtain ⟨z,hz2⟩:=re.get (i:=xs.length) (v:=v) List.getElem?_concat_length;right;exact wpAny_getItem_list_neg (bg el) (E5 rfl) (by lia) (Int.natCast_nonneg _) (by rw [show (-1+(vs.size:Int)).toNat=xs.length by lia,<- Array.getElem?_toList];exact hz2.1) ⟨B,v,σ, .refl B,st,hz2.2,h⟩
abbrev wV (G:aK) (A:Around) (env:Env) (e:Option Expr) (ρ:aX) (σ:am) (Q:Option Int->am->Prop):Prop:=match e with
 | none=>Q none σ
 | some e=>WE G A env e ρ σ fun v σ'=>match v with | .int i=>Q (some i) σ' | _=>False
theorem A6 {e:Option Expr} {Q:Option Int->am->Prop} (h:wV G A env e ρ σ Q) (st:St G env.locals B ρ σ s):
  cq G A env.locals (fun _ y x=>IsPart x y) ρ (evalPart e env) Q B s:=by
 cases e with
 | none=>exact .pure st IsPart.none h
 | some e=>
  exact cq.to (h B s st) fun B' s' x v σ' l st' r q=>by
   cases v with
   | int i=>obtain ⟨t,rfl⟩:=r.intE;exact ⟨B',some i,σ',l,st', .int i t,q⟩
   | _=>exact q.elim
abbrev vN (xs:List V) (lo hi:Option Int):List V:=
 (xs.drop (lo.elim 0 (clipAt xs.length))).take (hi.elim xs.length (clipAt xs.length) - lo.elim 0 (clipAt xs.length))
inductive wI (Q:V->am->Prop) (a b:Option Int) (v:V) (σ:am):Prop
 | mk (l:Addr) (xs:List V) (e:v = .ref l) (hl:bE σ l xs) (hz:xs.length<2 ^ 20) (q:∀ r,σ r=none->Q (.ref r) (σ.set r (.list (vN xs a b)))):wI Q a b v σ
theorem mH {o:Expr} {lo hi:Option Expr} {p pos:Pos} {Q:V->am->Prop}
  (h:WE G A env o ρ σ fun ov σ1=>wV G A env lo ρ σ1 fun a σ2=>wV G A env hi ρ σ2 fun b σ3=>wI Q a b ov σ3)
  (ht:∀ x r,letTemporaryGo o x r=pure ():=by intro _ _;rfl):WE G A env (.Subscript o (.Slice lo hi none p) pos) ρ σ Q:=fun B s st=>
 wpAny_Subscript_list_slice ((h B s st).to fun B1 s1 x v σ1 l₁ st1 r1 h=>(A6 h st1).to fun B2 s2 vl a σ2 l₂ st2 pa h=>(A6 h st2).to fun B3 s3 vu b σ3 l3 st3 pb h=>by
  cases h with | mk l xs e hl hz q=>
  subst e
  cases st3.lst hl with | mk vs ep el re=>
  have e:=dZ re
  have st5:=(st3.push { cls:= .type "slice",data:= .fields #[vl,vu, .none] }).alloc (o:={ cls:= .type "list",data:= .seq (slicePick vs a b none) }) (x:= .list (vN xs a b)) rfl rfl ⟨_,0,rfl,by
   rw [slicePick_plain,e]
   exact (re.drop _).take _⟩
  rw [show ({ s3 with heap:=s3.heap.push { cls:= .type "slice",data:= .fields #[vl,vu, .none] } }:Shared).heap.objs.size=s3.heap.objs.size+1 from Heap.size_push ..] at st5
  exact ⟨l,vs,a,b,r1.refE,bg el,by rw [e,sizeLine_eq];exact rF hz rfl,pa,pb,B3,_,_,(l₁.trans l₂).trans l3,st5, .ref _,q _ (st3.fresh (Nat.le_succ _))⟩) ht
theorem iX {Q:Bool->am->Prop} (hl:bE σ l xs) (hz:xs.length<2 ^ 60) (h:Q (!xs.isEmpty) σ):Dj G A L qz [.ref l] ρ σ Q:= .one fun B s x st r1=>by
 obtain rfl:=r1.refE
 cases st.lst hl with | mk vs ep el re=>
 have e:=dZ re;refine wpAny_truthy_list (bg el) (by lia) ⟨B,_,σ, .refl B,st.toks _,rfl,?_⟩
 rw [show vs.isEmpty=xs.isEmpty by
  rw [Array.isEmpty,e]
  cases xs <;> rfl]
 exact h
theorem rD {l':Addr} {ys:List V} {Q:V->am->Prop} (h1:bE σ l xs) (h2:bE σ l' ys) (hz:xs.length+ys.length<2 ^ 20) (h:∀ r,σ r=none->Q (.ref r) (σ.set r (.list (xs++ys)))):WO G A L (lH .Add) [.ref l, .ref l'] ρ σ Q:= .refs fun B s st=>by
 cases st.lst h1 with | mk vs ep el re=>cases st.lst h2 with | mk vs' ep' el' re'=>
 exact PySem.P.add_list (l:=l) (b:=l') el el' ⟨B,_,_, .refl B,st.alloc (x:= .list (xs++ys)) rfl rfl ⟨_,0,rfl,by rw [Array.toList_append];exact re.append re'⟩, .ref _,h _ (st.fresh (I4 _))⟩ (by rw [dZ re,dZ re',sizeLine_eq];exact rF hz rfl)
end
section
variable {G:aK} {A:Around} {env:Env} {ρ:aX} {σ:am} {L:Addr} {B:PB} {s:Shared}
abbrev qa (G:aK) (A:Around) (env:Env):List Expr->aX->am->(Bool->am->Prop)->Prop
 | [],ρ,σ,Q=>Q true σ
 | c::cs,ρ,σ,Q=>WT G A env c ρ σ fun b σ₁=>if b then qa G A env cs ρ σ₁ Q else Q false σ₁
theorem vI {f:Expr->Bool->Sem (ForInStep Bool)} (hf:∀ c b,f c b=if b=true then (isTrue c env (eval c env)>>=fun ok=>pure (ForInStep.yield ok)) else pure (ForInStep.yield b)) (ifs:List Expr):forIn ifs false f=pure false:=by
 induction ifs with
 | nil=>rfl
 | cons c cs ih=>rw [List.forIn_cons,hf];exact ih
theorem FN {f:Expr->Bool->Sem (ForInStep Bool)} (hf:∀ c b,f c b=if b=true then (isTrue c env (eval c env)>>=fun ok=>pure (ForInStep.yield ok)) else pure (ForInStep.yield b))
  (ifs:List Expr):∀ {σ:am} {Q:Bool->am->Prop} {B:PB} {s:Shared},qa G A env ifs ρ σ Q->St G env.locals B ρ σ s->cq G A env.locals qP ρ (forIn ifs true f) Q B s:=by
 induction ifs with
 | nil=>exact fun h st=> .pure st rfl h
 | cons c cs ih=>
  intro σ Q B s h st;rw [List.forIn_cons,hf,if_pos rfl];exists (wpAny_bind ((h B s st).to fun B1 s1 b b' σ1 l₁ st1 e h1=>wpAny_pure ?_));cases e
  cases b with
  | true=>exact (ih h1 st1).le l₁
  | false=>
   dsimp only;rw [vI hf];exact wpAny_pure ⟨B1,false,σ1,l₁,st1,rfl,h1⟩
theorem v5 (elt target iter:Expr) (ifs:List Expr) (scope:Scope) (pos:Pos) (it acc:Value) (env:Env):
  compTurn (.ListComp elt [⟨target,iter,ifs,0⟩] scope pos) 0 it acc env=(do
   standAt iter.pos
   match <- pyNext it with
   | none=>pure (.done .next)
   | some v=>
    letOwnedTupleGo target it v
    assign target env v
    let mut ok:=true
    for c in ifs do
     if ok then ok <- isTrue c env (eval c env)
    if ok then
     (do let _ <- PySem.call (.builtin "list.append") [acc,<- eval elt env])
    again (.compLoop (.ListComp elt [⟨target,iter,ifs,0⟩] scope pos) 0 it acc env)):=by rfl
theorem v4 (kx vx target iter:Expr) (ifs:List Expr) (scope:Scope) (pos:Pos) (it:Value) (d:Addr) (env:Env):
  compTurn (.DictComp kx vx [⟨target,iter,ifs,0⟩] scope pos) 0 it (.ref d) env=(do
   standAt iter.pos
   match <- pyNext it with
   | none=>pure (.done .next)
   | some v=>
    letOwnedTupleGo target it v
    assign target env v
    let mut ok:=true
    for c in ifs do
     if ok then ok <- isTrue c env (eval c env)
    if ok then
     (do
      let kv <- eval kx env
      let vv <- holding [kv] (eval vx env)
      standAt { kx.pos with endLine:=vx.pos.endLine,endCol:=vx.pos.endCol }
      holding [kv,vv] (dictSet d kv vv))
    again (.compLoop (.DictComp kx vx [⟨target,iter,ifs,0⟩] scope pos) 0 it (.ref d) env)):=by rfl
abbrev gO (G:aK) (A:Around) (env:Env) (C:am->Prop) (tgt:Expr) (ifs:List Expr) (emit:aX->am->(am->Prop)->Prop) (Q:am->Prop):List V->aX->am->Prop
 | [],ρ,σ=>Q σ
 | x::xs,ρ,σ=>lV G A env tgt x ρ σ fun ρ₁ σ₁=>qa G A env ifs ρ₁ σ₁ fun b σ₂=>
   if b then emit ρ₁ σ₂ fun σ₃=>C σ₃/\gO G A env C tgt ifs emit Q xs ρ₁ σ₃ else C σ₂/\gO G A env C tgt ifs emit Q xs ρ₁ σ₂
inductive AI (G:aK) (A:Around) (env:Env) (ifs:List Expr) (emit:Sem Unit) (I:Nat->Shared->Prop) (n:Nat) (s₂:Shared):Prop
 | mk (B:PB) (ρ:aX) (σ:am) (Qi:Bool->am->Prop) (st:St G env.locals B ρ σ s₂) (w:qa G A env ifs ρ σ Qi)
   (k:∀ b B' σ' s',B.le B'->Qi b σ'->St G env.locals B' ρ σ' s'->if b then wpAny (model G.prog G.w) A emit (fun _ s''=>∃ m,m<n/\I m s'') jH s' else ∃ m,m<n/\I m s'):AI G A env ifs emit I n s₂
theorem m7 {c:Code} (hz:c.frames=0) (hw:c.weight=c.frames) (hu:c.cUnits=3*c.frames):A.under c=A:=Around.under_of_weight (hw.trans hz) (by rw [hu,hz])
theorem qg {R:Result->Shared->Prop} {e:Expr} {target:Expr} {ifs:List Expr} {it acc:Value} {emit:Sem Unit} {p:Pos}
  (hfr:(Code.compLoop e 0 it acc env).isFrame=false)
  (ht:compTurn e 0 it acc env=(do
   standAt p
   match <- pyNext it with
   | none=>pure (.done .next)
   | some v=>
    letOwnedTupleGo target it v
    assign target env v
    let mut ok:=true
    for c in ifs do
     if ok then ok <- isTrue c env (eval c env)
    if ok then emit
    again (.compLoop e 0 it acc env)))
  (I:Nat->Shared->Prop)
  (turn:∀ n s,I n s->pk (model G.prog G.w) A target it (fun r s1=>match r with
   | none=>R (.ok .next) s1
   | some v=>wpAny (model G.prog G.w) A (assign target env v) (fun _ s2=>AI G A env ifs emit I n s2) jH s1) s)
  (n:Nat) (h:I n s):codeAny (model G.prog G.w) A (.compLoop e 0 it acc env) R s:=by
 revert G A env s R e target ifs it acc emit p I n
 injections G A env s R e target ifs
 injections it acc emit p
 intro hfr ht
 injections I
 intro turn
 injections n
 intro h;refine codeAny_loop rfl I (fun n s hI=>?_) n h
 have hz:(Code.compLoop e 0 it acc env).frames=0:=by
  show (if (Code.compLoop e 0 it acc env).isFrame=true then 1 else 0)=0
  rw [hfr];rfl
 rw [m7 hz rfl rfl]
 show wpAny _ _ (if (Code.compLoop e 0 it acc env).isFrame then _ else (compTurn e 0 it acc env).onRaise _) _ _ s
 rw [hfr,if_neg Jg,ht];refine wpAny_onRaise (wpAny_bind (wpAny_standAt (wpAny_bind (wpAny_mono (turn n s hI) (fun r s1 h1=>?_) fun _ _ e=>False.elim e))))
 cases r with
 | none=>exact wpAny_pure h1
 | some v=>
  exists (wpAny_mono h1 (fun _ s2 h2=>wpAny_bind (wpAny_mono h2 (fun _ s3 h3=>?_) fun _ _ e=>False.elim e)) fun _ _ e=>False.elim e)
  cases h3 with | mk B ρ σ Qi st hw hk=>
  exists ((FN (fun c b=>by cases b <;> rfl) ifs hw st).to fun B' s4 b b' σ' l st' e q=>?_)
  cases e;have k:=hk b B' σ' s4 l q st'
  cases b with
  | true=>exact wpAny_bind (wpAny_mono k (fun _ s5 h5=>wpAny_pure ⟨rfl,h5⟩) fun _ _ e=>False.elim e)
  | false=>exact wpAny_pure ⟨rfl,k⟩
abbrev iZ (cells:List (Str×Addr)):List (Str×NameKind)->List (Str×Addr)->Option (List (Str×Addr))
 | [],acc=>some acc
 | (n,k)::r,acc=>if (k == .free)=true then (match cells.lookup n with | some c=>iZ cells r ((n,c)::acc) | none=>none) else iZ cells r acc
theorem vp (f:Str×NameKind->List (Str×Addr)->Sem (ForInStep (List (Str×Addr)))) (hf:∀ n k acc,f (n,k) acc=if (k==NameKind.free)=true then (cellOf env n>>=fun c=>pure (.yield ((n,c)::acc))) else pure (.yield acc))
  (names:List (Str×NameKind)):∀ (acc cl:List (Str×Addr)),iZ env.cells names acc=some cl->forIn names acc f=pure cl:=by
 induction names with
 | nil=>intro acc cl h;obtain rfl:=Option.some.inj h;rfl
 | cons x r ih=>
  intro acc cl h;rw [List.forIn_cons,hf]
  change (if (x.2 == .free)=true then (match env.cells.lookup x.1 with | some c=>iZ env.cells r ((x.1,c)::acc) | none=>none) else iZ env.cells r acc)=some cl at h
  by_cases hk:(x.2==NameKind.free)=true
  ·rw [if_pos hk] at h ⊢;unfold cellOf
   cases hc:env.cells.lookup x.1 with
   | none=>rw [hc] at h;injection h
   | some c=>rw [hc] at h;exact ih _ _ h
  ·rw [if_neg hk] at h ⊢;exact ih _ _ h
theorem pC {scope:Scope} {cl:List (Str×Addr)} (h:iZ env.cells scope.names []=some cl):closureFor scope env=pure cl:=by
 show (forIn scope.names [] _>>=fun cs=>pure cs)=pure cl;rw [vp _ (fun n k acc=>rfl) scope.names [] cl h]
 rfl
inductive s0 (G:aK) (L:Addr) (ρ:aX) (Qe:am->Prop) (B:PB) (CL:Addr) (r:Result) (s':Shared):Prop
 | mk (f:Flow) (B':PB) (σ':am) (e:r = .ok f) (l:B.le B') (st:St G L B' ρ σ' s') (hB:B'.o CL=none) (hσ:σ' CL=none) (hL:CL≠L) (m:Str->Option Value) (hn:s'.heap.Ns CL m) (q:Qe σ'):s0 G L ρ Qe B CL r s'
inductive wv (G:aK) (CL:Addr) (Qe:am->Prop) (B:PB) (r:Result) (s':Shared):Prop
 | mk (B':PB) (ρ':aX) (σ':am) (e:r = .ok .next) (l:B.le B') (st:St G CL B' ρ' σ' s') (q:Qe σ'):wv G CL Qe B r s'
theorem ug {e:Expr} {tgt:Expr} {ifs:List Expr} {cenv:Env} {acc:Value} {emit:Sem Unit} {wemit:aX->am->(am->Prop)->Prop} {p:Pos} {Qe:am->Prop} {it:Addr} {os:List (Addr×Obj)} {C:am->Prop} {xs:List V}
  (hfr:(Code.compLoop e 0 (.ref it) acc cenv).isFrame=false)
  (ht:compTurn e 0 (.ref it) acc cenv=(do
   standAt p
   match <- pyNext (.ref it) with
   | none=>pure (.done .next)
   | some v=>
    letOwnedTupleGo tgt (.ref it) v
    assign tgt cenv v
    let mut ok:=true
    for c in ifs do
     if ok then ok <- isTrue c cenv (eval c cenv)
    if ok then emit
    again (.compLoop e 0 (.ref it) acc cenv)))
  (hemit:∀ B ρ σ s1 K,St G cenv.locals B ρ σ s1->wemit ρ σ K->cq G A cenv.locals (qP (α:=Unit)) ρ emit (fun _=>K) B s1)
  (st:St G cenv.locals B ρ σ s) (hF:da os cenv.locals B σ s) (hS:gM G A tgt it C xs os) (hC:C σ) (h:gO G A cenv C tgt ifs wemit Qe xs ρ σ):
  codeAny (model G.prog G.w) A (.compLoop e 0 (.ref it) acc cenv) (wv G cenv.locals Qe B) s:=by
 intros G A ρ σ B s e tgt ifs cenv acc emit wemit p Qe it os C xs
 intro hfr ht hemit st hF hS hC h;refine qg hfr ht (wz G A cenv C tgt it B (gO G A cenv C tgt ifs wemit Qe)) (fun n s1 z=>?_) xs.length ⟨B,ρ,σ,xs,os, .refl B,st,hF,hC,hS,rfl,h⟩
 cases z with | mk B' ρ' σ' xs' os' l st hF hC hS e h=>
 subst e
 cases xs' with
 | nil=>exact hS _ _ _ _ _ _ st hF hC fun s' st'=>⟨B',ρ',σ',rfl,l,st',h⟩
 | cons x xs=>
  refine hS _ _ _ _ _ _ st hF hC fun B1 s1 val os1 l₁ st1 hF1 r1 hS1=>?_
  cases st1.loan hF1 with | mk Bf lf stf back=>
  refine (h _ s1 val stf (r1.mono lf)).to fun B2 s2 _ _ ρ2 σ2 l₂ st2 _ h=>⟨B2,ρ2,σ2,_,st2,h,fun b B3 σ3 s3 l3 q st3=>?_⟩
  have fin:∀ B3 σ3 s3,B2.le B3->St G cenv.locals B3 ρ2 σ3 s3->C σ3/\gO G A cenv C tgt ifs wemit Qe xs ρ2 σ3->∃ m,m<(x::xs).length/\wz G A cenv C tgt it B (gO G A cenv C tgt ifs wemit Qe) m s3:=fun B3 σ3 s3 l3 st3 hk=>by
   cases back (l₂.trans l3) st3 with | mk Bt lt _ _ stt hFt=>exact ⟨xs.length,Nat.lt_succ_self _,Bt,ρ2,σ3,xs,os1,(l.trans l₁).trans lt,stt,hFt,hk.1,hS1,rfl,hk.2⟩
  cases b with
  | true=>exact (hemit B3 ρ2 σ3 s3 _ st3 q).to fun B4 s4 _ _ σ4 l4 st4 _ hk=>fin B4 σ4 s4 (l3.trans l4) st4 hk
  | false=>exact fin B3 σ3 s3 l3 st3 q
theorem lP {e:Expr} {tgt iter:Expr} {ifs:List Expr} {scope:Scope} {cl:List (Str×Addr)} {acc:Addr} {emit:Sem Unit} {wemit:aX->am->(am->Prop)->Prop} {p:Pos} {Qe:am->Prop} {it:Addr} {os:List (Addr×Obj)} {C:am->Prop} {xs:List V}
  (hclause:clausesOf e=[⟨tgt,iter,ifs,0⟩]) (hfr:∀ it c,(Code.compLoop e 0 it (.ref acc) c).isFrame=false) (hfr0:∀ it c,(Code.compStart e 0 it (.ref acc) c).isFrame=false)
  (ht:compTurn e 0 (.ref it) (.ref acc) (compEnvC scope cl s.heap.objs.size env)=(do
   standAt p
   match <- pyNext (.ref it) with
   | none=>pure (.done .next)
   | some v=>
    letOwnedTupleGo tgt (.ref it) v
    assign tgt (compEnvC scope cl s.heap.objs.size env) v
    let mut ok:=true
    for c in ifs do
     if ok then ok <- isTrue c (compEnvC scope cl s.heap.objs.size env) (eval c (compEnvC scope cl s.heap.objs.size env))
    if ok then emit
    again (.compLoop e 0 (.ref it) (.ref acc) (compEnvC scope cl s.heap.objs.size env))))
  (hemit:∀ B ρ σ s1 K,St G s.heap.objs.size B ρ σ s1->wemit ρ σ K->cq G A s.heap.objs.size (qP (α:=Unit)) ρ emit (fun _=>K) B s1)
  (hcell:∀ x∈scope.names,x.2≠ .cell) (hkind:scope.kind = .function)
  (st:St G env.locals B ρ σ s) (hF:da os env.locals B σ s) (hS:gM G A tgt it C xs os) (hself:zg G A it os) (hC:C σ)
  (h:gO G A (compEnvC scope cl s.heap.objs.size env) C tgt ifs wemit Qe xs (fun _=>none) σ):
  wpAny (model G.prog G.w) A (newFunctionEnv scope env.globals cl [] env.qual none .none (some env)) (fun cenv s4=>cenv.locals=s.heap.objs.size/\
   codeAny (model G.prog G.w) A (.compStart e 0 (.ref it) (.ref acc) { cenv with scope:=relabel scope env }) (s0 G env.locals ρ Qe B s.heap.objs.size) s4) jH s:=by
 intros G A env ρ σ B s e tgt iter ifs scope cl acc emit wemit p Qe it os C xs
 intro hclause hfr hfr0 ht hemit hcell hkind st hF hS hself hC h;refine wpAny_newFunctionEnv hcell (fun _ hm=>nomatch hm) (fun h' hn hs=>⟨rfl,?_⟩) hkind
 cases st.enter (cls:= .type "dict") with | mk oL hq hLn hoL st1=>
 have lL:=PB.le_set (B:=B) (some oL) hLn;have st2:St G s.heap.objs.size (B.set env.locals (some oL)) (fun _=>none) σ { s with heap:=h',toks:=s.toks }:=st1.reloc hn (fun _=> .none) hs s.toks;have hne:∀ p∈os,p.1≠s.heap.objs.size:=fun p m=>Nat.ne_of_lt (I9 (hF.2 p m).2.2.2.1)
 have hF2:da os s.heap.objs.size (B.set env.locals (some oL)) σ { s with heap:=h',toks:=s.toks }:=
  ⟨hF.1,fun p m=>⟨(PB.set_ne _ _ (hF.2 p m).2.2.1).trans (hF.2 p m).1,(hF.2 p m).2.1,hne p m,(hs.2 _ (hne p m)).trans (I8 _ (hF.2 p m).2.2.2.1),(hF.2 p m).2.2.2.2⟩⟩
 have go':codeAny (model G.prog G.w) A (.compLoop e 0 (.ref it) (.ref acc) (compEnvC scope cl s.heap.objs.size env)) (s0 G env.locals ρ Qe B s.heap.objs.size) { s with heap:=h',toks:=s.toks }:=
  codeAny_mono (ug (cenv:=compEnvC scope cl s.heap.objs.size env) (hfr _ _) ht hemit st2 hF2 hS hC h) fun r s' z=>by
   ac_rfl
   cases z with | mk B' ρ' σ' e l st' q=>
   have t:=st.leave hq hoL l st';obtain ⟨m,hz0⟩:=st'.loc;right;exact ⟨_,_,σ',e,t.2.1,t.1,(PB.set_ne _ _ (Nat.ne_of_gt st.Llt)).trans st'.LB,st'.Lσ,Nat.ne_of_gt st.Llt,m,hz0.1,q⟩
 clear ht hemit;show codeAny _ _ (.compStart e 0 (.ref it) (.ref acc) (compEnvC scope cl s.heap.objs.size env)) _ _;refine codeAny_of_tree ?_
 have hz:(Code.compStart e 0 (.ref it) (.ref acc) (compEnvC scope cl s.heap.objs.size env)).frames=0:=by
  show (if (Code.compStart e 0 (.ref it) (.ref acc) (compEnvC scope cl s.heap.objs.size env)).isFrame=true then 1 else 0)=0
  rw [hfr0];rfl
 rw [m7 hz rfl rfl]
 show wpAny _ _ (if (Code.compStart e 0 (.ref it) (.ref acc) (compEnvC scope cl s.heap.objs.size env)).isFrame=true then _ else (compStart e 0 (.ref it) (.ref acc) (compEnvC scope cl s.heap.objs.size env)).onRaise _) _ _ _
 rw [hfr0,if_neg Jg];unfold compStart;rw [hclause];refine wpAny_onRaise (wpAny_bind (wpAny_askSetting (wpAny_ite ?_)))
 split
 ·exact wpAny_bind (wpAny_pure (wpAny_pure (And.intro rfl go')))
 ·exact wpAny_bind (wpAny_rule (wpAny_bind (wpAny_standAt (wpAny_bind (wpAny_mono (hself _ _ (fun p m=>(hF2.2 p m).2.2.2.1) (wpAny_pure (And.intro rfl go'))) (fun _ _ h=>h) fun _ _ e=>False.elim e)))))
theorem da.push {os:List (Addr×Obj)} (hF:da os L B σ s) (x:bL) (o:Obj):da os L B (σ.set s.heap.objs.size x) { s with heap:=s.heap.push o }:=⟨hF.1,fun p m=>
 ⟨(hF.2 p m).1,(am.set_ne _ _ (Nat.ne_of_lt (I9 (hF.2 p m).2.2.2.1))).trans (hF.2 p m).2.1,(hF.2 p m).2.2.1,I8 _ (hF.2 p m).2.2.2.1,(hF.2 p m).2.2.2.2⟩⟩
abbrev uG (G:aK) (A:Around) (cenv:Env) (elt:Expr) (acc:Addr) (ρ:aX) (σ:am) (K:am->Prop):Prop:=
 WE G A cenv elt ρ σ fun v σ'=>∃ l,σ' acc=some (.list l)/\l.length<2 ^ 20/\K (σ'.set acc (.list (l++[v])))
theorem xf {cenv:Env} {elt:Expr} {acc:Addr} {K:am->Prop} (st:St G cenv.locals B ρ σ s) (h:uG G A cenv elt acc ρ σ K):
  cq G A cenv.locals (qP (α:=Unit)) ρ (do let _ <- PySem.call (.builtin "list.append") [.ref acc,<- eval elt cenv]) (fun _=>K) B s:=
 (h B s st).bind fun B1 s1 x v σ1 l₁ st1 r1 q=>by
  ac_rfl;obtain ⟨l,hz0⟩:=q;right;exact ((co (G:=G) (A:=A) (v:=v) (Q:=fun _ σ'=>K σ') hz0.1 hz0.2.1 hz0.2.2) _ _ _ _ _ _ _ st1 (.bi _) (.cons (.ref _) (.cons r1 .nil)) .nil).bind fun B2 s2 x v σ2 l₂ st2 r2 q=> .pure (y:=()) st2 rfl q
theorem nV (st:St G L B ρ σ s) {C:Addr} (hB:B.o C=none) (hσ:σ C=none) (hL:C≠L) {h':Heap} (hs:Heap.SameBut C s.heap h'):St G L B ρ σ { s with heap:=h' }:=
 st.extBut (t:=s.toks) hB hσ hL hs.extBut
theorem eG {elt tgt iter:Expr} {ifs:List Expr} {scope:Scope} {cl:List (Str×Addr)} {pos:Pos} {Q:V->am->Prop}
  (h:WE G A env iter ρ σ fun v σ1=>WI G A env.locals tgt v ρ σ1 fun σ2 C xs=>∀ acc,σ2 acc=none->∀ CL,
   C (σ2.set acc (.list []))/\gO G A (compEnvC scope cl CL env) C tgt ifs (uG G A (compEnvC scope cl CL env) elt acc) (fun σ3=>Q (.ref acc) σ3) xs (fun _=>none) (σ2.set acc (.list [])))
  (hclos:autoParam (iZ env.cells scope.names []=some cl) TaR) (hcell:autoParam (∀ x∈scope.names,x.2≠ .cell) TaD) (hkind:autoParam (scope.kind = .function) TaR)
  (hnames:autoParam (∀ x∈scope.names,x.2 = .local->scope.names.lookup x.1=some .local) TaD)
  (hs:∀ x,foldedSetIterable iter env x=pure x:=by intro _;rfl):
  WE G A env (.ListComp elt [⟨tgt,iter,ifs,0⟩] scope pos) ρ σ Q:=fun B s st=>by
 revert G A env ρ σ elt tgt iter ifs scope cl pos Q B s
 injections G A env ρ σ elt tgt iter
 injections ifs scope cl pos
 injections Q
 intro h hclos hcell hkind hnames hs
 injections B s
 intro st;show wpAny _ _ (eval (.ListComp elt [⟨tgt,iter,ifs,0⟩] scope pos) env) _ _ s;dsimp only [eval_ListComp]
 exact wpAny_comprehension_free (use:=none) rfl hs (pC hclos) hkind hnames ((h B s st).to fun B1 s1 xv v σ1 l₁ st1 r1 hi=>wpAny_mono (hi B1 s1 xv st1 r1) (fun _ s2 z=>by
  cases z with | mk it os C xs B2 σ2 e l₂ st2 hF hC hS hself hq=>
  subst e;have hq:=hq _ (st2.fresh (I4 _)) (s2.heap.push { cls:= .type "list",dict:=none,data:= .seq ([]:List Value).toArray }).objs.size
  refine wpAny_newObj_type (wpAny_mono (lP (emit:=(do let _ <- PySem.call (.builtin "list.append") [.ref s2.heap.objs.size,<- eval elt (compEnvC scope cl (s2.heap.push { cls:= .type "list",dict:=none,data:= .seq ([]:List Value).toArray }).objs.size env)])) (e:= .ListComp elt [⟨tgt,iter,ifs,0⟩] scope pos) rfl (fun _ _=>rfl) (fun _ _=>rfl) (v5 ..) (fun B ρ σ s1 K st h=>xf (cenv:=compEnvC scope cl _ env) st h) hcell hkind (st2.alloc (x:= .list []) rfl rfl ⟨#[],0,rfl, .nil⟩) (hF.push _ _) hS hself hq.1 hq.2) (fun cenv s4 z=>codeAny_mono z.2 fun _ s5 y=>?_) fun _ _ e=>False.elim e)
  cases y with | mk f B5 σ5 e l5 st5 hB5 hσ5 hL5 m hn q=>
  subst e;rw [z.1]
  exact ⟨m,hn,fun h' hs'=>⟨B5, .ref _,σ5,l₁.trans (l₂.trans l5),nV st5 hB5 hσ5 hL5 hs', .ref _,q⟩⟩) fun _ _ e=>False.elim e)
end
abbrev V.eqb (v w:V):Bool:= @decide (v=w) (Classical.propDecidable _)
theorem V.eqb_iff {v w:V}:V.eqb v w=true↔v=w:= @decide_eq_true_iff _ (Classical.propDecidable _)
theorem xl {v w:V} (h:v≠w):V.eqb v w=false:=Bool.eq_false_iff.mpr fun e=>h (V.eqb_iff.mp e)
theorem nq {v w:V} {b:Bool} (h:v=w↔b=true):V.eqb v w=b:=by rw [Bool.eq_iff_iff,V.eqb_iff];exact h
theorem zR (a b:Int):V.eqb (.int a) (.int b)=(a==b):=nq ⟨fun h=>by (injection h with zz;subst zz);exact beq_self_eq_true a,fun h=>congrArg V.int (eq_of_beq h)⟩
theorem zS (a b:Str):V.eqb (.str a) (.str b)=(a==b):=nq ⟨fun h=>by (injection h with zz;subst zz);exact beq_self_eq_true a,fun h=>congrArg V.str (eq_of_beq h)⟩
theorem xk (a b:Bool):V.eqb (.bool a) (.bool b)=(a==b):=nq ⟨fun h=>by (injection h with zz;subst zz);exact beq_self_eq_true a,fun h=>congrArg V.bool (eq_of_beq h)⟩
inductive cT:V->Prop
 | int {n:Int}:cT (.int n)
 | str {n:Str}:cT (.str n)
 | bool {n:Bool}:cT (.bool n)
 | none:cT .none
 | tup {vs:List V}:(∀ v∈vs,cT v)->cT (.tup vs)
theorem cT.ints {vs:List V} (h:cT (.tup vs)):∀ v∈vs,cT v:=by cases h with | tup h=>exact h
inductive qT:Nat->V->V->Prop
 | int {n a b}:qT n (.int a) (.int b)
 | str {n a b}:qT n (.str a) (.str b)
 | bool {n a b}:qT n (.bool a) (.bool b)
 | none {n}:qT n .none .none
 | none_int {n a}:qT n .none (.int a)
 | int_none {n a}:qT n (.int a) .none
 | tup {n as bs}:(∀ (j:Nat) v w,as[j]?=some v->bs[j]?=some w->qT n v w)->qT (n+1) (.tup as) (.tup bs)
section
variable {G:aK} {A:Around} {env:Env} {ρ:aX} {σ:am} {L:Addr} {B:PB} {s:Shared} {i:Int} {l l':Addr} {xs ys:List V} {v w:V}
theorem yr {a:Addr} {xs ys:Array Value} (e:B.o a=some (ej xs)) (e':B.o a=some (ej ys)):xs=ys:=by
 rw [e] at e'
 exact congrArg (fun o:Obj=>match o.data with | .seq xs _=>xs | _=> #[]) (Option.some.inj e')
abbrev FM:Value->Option V
 | .none=>some V.none
 | .bool b=>some (V.bool b)
 | .int i _=>some (.int i)
 | .str x _=>some (.str x)
 | _=>Option.none
theorem VR.unE {v:V} {x:Value} (h:VR B v x) (f:cT v):FM x=some v\/FM x=Option.none/\∃ a vs xs,x = .ref a/\v = .tup vs/\B.o a=some (ej xs)/\VRs B vs xs.toList:=by
 cases f with
 | int=>obtain ⟨_,rfl⟩:=h.intE;exact .inl rfl
 | str=>obtain ⟨_,rfl⟩:=h.strE;exact .inl rfl
 | bool=>rw [h.boolE];exact .inl rfl
 | none=>rw [h.noneE];exact .inl rfl
 | tup _=>obtain ⟨a,xs,rfl,e,r⟩:=h.tupE;exact .inr ⟨rfl,a,_,xs,rfl,rfl,e,r⟩
theorem VR.leaf {v v':V} {x:Value} (e:FM x=some v) (h:VR B v' x) (f:cT v'):v=v':=by
 rcases h.unE f with q | ⟨q,_⟩
 ·rw [e] at q;exact Option.some.inj q
 ·rw [e] at q;injection q
theorem VR.unique {v:V} {x:Value} (h:VR B v x):∀ {v':V},VR B v' x->cT v->cT v'->v=v':=
 VR.rec (motive_1:=fun v x _=>∀ {v':V},VR B v' x->cT v->cT v'->v=v') (motive_2:=fun vs xs _=>∀ {vs':List V},VRs B vs' xs->(∀ u∈vs,cT u)->(∀ u∈vs',cT u)->vs=vs')
  (fun h _ f=>h.leaf rfl f) (fun _ _ h _ f=>h.leaf rfl f) (fun _ _ _ h _ f=>h.leaf rfl f) (fun _ _ _ h _ f=>h.leaf rfl f) (fun _ _ _ f _=>nomatch f) (fun _ _ _ f _=>nomatch f) (fun _ _ _ f _=>nomatch f)
  (fun e _ ih _ h f f'=>by
   rcases h.unE f' with q | ⟨_,a,vs',xs',e1,rfl,e3,e4⟩
   ·injection q
   ·injection e1 with e1;subst e1;obtain rfl:=yr e e3
    exact congrArg V.tup (ih e4 f.ints f'.ints))
  (fun h _ _=>by cases h;rfl)
  (fun _ _ ih1 ih2 _ h f f'=>by cases h with | cons a b=>rw [ih1 a (f _ (.head _)) (f' _ (.head _)),ih2 b (fun u m=>f u (.tail _ m)) (fun u m=>f' u (.tail _ m))]) h
theorem uH (vs ws:List V):V.eqb (.tup vs) (.tup ws)=((List.range (min vs.length ws.length)).all (fun j=>V.eqb (vs[j]?.getD .none) (ws[j]?.getD .none))&&vs.length==ws.length):=by
 refine nq ⟨fun h=>?_,fun h=>congrArg V.tup ?_⟩
 ·(injection h with zz;subst zz)
  exact Bool.and_eq_true_iff.mpr ⟨List.all_eq_true.mpr fun j _=>V.eqb_iff.mpr rfl,beq_self_eq_true _⟩
 ·have hz0:=Bool.and_eq_true_iff.mp h;have hl:vs.length=ws.length:=eq_of_beq hz0.2;refine List.ext_getElem hl fun j a b=>?_
  have:=V.eqb_iff.mp (List.all_eq_true.mp hz0.1 j (List.mem_range.mpr (by lia)))
  rwa [IX a,IX b] at this
theorem VRs.at {vs:Array Value} (r:VRs B xs vs.toList) {j:Nat} (h:j<vs.size):∃ v,xs[j]?=some v/\VR B v vs[j]:=by
 have g:j<xs.length:=by rw [<- dZ r];exact h
 obtain ⟨x,e,rx⟩:=r.get (IX g);refine ⟨_,IX g,?_⟩;rw [Array.getElem?_toList,IY h] at e;obtain rfl:=Option.some.inj e;exact rx
theorem xh (hB:∀ a o,B.o a=some o->s.heap.get? a=some o) (n:Nat):∀ {A:Around} {v w:V} {x y:Value},qT n v w->cT v->cT w->VR B v x->VR B w y->A.units+n<cLine->EqAt A s x y (V.eqb v w):=by
 revert B s n
 injections B s
 intro hB
 injections n
 have atom:∀ {m:Nat} {A:Around} {v w:V} {x y:Value},qT m v w->VR B v x->VR B w y->(∀ k,m=k+1->False)->EqAt A s x y (V.eqb v w):=fun c r1 r2 hn=>by
  cases c with
  | tup=>exact (hn _ rfl).elim
  | int=>obtain ⟨_,rfl⟩:=r1.intE;obtain ⟨_,rfl⟩:=r2.intE;rw [zR];exact EqAt.int_int _ _ _ _
  | str=>obtain ⟨_,rfl⟩:=r1.strE;obtain ⟨_,rfl⟩:=r2.strE;rw [zS];exact EqAt.str_str _ _ _ _
  | bool=>rw [r1.boolE,r2.boolE,xk];exact EqAt.bool_bool _ _
  | none=>rw [r1.noneE,r2.noneE,V.eqb_iff.mpr rfl];exact EqAt.same _
  | none_int=>rw [r1.noneE];obtain ⟨_,rfl⟩:=r2.intE;rw [xl (by intro h;injection h)];exact EqAt.none_int _ _
  | int_none=>obtain ⟨_,rfl⟩:=r1.intE;rw [r2.noneE];rw [xl (by intro h;injection h)];exact EqAt.int_none _ _
 induction n with
 | zero=>exact fun c _ _ r1 r2 _=>atom c r1 r2 fun k e=>nomatch e
 | succ n ih=>
  intro A v w x y c f f' r1 r2 hu
  cases c with
  | tup c=>
   obtain ⟨a,xs,rfl,e1,q1⟩:=r1.tupE;obtain ⟨b,ys,rfl,e2,q2⟩:=r2.tupE
   by_cases hab:a=b
   ·subst hab;rw [V.eqb_iff.mpr (r1.unique r2 f f')];exact EqAt.same _
   ·rw [uH,<- dZ q1,<- dZ q2];refine EqAt.of_refs hab (RcAt.tuples ⟨_,hB _ _ e1,rfl,0,rfl⟩ ⟨_,hB _ _ e2,rfl,0,rfl⟩ (zD hu) fun j h1 h2=>?_);ac_rfl;obtain ⟨v,hz2⟩:=q1.at h1;obtain ⟨w,hz3⟩:=q2.at h2;right;rw [hz2.1,hz3.1];exact ih (c j v w hz2.1 hz3.1) (f.ints _ (List.mem_of_getElem? hz2.1)) (f'.ints _ (List.mem_of_getElem? hz3.1)) hz2.2 hz3.2 (show A.units+1+n<cLine by lia)
  | _=>exact atom (m:=0) (by constructor) r1 r2 fun k e=>nomatch e
theorem xK {n:Nat} {vs:Array Value} {x:Value} (hB:∀ a o,B.o a=some o->s.heap.get? a=some o) (r:VRs B xs vs.toList) (rx:VR B w x) (fw:cT w) (hf:∀ v∈xs,cT v) (hc:∀ v∈xs,qT n v w) (hu:A.units+n+1<cLine):
  ∃ e:Value->Bool,(∀ y,y∈vs->EqAt A.in1 s y x (e y))/\vs.any e=xs.any (fun v=>V.eqb v w):=by
 let e:Value->Bool:=fun y=> @decide (∃ v,cT v/\VR B v y/\v=w) (Classical.propDecidable _)
 have he:∀ v y,cT v->VR B v y->e y=V.eqb v w:=fun v y f ry=>by
  exact (@decide_eq_decide _ _ (Classical.propDecidable _) (Classical.propDecidable _)).mpr ⟨fun hE=>by obtain ⟨v',f',ry',q⟩:=hE;exact (ry.unique ry' f f').trans q,fun q=>⟨v,f,ry,q⟩⟩
 refine ⟨e,fun y hy=>?_,?_⟩
 ·obtain ⟨j,hj,rfl⟩:=Array.getElem_of_mem hy;obtain ⟨v,hz4⟩:=r.at hj;have hv:=List.mem_of_getElem? hz4.1;rw [he v _ (hf v hv) hz4.2];exact xh hB n (hc v hv) (hf v hv) fw hz4.2 rx (show A.units+1+n<cLine by lia)
 ·rw [<- Array.any_toList];clear hc
  exact r.ind (P:=fun xs ys=>(∀ v∈xs,cT v)->ys.any e=xs.any (fun v=>V.eqb v w)) (fun _=>rfl) (fun h _ ih hf=>by
   rw [List.any_cons,List.any_cons,he _ _ (hf _ (.head _)) h,ih fun v hv=>hf v (.tail _ hv)]) hf
theorem tu (n:Nat) {Q:V->am->Prop} (hl:bE σ l xs) (fw:cT w) (hf:∀ v∈xs,cT v) (hc:∀ v∈xs,qT n v w) (hu:A.units+n+1<cLine) (h:Q (.bool (xs.any fun v=>V.eqb v w)) σ):WO G A L (dA .In) [w, .ref l] ρ σ Q:= .two fun B s x y st r1 r2=>by
 obtain rfl:=r2.refE;ac_rfl
 cases st.lst hl with | mk vs ep el re=>
 obtain ⟨e,hz5⟩:=xK (A:=A) st.keep re r1 fw hf hc hu;right;exact in_listAt e ⟨_,el,rfl,ep,rfl⟩ hz5.1 ⟨B,_,σ, .refl B,st,hz5.2▸ .bool _,h⟩
theorem jA (n:Nat) {Q:V->am->Prop} (hl:bE σ l xs) (fw:cT w) (hf:∀ v∈xs,cT v) (hc:∀ v∈xs,qT n v w) (hu:A.units+n+1<cLine) (h:Q (.bool (!xs.any fun v=>V.eqb v w)) σ):WO G A L (dA .NotIn) [w, .ref l] ρ σ Q:= .two fun B s x y st r1 r2=>by
 obtain rfl:=r2.refE;ac_rfl
 cases st.lst hl with | mk vs ep el re=>
 obtain ⟨e,hz6⟩:=xK (A:=A) st.keep re r1 fw hf hc hu;right;exact notIn_listAt e ⟨_,el,rfl,ep,rfl⟩ hz6.1 ⟨B,_,σ, .refl B,st,hz6.2▸ .bool _,h⟩
theorem At {p q:Int×Int} (h:CI p=CI q):p=q:=by
 injection h with h;injection h with h1 h2;injection h2 with h2 _;exact Prod.ext (V.int.inj h1) (V.int.inj h2)
theorem any_map {α:Type} {f:α->V} (hf:∀ {a b},f a=f b->a=b) (ns:List α) (i:α) [Decidable (i∈ns)]:((ns.map f).any fun v=>V.eqb v (f i))=decide (i∈ns):=by
 rw [Bool.eq_iff_iff,List.any_eq_true,decide_eq_true_iff];exact ⟨fun hE=>by obtain ⟨v,m,e⟩:=hE;obtain ⟨a,ma,rfl⟩:=I0.mp m;exact hf (V.eqb_iff.mp e)▸ma,fun m=>⟨f i,IR m,V.eqb_iff.mpr rfl⟩⟩
theorem jl {ns:List Int}:∀ v∈aB ns,cT v:=fun v h=>by obtain ⟨i,_,rfl⟩:=I0.mp h;exact .int
theorem uK (p:Int×Int):cT (CI p):= .tup fun v hv=>by
 cases hv with
 | head=>exact .int
 | tail _ hv=>obtain rfl:=IN.mp hv;exact .int
theorem xw {ns:List (Int×Int)}:∀ v∈c6 ns,cT v:=fun v h=>by obtain ⟨i,_,rfl⟩:=I0.mp h;exact uK i
theorem rH {ns:List Int} {i:Int}:∀ v∈aB ns,qT 0 v (.int i):=fun v h=>by obtain ⟨i,_,rfl⟩:=I0.mp h;exact .int
theorem uC {vs ws:List V} (h:∀ v∈vs,∃ i,v = .int i) (h':∀ v∈ws,∃ i,v = .int i) (j:Nat) (v w:V) (e:vs[j]?=some v) (e':ws[j]?=some w):qT 0 v w:=by
 obtain ⟨i,rfl⟩:=h v (List.mem_of_getElem? e);obtain ⟨i,rfl⟩:=h' w (List.mem_of_getElem? e');exact .int
theorem ji {ns:List Int}:∀ v∈aB ns,∃ i,v = .int i:=fun v h=>by obtain ⟨i,_,rfl⟩:=I0.mp h;exact ⟨i,rfl⟩
theorem zF {ns:List (Int×Int)} {p:Int×Int}:∀ v∈c6 ns,qT 1 v (CI p):=fun v h=>by
 obtain ⟨i,_,rfl⟩:=I0.mp h;exact .tup (uC (ji (ns:=[i.1,i.2])) (ji (ns:=[p.1,p.2])))
theorem mJ {ns:List Int} {Q:V->am->Prop} (hl:bE σ l (aB ns)) (hu:A.units+2<cLine) (h:Q (.bool (decide (i∈ns))) σ):WO G A L (dA .In) [.int i, .ref l] ρ σ Q:=
 tu 0 hl .int jl rH (Dn hu rfl) (by rw [aB,any_map V.int.inj];exact h)
theorem oV {ns:List Int} {Q:V->am->Prop} (hl:bE σ l (aB ns)) (hu:A.units+2<cLine) (h:Q (.bool (!decide (i∈ns))) σ):WO G A L (dA .NotIn) [.int i, .ref l] ρ σ Q:=
 jA 0 hl .int jl rH (Dn hu rfl) (by rw [aB,any_map V.int.inj];exact h)
theorem jW {ns:List (Int×Int)} {p:Int×Int} {Q:V->am->Prop} (hl:bE σ l (c6 ns)) (hu:A.units+2<cLine) (h:Q (.bool (!decide (p∈ns))) σ):WO G A L (dA .NotIn) [.tup [.int p.1, .int p.2], .ref l] ρ σ Q:=
 jA (w:=CI p) 1 hl (uK p) xw zF hu (by rw [c6,any_map At];exact h)
theorem tw (n:Nat) {Q:V->am->Prop} (hl:bE σ l xs) (hl':bE σ l' ys) (hf:∀ v∈xs,cT v) (hf':∀ v∈ys,cT v) (hc:∀ (j:Nat) v w,xs[j]?=some v->ys[j]?=some w->qT n v w) (hu:A.units+n+1<cLine) (h:Q (.bool (!V.eqb (.tup xs) (.tup ys))) σ):WO G A L (dA .NotEq) [.ref l, .ref l'] ρ σ Q:= .refs fun B s st=>by
 cases st.lst hl with | mk vs ep el re=>cases st.lst hl' with | mk ws ep' el' re'=>
 have e1:=dZ re;have e2:=dZ re';rw [uH] at h
 by_cases hsz:vs.size=ws.size
 ·rw [Jj.mpr (by lia),Bool.and_true,show min xs.length ys.length=vs.size by lia] at h;refine RcNeAt.lists (bg el) (bg el') hsz (zD (Nat.le_of_lt hu)) (e:=fun j=>V.eqb (xs[j]?.getD .none) (ys[j]?.getD .none)) (fun j h1 h2=>?_) _ _ _ _ ⟨B,_,σ, .refl B,st, .bool _,h⟩;ac_rfl;obtain ⟨v,hz7⟩:=re.at h1;obtain ⟨w,hz8⟩:=re'.at h2;right;rw [hz7.1,hz8.1];exact xh st.keep n (hc j v w hz7.1 hz8.1) (hf _ (List.mem_of_getElem? hz7.1)) (hf' _ (List.mem_of_getElem? hz8.1)) hz7.2 hz8.2 (show A.units+1+n<cLine by lia)
 ·rw [beq_eq_false_iff_ne.mpr (by lia:xs.length≠ys.length),Bool.and_false] at h;exact RcNeAt.lists_lengths (bg el) (bg el') (by simpa using hsz) (zD (Nat.le_of_lt hu)) _ _ _ _ ⟨B,_,σ, .refl B,st, .bool _,h⟩
theorem v7 {ns ms:List Int} (h:aB ns=aB ms):ns=ms:=by
 exact (List.map_inj_right fun _ _=>V.int.inj).mp h
theorem tv {ns ms:List Int} {Q:V->am->Prop} (hl:bE σ l (aB ns)) (hl':bE σ l' (aB ms)) (hu:A.units+2<cLine) (h:Q (.bool (!decide (ns=ms))) σ):WO G A L (dA .NotEq) [.ref l, .ref l'] ρ σ Q:=
 tw 0 hl hl' jl jl (uC ji ji) (Dn hu rfl) (by
  rw [nq (b:=decide (ns=ms)) ⟨fun h=>I5 (v7 (V.tup.inj h)),fun h=>by rw [Jf h]⟩];exact h)
end
section
variable {G:aK} {A:Around} {env:Env} {ρ:aX} {σ:am} {L:Addr} {B:PB} {s:Shared} {i:Int} {l l' d:Addr} {xs ys:List V} {v w:V} {kvs:List (Int×V)} {ver:Obj}
abbrev sG:Nat->Int->List Int
 | 0,_=>[]
 | n+1,a=>a::sG n (a+1)
abbrev AZ (a b:Int):List Int:=sG (b - a).toNat a
abbrev eO (a b:Int) (t u v:Tok):Obj:={ cls:= .type "range",dict:=none,data:= .fields #[.int a t, .int b u, .int 1 v],slots:= #[] }
abbrev qE (x left:Int):Obj:={ cls:= .type "range_iterator",dict:=none,data:= .fields #[rawInt x,rawInt left,rawInt 1],slots:= #[] }
theorem jK {n:Int} {Q:V->am->Prop} (h:∀ a t u v,σ a=none->Q (.ref a) (σ.set a (.raw (eO 0 n t u v)))):WC G A (.ty "range") [.int n] [] σ Q:=fun L B ρ s fv ys kx st rf r rk=>by
 obtain ⟨x,rfl,r1⟩:=r.one;obtain ⟨t,rfl⟩:=r1.intE;obtain rfl:=rf.tyE;obtain rfl:=rk.nilE;refine call_range_1 ⟨B, .ref _,_, .refl B,(st.alloc (x:= .raw (eO 0 n s.toks t (s.toks+1))) (o:=eO 0 n s.toks t (s.toks+1)) rfl rfl rfl).toks _, .ref _,h _ _ _ _ (st.fresh (I4 _))⟩
theorem ta {a b:Int} {Q:V->am->Prop} (h:∀ r t u v,σ r=none->Q (.ref r) (σ.set r (.raw (eO a b t u v)))):WC G A (.ty "range") [.int a, .int b] [] σ Q:=fun L B ρ s fv ys kx st rf r rk=>by
 obtain ⟨x,y,rfl,r1,r2⟩:=r.two;obtain ⟨t,rfl⟩:=r1.intE;obtain ⟨u,rfl⟩:=r2.intE;obtain rfl:=rf.tyE;obtain rfl:=rk.nilE;refine call_range_2 ⟨B, .ref _,_, .refl B,(st.alloc (x:= .raw (eO a b t u s.toks)) (o:=eO a b t u s.toks) rfl rfl rfl).toks _, .ref _,h _ _ _ _ (st.fresh (I4 _))⟩
theorem sR (hh:A.handled=none) {tgt:Expr} {it:Addr} (n:Nat):∀ (x:Int),gM G A tgt it (fun _=>True) (aB (sG n x)) [(it,qE x n)]:=by
 induction n with
 | zero=>
  intro x L B ρ σ s Q st hF hC h;have f:=hF.get;exact wpAny_pyNext_range_end hh f.2.2.2.1 (Int.le_refl 0) fun h' he=>h _ (st.extBut (t:=s.toks) f.1 f.2.1 f.2.2.1 he)
 | succ n ih=>
  intro x L B ρ σ s Q st hF hC h;have f:=hF.get;refine wpAny_pyNext_range_item f.2.2.2.1 (Int.succ_ofNat_pos _) fun h' hit hs=>?_;rw [show ((n+1:Nat):Int) - 1=n by lia] at hit;exact dQ (s:={ s with heap:=h',toks:=s.toks+1 }) hit rfl (by decide) (h B _ _ [(it,qE (x+1) n)] (.refl B) (st.extBut f.1 f.2.1 f.2.2.1 hs.extBut) (.one f.1 f.2.1 f.2.2.1 hit rfl) (.int _ _) (ih (x+1)))
theorem jT (hh:A.handled=none) {tgt:Expr} {a b:Int} {t u w:Tok} {Q:am->(am->Prop)->List V->Prop} (hr:σ l=some (.raw (eO a b t u w))) (ha: -(2 ^ 62)<=a) (ha':a<2 ^ 62) (hb: -(2 ^ 62)<=b) (hb':b<2 ^ 62)
  (q:Q σ (fun _=>True) (aB (AZ a b))):WI G A L tgt (.ref l) ρ σ Q:=fun B s val st r=>by
 obtain rfl:=r.refE;obtain ⟨o,e,rfl⟩:=st.get hr;refine wpAny_pyIter_range e (small_one ha ha' hb hb') ?_;rw [rangeSize_one]
 have hl:(if a<b then b - a else 0)=((b - a).toNat:Int):=by split <;> lia
 rw [hl]
 exact ⟨_,_,_,_,B,_,rfl, .refl B,st.push _,st.one (o:=qE a ((b - a).toNat:Int)) rfl rfl,trivial,sR hh _ a, .one fun s Q e q=>by
  have hT:s.TypeIs (.ref _) "range_iterator" :=⟨_,e,rfl⟩;refine wpAny_pyIter_slot hT F.slot_range_iterator_iter (wpAny_call_entry F.slot_range_iterator_iter hT F.entry_range_iterator_iter ?_ (F.args_range_iterator_iter_1 _));show wpAny _ _ (ret _) _ _ s
  exact wpAny_pure ⟨_,rfl, "range_iterator",_,hT,F.slot_range_iterator_next.lookup,q⟩,q⟩
abbrev bS (kvs:List (Int×V)) (k:Int):Option V:=(kvs.find? fun kv=>kv.1=k).map (·.2)
abbrev eY (kvs:List (Int×V)) (k:Int) (v:V):List (Int×V):=
 if kvs.any (fun kv=>kv.1=k) then kvs.map (fun kv=>if kv.1=k then (kv.1,v) else kv) else kvs++[(k,v)]
theorem kX.length {kxs:List (Int×Value)} (h:kX B kvs kxs):kvs.length=kxs.length:=by
 induction h with | nil=>rfl | cons _ _ ih=>exact congrArg (· + 1) ih
theorem kX.keys {kxs:List (Int×Value)} (h:kX B kvs kxs):kvs.map (·.1)=kxs.map (·.1):=by
 induction h with | nil=>rfl | cons _ _ ih=>exact congrArg (List.cons _) ih
theorem kX.getEl {kxs:List (Int×Value)} (h:kX B kvs kxs):∀ {j:Nat} {k:Int} {v:V},kvs[j]?=some (k,v)->∃ x,kxs[j]?=some (k,x)/\VR B v x:=by
 induction h with
 | nil=>intro j k v e;simp at e
 | cons hv _ ih=>
  intro j k v e
  cases j with
  | zero=>cases e;exact ⟨_,rfl,hv⟩
  | succ j=>exact ih e
theorem kX.val {kxs:List (Int×Value)} (h:kX B kvs kxs) (k:Int):OR B (bS kvs k) (valueAt kxs k):=by
 induction h with
 | nil=>exact .none
 | @cons k' v x kvs kxs hv _ ih=>
  unfold bS valueAt
  by_cases e:k'=k
  ·rw [List.find?_cons_of_pos (by exact I5 e),List.find?_cons_of_pos (by exact I5 e)];exact .some hv
  ·rw [List.find?_cons_of_neg (by exact fun q=>e (Jf q)),List.find?_cons_of_neg (by exact fun q=>e (Jf q))];exact ih
theorem kX.append {kxs kxs'} {kvs':List (Int×V)} (h:kX B kvs kxs) (h':kX B kvs' kxs'):kX B (kvs++kvs') (kxs++kxs'):=by
 induction h with | nil=>exact h' | cons hv _ ih=>exact .cons hv ih
theorem qX {kxs:List (Int×Value)} (h:kX B kvs kxs) (k:Int) {v:V} {x:Value} (r:VR B v x):kX B (kvs.map fun kv=>if kv.1=k then (kv.1,v) else kv) (kxs.map fun kv=>if kv.1=k then (kv.1,x) else kv):=by
 induction h with
 | nil=>exact .nil
 | @cons k' v' x' kvs kxs hv _ ih=>
  rw [List.map_cons,List.map_cons]
  by_cases q:k'=k
  ·rw [if_pos q,if_pos q];exact .cons r ih
  ·rw [if_neg q,if_neg q];exact .cons hv ih
theorem kX.set {kxs:List (Int×Value)} (h:kX B kvs kxs) (k:Int) {v:V} {x:Value} (r:VR B v x):kX B (eY kvs k v) (stored kxs k x):=by
 have e:kvs.any (fun kv=>kv.1=k)=kxs.any (fun kv=>kv.1=k):=by
  have q:=congrArg (fun l:List Int=>l.any fun z=>z=k) h.keys;rwa [List.any_map,List.any_map] at q
 unfold eY stored;rw [e]
 split
 ·exact qX h k r
 ·exact h.append (.cons r .nil)
inductive uo (G:aK) (B:PB) (kvs:List (Int×V)) (ver:Obj) (h:Heap) (d:Addr):Prop
 | mk (kxs:List (Int×Value)) (hd:h.DictAt (intKind G.prog G.w) d kxs (gY ver)) (rk:kX B kvs kxs):uo G B kvs ver h d
theorem St.dict (st:St G L B ρ σ s) (h:σ d=some (.idict kvs ver)):uo G B kvs ver s.heap d:=by
 cases st.own _ _ h with | mk o ho v _=>cases v with | mk _ es kxs a b c e f g=>exact ⟨kxs,⟨o,es,ho,a,b,c,e,f⟩,g⟩
theorem St.notMods (st:St G L B ρ σ s) {x:bL} (h:σ d=some x):(d==sysModules)=false:=beq_eq_false_iff_ne.mpr (st.two d x h)
theorem jk {h:Heap} {kxs:List (Int×Value)} (hd:h.DictOf (intKind G.prog G.w) d kxs):∃ ob,h.get? d=some ob/\h.DictAt (intKind G.prog G.w) d kxs (gY ob):=by
 intros G d h kxs
 intro hd;ac_rfl;obtain ⟨v,o,es,hz0⟩:=hd.dictAt;right
 have e:gY o=v:=by unfold gY;rw [hz0.2.2.1]
 exact ⟨o,hz0.1,o,es,hz0.1,hz0.2.1,by rw [e];exact hz0.2.2.1,hz0.2.2.2⟩
theorem St.updDict (st:St G L B ρ σ s) (h:σ d=some (.idict kvs ver)) {h':Heap} {kvs':List (Int×V)} {kxs':List (Int×Value)} {ver':Obj} (ho:h'.get? d=some ver') (hd:h'.DictAt (intKind G.prog G.w) d kxs' (gY ver')) (r:kX B kvs' kxs') (hs:Heap.SameBut d s.heap h') (t:Nat):
  St G L B ρ (σ.set d (.idict kvs' ver')) { s with heap:=h',toks:=t }:=by
 ac_rfl;obtain ⟨o,es,ho',a,b,c,e,f⟩:=hd;right;rw [ho] at ho';obtain rfl:=Option.some.inj ho';exact st.upd (x':= .idict kvs' ver') h rfl rfl hs ho ⟨rfl,es,kxs',a,b,c,e,f,r⟩ t
theorem PG.dict (h:σ d=some (.idict kvs ver)):PG G (.ref d) σ:=fun L B ρ s ov st r=>by
 obtain rfl:=r.refE
 cases st.dict h with | mk kxs hd _=>
 exact ⟨"dict",_,hd.dictOf.typeIs,slot_dict_getitem.lookup⟩
theorem bC (k:Int) (t:Tok):(intKind G.prog G.w).is k (.int k t)=true:=by simp [intKind,Value.isInt]
theorem bb {k:Int} {Q:V->am->Prop} (h:σ d=some (.idict kvs ver)) (hv:bS kvs k=some v) (q:Q v σ):WO G A L uU [.ref d, .int k] ρ σ Q:= .refint fun B s t st=>by
 cases st.dict h with | mk kxs hd rk=>
 have o:=rk.val k;rw [hv] at o;generalize hx:valueAt kxs k=r at o
 cases o with | some rv=>exact wpAny_getItem_of (bC k t) hd.dictOf.mapOf hx ⟨B,v,σ, .refl B,st.toks _,rv,q⟩
theorem OR.isSome {a:Option V} {b:Option Value} (h:OR B a b):a.isSome=b.isSome:=by cases h <;> rfl
theorem tm {k:Int} {Q:V->am->Prop} (h:σ d=some (.idict kvs ver)) (q:Q (.bool (bS kvs k).isSome) σ):WO G A L (dA .In) [.int k, .ref d] ρ σ Q:= .two fun B s x y st r1 r2=>by
 obtain rfl:=r2.refE;obtain ⟨t,rfl⟩:=r1.intE
 cases st.dict h with | mk kxs hd rk=>
 exact wpAny_in_of (bC k t) (st.notMods h) hd.dictOf.mapOf ⟨B,_,σ, .refl B,st.toks _,by rw [(rk.val k).isSome];exact .bool _,q⟩
theorem gE {k:Int} {Q:V->am->Prop} (h:σ d=some (.idict kvs ver)) (q:Q (.bool (!(bS kvs k).isSome)) σ):WO G A L (dA .NotIn) [.int k, .ref d] ρ σ Q:= .two fun B s x y st r1 r2=>by
 obtain rfl:=r2.refE;obtain ⟨t,rfl⟩:=r1.intE
 cases st.dict h with | mk kxs hd rk=>
 exact wpAny_notIn_of (bC k t) (st.notMods h) hd.dictOf.mapOf ⟨B,_,σ, .refl B,st.toks _,by rw [(rk.val k).isSome];exact .bool _,q⟩
theorem nX (hh:A.handled=none) {tgt:Expr} {it d:Addr} {kvs:List (Int×V)} {ver:Obj} (ys:List (Int×V)):∀ (i:Nat) (o:Obj),kvs.drop i=ys->(o.cls = .type "dict_keyiterator" /\o.data = .fields #[.ref d, .int i 0, .int kvs.length 0, .int (gY ver) 0])->gM G A tgt it (fun σ=>σ d=some (.idict kvs ver)) (aB (ys.map (·.1))) [(it,o)]:=by
 induction ys with
 | nil=>
  intro i o hd ho L B ρ σ s Q st hF hC h;have f:=hF.get
  cases st.dict hC with | mk kxs hD rk=>
  exact wpAny_pyNext_dict_end (kvs:=kxs) hh ⟨o,f.2.2.2.1,ho.1,by rw [ho.2,rk.length]⟩ hD (by
   rw [List.getElem?_eq_none_iff,<- rk.length]
   exact List.drop_eq_nil_iff.mp hd) fun h' he=>h _ (st.extBut (t:=s.toks) f.1 f.2.1 f.2.2.1 he)
 | cons kv ys ih=>
  intro i o hd ho L B ρ σ s Q st hF hC h;have f:=hF.get;ac_rfl
  cases st.dict hC with | mk kxs hD rk=>
  have hx:kvs[i]?=some kv:=by rw [<- List.head?_drop,hd];rfl
  obtain ⟨x,hz2⟩:=rk.getEl hx;right;refine wpAny_pyNext_dict_item (kvs:=kxs) ⟨o,f.2.2.2.1,ho.1,by rw [ho.2,rk.length]⟩ hD hz2.1 fun key h' hkey hit hs=>?_
  cases hit with | intro o' z=>
  obtain ⟨t,rfl⟩:=Value.isInt_shape hkey
  exact dQ (s:={ s with heap:=h' }) z.1 z.2.1 (by decide) (h B _ _ [(it,o')] (.refl B) (st.extBut (t:=s.toks) f.1 f.2.1 f.2.2.1 hs.extBut) (.one f.1 f.2.1 f.2.2.1 z.1 (by unfold cA;rw [z.2.2])) (.int kv.1 t)
   (ih (i+1) o' (by rw [<- List.drop_drop,hd];rfl) ⟨z.2.1,by rw [z.2.2,rk.length]⟩))
theorem p8 (hh:A.handled=none) {tgt:Expr} {Q:am->(am->Prop)->List V->Prop} (h:σ d=some (.idict kvs ver)) (q:Q σ (fun σ=>σ d=some (.idict kvs ver)) (aB (kvs.map (·.1)))):WI G A L tgt (.ref d) ρ σ Q:=fun B s val st r=>by
 obtain rfl:=r.refE
 cases st.dict h with | mk kxs hD rk=>
 refine wpAny_pyIter_dict (st.notMods h) hD ?_;exact ⟨_,_,_,_,B,_,rfl, .refl B,st.push _,st.one rfl rfl,h,nX hh kvs 0 _ rfl ⟨rfl,by rw [rk.length];rfl⟩, .one fun s Q e q=>wpAny_pyIter_keyiter (n:=kxs.length) (ep:=gY ver) (d:=d) (i:=0) ⟨_,e,rfl,rfl⟩ q,q⟩
theorem bh {e:Expr} {pos:Pos} {Q:F->aX->am->Prop} (h:WE G A env e ρ σ (KX ρ Q)) (hi:autoParam (interactive env=false) TaR) (hs:autoParam (swapsWith e none pos.line env=pure false) TaR):WS G A env (.Expr e pos) ρ σ Q:=fun B s st=>
 wpAny_Expr_any ((h B s st).to fun B' s' x y σ' l st' _ q=>⟨B', .next,_,σ',l,st', .next,q⟩) hi hs
abbrev sA:List Value->Sem Unit
 | [o,i,v]=>setItem o i v
 | _=>unsupported ""
theorem VRs.threeI {x y z:V} {a b c:Value} (r1:VR B x a) (r2:VR B y b) (r3:VR B z c):VRs B [x,y,z] [a,b,c]:= .cons r1 (.cons r2 (.cons r3 .nil))
noncomputable abbrev Fl (G:aK) (A:Around) (L:Addr) (ov v:V) (ρ:aX) (Q:aX->am->Prop):V->am->Prop:=fun iv σ=>Dk G A L sA [ov,iv,v] ρ σ Q
noncomputable abbrev Gy (G:aK) (A:Around) (env:Env) (i:Expr) (v:V) (ρ:aX) (Q:aX->am->Prop):V->am->Prop:=fun ov σ=>WE G A env i ρ σ (Fl G A env.locals ov v ρ Q)
theorem bz {o i:Expr} {p:Pos} {v:V} {Q:aX->am->Prop} (h:WE G A env o ρ σ (Gy G A env i v ρ Q)):lV G A env (.Subscript o i p) v ρ σ Q:=fun B s val st r=>by
 dsimp only [assign_Subscript]
 exact cq.bindS (cq.holding (h B s st)) fun B1 s1 y ov σ1 l₁ st1 r1 h=>cq.bindS (cq.holding (h B1 s1 st1)) fun B2 s2 z iv σ2 l₂ st2 r2 h=>
  .standAt ((Wp.holding (h B2 s2 [y,z,val] st2 (.threeI (r1.mono l₂) r2 (r.mono (l₁.trans l₂))))).bind fun B3 s3 _ _ ρ3 σ3 l3 st3 _ q=>Wp.release' (y:=()) st3 rfl q)
theorem bZ {k:Int} {v:V} {Q:aX->am->Prop} (h:σ d=some (.idict kvs ver)) (hz:kvs.length<1000) (q:∀ ver',Q ρ (σ.set d (.idict (eY kvs k v) ver'))):Dk G A L sA [.ref d, .int k,v] ρ σ Q:=fun B s zs st r=>by
 obtain ⟨x,y,z,rfl,r1,r2,r3⟩:=r.three;obtain rfl:=r1.refE;obtain ⟨t,rfl⟩:=r2.intE
 cases st.dict h with | mk kxs hd rk=>
 refine wpAny_setItem_pairs (bC k t) hd.dictOf (fun h' hd' hs=>?_) (by rw [<- rk.length,sizeLine_eq];exact rF hz rfl);ac_rfl;obtain ⟨ver',hz0⟩:=jk hd';right;exact ⟨B,(),ρ,_, .refl B,st.updDict h hz0.1 hz0.2 (rk.set k r3) hs _,rfl,q ver'⟩
theorem m8 (h:σ d=some (.idict kvs ver)):∀ B ρ s,St G L B ρ σ s->∃ o,s.heap.get? d=some o/\o.cls = .type "dict" /\o.dict=none:=fun B ρ s st=>by
 cases st.own _ _ h with | mk o ho v _=>cases v with | mk _ es kxs a _ _ _ _ _=>exact ⟨o,ho,a.1,a.2.1⟩
theorem wS {Q:V->List V->am->Prop} (hl:σ d=some (.idict kvs ver)) (h:Q (.bi "dict.items") [.ref d] σ):WM G A L (.ref d) "items" ρ σ Q:=iT (m8 hl) F.plainAttrs_dict F.slot_dict_items F.type_dict_items h
theorem zt {Q:V->List V->am->Prop} (hl:σ d=some (.idict kvs ver)) (h:Q (.bi "dict.keys") [.ref d] σ):WM G A L (.ref d) "keys" ρ σ Q:=iT (m8 hl) F.plainAttrs_dict F.slot_dict_keys F.type_dict_keys h
theorem cW {Q:V->List V->am->Prop} (hl:σ d=some (.idict kvs ver)) (h:Q (.bi "dict.setdefault") [.ref d] σ):WM G A L (.ref d) "setdefault" ρ σ Q:=iT (m8 hl) F.plainAttrs_dict F.slot_dict_setdefault F.type_dict_setdefault h
theorem OR.getD {a:Option V} {b:Option Value} (h:OR B a b) {w:V} {z:Value} (r:VR B w z):VR B (a.getD w) (b.getD z):=by cases h with | none=>exact r | some h=>exact h
theorem i1 {prog:Program} {w:World} {A:Around} {E:Value->Shared->Prop} {s:Shared} {K:Type} [DecidableEq K] {knd:KeyKind prog w K} {d:Addr} {kvs:List (K×Value)} {k:K} {key dflt:Value} {Q:Value->Shared->Prop} (hkey:knd.is k key=true) (hm:s.heap.DictOf knd d kvs)
  (hthere:∀ v,valueAt kvs k=some v->Q v { s with toks:=s.toks+1 })
  (hnew:valueAt kvs k=none->∀ h',h'.DictOf knd d (kvs++[(k,dflt)])->Heap.SameBut d s.heap h'->Q dflt { s with heap:=h',toks:=s.toks+1 })
  (hsz:kvs.length<=sizeLine):wpAny (model prog w) A (dictSetDefault d key dflt) Q E s:=by
 have hmo:=hm.mapOf;ac_rfl;obtain ⟨o,es,ep,hz1⟩:=hm;right
 have hes:es.size<=sizeLine:=by
  have e1:=hz1.2.2.2.2.1.length;have e2:es.toList.length=es.size:=by simp
  lia
 have hf:∀ k,findBy knd.is es k=valueAt kvs k:=by
  ac_rfl;obtain ⟨o',es',ep',ho',_,hd',_,hf⟩:=hmo;right;rw [hz1.1] at ho'; (injection ho' with zz;subst zz);rw [hz1.2.2.1] at hd'; (injection hd' with zz;subst zz);exact hf
 unfold dictSetDefault
 try with_reducible refine wpAny_holding ?_
 exists (knd.pyHash hkey ?_);exists (wpAny_dictFind_of (s:={ s with toks:=s.toks+1 }) hkey hz1.1 hz1.2.2.1 hz1.2.2.2.1 ?_)
 have hidx:(es.findIdx? fun e=>knd.is k e.key)=kvs.findIdx? fun kv=>decide (kv.1=k):=by
  rw [<- hz1.2.2.2.2.1.findIdx k];obtain ⟨l⟩:=es;simp
 cases hi:es.findIdx? fun e=>knd.is k e.key with
 | some i=>
  have hfk:valueAt kvs k=(es[i]?).map (·.val):=by rw [<- hf k,findBy_of_findIdx?,hi]
  exists (wpAny_dictEntries (s:={ s with toks:=s.toks+1 }) hz1.1 hz1.2.2.1 ?_)
  cases he:es[i]? with
  | none=>
   exfalso
   have:=Array.findIdx?_eq_some_iff_findIdx_eq.mp hi
   have hlt:i<es.size:=this.1;rw [IY hlt] at he;exact nomatch he
  | some e=>
   rw [he] at hfk;exact wpAny_bind (wpAny_rule (wpAny_pure (hthere e.val hfk)))
 | none=>
  have hfk:valueAt kvs k=none:=by rw [<- hf k,findBy_of_findIdx?,hi]
  have hnot:k∉kvs.map (·.1):=not_mem_of_findIdx_none (hidx▸hi)
  exists (wpAny_rule (wpAny_bind (wpAny_updateDictKeys (hz:=hes) (s:={ s with toks:=s.toks+1 }) hz1.1 hz1.2.2.1 (wpAny_pure (hnew hfk _ ⟨_,_,ep+1,Jc _ hz1.1 (Obj.isFreed_of_dict (Obj.data_mapDictKeys hz1.2.2.1 _)),
   hz1.2.1.mapDictKeys _,Obj.data_mapDictKeys hz1.2.2.1 _,hz1.2.2.2.1.push hkey _,?_,?_⟩ (Heap.SameBut.update ..))))))
  ·have:=hz1.2.2.2.2.1.append hkey (knd.hash k) dflt
   obtain ⟨l⟩:=es;simpa using this
  ·rw [I2,Jb];refine ⟨hz1.2.2.2.2.2,by simp,?_⟩;intro a ha b hb;simp only [List.map_cons,List.map_nil,IN] at hb;subst hb;exact fun e=>hnot (e▸ha)
set_option tactic.hygienic true in
theorem WC_setdefault {k:Int} {w:V} {Q:V->am->Prop} (h:σ d=some (.idict kvs ver)) (hz:kvs.length<1000)
  (q:∀ v,bS kvs k=some v->Q v σ) (q':bS kvs k=none->∀ ver',Q w (σ.set d (.idict (kvs++[(k,w)]) ver'))):WC G A (.bi "dict.setdefault") [.ref d, .int k,w] [] σ Q:=by
 intros G A σ d kvs ver k w Q
 intro h hz q q'
 injections L B ρ s
 intro fv ys kx st rf r rk;obtain ⟨x,y,z,rfl,r1,r2,r3⟩:=r.three;obtain rfl:=r1.refE;obtain ⟨t,rfl⟩:=r2.intE;obtain rfl:=rf.biE;obtain rfl:=rk.nilE
 cases st.dict h with | mk kxs hd rk=>
 have rk':=rk.val k
 have g:MeetsIn G.prog G.w (Builtin.«dict.setdefault» ⟨[.ref d, .int k t,z],[]⟩) (fun _ R s=>∃ f:List (Int×Value),s.heap.DictOf (intKind G.prog G.w) d f/\f.length<=sizeLine/\
   (∀ v,valueAt f k=some v->R (.ok (.ret v)) { s with toks:=s.toks+1 })/\
   (valueAt f k=none->∀ h',h'.DictOf (intKind G.prog G.w) d (f++[(k,z)])->Heap.SameBut d s.heap h'->R (.ok (.ret z)) { s with heap:=h',toks:=s.toks+1 })):=
  .of_wp fun A R s hE=>by
   obtain ⟨f,hz4⟩:=hE;refine wpAny_bind ?_;exists (wpAny_notOrdered_dict hz4.1.typeIs ?_);show wpAny _ _ (pure (d,Value.int k t,some z)) _ _ s;refine wpAny_pure ?_
   show wpAny _ _ (if (d==sysModules)=true then _ else (dictSetDefault d (.int k t) z>>=_)) _ _ s
   rw [if_neg (by rw [st.notMods h];exact Jg)];exact wpAny_bind (i1 (bC k t) hz4.1 (fun v hv=>wpAny_pure ⟨v,rfl,hz4.2.2.1 v hv⟩) (fun hn h' hm' hs'=>wpAny_pure ⟨z,rfl,hz4.2.2.2 hn h' hm' hs'⟩) hz4.2.1)
 refine call_meetsIn F.slot_dict_setdefault hd.dictOf.typeIs F.entry_dict_setdefault (F.args_dict_setdefault_3 _ _ _) g ⟨kxs,hd.dictOf,by rw [<- rk.length,sizeLine_eq];exact rF hz rfl,fun v hv=>?_,fun hv h' hd' hs=>?_⟩
 all_goals
  rw [hv] at rk';generalize bS kvs k=o at rk' q q';cases rk'
 ·rename_i rv;exact ⟨B,_,σ, .refl B,st.toks _,rv,q _ rfl⟩
 ·obtain ⟨ver',hz5⟩:=jk hd';exact ⟨B,w,_, .refl B,st.updDict h hz5.1 hz5.2 (rk.append (.cons r3 .nil)) hs _,r3,q' rfl ver'⟩
theorem ib {a:Addr}:OV G B (.idict [] emptyDict) { cls:= .type "dict",data:= .dict #[] }:=⟨rfl, #[],[],⟨rfl,rfl,rfl⟩,rfl,fun _ he=>by simp at he,Pairs.nil,List.nodup_nil, .nil⟩
theorem cu {pos:Pos} {Q:V->am->Prop} (h:∀ a,σ a=none->Q (.ref a) (σ.set a (.idict [] emptyDict))):WE G A env (.Dict [] [] pos) ρ σ Q:=fun B s st=>
 wpAny_Dict_empty ⟨B, .ref _,_, .refl B,st.alloc (x:= .idict [] emptyDict) rfl rfl (ib (a:=0)), .ref _,h _ (st.fresh (I4 _))⟩
inductive AQ (Q:V->am->Prop) (a:Addr) (kv v:V) (σ:am):Prop
 | mk (i:Int) (e:kv = .int i) (hd:σ a=some (.idict [] emptyDict)) (q:∀ ver,Q (.ref a) (σ.set a (.idict [(i,v)] ver))):AQ Q a kv v σ
theorem lh {k e:Expr} {pos:Pos} {Q:V->am->Prop} (h:∀ a,σ a=none->WE G A env k ρ (σ.set a (.idict [] emptyDict)) fun kv σ1=>WE G A env e ρ σ1 fun v σ2=>AQ Q a kv v σ2):
  WE G A env (.Dict [some k] [e] pos) ρ σ Q:=fun B s st=>by
 revert G A env ρ σ k e pos Q B s
 injections G A env ρ σ k e pos
 injections Q
 intro h
 injections B s
 intro st
 refine wpAny_Dict_pairs (knd:=intKind G.prog G.w) (pairs:=[(eval k env,do let x <- eval e env;standAt pos;pure x)]) rfl (List.cons_ne_nil _ _) (IU rfl) ?_
 exists ((h _ (st.fresh (I4 _)) B _ (st.alloc (x:= .idict [] emptyDict) (o:={ cls:= .type "dict",data:= .dict #[] }) rfl rfl (ib (a:=0)))).to fun B1 s1 x kv σ1 l₁ st1 r1 h1=>
  wpAny_bind (wpAny_holding (wpAny_bind ((h1 B1 s1 st1).to fun B2 s2 y v σ2 l₂ st2 r2 z=>wpAny_bind (wpAny_standAt (wpAny_pure (wpAny_bind (wpAny_holding (wpAny_pure (wpAny_pure ?_))))))))))
 cases z with | mk i ei hd q=>
 subst ei;obtain ⟨t,rfl⟩:=r1.intE
 cases st2.dict hd with | mk kxs hdd rk=>
 cases rk;refine ⟨[(i,y)],⟨bC i t,rfl,trivial⟩,hdd.dictOf,fun h' hd' hs=>?_⟩;ac_rfl;obtain ⟨ver',hz0⟩:=jk hd';right;exact ⟨B2, .ref _,_,l₁.trans l₂,st2.updDict hd (kxs':=[(i,y)]) hz0.1 hz0.2 (.cons r2 .nil) hs _, .ref _,q ver'⟩
abbrev dU (c:String) (d:Addr):Obj:={ cls:= .type c,data:= .fields #[.ref d] }
theorem wN {Q:V->am->Prop} (h:σ d=some (.idict kvs ver)) (q:∀ a,σ a=none->Q (.ref a) (σ.set a (.raw (dU "dict_items" d)))):WC G A (.bi "dict.items") [.ref d] [] σ Q:= .bi1 fun L B ρ s x st r1=>by
 obtain rfl:=r1.refE
 cases st.dict h with | mk kxs hd rk=>
 exact call_meetsIn F.slot_dict_items hd.dictOf.typeIs F.entry_dict_items (F.args_dict_items_1 _) (meets_dict_items (intKind G.prog G.w) d (st.notMods h)) ⟨⟨_,hd.dictOf⟩,
  ⟨B, .ref _,_, .refl B,st.alloc (x:= .raw (dU "dict_items" d)) (o:=dU "dict_items" d) rfl rfl rfl, .ref _,q _ (st.fresh (I4 _))⟩⟩
theorem l0 {prog:Program} {w:World} (d:Addr) (hd:(d==sysModules)=false):
  MeetsIn prog w (Builtin.«dict.keys» ⟨[.ref d],[]⟩) (fun _ R s=>(∃ kvs,s.heap.DictOf (intKind prog w) d kvs)/\
   R (.ok (.ret (.ref s.heap.objs.size))) { s with heap:=s.heap.push { cls:= .type "dict_keys",data:= .fields #[.ref d] } }):=
 .of_wp fun A R s hE=>by
  obtain ⟨⟨kvs,hm⟩,h⟩:=hE;refine wpAny_bind ?_;exists (wpAny_notOrdered_dict hm.typeIs ?_);show wpAny _ _ (pure d) _ _ s;refine wpAny_pure ?_;show wpAny _ _ (Builtin.Dict.showsAll d>>=_) _ _ s;unfold Builtin.Dict.showsAll;rw [if_neg (by rw [hd];exact Jg)];exists (wpAny_pure ?_);exact wpAny_bind (wpAny_newObj_type (wpAny_pure ⟨_,rfl,h⟩))
theorem zo {Q:V->am->Prop} (h:σ d=some (.idict kvs ver)) (q:∀ a,σ a=none->Q (.ref a) (σ.set a (.raw (dU "dict_keys" d)))):WC G A (.bi "dict.keys") [.ref d] [] σ Q:= .bi1 fun L B ρ s x st r1=>by
 obtain rfl:=r1.refE
 cases st.dict h with | mk kxs hd rk=>
 exact call_meetsIn F.slot_dict_keys hd.dictOf.typeIs F.entry_dict_keys (F.args_dict_keys_1 _) (l0 d (st.notMods h)) ⟨⟨_,hd.dictOf⟩,
  ⟨B, .ref _,_, .refl B,st.alloc (x:= .raw (dU "dict_keys" d)) (o:=dU "dict_keys" d) rfl rfl rfl, .ref _,q _ (st.fresh (I4 _))⟩⟩
theorem gQ:entryFor table "dict_itemiterator.__iter__" = some Builtin.«dict_keyiterator.__iter__»:=
 entryFor_alias (id':= "dict_keyiterator.__iter__") (⋯) rfl nofun (⋯)
abbrev qq (d:Addr) (i n ep:Nat) (ok ov:Value):Obj:={ cls:= .type "dict_itemiterator",dict:=none,data:= .fields #[.none, .bool false, .ref d, .int i 0, .int n 0, .int ep 0,ok,ov],slots:= #[] }
abbrev E9 (kv:Int×V):V:= .tup [.int kv.1,kv.2]
theorem sQ (hh:A.handled=none) {elts:List Expr} {tk:Nat} {pos:Pos} {it d:Addr} {kvs:List (Int×V)} {ver:Obj} (ys:List (Int×V)):∀ (i:Nat) (ok ov:Value),kvs.drop i=ys->gM G A (.Tuple elts tk pos) it (fun σ=>σ d=some (.idict kvs ver)) (ys.map E9) [(it,qq d i kvs.length (gY ver) ok ov)]:=by
 induction ys with
 | nil=>
  intro i ok ov hd L B ρ σ s Q st hF hC h;have f:=hF.get
  cases st.dict hC with | mk kxs hD rk=>
  rw [rk.length] at f
  exact wpAny_pyNext_items_end (kvs:=kxs) hh f.2.2.2.1 hD (by
   rw [List.getElem?_eq_none_iff,<- rk.length]
   exact List.drop_eq_nil_iff.mp hd) fun h' he=>h _ (st.extBut (t:=s.toks) f.1 f.2.1 f.2.2.1 he)
 | cons kv ys ih=>
  intro i ok ov hd L B ρ σ s Q st hF hC h;have f:=hF.get;ac_rfl
  cases st.dict hC with | mk kxs hD rk=>
  have hx:kvs[i]?=some kv:=by rw [<- List.head?_drop,hd];rfl
  ac_rfl;obtain ⟨x,hz1⟩:=rk.getEl hx;right;right;rw [rk.length] at f ih;refine wpAny_pyNext_items_item (kvs:=kxs) f.2.2.2.1 hD hz1.1 fun key h' hkey hit ht hz hk=>?_;obtain ⟨t,rfl⟩:=Value.isInt_shape hkey;have hne:it≠s.heap.objs.size:=Nat.ne_of_lt (I9 f.2.2.2.1);refine wpAny_letOwnedTupleGo_items (s:={ s with heap:=h' }) hit fun h2 hit2 hs2=>?_;have hfB:=st.freshB (I4 s.heap.objs.size);have lf:=PB.le_set (B:=B) (some (ej #[.int kv.1 t,x])) hfB;have st':St G L B ρ σ { s with heap:=h2,toks:=s.toks }:=st.extBut f.1 f.2.1 f.2.2.1 fun b o hb e=>hs2.extBut b o hb (hk b o hb e)
  exact h _ _ _ [(it,qq d (i+1) kxs.length (gY ver) (.int kv.1 t) x)] lf (st'.frost hfB (st.fresh (I4 s.heap.objs.size)) (Nat.ne_of_gt st.Llt) (hs2.extBut _ _ (Ne.symm hne) ht)) (.one ((PB.set_ne _ _ hne).trans f.1) f.2.1 f.2.2.1 hit2 rfl)
   (.tup (xs:= #[.int kv.1 t,x]) (PB.set_self ..) (.cons (.int kv.1 t) (.cons (hz1.2.mono lf) .nil))) (ih (i+1) _ _ (by rw [<- List.drop_drop,hd];rfl))
theorem wR (hh:A.handled=none) {elts:List Expr} {tk:Nat} {pos:Pos} {a:Addr} {Q:am->(am->Prop)->List V->Prop} (ha:σ a=some (.raw (dU "dict_items" d))) (h:σ d=some (.idict kvs ver)) (q:Q σ (fun σ=>σ d=some (.idict kvs ver)) (kvs.map E9)):WI G A L (.Tuple elts tk pos) (.ref a) ρ σ Q:=fun B s val st r=>by
 obtain rfl:=r.refE;ac_rfl
 cases st.dict h with | mk kxs hD rk=>
 cases st.own _ _ ha with | mk o ho e _=>
 right;obtain rfl:=(e:o=dU "dict_items" d);refine wpAny_pyIter_items ⟨_,ho,rfl,rfl⟩ hD ?_;refine ⟨_,[(_,qq d 0 kxs.length (gY ver) .none .none)],_,_,B,_,rfl, .refl B,st.push _,st.one (o:=qq d 0 kxs.length (gY ver) .none .none) rfl rfl,h,by rw [<- rk.length];exact sQ hh kvs 0 _ _ rfl, .one fun s Q e q=>?_,q⟩;have hT:s.TypeIs (.ref _) "dict_itemiterator" :=⟨_,e,rfl⟩;refine wpAny_pyIter_slot hT F.slot_dict_itemiterator_iter (wpAny_call_entry F.slot_dict_itemiterator_iter hT gQ ?_ (F.args_dict_itemiterator_iter_1 _));show wpAny _ _ (ret _) _ _ s;exact wpAny_pure ⟨_,rfl, "dict_itemiterator",_,hT,F.slot_dict_itemiterator_next.lookup,q⟩
abbrev w9 (G:aK) (A:Around) (cenv:Env) (kx vx:Expr) (acc:Addr) (ρ:aX) (σ:am) (K:am->Prop):Prop:=
 WE G A cenv kx ρ σ fun kv σ₁=>WE G A cenv vx ρ σ₁ fun v σ₂=>∃ k kvs ver,kv = .int k/\σ₂ acc=some (.idict kvs ver)/\kvs.length<1000/\∀ ver',K (σ₂.set acc (.idict (eY kvs k v) ver'))
abbrev xa (kx vx:Expr) (d:Addr) (cenv:Env):Sem Unit:=do
 let kv <- eval kx cenv
 let vv <- holding [kv] (eval vx cenv)
 standAt { kx.pos with endLine:=vx.pos.endLine,endCol:=vx.pos.endCol }
 holding [kv,vv] (dictSet d kv vv)
theorem xb {cenv:Env} {kx vx:Expr} {acc:Addr} {K:am->Prop} (st:St G cenv.locals B ρ σ s) (h:w9 G A cenv kx vx acc ρ σ K):
  cq G A cenv.locals (qP (α:=Unit)) ρ (xa kx vx acc cenv) (fun _=>K) B s:=by
 refine (h B s st).bind fun B1 s1 x kv σ1 l₁ st1 r1 q=>(cq.holding (q B1 s1 st1)).bind fun B2 s2 y v σ2 l₂ st2 r2 q=> .standAt (cq.holding ?_);obtain ⟨k,kvs,ver,rfl,e,hz,hk⟩:=q;obtain ⟨t,rfl⟩:=r1.intE
 cases st2.dict e with | mk kxs hd rk=>
 refine wpAny_dictSet_pairs (bC k t) hd.dictOf (fun h' hd' hs=>?_) (by rw [<- rk.length,sizeLine_eq];exact rF hz rfl);ac_rfl;obtain ⟨ver',hz0⟩:=jk hd';right;exact ⟨B2,(),_, .refl B2,st2.updDict e hz0.1 hz0.2 (rk.set k r2) hs _,rfl,hk ver'⟩
theorem pg {M:Model} {E:Value->Shared->Prop} {Q:Value->Shared->Prop} (h:Q (.ref s.heap.objs.size) { s with heap:=s.heap.push { cls:= .type "dict",data:= .dict #[] } }):wpAny M A newDict Q E s:=wpAny_bind (wpAny_alloc (wpAny_pure h))
theorem rh {kx vx tgt iter:Expr} {ifs:List Expr} {scope:Scope} {cl:List (Str×Addr)} {pos:Pos} {Q:V->am->Prop}
  (h:WE G A env iter ρ σ fun v σ1=>WI G A env.locals tgt v ρ σ1 fun σ2 C xs=>∀ acc,σ2 acc=none->∀ CL,
   C (σ2.set acc (.idict [] emptyDict))/\gO G A (compEnvC scope cl CL env) C tgt ifs (w9 G A (compEnvC scope cl CL env) kx vx acc) (fun σ3=>Q (.ref acc) σ3) xs (fun _=>none) (σ2.set acc (.idict [] emptyDict)))
  (hclos:autoParam (iZ env.cells scope.names []=some cl) TaR) (hcell:autoParam (∀ x∈scope.names,x.2≠ .cell) TaD) (hkind:autoParam (scope.kind = .function) TaR)
  (hnames:autoParam (∀ x∈scope.names,x.2 = .local->scope.names.lookup x.1=some .local) TaD)
  (hs:∀ x,foldedSetIterable iter env x=pure x:=by intro _;rfl):
  WE G A env (.DictComp kx vx [⟨tgt,iter,ifs,0⟩] scope pos) ρ σ Q:=fun B s st=>by
 revert G A env ρ σ kx vx tgt iter ifs scope cl pos Q B s
 injections G A env ρ σ kx vx tgt
 injections iter ifs scope cl
 injections pos Q
 intro h hclos hcell hkind hnames hs
 injections B s
 intro st;show wpAny _ _ (eval (.DictComp kx vx [⟨tgt,iter,ifs,0⟩] scope pos) env) _ _ s;dsimp only [arm_eval_DictComp]
 exact wpAny_comprehension_free (use:=none) rfl hs (pC hclos) hkind hnames ((h B s st).to fun B1 s1 xv v σ1 l₁ st1 r1 hi=>wpAny_mono (hi B1 s1 xv st1 r1) (fun _ s2 z=>by
  cases z with | mk it os C xs B2 σ2 e l₂ st2 hF hC hS hself hq=>
  subst e;have hq:=hq _ (st2.fresh (I4 _)) (s2.heap.push { cls:= .type "dict",data:= .dict #[] }).objs.size;refine pg (wpAny_mono (lP (emit:=xa kx vx s2.heap.objs.size (compEnvC scope cl (s2.heap.push { cls:= .type "dict",data:= .dict #[] }).objs.size env)) (e:= .DictComp kx vx [⟨tgt,iter,ifs,0⟩] scope pos) rfl (fun _ _=>rfl) (fun _ _=>rfl) (v4 ..) (fun B ρ σ s1 K st h=>xb (cenv:=compEnvC scope cl _ env) st h) hcell hkind (st2.alloc (x:= .idict [] emptyDict) rfl rfl (ib (a:=0))) (hF.push _ _) hS hself hq.1 hq.2) (fun cenv s4 z=>codeAny_mono z.2 fun _ s5 y=>?_) fun _ _ e=>False.elim e)
  cases y with | mk f B5 σ5 e l5 st5 hB5 hσ5 hL5 m hn q=>
  subst e;rw [z.1]
  exact ⟨m,hn,fun h' hs'=>⟨B5, .ref _,σ5,l₁.trans (l₂.trans l5),nV st5 hB5 hσ5 hL5 hs', .ref _,q⟩⟩) fun _ _ e=>False.elim e)
theorem St.adopt (st:St G L B ρ σ s) {a:Addr} {o:Obj} {x:bL} (hx:x.mut=true) (hB:B.o a=none) (hL:a≠L) (h1:a≠1) (ho:s.heap.get? a=some o) (v:OV G B x o):St G L B ρ (σ.set a x) s where
 base:=st.base
 keep:=st.keep
 keepG:=st.keepG
 own:=fun b y e=>by
  by_cases q:b=a
  ·subst q;rw [am.set_self] at e;obtain rfl:=Option.some.inj e;exact .of hx hB ho v
  ·rw [am.set_ne _ _ q] at e;exact st.own b y e
 loc:=st.loc
 LB:=st.LB
 Lσ:=by rw [am.set_ne _ _ (Ne.symm hL)];exact st.Lσ
 os:=st.os
 bare:=st.bare
 two:=fun b y e=>by
  by_cases q:b=a
  ·rw [q];exact h1
  ·rw [am.set_ne _ _ q] at e;exact st.two b y e
theorem St.big (st:St G L B ρ σ s) {a:Addr} (h:s.heap.objs.size<=a):a≠1:=fun e=>by
 have:=G.two _ (st.base _ st.keep)
 rw [e] at h;exact Ji _ (Jd this h)
theorem St.bigL (st:St G L B ρ σ s) {a:Addr} (h:s.heap.objs.size<=a):a≠L:=fun e=>by
 have:=st.Llt
 rw [e] at h;exact Ji _ (Jd this h)
theorem St.more (st:St G L B ρ σ s) {h':Heap} {t:Nat} (hk:∀ b o,s.heap.get? b=some o->h'.get? b=some o):St G L B ρ σ { s with heap:=h',toks:=t }:=st.quiet hk rfl rfl
@[reducible] noncomputable def kJ:Expr:= .Name "" ⟨0,0,0,0⟩
theorem jp {M:Model} {it:Addr} {α:Type} {k:Option Value->Sem α} {R:α->Shared->Prop} {E:Value->Shared->Prop} (h:pk M A kJ (.ref it) (fun r s=>wpAny M A (k r) R E s) s):wpAny M A (pyNext (.ref it)>>=k) R E s:=by
 exists (wpAny_mono h (fun r s1 h1=>?_) fun _ _ e=>False.elim e)
 cases r with
 | none=>exact h1
 | some v=>
  exact wpAny_bind (f:=fun _=>k (some v)) (wpAny_mono (show wpAny M A (pure ()) (fun _ s2=>wpAny M A (k (some v)) R E s2) jH s1 from h1) (fun _ _ x=>x) fun _ _ e=>False.elim e)
theorem am.set_same {σ:am} {a:Addr} {x:bL} (h:σ a=some x):σ.set a x=σ:=funext fun b=>by
 by_cases q:b=a
 ·rw [q,am.set_self,h]
 ·exact am.set_ne _ _ q
theorem am.set_set (σ:am) (a:Addr) (x y:bL):(σ.set a x).set a y=σ.set a y:=funext fun b=>by
 by_cases q:b=a
 ·rw [q,am.set_self,am.set_self]
 ·rw [am.set_ne _ _ q,am.set_ne _ _ q,am.set_ne _ _ q]
theorem da.upd {os:List (Addr×Obj)} (hF:da os L B σ s) {a:Addr} {x:bL} (ha:σ a=some x) (y:bL) {f:Obj->Obj}:da os L B (σ.set a y) { s with heap:=s.heap.update a f }:=⟨hF.1,fun p m=>by
 have g:=hF.2 p m
 have hne:p.1≠a:=fun q=>by rw [q,ha] at g;injection g.2.1
 exact ⟨g.1,(am.set_ne _ _ hne).trans g.2.1,g.2.2.1,(Heap.get?_update_other _ _ (Ne.symm hne)).trans g.2.2.2.1,g.2.2.2.2⟩⟩
theorem xm {it acc:Addr} {res:Value} {C:am->Prop}:∀ {xs:List V} {os:List (Addr×Obj)} {ys:List V} {σ:am} {B:PB} {s:Shared} {R:Result->Shared->Prop},xs.length+ys.length<2 ^ 20->
  gM G A.in1 kJ it C xs os->St G L B ρ σ s->da os L B σ s->σ acc=some (.list ys)->(∀ zs,C (σ.set acc (.list zs)))->
  (∀ B' s',B.le B'->St G L B' ρ (σ.set acc (.list (ys++xs))) s'->R (.ok (.ret res)) s')->
  codeAny (model G.prog G.w) A (.builtin "list.extend.loop" ⟨[.ref acc, .ref it,res],[]⟩) R s:=by
 intro xs
 induction xs with
 | nil=>
  intro os ys σ B s R hz hS st hF ha hC hR;refine codeAny_builtin F.entry_extend_loop ?_;rw [Around.under_plainId F.plain_extend_loop _];have e:=am.set_same ha;have hC':=hC ys;rw [e] at hC';refine jp (hS _ _ _ _ _ _ st hF hC' fun s' st'=>wpAny_pure (hR B s' (.refl B) ?_));rw [List.append_nil,e];exact st'
 | cons x xs ih=>
  intro os ys σ B s R hz hS st hF ha hC hR;refine codeAny_builtin F.entry_extend_loop ?_;rw [Around.under_plainId F.plain_extend_loop _];have e:=am.set_same ha;have hC':=hC ys;rw [e] at hC';refine jp (hS _ _ _ _ _ _ st hF hC' fun B1 s1 val os1 l₁ st1 hF1 r1 hS1=>?_)
  cases st1.slist ha with | mk vs ep el re=>
  have hsz:=dZ re;show wpAny _ A.in1 (updateSeq acc (·.push val)>>=_) _ _ _;exists (wpAny_updateSeq el rfl (wpAny_pure ⟨plainId_quiet F.plain_extend_loop _,?_⟩) (by rw [sizeLine_eq,hsz];simp at hz;lia) (by show (vs.push val).size<=sizeLine+1;rw [Array.size_push,hsz,sizeLine_eq];simp at hz;lia));have st2:=st1.updList ha el (·.push val) (by rw [Array.toList_push];exact re.append (.cons r1 .nil)) s1.toks;refine ih (ys:=ys++[x]) (by simp at hz ⊢;lia) hS1 st2 (hF1.upd ha _) (am.set_self ..) (fun zs=>by rw [am.set_set];exact hC zs) fun B' s' l' st'=>hR B' s' (l₁.trans l') ?_;rw [am.set_set,List.append_assoc] at st';exact st'
theorem l1:Manifest.owners.lookup (String.ofList ['s','y','e','k','_','t','c','i','d'].reverse)=some Manifest.sig_dict_keys:=by kernel_rfl
theorem eZ:Slot "dict_keys" "__iter__" "dict_keys.__iter__" :=
 .of (owner:= "dict_keys") (n:= "__iter__") (by rw [typeLookup_type,builtinLookup_eq_fast];kernel_rfl) nofun nofun nofun
  (by first | exact .inl nofun | exact .inr nofun) (by rw [isSubtype_type];kernel_rfl)
theorem i3:entryFor table "dict_keys.__iter__" = some Builtin.«dict_keys.__iter__»:=entryFor_of_tree (⋯)
theorem iI (a:Value):argsOk "dict_keys.__iter__" ⟨[a],[]⟩:=by
 unfold argsOk;rw [signature?_of (id:= "dict_keys.__iter__") (n:=['_','_','r','e','t','i','_','_']) (o:=['s','y','e','k','_','t','c','i','d']) (⋯) l1];kernel_rfl
theorem jO:Slot "dict_keys" "__len__" "dict_keys.__len__" :=
 .of (owner:= "dict_keys") (n:= "__len__") (by rw [typeLookup_type,builtinLookup_eq_fast];kernel_rfl) nofun nofun nofun
  (by first | exact .inl nofun | exact .inr nofun) (by rw [isSubtype_type];kernel_rfl)
theorem vF {val:Value} (hT:s.TypeIs val "dict") {E:Value->Shared->Prop} {Q:Bool->Shared->Prop} (h:Q false s):wpAny (model G.prog G.w) A (Builtin.List.listLengthHint val) Q E s:=by
 revert G A s val E Q
 injections G A s val
 intro hT
 injections E Q
 intro h;exists (wpAny_specialOf hT F.slot_dict_len.lookup ?_);generalize hid:("dict.__len__" :String)=id0
 wp_delta
 rw [show splitId id0=some ("dict", "__len__") from by subst hid;decide +kernel];subst hid;exists (wpAny_isInstance (T:= "dict") (b:=true) hT (by rw [isSubtype_type];kernel_rfl) ?_);refine wpAny_ite_split (fun hab=>absurd hab (by decide)) (fun _=>?_);refine wpAny_ite_split (fun _=>?_) (fun hab=>absurd nofun hab);exists (wpAny_typeOf hT ?_);exact wpAny_pure h
theorem xI {val:Value} (hT:s.TypeIs val "set") {E:Value->Shared->Prop} {Q:Bool->Shared->Prop} (h:Q false s):wpAny (model G.prog G.w) A (Builtin.List.listLengthHint val) Q E s:=by
 revert G A s val E Q
 injections G A s val
 intro hT
 injections E Q
 intro h;exists (wpAny_specialOf hT F.slot_set_len.lookup ?_);generalize hid:("set.__len__" :String)=id0
 wp_delta
 rw [show splitId id0=some ("set", "__len__") from by subst hid;decide +kernel];subst hid;exists (wpAny_isInstance (T:= "set") (b:=true) hT (by rw [isSubtype_type];kernel_rfl) ?_);refine wpAny_ite_split (fun hab=>absurd hab (by decide)) (fun _=>?_);refine wpAny_ite_split (fun _=>?_) (fun hab=>absurd nofun hab);exists (wpAny_typeOf hT ?_);exact wpAny_pure h
theorem nH {val:Value} (hT:s.TypeIs val "dict_keys") {E:Value->Shared->Prop} {Q:Bool->Shared->Prop} (h:Q false s):wpAny (model G.prog G.w) A (Builtin.List.listLengthHint val) Q E s:=by
 revert G A s val E Q
 injections G A s val
 intro hT
 injections E Q
 intro h;exists (wpAny_specialOf hT jO.lookup ?_);generalize hid:("dict_keys.__len__" :String)=id0
 wp_delta
 rw [show splitId id0=some ("dict_keys", "__len__") from by subst hid;decide +kernel];subst hid;exists (wpAny_isInstance (T:= "dict_keys") (b:=true) hT (by rw [isSubtype_type];kernel_rfl) ?_);refine wpAny_ite_split (fun hab=>absurd hab (by decide)) (fun _=>?_);refine wpAny_ite_split (fun _=>?_) (fun hab=>absurd nofun hab);exists (wpAny_typeOf hT ?_);exact wpAny_pure h
abbrev va (G:aK) (A:Around) (v:V) (σ:am) (Q:List V->am->Prop):Prop:=
 ∀ L B ρ s val,St G L B ρ σ s->VR B v val->cq G A L VRs ρ (collect val) Q B s
theorem qv {acc:Addr} (st:St G L B ρ σ s) (ha:σ acc=some (.list ys)) (hz:ys.length<2 ^ 20) {E:Value->Shared->Prop} {Q:Unit->Shared->Prop} (h:∀ h',Heap.SameBut acc s.heap h'->St G L B ρ σ { s with heap:=h' }->Q () { s with heap:=h' }):wpAny (model G.prog G.w) A (Builtin.List.listTouch (.ref acc)) Q E s:=by
 cases st.slist ha with | mk vs ep el re=>
 have hsz:=dZ re;show wpAny _ _ (updateSeq acc (·.push .none)>>=fun _=>updateSeq acc (·.pop)) _ _ _;exists (wpAny_updateSeq el rfl ?_ (by rw [sizeLine_eq,hsz];exact rF hz rfl) (by show (vs.push Value.none).size<=sizeLine+1;rw [Array.size_push,hsz,sizeLine_eq];exact eW hz rfl));have hS2:=Jc (Obj.mapSeq (·.push Value.none)) el rfl;refine wpAny_updateSeq hS2 rfl ?_ (by show (vs.push Value.none).size<=sizeLine;rw [Array.size_push,hsz,sizeLine_eq];exact eW hz rfl) (by show (vs.push Value.none).pop.size<=sizeLine+1;rw [Array.size_pop,Array.size_push,hsz,sizeLine_eq];exact rF hz rfl);have hS3:=Jc (Obj.mapSeq (·.pop)) hS2 rfl;have hs:Heap.SameBut acc s.heap ((s.heap.update acc (Obj.mapSeq (·.push Value.none))).update acc (Obj.mapSeq (·.pop))):=(Heap.SameBut.update ..).trans (Heap.SameBut.update ..);refine h _ hs ?_;have e:=am.set_same ha
 have:=st.upd (x':= .list ys) ha rfl rfl hs hS3 ⟨_,_,rfl,by show VRs B ys (vs.push Value.none).pop.toList;rw [Array.pop_push];exact re⟩ s.toks
 rw [e] at this;exact this
theorem rp (hh:A.handled=none) {tgt:Expr} {a:Addr} {Q:am->(am->Prop)->List V->Prop} (ha:σ a=some (.raw (dU "dict_keys" d))) (h:σ d=some (.idict kvs ver)) (q:Q σ (fun σ=>σ d=some (.idict kvs ver)) (aB (kvs.map (·.1)))):WI G A L tgt (.ref a) ρ σ Q:=fun B s val st r=>by
 revert G A ρ σ L d kvs ver tgt a Q B s val
 injections G A ρ σ L d kvs ver
 intro hh
 injections tgt a
 injections Q
 intro ha h q
 injections B s
 injections val
 intro st r;obtain rfl:=r.refE;ac_rfl
 cases st.dict h with | mk kxs hD rk=>
 obtain ⟨o,ho,rfl⟩:=st.get ha;obtain ⟨od,es,hz0⟩:=id hD;right;have hT:s.TypeIs (.ref a) "dict_keys" :=⟨_,ho,rfl⟩;refine wpAny_pyIter_slot hT eZ (wpAny_call_entry eZ hT i3 ?_ (iI _));exists (wpAny_pure ?_);refine wpAny_bind ?_;exists (wpAny_field ho rfl (x:= .ref d) rfl (wpAny_pure ?_));refine wpAny_bind ?_;exists (wpAny_dictEntries hz0.1 hz0.2.2.1 ?_);exists (wpAny_dictEpoch hz0.1 hz0.2.2.1 ?_)
 have hsz:es.size=kvs.length:=by rw [rk.length,<- hz0.2.2.2.2.1.length];simp
 have hown:Builtin.Dict_items.ownsTuple "dict_keyiterator" = false:=by decide
 simp only [hown,Bool.false_eq_true,if_false];refine wpAny_newObj_type (wpAny_pure ⟨_,rfl, "dict_keyiterator",_,⟨_,I7 _ rfl,rfl⟩,F.slot_dict_keyiterator_next.lookup,?_⟩);exact ⟨_,_,_,_,B,_,rfl, .refl B,st.push _,st.one rfl rfl,h,nX hh kvs 0 _ rfl ⟨rfl,by simp [rawInt,hsz]⟩, .one fun s Q e q=>wpAny_pyIter_keyiter (n:=kvs.length) (ep:=gY ver) (d:=d) (i:=0) ⟨_,e,rfl,by simp [rawInt,hsz]⟩ q,q⟩
abbrev Bq (G:aK) (v:V) (σ:am) (T:String):Prop:=∀ L B ρ s val,St G L B ρ σ s->VR B v val->s.TypeIs val T
theorem sW (h:σ d=some (.idict kvs ver)):Bq G (.ref d) σ "dict" :=fun L B ρ s val st r=>by
 obtain rfl:=r.refE;cases st.dict h with | mk kxs hd _=>exact hd.dictOf.typeIs
theorem uY {a:Addr} {o:Obj} {T:String} (h:σ a=some (.raw o)) (hc:o.cls = .type T):Bq G (.ref a) σ T:=fun L B ρ s val st r=>by
 obtain rfl:=r.refE;cases st.own _ _ h with | mk o ho e _=>exact ⟨o,ho,by rw [(e:o=_)];exact hc⟩
inductive y7 (G:aK) (v:V) (acc:Addr) (ys:List V) (T:String) (Qx:am->List V->Prop) (σ₂:am) (C:am->Prop) (xs:List V):Prop
 | mk (ha:σ₂ acc=some (.list ys)) (hC:∀ zs,C (σ₂.set acc (.list zs))) (hz:xs.length+ys.length<2 ^ 20) (hy:Bq G v σ₂ T) (q:Qx σ₂ xs):y7 G v acc ys T Qx σ₂ C xs
set_option tactic.hygienic true in
theorem notSame {acc:Addr} {val:Value} {T:String} (ha:∃ o,s.heap.get? acc=some o/\o.cls = .type "list") (hv:s.TypeIs val T) (hT:(T == "list")=false):Builtin.List.listSameRef (.ref acc) val=false:=by
 cases val <;> try rfl
 rename_i a;obtain ⟨o,hz0⟩:=ha;refine beq_eq_false_iff_ne.mpr fun q=>?_;subst q;obtain ⟨o',ho,hc'⟩:=hv;rw [hz0.1] at ho;obtain rfl:=Option.some.inj ho;rw [hz0.2] at hc'
 (injection hc' with zz;subst zz)
 exact absurd hT (by decide)
theorem jB {acc:Addr} {res val:Value} {T:String} {R:Result->Shared->Prop} {Qx:am->List V->Prop} (st:St G L B ρ σ s) (r:VR B v val) (ha:σ acc=some (.list ys)) (hy:Bq G v σ T)
  (hT:(T == "list")=false/\(T == "tuple")=false) (hint:∀ {s:Shared} {val:Value} {E:Value->Shared->Prop} {Q:Bool->Shared->Prop},s.TypeIs val T->Q false s->wpAny (model G.prog G.w) A.in1 (Builtin.List.listLengthHint val) Q E s)
  (h:WI G A.in1 L kJ v ρ σ (y7 G v acc ys T Qx))
  (hR:∀ B' σ2 xs s',B.le B'->Qx σ2 xs->St G L B' ρ (σ2.set acc (.list (ys++xs))) s'->R (.ok (.ret res)) s'):
  wpAny (model G.prog G.w) A.in1 (Builtin.List.listExtendWith (.ref acc) val res)
   (fun fin s'=>match fin with | .done f=>R (.ok f) s' | .again c'=>c'.quiet=true/\codeAny (model G.prog G.w) A c' R s') (fun e s'=>R (.error e) s') s:=by
 intros G A ρ σ L B s ys v acc res val T R Qx
 intro st r ha hy hT hint h hR;have hv:=hy L B ρ s val st r;exists (wpAny_typeOf hv ?_)
 have h1:Builtin.List.listSameRef (.ref acc) val=false:=by cases st.slist ha with | mk vs ep el _=>exact notSame ⟨_,el,rfl⟩ hv hT.1
 have h2:(Value.type T==Value.type "list")=false:=beq_eq_false_iff_ne.mpr fun e=>beq_eq_false_iff_ne.mp hT.1 (Value.type.inj e);have h3:(Value.type T==Value.type "tuple")=false:=beq_eq_false_iff_ne.mpr fun e=>beq_eq_false_iff_ne.mp hT.2 (Value.type.inj e);simp only [h1,h2,h3,Bool.or_false,Bool.false_eq_true,if_false];exists (wpAny_mono (h B s val st r) (fun _ s2 z=>?_) fun _ _ e=>False.elim e)
 cases z with | mk it os C xs B2 σ2 e l₂ st2 hF hC hS hself z=>
 subst e
 cases z with | mk ha2 hCz hz hy2 q=>
 exists (wpAny_holding (hint (hy2 _ _ _ _ _ st2 (r.mono l₂)) ?_))
 have key:∀ s3:Shared,St G L B2 ρ σ2 s3->da os L B2 σ2 s3->codeAny (model G.prog G.w) A (.builtin "list.extend.loop" ⟨[.ref acc, .ref it,res],[]⟩) R s3:=fun s3 st3 hF3=>
  xm hz hS st3 hF3 ha2 hCz fun B' s' l' st'=>hR B' σ2 xs s' (l₂.trans l') q st'
 refine wpAny_ite_split (fun _=>?_) (fun _=>wpAny_pure ⟨plainId_quiet F.plain_extend_loop _,key _ st2 hF⟩);exists (wpAny_rule (wpAny_bind (qv st2 ha2 (Nat.lt_of_add_left_lt hz) fun h' hs st3=>wpAny_pure ⟨plainId_quiet F.plain_extend_loop _,key _ st3 ⟨hF.1,fun p m=>?_⟩⟩)));have g:=hF.2 p m;exact ⟨g.1,g.2.1,g.2.2.1,(hs.2 _ fun q=>by rw [q,ha2] at g;injection g.2.1).trans g.2.2.2.1,g.2.2.2.2⟩
inductive CX (G:aK) (L:Addr) (ρ:aX) (Q:List V->am->Prop) (B:PB) (acc:Addr) (r:Result) (s':Shared):Prop
 | mk (B':PB) (σ₂:am) (xs:List V) (e:r = .ok (.ret (.ref acc))) (l:B.le B') (q:Q xs (σ₂.set acc (.list xs))) (st:St G L B' ρ (σ₂.set acc (.list xs)) s'):CX G L ρ Q B acc r s'
theorem ph {T:String} {Q:List V->am->Prop} (hT:(T == "list")=false/\(T == "tuple")=false)
  (hint:∀ {A:Around} {s:Shared} {val:Value} {E:Value->Shared->Prop} {Q:Bool->Shared->Prop},s.TypeIs val T->Q false s->wpAny (model G.prog G.w) A (Builtin.List.listLengthHint val) Q E s)
  (h:∀ acc,σ acc=none->∀ L ρ,Bq G v (σ.set acc (.list [])) T/\WI G A.in1 L kJ v ρ (σ.set acc (.list [])) (y7 G v acc [] T fun σ2 xs=>Q xs (σ2.set acc (.list xs)))):
  va G A v σ Q:=fun L B ρ s val st r=>by
 have h:=h s.heap.objs.size (st.fresh (I4 _)) L ρ;exists (wpAny_runValue (codeAny_builtin F.entry_proto_collect ?_));dsimp only [Around.under_plainId F.plain_proto_collect _]
 show wpAny _ _ (do again (.builtin "list.__iadd__" ⟨[<- newList [],val],[]⟩)) _ _ s
 exists (wpAny_newObj_type (wpAny_pure ⟨plainId_quiet F.plain_list_iadd _,codeAny_mono (R:=CX G L ρ Q B s.heap.objs.size) ?_ fun r s' z=>?_⟩))
 ·refine codeAny_builtin F.entry_list_iadd ?_;rw [Around.under_plainId F.plain_list_iadd _]
  exact jB (A:=A) (st.alloc (x:= .list []) (o:={ cls:= .type "list",dict:=none,data:= .seq ([]:List Value).toArray }) rfl rfl ⟨#[],0,rfl, .nil⟩) r (am.set_self ..) h.1 hT hint h.2
   fun B' σ2 xs s' l' q st'=>⟨B',σ2,xs,rfl,l',q,st'⟩
 ·cases z with | mk B' σ2 xs e l' q st'=>
  subst e
  cases st'.slist (am.set_self ..) with | mk vs ep el re=>
  exact wpAny_bind (wpAny_load el (wpAny_pure ⟨B',xs,_,l',st',re,q⟩))
theorem vc {Q:List V->am->Prop} (hl:bE σ l xs) (hz:xs.length<2 ^ 20) (q:∀ acc,σ acc=none->Q xs (σ.set acc (.list xs))):va G A (.ref l) σ Q:=fun L B ρ s val st r=>by
 obtain rfl:=r.refE
 cases st.lst hl with | mk vs ep el re=>
 have hsz:=dZ re
 have hl':s.heap.IsList l vs.toList.toArray:=by simpa using bg el
 refine collect_list hl' ?_ (by rw [sizeLine_eq,<- re.length];exact rF hz rfl);have st1:=st.alloc (x:= .list []) (o:=seqObj "list" #[] 0) rfl rfl ⟨#[],0,rfl, .nil⟩;have ha:(σ.set s.heap.objs.size (.list [])) s.heap.objs.size=some (.list []):=am.set_self ..;have st2:=st1.updList (ys:=xs) ha (vs:= #[]) (ep:=0) (I7 _ rfl) (· ++ vs.toList.toArray) (by simpa using re) s.toks;rw [am.set_set] at st2;exact ⟨B,xs,_, .refl B,st2,re,q _ (st.fresh (I4 _))⟩
theorem vb (hh:A.handled=none) {Q:List V->am->Prop} (h:σ d=some (.idict kvs ver)) (hz:kvs.length<1000) (q:∀ acc,σ acc=none->Q (aB (kvs.map (·.1))) (σ.set acc (.list (aB (kvs.map (·.1)))))):va G A (.ref d) σ Q:=by
 refine ph (T:= "dict") ⟨by decide,by decide⟩ (fun hT hq=>vF hT hq) fun acc hacc L ρ=>?_
 have hne:d≠acc:=fun e=>by rw [e,hacc] at h;injection h
 have h':∀ zs,(σ.set acc (.list zs)) d=some (.idict kvs ver):=fun zs=>by rw [am.set_ne _ _ hne];exact h
 refine ⟨sW (h' _),p8 (A:=A.in1) hh (h' _) ⟨am.set_self ..,fun zs=>?_,by simp;exact eW hz rfl,sW (h' _),?_⟩⟩
 ·rw [am.set_set];exact h' _
 ·rw [am.set_set];exact q acc hacc
theorem Ah {ns:List Int}:∀ {vals:List Value},VRs B (aB ns) vals->IntsAre vals ns:=by
 induction ns with
 | nil=>intro vals r;cases r;exact .nil
 | cons n ns ih=>intro vals r;cases r with | cons a b=>cases a;exact .cons _ _ (ih b)
theorem Ap {ns:List Int} {vals:List Value} (h:IntsAre vals ns):VRs B (aB ns) vals:=by
 induction h with
 | nil=>exact .nil
 | cons _ _ _ ih=>exact .cons (.int _ _) ih
inductive AU (Q:V->am->Prop) (xs:List V) (σ':am):Prop
 | mk (ns:List Int) (e:xs=aB ns) (few:ns.length<64) (q:∀ a ns',σ' a=none->ns'.Perm ns->ns'.Pairwise (·<=·)->Q (.ref a) (σ'.set a (.list (aB ns')))):AU Q xs σ'
theorem u9 {Q:V->am->Prop} (h:va G A.in1 v σ (AU Q)):WC G A (.bi "sorted") [v] [] σ Q:= .bi1 fun L B ρ s val st r1=>by
 refine Calls.call_function_entry kind_sorted plain_sorted entry_sorted (args_sorted1 _) ?_;refine wpAny_bind (m:=checkCount "sorted" 1 1 _) (wpAny_pure ?_);exists ((h L B ρ s val st r1).to fun B1 s1 vals xs σ1 l₁ st1 r₁ z=>?_)
 cases z with | mk ns e h64 q=>
 subst e;have hI:=Ah r₁;exists (wpAny_newList ?_);have hoL:(s1.heap.push (seqObj "list" vals.toArray 0)).get? s1.heap.objs.size=some (seqObj "list" vals.toArray 0):=I7 _ rfl
 have hlen:vals.length<64:=by rw [<- r₁.length];simpa using h64
 exists (wpAny_holding (wpAny_call_entry slot_list_sort ⟨_,hoL,rfl⟩ entry_list_sort (list_sort_tree (s:={ s1 with heap:=s1.heap.push (seqObj "list" vals.toArray 0) }) hoL hI hlen fun out ns' a1 a2 a3=>⟨_,rfl,?_⟩) (args_list_sort _)));obtain ⟨e,he⟩:=sortedHeap_at (out:=out) hoL;have hsz:(s1.heap.push (seqObj "list" vals.toArray 0)).objs.size=s1.heap.objs.size+1:=Heap.size_push ..
 have hk:∀ b o,s1.heap.get? b=some o->(sortedHeap (s1.heap.push (seqObj "list" vals.toArray 0)) s1.heap.objs.size vals out).get? b=some o:=fun b o e=>by
  have hb:=I9 e;exact (sortedHeap_old (Nat.ne_of_lt hb) (by rw [hsz];exact Nat.lt_succ_of_lt hb)).trans (I8 _ e)
 generalize sortedHeap (s1.heap.push (seqObj "list" vals.toArray 0)) s1.heap.objs.size vals out=H at he hk ⊢;have st2:St G L B1 ρ σ1 { s1 with heap:=H }:=st1.more (t:=s1.toks) hk;have st3:=st2.adopt (x:= .list (aB ns')) (o:=seqObj "list" out e) rfl (st1.freshB (I4 _)) (st1.bigL (I4 _)) (st1.big (I4 _)) he ⟨out,e,rfl,Ap a1⟩;refine wpAny_pure ⟨.ref s1.heap.objs.size,rfl,?_⟩;exact ⟨B1, .ref s1.heap.objs.size,σ1.set s1.heap.objs.size (.list (aB ns')),l₁,st3, .ref _,q s1.heap.objs.size ns' (st1.fresh (I4 _)) a2 a3⟩
theorem p5 {T:String} {Q:V->am->Prop} (hT:(T == "list")=false/\(T == "tuple")=false)
  (hint:∀ {A:Around} {s:Shared} {val:Value} {E:Value->Shared->Prop} {Q:Bool->Shared->Prop},s.TypeIs val T->Q false s->wpAny (model G.prog G.w) A (Builtin.List.listLengthHint val) Q E s)
  (h:∀ acc,σ acc=none->∀ L ρ,Bq G v (σ.set acc (.list [])) T/\WI G A.in1.in1 L kJ v ρ (σ.set acc (.list [])) (y7 G v acc [] T fun σ2 xs=>Q (.ref acc) (σ2.set acc (.list xs)))):
  WC G A (.ty "list") [v] [] σ Q:=by
 intros G A σ v T Q
 intro hT hint h
 injections L B ρ s
 intro fv ys kx st rf r rk;obtain ⟨val,rfl,r1⟩:=r.one;obtain rfl:=rf.tyE;obtain rfl:=rk.nilE
 refine callType_codes (Q₁:=fun obj s1=>obj = .ref s.heap.objs.size/\s1={ s with heap:=s.heap.push { cls:= .type "list",data:= .seq #[] } }) F.called_list (F.typeCall_list_1 _) F.entry_list_init
  (code_list_new _ ⟨rfl,rfl⟩) fun obj s1 h1=>?_
 obtain ⟨rfl,rfl⟩:=h1;have h:=h s.heap.objs.size (st.fresh (I4 _)) L ρ;have hS:(s.heap.push { cls:= .type "list",data:= .seq #[] }).get? s.heap.objs.size=some { cls:= .type "list",data:= .seq #[] }:=I7 _ rfl;have st2:=(st.alloc (x:= .list []) (o:={ cls:= .type "list",data:= .seq #[] }) rfl rfl ⟨#[],0,rfl, .nil⟩).updList (ys:=[]) (am.set_self ..) hS (fun _=> #[]) .nil s.toks;rw [am.set_set] at st2;refine ⟨⟨_,hS,rfl⟩,F.args_list_init_2 _ _,?_⟩;show wpAny _ _ (Builtin.List.listItems (.ref s.heap.objs.size)>>=_) _ _ _;refine wpAny_bind ?_;exists (wpAny_seqItems hS rfl (wpAny_pure ?_));show wpAny _ _ (updateSeq s.heap.objs.size (fun _=> #[])>>=fun _=>letGo (#[]:Array Value).toList.reverse>>=fun _=>Builtin.List.listExtendWith (.ref s.heap.objs.size) val .none) _ _ _;exact wpAny_bind (wpAny_updateSeq hS rfl (wpAny_bind (wpAny_letGo (jB (A:=A.in1) st2 r1 (am.set_self ..) h.1 hT hint h.2 fun B' σ2 xs s' l' q st'=>⟨rfl,B', .ref _,_,l',st', .ref _,q⟩))) (Nat.zero_le _) (Nat.zero_le _))
theorem p6 (hh:A.handled=none) {a:Addr} {Q:V->am->Prop} (ha:σ a=some (.raw (dU "dict_keys" d))) (h:σ d=some (.idict kvs ver)) (hz:kvs.length<1000) (q:∀ acc,σ acc=none->Q (.ref acc) (σ.set acc (.list (aB (kvs.map (·.1)))))):WC G A (.ty "list") [.ref a] [] σ Q:=by
 refine p5 (T:= "dict_keys") ⟨by decide,by decide⟩ (fun hT hq=>nH hT hq) fun acc hacc L ρ=>?_
 have h':∀ zs,(σ.set acc (.list zs)) d=some (.idict kvs ver):=fun zs=>by rw [am.set_ne _ _ (fun e=>by rw [e,hacc] at h;injection h)];exact h
 have ha':∀ zs,(σ.set acc (.list zs)) a=some (.raw (dU "dict_keys" d)):=fun zs=>by rw [am.set_ne _ _ (fun e=>by rw [e,hacc] at ha;injection ha)];exact ha
 refine ⟨uY (ha' _) rfl,rp (A:=A.in1.in1) hh (ha' _) (h' _) ⟨am.set_self ..,fun zs=>?_,by simp;exact eW hz rfl,uY (ha' _) rfl,?_⟩⟩
 ·rw [am.set_set];exact h' _
 ·rw [am.set_set];exact q acc hacc
theorem oJ {Q:V->am->Prop} {vs:List V} (hz:vs.length<1000) (q:∀ acc,σ acc=none->Q (.ref acc) (σ.set acc (.list vs))):WC G A (.ty "list") [.tup vs] [] σ Q:=fun L B ρ s fv ys kx st rf r rk=>by
 obtain ⟨val,rfl,r1⟩:=r.one;obtain rfl:=rf.tyE;obtain rfl:=rk.nilE;obtain ⟨a,ys,rfl,e,re⟩:=r1.tupE
 have hsz:ys.size=vs.length:=by rw [<- Array.length_toList,<- re.length]
 refine call_list_seq a (.inr rfl) (st.keep _ _ e) rfl rfl (fun h' c' hk ho=>?_) (by rw [hsz,sizeLine_eq];exact rF hz rfl);have sz:=I4 s.heap.objs.size;exact ⟨B, .ref _,_, .refl B,(st.more (t:=s.toks) hk).adopt (x:= .list vs) rfl (st.freshB sz) (st.bigL sz) (st.big sz) ho ⟨ys,c',rfl,re⟩, .ref _,q _ (st.fresh sz)⟩
end
theorem jn (M:Nat):∀ a b i,j3 M (a+b) i=j3 M b (j3 M a i)
 | 0,b,i=>by rw [Nat.zero_add];rfl
 | a+1,b,i=>by rw [Nat.succ_add];exact jn M a b (uM M i)
abbrev vM (M:Nat):Nat->Nat->Nat
 | 0,_=>0
 | n+1,i=>2 ^ i ||| vM M n (uM M i)
theorem pQ {M:Nat}:∀ n i j,(vM M n i).testBit j=true->∃ m,m<n/\j3 M m i=j
 | 0,i,j,h=>by rw [show vM M 0 i=0 from rfl,Nat.zero_testBit] at h;injection h
 | n+1,i,j,h=>by
  rw [show vM M (n+1) i=2 ^ i ||| vM M n (uM M i) from rfl,Nat.testBit_or,Bool.or_eq_true,Nat.testBit_two_pow,decide_eq_true_eq] at h;rcases h with h | h
  ·exact ⟨0,Nat.succ_pos _,h⟩
  ·obtain ⟨m,hz0⟩:=pQ n _ j h;exact ⟨m+1,Nat.succ_lt_succ hz0.1,hz0.2⟩
theorem gm {M:Nat} (hM:0<M) (h0:j3 M M 0=0) (hc:vM M M 0=2 ^ M - 1):iJ M:=by
 refine ⟨hM,fun i j hi hj=>?_⟩;have key:∀ j,j<M->∃ m,m<M/\j3 M m 0=j:=fun j hj=>pQ M 0 j (by rw [hc,Nat.testBit_two_pow_sub_one];exact I5 hj);obtain ⟨a,ha,rfl⟩:=key i hi;obtain ⟨b,hb,rfl⟩:=key j hj
 by_cases h:a<=b
 ·exact ⟨b - a,(Nat.sub_lt_of_lt hb),by rw [<- jn];congr 1;exact Nat.add_sub_of_le h⟩
 ·refine ⟨b+M - a,by omega,?_⟩;rw [<- jn]
  have:a+(b+M - a)=M+b:=by omega
  rw [this,jn,h0]
theorem xA:iJ 8:=gm (by decide) (⋯) (⋯)
theorem BE:iJ 32:=gm (by decide) (⋯) (⋯)
theorem BD:iJ 16:=gm (by decide) (⋯) (⋯)
theorem BF:iJ 64:=gm (by decide) (⋯) (⋯)
theorem zZ:iJ 128:=gm (by decide) (⋯) (⋯)
theorem Aa:iJ 256:=gm (by decide) (⋯) (⋯)
theorem Ab:iJ 512:=gm (by decide) (⋯) (⋯)
theorem xz:iJ 1024:=gm (by decide) (⋯) (⋯)
theorem ij {w:Nat} (h:w<1000):SetTable.sizeAbove w∈[8,16,32,64,128,256,512,1024]/\w<SetTable.sizeAbove w:=by
 have key:(List.range 1000).all (fun w=>decide (SetTable.sizeAbove w∈[8,16,32,64,128,256,512,1024])&&decide (w<SetTable.sizeAbove w))=true:=by decide +kernel
 have k:=Bool.and_eq_true_iff.mp (List.all_eq_true.mp key w (List.mem_range.mpr h));exact ⟨Jf k.1,Jf k.2⟩
theorem xB:∀ s∈[8,16,32,64,128,256,512,1024],iJ s:=
 List.forall_mem_cons.mpr ⟨xA,List.forall_mem_cons.mpr ⟨BD,List.forall_mem_cons.mpr ⟨BE,List.forall_mem_cons.mpr ⟨BF,List.forall_mem_cons.mpr ⟨zZ,List.forall_mem_cons.mpr ⟨Aa,List.forall_mem_cons.mpr ⟨Ab,List.forall_mem_cons.mpr ⟨xz,fun _ h=>nomatch h⟩⟩⟩⟩⟩⟩⟩⟩
theorem fJ {w:Nat} (h:w<1000):iJ (SetTable.sizeAbove w - 1+1)/\w<=SetTable.sizeAbove w - 1:=by
 have hz1:=ij h;refine ⟨?_,(Nat.le_sub_one_of_lt hz1.2)⟩;rw [Nat.sub_add_cancel (Nat.lt_of_add_left_lt hz1.2)];exact xB _ hz1.1
abbrev fR (mask:Nat):Nat->Nat×Nat->Nat×Nat
 | 0,p=>p
 | n+1,p=>fR mask n (SetTable.leap mask p.1 p.2)
theorem pL (mask:Nat):∀ a b p,fR mask (a+b) p=fR mask b (fR mask a p)
 | 0,b,i=>by rw [Nat.zero_add];rfl
 | a+1,b,i=>by rw [Nat.succ_add];exact pL mask a b _
theorem pM (mask:Nat):∀ n p,(fR mask n p).2=p.2 / 32 ^ n
 | 0,p=>(Nat.div_one _).symm
 | n+1,p=>by
  show (fR mask n (SetTable.leap mask p.1 p.2)).2=_;rw [pM mask n];show p.2 / 32 / 32 ^ n=_;rw [Nat.div_div_eq_div_mul,Nat.pow_succ,Nat.mul_comm]
theorem sj (mask:Nat):∀ n p,p.1<mask+1->(fR mask n p).1<mask+1
 | 0,p,h=>h
 | n+1,p,h=>sj mask n _ (Nat.mod_lt _ (Nat.succ_pos _))
theorem nM (mask:Nat):∀ n i,fR mask n (i,0)=(j3 (mask+1) n i,0)
 | 0,i=>rfl
 | n+1,i=>by
  show fR mask n ((i*5+1+0 / 32) % (mask+1),0 / 32)=_;rw [Nat.zero_div,Nat.add_zero];exact nM mask n _
theorem reach {mask:Nat} (hF:iJ (mask+1)) {i p j:Nat} (hp:p<2 ^ 64) (hi:i<mask+1) (hj:j<mask+1):∃ n,n+1<SetTable.turns mask/\(fR mask n (i,p)).1=j:=by
 have h2:(fR mask 13 (i,p)).2=0:=by
  rw [pM];exact Nat.div_eq_of_lt (Jd hp (by decide))
 have h1:=sj mask 13 (i,p) hi;obtain ⟨m,hz2⟩:=hF.2 _ j h1 hj;refine ⟨13+m,by unfold SetTable.turns;lia,?_⟩;rw [pL]
 have:fR mask 13 (i,p)=((fR mask 13 (i,p)).1,0):=by rw [<- h2]
 rw [this,nM];exact hz2.2
set_option tactic.hygienic true in
theorem free_some {mask:Nat} {owner:Array (Option Nat)} (hs:owner.size=mask+1):∀ (fuel i p j n:Nat),n<fuel->(fR mask n (i,p)).1=j->owner[j]?=some none->∃ j',SetTable.layClean.free mask owner fuel i p=some j'/\owner[j']?=some none
 | 0,_,_,_,_,h,_,_=>absurd h (Nat.not_lt_zero _)
 | fuel+1,i,p,j,n,hn,hj,ho=>by
  unfold SetTable.layClean.free
  split
  ·rename_i k hk
   have:=List.find?_some hk
   refine ⟨i+k,rfl,?_⟩;simp only [Option.isNone_iff_eq_none] at this;rw [Array.getD_eq_getD_getElem?] at this
   cases e:owner[i+k]? with
   | none=>rw [e] at this;injection this
   | some x=>rw [e] at this;simp at this;rw [this]
  ·rename_i hk
   cases n with
   | zero=>
    exfalso;have hj:i=j:=hj;subst hj
    have:=List.find?_eq_none.mp hk 0 (List.mem_range.mpr (by unfold SetTable.runEnd;split <;> lia))
    rw [Nat.add_zero,Array.getD_eq_getD_getElem?,ho] at this;exact this rfl
   | succ n=>exact free_some hs fuel _ _ j n (Nat.le_of_lt_succ hn) hj ho
theorem uA (h:Int):SetTable.bits h<2 ^ 64:=by unfold SetTable.bits;lia
theorem tG {l:List (Option Nat)} (h:(l.filterMap id).length<l.length):∃ j:Nat,l[j]?=some none:=by
 induction l with
 | nil=>simp at h
 | cons x r ih=>
  cases x with
  | none=>exact ⟨0,rfl⟩
  | some v=>
   simp at h;obtain ⟨j,e⟩:=ih (by simpa using h);exact ⟨j+1,by simpa using e⟩
theorem yn {l:List (Option Nat)} {j k:Nat} (h:l[j]?=some none):((l.set j (some k)).filterMap id).Perm (l.filterMap id++[k]):=by
 induction l generalizing j with
 | nil=>simp at h
 | cons x r ih=>
  cases j with
  | zero=>
   simp at h;subst h;simpa using (List.perm_append_comm (l₁:=[k]) (l₂:=r.filterMap id))
  | succ j=>
   simp at h
   have:=ih h
   cases x with
   | none=>simpa using this
   | some v=>simpa using this
abbrev qt (mask:Nat) (acc:Option (Array (Option Nat)×Nat)) (h:Int):Option (Array (Option Nat)×Nat):=do
 let (owner,k) <- acc
 let j <- SetTable.layClean.free mask owner (SetTable.turns mask) (SetTable.bits h % (mask+1)) (SetTable.bits h)
 pure (owner.setIfInBounds j (some k),k+1)
theorem xZ {mask:Nat} (hF:iJ (mask+1)):∀ (hs:List Int) (owner:Array (Option Nat)) (k:Nat),owner.size=mask+1->(owner.toList.filterMap id).Perm (List.range k)->k+hs.length<=mask->
  ∃ owner',hs.foldl (qt mask) (some (owner,k))=some (owner',k+hs.length)/\owner'.size=mask+1/\(owner'.toList.filterMap id).Perm (List.range (k+hs.length))
 | [],owner,k,hs,hp,_=>⟨owner,rfl,hs,hp⟩
 | h::hs,owner,k,hsz,hp,hk=>by
  have hlen:(owner.toList.filterMap id).length<owner.toList.length:=by
   rw [hp.length_eq,List.length_range,Array.length_toList,hsz];simp at hk;lia
  ac_rfl;obtain ⟨j,hj⟩:=tG hlen
  have hj':owner[j]?=some none:=by simpa using hj
  have hjl:j<mask+1:=by
   have:=(Array.getElem?_eq_some_iff.mp hj').1
   exact Ft hsz this
  obtain ⟨n,hz5⟩:=reach hF (uA h) (Nat.mod_lt (SetTable.bits h) (Nat.succ_pos mask)) hjl;obtain ⟨j',hz6⟩:=free_some hsz (SetTable.turns mask) _ _ j n (zD hz5.1) hz5.2 hj'
  have hl':owner.toList[j']?=some none:=by simpa using hz6.2
  have hstep:qt mask (some (owner,k)) h=some (owner.setIfInBounds j' (some k),k+1):=by
   show (SetTable.layClean.free mask owner (SetTable.turns mask) (SetTable.bits h % (mask+1)) (SetTable.bits h)).bind _=_;rw [hz6.1];rfl
  obtain ⟨owner',h1,h2,h3⟩:=xZ hF hs (owner.setIfInBounds j' (some k)) (k+1) (by simpa using hsz) (by
   rw [Array.toList_setIfInBounds];refine (yn hl').trans ?_;rw [List.range_succ]
   exact hp.append_right _) (by simp at hk ⊢;lia)
  right;refine ⟨owner',?_,h2,?_⟩
  ·dsimp only [List.foldl_cons,hstep,h1];congr 2;simp;lia
  ·have:k+(h::hs).length=k+1+hs.length:=by simp;lia
   rw [this];exact h3
theorem si {mask:Nat} (hF:iJ (mask+1)) (hashes:Array Int) (hn:hashes.size<=mask):∃ owner,SetTable.layClean mask hashes=some owner/\owner.size=mask+1/\(owner.toList.filterMap id).Perm (List.range hashes.size):=by
 ac_rfl;obtain ⟨owner,hz7⟩:=xZ hF hashes.toList (Array.replicate (mask+1) none) 0 (by simp) (by simp) (by simpa using hn);right;refine ⟨owner,?_,hz7.2.1,by simpa using hz7.2.2⟩
 have:SetTable.layClean mask hashes=(hashes.foldl (qt mask) (some (Array.replicate (mask+1) none,0))).map (·.1):=rfl
 rw [this,<- Array.foldl_toList,hz7.1];rfl
theorem x0 (owner:Array (Option Nat)):((List.range owner.size).filterMap fun j=>(owner.getD j none).map (j,·)).map (·.2)=owner.toList.filterMap id:=by
 have:∀ (l:List (Option Nat)),((List.range l.length).filterMap fun j=>((l[j]?).getD none).map fun x=>(j,x)).map (·.2)=l.filterMap id:=by
  intro l;rw [List.map_filterMap]
  have e:∀ j,Option.map (fun x:Nat×Nat=>x.2) (((l[j]?).getD none).map fun x=>(j,x))=(l[j]?).getD none:=fun j=>by cases (l[j]?).getD none <;> rfl
  simp only [e]
  induction l with
  | nil=>rfl
  | cons x r ih=>
   rw [List.length_cons,List.range_succ_eq_map,List.filterMap_cons,List.filterMap_map];dsimp only [List.getElem?_cons_zero,Option.getD_some,Function.comp_def,List.getElem?_cons_succ]
   rw [ih (fun j=>by cases (r[j]?).getD none <;> rfl)]
   cases x <;> rfl
 have h:=this owner.toList;rw [Array.length_toList] at h;rw [<- h]
 congr 2
 funext j
 rw [Array.getD_eq_getD_getElem?,Array.getElem?_toList]
theorem qr {mask:Nat} (hF:iJ (mask+1)) (finger moves:Nat) (led plain:Bool) (hashes:Array Int) (hn:hashes.size<=mask):
  ∃ t order,SetTable.laid mask finger moves led plain hashes=some (t,order)/\t.place.toList.Pairwise (· < ·)/\t.mask=mask/\t.led=led/\t.plain=plain/\t.dummies=#[]/\order.toList.Perm (List.range hashes.size)/\t.fits hashes.size=true:=by
 ac_rfl;obtain ⟨owner,hz8⟩:=si hF hashes hn;right;have hs:=x0 owner;rw [hz8.2.1] at hs
 have hp:((List.range (mask+1)).filterMap fun j=>(owner.getD j none).map (j,·)).map (·.2) |>.Perm (List.range hashes.size):=by rw [hs];exact hz8.2.2
 have hlen:((List.range (mask+1)).filterMap fun j=>(owner.getD j none).map (j,·)).length=hashes.size:=by
  have:=hp.length_eq
  simpa using this
 refine ⟨_,_,by unfold SetTable.laid;rw [hz8.1];rfl,?_,rfl,rfl,rfl,rfl,hp,?_⟩
 ·show (((List.range (mask+1)).filterMap fun j=>(owner.getD j none).map (j,·)).map (·.1)).Pairwise (· < ·);rw [List.pairwise_map];refine List.Pairwise.filterMap _ ?_ List.pairwise_lt_range;intro a b hab x hx y hy;simp only [Option.map_eq_some_iff] at hx hy;obtain ⟨_,_,rfl⟩:=hx;obtain ⟨_,_,rfl⟩:=hy;exact hab
 unfold SetTable.fits SetTable.fill;simp only [List.size_toArray,IP,hlen]
 simp;exact hn
theorem jN {es:Array (Int×Value)} {order:Array Nat} (h:order.toList.Perm (List.range es.size)):(order.filterMap (es[·]?)).toList.Perm es.toList:=by
 rw [Array.toList_filterMap]
 have:=(h.filterMap fun i=>es[i]?)
 rwa [filterMap_getElem?_range] at this
@[reducible] noncomputable def qU:=Nat×Nat×Nat×Nat
abbrev dg (p:SetTable.Probe):qU:=(p.j,p.more,p.i,p.perturb)
abbrev tC (mask:Nat) (c:qU):qU:=
 if c.2.1 > 0 then (c.1+1,c.2.1 - 1,c.2.2.1,c.2.2.2) else
 ((SetTable.leap mask c.2.2.1 c.2.2.2).1,SetTable.runEnd mask (SetTable.leap mask c.2.2.1 c.2.2.2).1 - (SetTable.leap mask c.2.2.1 c.2.2.2).1,(SetTable.leap mask c.2.2.1 c.2.2.2).1,(SetTable.leap mask c.2.2.1 c.2.2.2).2)
abbrev dX (mask:Nat):Nat->qU->qU
 | 0,c=>c
 | n+1,c=>dX mask n (tC mask c)
theorem jh (mask:Nat):∀ a b c,dX mask (a+b) c=dX mask b (dX mask a c)
 | 0,b,c=>by rw [Nat.zero_add];rfl
 | a+1,b,c=>by rw [Nat.succ_add];exact jh mask a b _
theorem ia (t:SetTable) (p:SetTable.Probe):dg (t.advance p)=tC t.mask (dg p):=by
 unfold SetTable.advance tC dg;dsimp only
 split <;> rfl
abbrev kS (mask:Nat) (x:Nat×Nat):qU:=(x.1,SetTable.runEnd mask x.1 - x.1,x.1,x.2)
theorem qI (mask:Nat):∀ (m j i p:Nat),dX mask (m+1) (j,m,i,p)=kS mask (SetTable.leap mask i p)
 | 0,j,i,p=>rfl
 | m+1,j,i,p=>by
  show dX mask (m+1) (tC mask (j,m+1,i,p))=_
  have:tC mask (j,m+1,i,p)=(j+1,m,i,p):=by unfold tC;simp
  rw [this];exact qI mask m (j+1) i p
theorem pT (mask i:Nat):SetTable.runEnd mask i - i<=9:=by unfold SetTable.runEnd;split <;> lia
theorem pW (mask:Nat):∀ (m:Nat) (x:Nat×Nat),∃ n,n<=10*m/\dX mask n (kS mask x)=kS mask (fR mask m x)
 | 0,x=>⟨0,I4 _,rfl⟩
 | m+1,x=>by
  obtain ⟨n,hz9⟩:=pW mask m (SetTable.leap mask x.1 x.2);refine ⟨SetTable.runEnd mask x.1 - x.1+1+n,by have:=pT mask x.1;lia,?_⟩;rw [jh]
  have:dX mask (SetTable.runEnd mask x.1 - x.1+1) (kS mask x)=kS mask (SetTable.leap mask x.1 x.2):=qI ..
  rw [this];exact hz9.2
theorem BY {mask:Nat} (hF:iJ (mask+1)) {c:qU} (hm:c.2.1<=9) (hp:c.2.2.2<2 ^ 64) {j:Nat} (hj:j<mask+1):∃ n,n<10*SetTable.turns mask/\(dX mask n c).1=j:=by
 have hl:(SetTable.leap mask c.2.2.1 c.2.2.2).1<mask+1:=Nat.mod_lt _ (Nat.succ_pos _);have hp':(SetTable.leap mask c.2.2.1 c.2.2.2).2<2 ^ 64:=Je (Nat.div_le_self _ _) hp;ac_rfl;obtain ⟨n,hz10⟩:=reach hF hp' hl hj;obtain ⟨k,hz11⟩:=pW mask n (SetTable.leap mask c.2.2.1 c.2.2.2);right;refine ⟨c.2.1+1+k,by lia,?_⟩;rw [jh]
 have:dX mask (c.2.1+1) c=kS mask (SetTable.leap mask c.2.2.1 c.2.2.2):=qI mask c.2.1 c.1 c.2.2.1 c.2.2.2
 rw [this,hz11.2];exact hz10.2
theorem sM {t:SetTable} {j:Nat} (h:t.slot j≠ .empty):j∈t.place.toList++t.dummies.toList:=by
 unfold SetTable.slot at h;dsimp only at h
 split at h
 ·rename_i e
  exact IS _ (by
   have:=Array.mem_of_getElem? (Jj.mp e)
   simpa using this)
 ·split at h
  ·rename_i e;unfold SetTable.has at e
   exact IT _ (by
    have:=Array.mem_of_getElem? (Jj.mp e)
    simpa using this)
  ·exact absurd rfl h
theorem ye:∀ (n:Nat) (l:List Nat),l.length<n->∃ j,j<n/\j∉l
 | 0,l,h=>absurd h (Nat.not_lt_zero _)
 | n+1,l,h=>by
  by_cases hm:n∈l
  ·obtain ⟨j,hj,hn⟩:=ye n (l.filter (·≠n)) (by
    have h1:(l.filter (·≠n)).length<l.length:=by
     have:=List.length_filter_lt_length_iff_exists (p:=fun x=>decide (x≠n)) (l:=l)
     refine this.mpr ⟨n,hm,by simp⟩
    lia)
   refine ⟨j,Nat.lt_succ_of_lt hj,fun hmem=>hn (List.mem_filter.mpr ⟨hmem,by simp;exact Nat.ne_of_lt hj⟩)⟩
  ·exact ⟨n,Nat.lt_succ_self _,hm⟩
theorem xg {t:SetTable} (h:t.fill<=t.mask):∃ j,j<t.mask+1/\t.slot j = .empty:=by
 obtain ⟨j,hj,hn⟩:=ye (t.mask+1) (t.place.toList++t.dummies.toList) (by
  unfold SetTable.fill at h
  simp only [IV,Array.length_toList];exact Nat.succ_le_succ h)
 refine ⟨j,hj,?_⟩
 cases e:t.slot j with
 | empty=>rfl
 | dummy=>exact absurd (sM (by rw [e];intro h;injection h)) hn
 | live i=>exact absurd (sM (by rw [e];intro h;injection h)) hn
theorem sC {t:SetTable} {hashAt:Nat->Int} {h:Int}:∀ (fuel:Nat) (p:SetTable.Probe) (n:Nat),n<fuel->t.slot (dX t.mask n (dg p)).1 = .empty->(∀ d,p.dummy=some d->t.slot d = .dummy)->
  ∃ met,SetTable.probe.go t hashAt h fuel p=some met/\match met with
   | .empty j d=>t.slot j = .empty/\∀ x,d=some x->t.slot x = .dummy
   | .candidate j i next=>t.slot j = .live i/\(hashAt i==h)=true/\(∀ d,next.dummy=some d->t.slot d = .dummy)/\∃ k,k<n/\dg next=dX t.mask (k+1) (dg p):=by
 intros t hashAt h
 intro  fuel
 induction fuel with
 | zero=>
  intro p n hn he hd;exact absurd hn (Nat.not_lt_zero _)
 | succ fuel ih=>
  intros fuel
  intro ih;intro p n;intro hn he hd
  rw [show SetTable.probe.go t hashAt h (fuel+1) p=(match t.slot p.j with | .empty=>some (.empty p.j p.dummy) | .dummy=>SetTable.probe.go t hashAt h fuel (t.advance { p with dummy:=some p.j }) | .live i=>if hashAt i==h then some (.candidate p.j i (t.advance p)) else SetTable.probe.go t hashAt h fuel (t.advance p)) from rfl]
  cases hs:t.slot p.j with
  | empty=>exact ⟨_,rfl,hs,hd⟩
  | dummy=>
   cases n with
   | zero=>rw [show (dX t.mask 0 (dg p)).1=p.j from rfl,hs] at he;injection he
   | succ n=>
    have hc:dg (t.advance { p with dummy:=some p.j })=tC t.mask (dg p):=ia t { p with dummy:=some p.j }
    obtain ⟨met,e,hm⟩:=ih (t.advance { p with dummy:=some p.j }) n (Nat.le_of_lt_succ hn) (by rw [hc];exact he) (fun d q=>by
     have:(t.advance { p with dummy:=some p.j }).dummy=some p.j:=by unfold SetTable.advance;dsimp only;split <;> rfl
     rw [this] at q;obtain rfl:=Option.some.inj q;exact hs)
    refine ⟨met,e,?_⟩
    cases met with
    | empty j d=>exact hm
    | candidate j i next=>
     ac_rfl;obtain ⟨a,b,c,k,hz12⟩:=hm;right;exact ⟨a,b,c,k+1,(Nat.succ_le_succ hz12.1),by rw [hz12.2,hc];rfl⟩
  | live i=>
   dsimp only
   by_cases hh:(hashAt i==h)=true
   ·rw [if_pos hh]
    cases n with
    | zero=>rw [show (dX t.mask 0 (dg p)).1=p.j from rfl,hs] at he;injection he
    | succ n=>
     refine ⟨_,rfl,hs,hh,fun d q=>?_,0,(Nat.zero_lt_succ _),ia t p⟩
     have:(t.advance p).dummy=p.dummy:=by unfold SetTable.advance;dsimp only;split <;> rfl
     rw [this] at q;exact hd d q
   ·rw [if_neg hh]
    cases n with
    | zero=>rw [show (dX t.mask 0 (dg p)).1=p.j from rfl,hs] at he;injection he
    | succ n=>
     have hc:=ia t p
     obtain ⟨met,e,hm⟩:=ih (t.advance p) n (Nat.le_of_lt_succ hn) (by rw [hc];exact he) (fun d q=>by
      have:(t.advance p).dummy=p.dummy:=by unfold SetTable.advance;dsimp only;split <;> rfl
      rw [this] at q;exact hd d q)
     refine ⟨met,e,?_⟩
     cases met with
     | empty j d=>exact hm
     | candidate j i next=>
      ac_rfl;obtain ⟨a,b,c,k,hz13⟩:=hm;right;exact ⟨a,b,c,k+1,(Nat.succ_le_succ hz13.1),by rw [hz13.2,hc];rfl⟩
theorem mid {lo hi fuel:Nat} (h:lo<hi) (hf:hi - lo<=fuel+1):(lo+hi) / 2<hi/\lo<=(lo+hi) / 2/\hi - ((lo+hi) / 2+1)<=fuel/\(lo+hi) / 2 - lo<=fuel/\(lo+hi) / 2+1<=hi:=by omega
theorem mR {xs:Array Nat} {j:Nat} (h:xs.toList.Pairwise (· < ·)):∀ (fuel lo hi:Nat),hi - lo<=fuel->lo<=hi->hi<=xs.size->(∀ i (hx:i<xs.size),i<lo->xs[i]<j)->(∀ i (h':i<xs.size),hi<=i->j<=xs[i])->
  SetTable.below.go xs j fuel lo hi<=xs.size/\(∀ i (hx:i<xs.size),i<SetTable.below.go xs j fuel lo hi->xs[i]<j)/\(∀ i (h':i<xs.size),SetTable.below.go xs j fuel lo hi<=i->j<=xs[i])
 | 0,lo,hi,hf,hl,hs,h1,h2=>by
  have:lo=hi:=Nat.le_antisymm hl (Nat.le_of_sub_eq_zero (Nat.le_zero.mp hf))
  subst this;exact ⟨hs,h1,h2⟩
 | fuel+1,lo,hi,hf,hl,hs,h1,h2=>by
  have mono:∀ a b (ha:a<xs.size) (hb:b<xs.size),a<=b->xs[a]<=xs[b]:=fun a b ha hb hab=>by
   rcases Nat.lt_or_eq_of_le hab with hlt | rfl
   ·have:=List.pairwise_iff_getElem.mp h a b (by simpa using ha) (by simpa using hb) hlt
    rw [Array.getElem_toList,Array.getElem_toList] at this;exact Nat.le_of_lt this
   ·exact I4 _
  rw [show SetTable.below.go xs j (fuel+1) lo hi=(if lo<hi then (if xs.getD ((lo+hi) / 2) j<j then SetTable.below.go xs j fuel ((lo+hi) / 2+1) hi else SetTable.below.go xs j fuel lo ((lo+hi) / 2)) else lo) from rfl]
  by_cases hlt:lo<hi
  ·rw [if_pos hlt];have M:=mid hlt hf;have hm:(lo+hi) / 2<xs.size:=Jd M.1 hs
   have e:xs.getD ((lo+hi) / 2) j=xs[(lo+hi) / 2]:=by rw [Array.getD_eq_getD_getElem?,IY hm];rfl
   rw [e]
   by_cases hc:xs[(lo+hi) / 2]<j
   ·rw [if_pos hc];exact mR h fuel _ _ M.2.2.1 M.2.2.2.2 hs (fun i hi' hlt'=>Je (mono i ((lo+hi) / 2) hi' hm (Nat.le_of_lt_succ hlt')) hc) h2
   ·rw [if_neg hc];exact mR h fuel _ _ M.2.2.2.1 M.2.1 (Nat.le_of_lt hm) h1 (fun i hi' hle=>Nat.le_trans (Nat.le_of_not_lt hc) (mono ((lo+hi) / 2) i hm hi' hle))
  ·rw [if_neg hlt]
   have:lo=hi:=Nat.le_antisymm hl (Nat.not_lt.mp hlt)
   subst this;exact ⟨hs,h1,h2⟩
theorem mT {xs:Array Nat} (h:xs.toList.Pairwise (· < ·)) (j:Nat):SetTable.below xs j<=xs.size/\(∀ i (hi:i<xs.size),i<SetTable.below xs j->xs[i]<j)/\(∀ i (h':i<xs.size),SetTable.below xs j<=i->j<=xs[i]):=
 mR h xs.size 0 xs.size (I4 _) (Nat.zero_le _) (I4 _) (fun i _ h=>absurd h (Nat.not_lt_zero _)) (fun i h1 h2=>absurd h1 (Nat.not_lt_of_ge h2))
theorem mQ {xs:Array Nat} (h:xs.toList.Pairwise (· < ·)) {j p:Nat} (hp:p<=xs.size) (h1:∀ i (hi:i<xs.size),i<p->xs[i]<j) (h2:∀ i (hi:i<xs.size),p<=i->j<=xs[i]):SetTable.below xs j=p:=by
 have hz14:=mT h j;rcases Nat.lt_trichotomy (SetTable.below xs j) p with hlt | he | hgt
 ·have a:=h1 (SetTable.below xs j) (Nat.le_trans hlt hp) hlt;have b:=hz14.2.2 (SetTable.below xs j) (Nat.le_trans hlt hp) (I4 _);lia
 ·exact he
 ·have a:=hz14.2.1 p (Nat.le_trans hgt hz14.1) hgt;have b:=h2 p (Nat.le_trans hgt hz14.1) (I4 _);lia
theorem iy {xs:Array Nat} (h:xs.toList.Pairwise (· < ·)) {j:Nat} (hn:j∉xs.toList):(SetTable.insertAt xs (SetTable.below xs j) j).toList.Pairwise (· < ·):=by
 revert xs j
 injections xs
 intro h
 injections j
 intro hn;obtain ⟨q0,q1,q2⟩:=mT h j;generalize SetTable.below xs j=p at q0 q1 q2
 have e:(SetTable.insertAt xs p j).toList=xs.toList.take p++j::xs.toList.drop p:=by
  unfold SetTable.insertAt;simp [Array.toList_append,Array.toList_extract];exact List.take_of_length_le (by simp)
 rw [e,List.pairwise_append];have hsp:=List.take_append_drop p xs.toList;have h':=h;rw [<- hsp,List.pairwise_append] at h'
 have hlow:∀ a∈xs.toList.take p,a<j:=fun a ha=>by
  obtain ⟨i,hi,rfl⟩:=List.mem_take_iff_getElem.mp ha
  have:=q1 i (by simp at hi;lia) (by lia)
  simpa using this
 have hhigh:∀ a∈xs.toList.drop p,j<a:=fun a ha=>by
  obtain ⟨i,hi,rfl⟩:=List.mem_drop_iff_getElem.mp ha
  have hi2:p+i<xs.size:=by simp at hi;lia
  have:=q2 (p+i) hi2 (Nat.le_add_right _ _)
  have hne:xs.toList[p+i]'(by simpa using hi2)≠j:=fun e=>hn (by rw [<- e];exact List.getElem_mem _);simp at this hne ⊢;lia
 refine ⟨h'.1,List.pairwise_cons.mpr ⟨hhigh,h'.2.1⟩,fun a ha b hb=>?_⟩;rcases IZ.mp hb with rfl | hb
 ·exact hlow a ha
 ·exact Nat.lt_trans (hlow a ha) (hhigh b hb)
theorem iD {t:SetTable} (h:t.place.toList.Pairwise (· < ·)) {j:Nat} (hs:∀ i,t.slot j≠ .live i):j∉t.place.toList:=fun hm=>by
 obtain ⟨i,hz16⟩:=List.mem_iff_getElem.mp hm
 have hi':i<t.place.size:=by simpa using hz16.1
 have e':t.place[i]=j:=by simpa using hz16.2
 have hb:SetTable.below t.place j=i:=by
  refine mQ h (Nat.le_of_lt hi') (fun k hk hlt=>?_) (fun k hk hle=>?_)
  ·have:=List.pairwise_iff_getElem.mp h k i (by simpa using hk) hz16.1 hlt
   simp at this;lia
  ·rcases Nat.lt_or_eq_of_le hle with hlt | rfl
   ·have:=List.pairwise_iff_getElem.mp h i k hz16.1 (by simpa using hk) hlt
    simp at this;lia
   ·lia
 apply hs i;unfold SetTable.slot;rw [hb];dsimp only;rw [IY hi',e']
 simp
theorem dq.room {t:SetTable} (g:dq t):t.fill+1<=t.mask:=by have:=g.2.1;lia
theorem dq.le {t:SetTable} (g:dq t):t.fill<=t.mask:=Nat.le_of_succ_le g.room
theorem dq.meets {t:SetTable} (g:dq t) {c:qU} (hm:c.2.1<=9) (hp:c.2.2.2<2 ^ 64):∃ n,n<10*SetTable.turns t.mask/\t.slot (dX t.mask n c).1 = .empty:=by
 ac_rfl;obtain ⟨j,hz0⟩:=xg g.le;ac_rfl;obtain ⟨n,hz1⟩:=BY g.1 hm hp hz0.1;right;right;exact ⟨n,hz1.1,by rw [hz1.2];exact hz0.2⟩
theorem sO (t:SetTable) (h:Int):(dg (t.probeStart h)).2.1<=9/\(dg (t.probeStart h)).2.2.2<2 ^ 64/\∀ d,(t.probeStart h).dummy=some d->t.slot d = .dummy:=
 ⟨pT _ _,uA h,fun d e=>nomatch e⟩
theorem rY {t:SetTable} (g:dq t) (h:Int):∃ slot was,t.freeSlot h=some (slot,was)/\(was=true->t.slot slot = .dummy)/\(was=false->t.slot slot = .empty):=by
 revert t h
 injections t
 intro g
 injections h
 ac_rfl;have hz2:=sO t h;ac_rfl;obtain ⟨n,hz3⟩:=g.meets hz2.1 hz2.2.1;obtain ⟨met,e,hm⟩:=sC (hashAt:=fun _=>h+1) (h:=h) _ (t.probeStart h) n hz3.1 hz3.2 hz2.2.2;right;right;have e:t.probe (fun _=>h+1) h (t.probeStart h)=some met:=e;unfold SetTable.freeSlot;rw [e]
 cases met with
 | candidate j i next=>
  have:=hm.2.1
  simp at this;lia
 | empty j d=>
  refine ⟨_,_,rfl,?_,?_⟩
  ·intro hs
   cases d with
   | none=>injection hs
   | some d=>exact hm.2 d rfl
  ·intro hs
   cases d with
   | none=>exact hm.1
   | some d=>injection hs
theorem cH {α:Type} (xs:Array α) (p:Nat) (x:α):(SetTable.insertAt xs p x).size=xs.size+1:=by
 have:=(SetTable.insertAt_perm xs p x).length_eq
 simpa using this
theorem BI {xs:Array Nat} {j:Nat} (h:SetTable.has xs j=true):SetTable.below xs j<xs.size:=by
 unfold SetTable.has at h;exact (Array.getElem?_eq_some_iff.mp (Jj.mp h)).1
theorem il {α:Type} {xs:Array α} {p:Nat} (h:p<xs.size):(SetTable.eraseAt xs p).size+1=xs.size:=by
 unfold SetTable.eraseAt;simp only [Array.size_append,Array.size_extract];lia
theorem t6 {t:SetTable} {j:Nat} (h:t.slot j = .dummy):SetTable.has t.dummies j=true:=by
 unfold SetTable.slot at h;dsimp only at h
 split at h
 ·injection h
 ·split at h
  ·rename_i e;exact e
  ·injection h
theorem t7 {t:SetTable} {j:Nat} (h:t.slot j = .empty):SetTable.has t.dummies j=false:=by
 unfold SetTable.slot at h;dsimp only at h
 split at h
 ·injection h
 ·split at h
  ·injection h
  ·rename_i e;simpa using e
theorem yj (t:SetTable) (j:Nat):(t.put j).1.mask=t.mask/\(t.put j).1.led=t.led/\(t.put j).1.plain=t.plain/\(t.put j).1.place.size=t.place.size+1/\
  (t.slot j = .dummy->(t.put j).1.fill=t.fill)/\(t.slot j = .empty->(t.put j).1.fill=t.fill+1):=by
 refine ⟨rfl,rfl,rfl,cH ..,fun h=>?_,fun h=>?_⟩
 ·have hd:=t6 h;unfold SetTable.put SetTable.fill;simp only [hd,if_true,cH]
  have:=il (BI hd)
  lia
 ·have hd:=t7 h;unfold SetTable.put SetTable.fill;simp only [hd,cH]
  simp;exact Nat.add_right_comm _ 1 _
theorem vK {t:SetTable} (g:dq t) {es:Array (Int×Value)} (hf:t.fits es.size=true) (h:Int) (x:Value):∃ es' t' was,layNew t es h x=(es',t',was,false)/\es'.toList.Perm (es.toList++[(h,x)])/\t'.fits es'.size=true/\t'.led=t.led/\t'.plain=t.plain/\t'.mask=t.mask/\
  (was=true->t'.fill=t.fill)/\t'.fill<=t.fill+1/\t'.place.toList.Pairwise (· < ·):=by
 revert t es h x
 injections t
 intro g
 injections es
 intro hf
 injections h x
 ac_rfl;obtain ⟨slot,was,hz5⟩:=rY g h;ac_rfl;have hz6:=yj t slot;right;right
 have hsz:t.place.size=es.size:=by
  unfold SetTable.fits at hf;simp only [Bool.and_eq_true,Jj] at hf;exact hf.1
 have hfill:(t.put slot).1.fill<=t.fill+1:=by
  cases was with
  | true=>rw [hz6.2.2.2.2.1 (hz5.2.1 rfl)];exact Nat.le_add_right _ _
  | false=>rw [hz6.2.2.2.2.2 (hz5.2.2 rfl)];exact I4 _
 have hfits:(t.put slot).1.fits (SetTable.insertAt es (t.put slot).2 (h,x)).size=true:=by
  unfold SetTable.fits;rw [cH,hz6.2.2.2.1,hsz,hz6.1]
  simp
  have:=g.room
  exact Nat.le_trans hfill this
 have hp:=SetTable.insertAt_perm es (t.put slot).2 (h,x);rw [Array.toList_push] at hp;refine ⟨SetTable.insertAt es (t.put slot).2 (h,x),(t.put slot).1,was,?_,hp,hfits,hz6.2.1,hz6.2.2.1,hz6.1,fun q=>hz6.2.2.2.2.1 (hz5.2.1 q),hfill,iy g.2.2 (iD g.2.2 fun i q=>?_)⟩
 ·unfold layNew;rw [hz5.1];dsimp only;unfold SetTable.orStandIn;rw [if_pos hfits,hfits]
  rfl
 ·cases was with
  | true=>rw [hz5.2.1 rfl] at q;injection q
  | false=>rw [hz5.2.2 rfl] at q;injection q
theorem sF (t:SetTable) (es:Array (Int×Value)) (h0:0<es.size) (hz:es.size<200):∃ es' t',relayAll t es (SetTable.grown es.size)=(es',t',false)/\es'.toList.Perm es.toList/\t'.fits es'.size=true/\t'.led=t.led/\t'.plain=t.plain/\dq t':=by
 intros t es
 intro h0 hz
 have hg:SetTable.grown es.size=es.size*4:=by unfold SetTable.grown;rw [if_neg (by lia)]
 ac_rfl;have hz7:=fJ (w:=es.size*4) (by lia);ac_rfl;obtain ⟨t',order,e,hso,hm,hl,hpl,hd,hp,hfit⟩:=qr hz7.1 t.finger (t.movedTo (SetTable.sizeAbove (es.size*4) - 1)) t.led t.plain (es.map (·.1)) (by simp;exact Nat.le_of_add_left_le hz7.2);right;right;simp only [Array.size_map] at hp hfit;have hp':=jN hp
 have hsz:(order.filterMap (es[·]?)).size=es.size:=by
  rw [<- Array.length_toList,hp'.length_eq,Array.length_toList]
 refine ⟨order.filterMap (es[·]?),t',?_,hp',by rw [hsz];exact hfit,hl,hpl,?_⟩
 ·unfold relayAll SetTable.relaid;rw [hg,e];dsimp only
  have hc:(coversAll order es.size&&t'.fits (order.filterMap (es[·]?)).size)=true:=by
   rw [hsz,hfit,Bool.and_true];exact List.isPerm_iff.mpr hp
  rw [if_pos hc]
 ·refine ⟨by rw [hm];exact hz7.1,?_⟩
  have:t'.fill=es.size:=by
   unfold SetTable.fits at hfit;simp only [Bool.and_eq_true,Jj] at hfit;unfold SetTable.fill;rw [hfit.1,hd];rfl
  rw [this,hm];exact ⟨by lia,hso⟩
section
variable {G:aK} {A:Around} {env:Env} {ρ:aX} {σ:am} {L:Addr} {B:PB} {s:Shared} {i:Int} {l l' d a:Addr} {xs ys:List Int} {v w:V} {ver:Nat} {E:Value->Shared->Prop}
abbrev dh (e:Int×Value):Int:=match e.2 with | .int i _=>i | _=>0
structure cw (G:aK) (xs:List Int) (o:Obj) (es:Array (Int×Value)) (ver:Nat) (t:SetTable):Prop where
 ex:o.ExactSet
 data:o.data = .set es ver t
 els:∀ e∈es.toList,∃ i tk,e=(jD G.prog G.w i,Value.int i tk)
 map:es.toList.map dh=xs
 nodup:xs.Nodup
 fits:t.fits es.size=true
 plain:t.plain=true
 led:Mine.led G.w t
 good:dq t
 small:xs.length<64
theorem kF {B:PB} {hash:Int->Int}:∀ {xs:List Int} {es:List (Int×Value)},AJ B hash xs es↔((∀ e∈es,∃ i tk,e=(hash i,Value.int i tk))/\es.map dh=xs)
 | xs,[]=>by
  constructor
  ·intro h;cases h;exact ⟨(fun _ h=>nomatch h),rfl⟩
  ·rintro ⟨_,h2⟩;subst h2;exact .nil
 | xs,e::es=>by
  constructor
  ·intro h
   cases h with
   | cons r=>
    have hz8:=kF.mp r;refine ⟨fun e m=>?_,by simp [hz8.2,dh]⟩;rcases IZ.mp m with rfl | m
    ·exact ⟨_,_,rfl⟩
    ·exact hz8.1 e m
  ·rintro ⟨h1,h2⟩;subst h2;obtain ⟨i,tk,rfl⟩:=h1 _ (.head _);exact .cons (kF.mpr ⟨fun e m=>h1 e (.tail _ m),rfl⟩)
theorem St.iset {ob:Obj} (st:St G L B ρ σ s) (h:σ a=some (.iset xs ob)):∃ es ver t,s.heap.get? a=some ob/\cw G xs ob es ver t:=by
 obtain ⟨o,ho,rfl,ex,es,ver,t,hd,he,hn,hf,hp,hl,hg,hb⟩:=st.get h;have hz9:=kF.mp he;exact ⟨es,ver,t,ho,ex,hd,hz9.1,hz9.2,hn,hf,hp,hl,hg,hb⟩
theorem cw.ov {o es ver t} (x:cw G xs o es ver t):OV G B (.iset xs o) o:=⟨rfl,x.ex,es,ver,t,x.data,kF.mpr ⟨x.els,x.map⟩,x.nodup,x.fits,x.plain,x.led,x.good,x.small⟩
theorem cw.size {o es ver t} (x:cw G xs o es ver t):es.size=xs.length:=by rw [<- x.map];simp
theorem cw.elems {o es ver t} (x:cw G xs o es ver t):ElemsOf (intKind G.prog G.w) es.toList:=fun e he=>by
 obtain ⟨i,tk,rfl⟩:=x.els e he;exact ⟨⟨i,bC i tk,rfl⟩,rfl⟩
theorem cw.byScan {o es ver t} (x:cw G xs o es ver t) (k:Int) (tk:Tok):PySem.byScan (.int k tk) es=true:=byScan_of (knd:=intKind G.prog G.w) rfl (by rw [x.size];have:=x.small;show _<4096;exact eW this rfl) x.elems
theorem cw.find {o es ver t} (x:cw G xs o es ver t) (k:Int):(es.toList.findIdx? fun e=>(intKind G.prog G.w).is k e.2)=xs.findIdx? (fun i=>i==k):=by
 rw [<- x.map,List.findIdx?_map];have he:=x.els;generalize es.toList=l at he
 induction l with
 | nil=>rfl
 | cons e r ih=>
  obtain ⟨i,tk,rfl⟩:=he _ (.head _);rw [List.findIdx?_cons,List.findIdx?_cons,ih fun e m=>he e (.tail _ m)]
  have:(intKind G.prog G.w).is k (Value.int i tk)=(i==k):=by simp [intKind,Value.isInt,eq_comm]
  dsimp only [this];rfl
theorem cw.store {o es ver t} (x:cw G xs o es ver t) {es':Array (Int×Value)} {t':SetTable} {xs':List Int} (hp:es'.toList.map dh=xs') (he:∀ e∈es'.toList,∃ i tk,e=(jD G.prog G.w i,Value.int i tk))
  (hn:xs'.Nodup) (hf:t'.fits es'.size=true) (hpl:t'.plain=true) (hl:Mine.led G.w t') (hg:dq t') (hb:xs'.length<64):cw G xs' (Obj.putSet es' t' o) es' (ver+1) t':=by
 have e:=putSet_of es' t' x.data;refine ⟨?_,by rw [e],he,hp,hn,hf,hpl,hl,hg,hb⟩;rw [e];exact x.ex
theorem yd {es es':Array (Int×Value)} {k:Int} {tk:Tok} (hp:es'.toList.Perm (es.toList++[(jD G.prog G.w k, .int k tk)])) (he:∀ e∈es.toList,∃ i tk,e=(jD G.prog G.w i,Value.int i tk)):∀ e∈es'.toList,∃ i tk,e=(jD G.prog G.w i,Value.int i tk):=fun e m=>by
 rcases I1.mp (hp.mem_iff.mp m) with m | m
 ·exact he e m
 ·rw [IN] at m;exact ⟨k,tk,m⟩
theorem gy {o:Obj} {es:Array (Int×Value)} {t:SetTable} {k:Int} {tk:Tok} {Q:Bool->Shared->Prop} (ho:s.heap.get? a=some o) (x:cw G xs o es ver t) (hz:xs.length<63)
  (h0:k∈xs->Q false s) (h1:k∉xs->∀ h' o' es' t' xs' ver',Heap.SameBut a s.heap h'->h'.get? a=some o'->cw G xs' o' es' ver' t'->xs'.Perm (k::xs)->Q true { s with heap:=h' }):
  wpAny (model G.prog G.w) A (setAddHashed a (.int k tk) (jD G.prog G.w k)) Q E s:=by
 intros G A s a xs ver E o es t k tk Q
 intro ho x hz h0 h1;refine wpAny_holding (wpAny_bind (wpAny_setState_of ho x.data x.fits ?_));dsimp only;rw [if_pos (x.byScan _ _)];refine wpAny_bind ?_;exists (wpAny_rule ?_);exists (wpAny_setScan_of (knd:=intKind G.prog G.w) (bC k tk) ho x.data x.fits x.elems ?_);rw [x.find]
 cases hr:xs.findIdx? (fun i=>i==k) with
 | some j=>
  dsimp only;ac_rfl;have hz10:=List.findIdx?_eq_some_iff_getElem.mp hr;right;exact wpAny_pure (wpAny_pure (h0 (by rw [<- Jj.mp hz10.2.1];exact List.getElem_mem hz10.1)))
 | none=>
  dsimp only
  have hk:k∉xs:=fun hm=>by
   have:=List.findIdx?_eq_none_iff.mp hr k hm
   simp at this
  ac_rfl;obtain ⟨es1,t1,was,e,hp,hf,hl,hpl,hm,hw,hfl,hso⟩:=vK x.good x.fits (jD G.prog G.w k) (.int k tk);right;rw [e];dsimp only;exists (wpAny_pure ?_);rw [show t1.plain=true from hpl.trans x.plain,hashByValue_scannable 8 rfl];exists (wpAny_pure ?_);simp only [plainKind,↓reduceIte];have hel1:=yd hp x.els
  have hmap:(es1.toList.map dh).Perm (k::xs):=by
   refine (hp.map _).trans ?_;rw [I2,x.map];exact List.perm_append_comm (l₁:=xs) (l₂:=[k])
  have hsz1:es1.size=xs.length+1:=by
   have:=hmap.length_eq;simpa using this
  have hn1:(es1.toList.map dh).Nodup:=hmap.symm.nodup (I6.mpr ⟨hk,x.nodup⟩)
  have hled1:Mine.led G.w t1:=by rcases x.led with h | h;exact .inl h;exact .inr (hl.trans h)
  exists (wpAny_storeSet_of ho x.data ?_ (by rw [hsz1,sizeLine_eq];exact eW hz rfl));have o1:(s.heap.update a (Obj.putSet es1 t1)).get? a=some (Obj.putSet es1 t1 o):=Jc _ ho (by rw [putSet_of es1 t1 x.data];rfl);have sb1:=Heap.SameBut.update s.heap a (Obj.putSet es1 t1)
  by_cases hfull:(!was&&t1.tooFull)=true
  ·rw [if_pos hfull];ac_rfl;obtain ⟨es2,t2,hz12⟩:=sF t1 es1 (Nat.lt_of_add_left_lt (Nat.le_of_eq hsz1.symm)) (jR (Nat.le_of_eq hsz1) hz rfl);right;rw [hz12.1];dsimp only;exists (wpAny_pure ?_)
   have d1:(Obj.putSet es1 t1 o).data = .set es1 (ver+1) t1:=by rw [putSet_of es1 t1 x.data]
   have hsz2:es2.size=es1.size:=by have:=hz12.2.1.length_eq;simpa using this
   exists (wpAny_storeSet_of o1 d1 ?_ (by rw [hsz2,hsz1,sizeLine_eq];exact eW hz rfl));refine wpAny_pure (wpAny_pure ?_);have o2:=Jc (Obj.putSet es2 t2) o1 (by rw [putSet_of es2 t2 d1];rfl);have hmap2:=hz12.2.1.map dh;refine h1 hk _ _ es2 t2 _ (ver+1+1) (sb1.trans (Heap.SameBut.update ..)) o2 ?_ (hmap2.trans hmap);refine ⟨?_,?_,fun e m=>hel1 e (hz12.2.1.mem_iff.mp m),rfl,hmap2.symm.nodup hn1,hz12.2.2.1,?_,?_,hz12.2.2.2.2.2,?_⟩
   ·rw [putSet_of es2 t2 d1,putSet_of es1 t1 x.data];exact x.ex
   ·rw [putSet_of es2 t2 d1]
   ·exact hz12.2.2.2.2.1.trans (hpl.trans x.plain)
   ·rcases x.led with h | h;exact .inl h;exact .inr (hz12.2.2.2.1.trans (hl.trans h))
   ·rw [hmap2.length_eq,hmap.length_eq];simp;exact lr hz rfl
  ·rw [if_neg hfull];refine wpAny_pure (wpAny_pure (h1 hk _ _ es1 t1 _ (ver+1) sb1 o1 (x.store rfl hel1 hn1 hf (hpl.trans x.plain) hled1 ⟨by rw [hm];exact x.good.1,?_,hso⟩ (by rw [hmap.length_eq];simp;exact lr hz rfl)) hmap))
   cases hwas:was with
   | true=>rw [hw hwas,hm];exact x.good.2.1
   | false=>
    rw [hwas] at hfull;simp only [Bool.not_false,Bool.true_and] at hfull;unfold SetTable.tooFull at hfull;simp at hfull;exact hfull
end
section
variable {G:aK} {A:Around} {env:Env} {ρ:aX} {σ:am} {L:Addr} {B:PB} {s:Shared} {i:Int} {l l' d a:Addr} {xs ys:List Int} {v w:V} {ver:Nat} {ob:Obj} {E:Value->Shared->Prop}
theorem io {prog:Program} {w:World} {T newId initId:String} {args:List Value} {Q Q₁:Value->Shared->Prop} (ft:TypeCalled T newId initId) (hct:checkTypeCall T ⟨args,[]⟩=pure ())
  (hnew:codeAny (model prog w) A.in1 (.call (.builtin newId) ⟨.type T::args,[]⟩) (wants Q₁ E) s)
  (hinit:∀ obj s1,Q₁ obj s1->s1.TypeIs obj T/\codeAny (model prog w) A.in1 (.call (.builtin initId) ⟨obj::args,[]⟩) (wants (fun r s2=>r = .none/\Q obj s2) E) s1):
  wpAny (model prog w) A (call (.type T) args) Q E s:=by
 intros A s E prog w T newId initId args Q Q₁
 intro ft hct hnew hinit;ac_rfl;obtain ⟨c,tl,hmro⟩:=ft.mro;right;have f1:=ft.made;have f2:=ft.sub;have f3:=ft.notType;have f4:=ft.canCreate;refine wpAny_call (codeAny_of_tree ?_);show wpAny _ _ (callAny (.type T) _) _ _ _;refine wpAny_pure ⟨Code.quiet_builtin _ nofun,codeAny_builtin F.entry_type_call ?_⟩;dsimp only [Around.under_plain (weight_type_call_type T args []) rfl]
 repeat (any_goals (first | assumption | wp_step))
 refine codeAny_mono hnew ?_;rintro (e | fl) s1 hr
 ·exact hr
 ·cases fl with
  | ret obj=>
   obtain ⟨hT,hi⟩:=hinit _ _ hr;have f5:=ft.init.lookup;have f6:=ft.init.bind obj
   repeat (any_goals (first | assumption | wp_step))
   refine codeAny_mono hi ?_;rintro (e | fl) s2 hr2
   ·exact hr2
   ·cases fl with
    | ret r=>
     obtain ⟨rfl,hq⟩:=hr2
     repeat (any_goals (first | assumption | wp_step))
    | _=>exact hr2.elim
  | _=>exact hr.elim
abbrev cg (led:Bool):Obj:={ cls:= .type "set",dict:=none,data:= .set #[] 0 (.fresh 0 0 led) }
theorem qL {prog:Program} {w:World} {args:List Value} (hc:checkBuiltinCall "set.__new__" ⟨.type "set" :: args,[]⟩=pure ()) {Q₁:Value->Shared->Prop}
  (h:Q₁ (.ref s.heap.objs.size) { s with heap:=s.heap.push (cg (!(w.params.followText "set-order"))) }):
  codeAny (model prog w) A (.call (.builtin "set.__new__") ⟨.type "set" :: args,[]⟩) (wants Q₁ E) s:=by
 revert A s E prog w args Q₁
 injections A s E prog
 injections w args
 intro hc
 injections Q₁
 intro h;refine codeAny_of_tree ?_
 show wpAny _ A.in1 (do checkBuiltinCall "set.__new__" ⟨.type "set" :: args,[]⟩;again (.builtin "set.__new__" ⟨.type "set" :: args,[]⟩)) _ _ s
 exists (wpAny_of_eq hc (wpAny_pure ⟨plainId_quiet F.plain_set_new _,codeAny_builtin F.entry_set_new ?_⟩));rw [Around.under_plainId F.plain_set_new _];have f1:=sub_set_self;ac_rfl;obtain ⟨hp,g,d,tk,os⟩:=s;right;unfold Builtin.«set.__new__» Builtin.Frozenset.newClass;dsimp only
 wp_walk
 refine wpAny_askSetting (wpAny_pure ?_);dsimp only [newObj];exact wpAny_bind (wpAny_alloc (wpAny_pure (wpAny_pure h)))
theorem jc {G:aK}:cw G [] (cg (!(G.w.params.followText "set-order"))) #[] 0 (.fresh 0 0 (!(G.w.params.followText "set-order"))):=by
 refine ⟨⟨rfl,rfl,rfl⟩,rfl,(fun e h=>by simp at h),rfl,List.nodup_nil,by rfl,rfl,?_,⟨xA,by show 0*5<7*3;decide, .nil⟩,by decide⟩;unfold Mine.led;cases h:G.w.params.followText "set-order"
 ·exact .inr rfl
 ·exact .inl rfl
theorem nW {prog:Program} {w:World} {led:Bool} {P:Fin->Shared->Prop} (ho:s.heap.get? a=some (cg led)) (h:P (.done (.ret .none)) s):wpAny (model prog w) A (Builtin.«set.__init__» ⟨[.ref a],[]⟩) P E s:=by
 intros A s a E prog w led P
 intro ho h;ac_rfl;obtain ⟨hp,g,d,tk,os⟩:=s;right;have ho:hp.get? a=some { cls:= .type "set",dict:=none,data:= .set #[] 0 (.fresh 0 0 led) }:=ho
 wp_walk
 exact h
theorem t5 {prog:Program} {w:World} {led:Bool} {x:Value} {P:Fin->Shared->Prop} (ho:s.heap.get? a=some (cg led)) (h:wpAny (model prog w) A (Builtin.Frozenset.updateFrom "set.__init__" a x) (fun _ s'=>P (.done (.ret .none)) s') E s):wpAny (model prog w) A (Builtin.«set.__init__» ⟨[.ref a,x],[]⟩) P E s:=by
 intros A s a E prog w led x P
 intro ho h;ac_rfl;obtain ⟨hp,g,d,tk,os⟩:=s;right;have ho:hp.get? a=some { cls:= .type "set",dict:=none,data:= .set #[] 0 (.fresh 0 0 led) }:=ho;unfold Builtin.«set.__init__» noKeywords;generalize hU:Builtin.Frozenset.updateFrom=U at h ⊢
 wp_walk
 exact wpAny_mono h (fun _ _ q=>wpAny_pure q) fun _ _ e=>e
theorem cL {Q:V->am->Prop} (q:∀ a ob,σ a=none->Q (.ref a) (σ.set a (.iset [] ob))):WC G A (.ty "set") [] [] σ Q:=fun L B ρ s fv ys kx st rf r rk=>by
 obtain rfl:=r.nilE;obtain rfl:=rf.tyE;obtain rfl:=rk.nilE;refine io (Q₁:=fun obj s1=>obj = .ref s.heap.objs.size/\s1={ s with heap:=s.heap.push (cg (!(G.w.params.followText "set-order"))) }) F.called_set F.typeCall_set_0 (qL F.newCall_set_0 ⟨rfl,rfl⟩) ?_;rintro obj s1 ⟨rfl,rfl⟩;have hS:(s.heap.push (cg (!(G.w.params.followText "set-order")))).get? s.heap.objs.size=some (cg (!(G.w.params.followText "set-order"))):=I7 _ rfl;refine ⟨⟨_,hS,rfl⟩,codeAny_call_builtin F.called_set.init.plain F.entry_set_init (check_set_init ⟨_,hS,rfl⟩ ?_)⟩;have st1:=st.alloc (x:= .iset [] _) rfl rfl (jc (G:=G)).ov
 have fin:ip G L VR ρ Q B (.ref s.heap.objs.size) { s with heap:=s.heap.push (cg (!(G.w.params.followText "set-order"))) }:=
  ⟨B, .ref _,_, .refl B,st1, .ref _,q _ _ (st.fresh (I4 _))⟩
 exact nW hS ⟨rfl,fin⟩
theorem j7 {xs ys:List Int} {k:Int} (h:ys.Perm (k::xs)) (i:Int):i∈ys↔i=k\/i∈xs:=by rw [h.mem_iff,IZ]
theorem pU (st:St G L B ρ σ s) (h:σ a=some (.iset xs ob)) (hz:xs.length<63) {k:Int} {tk:Tok} {Q:Bool->Shared->Prop}
  (h0:k∈xs->Q false { s with toks:=s.toks+1 }) (h1:k∉xs->∀ h' xs' ob',St G L B ρ (σ.set a (.iset xs' ob')) { s with heap:=h',toks:=s.toks+1 }->Heap.SameBut a s.heap h'->xs'.Perm (k::xs)->xs'.Nodup->Q true { s with heap:=h',toks:=s.toks+1 }):
  wpAny (model G.prog G.w) A (setAdd a (.int k tk)) Q E s:=by
 ac_rfl;obtain ⟨es,ver,t,hz5⟩:=st.iset h;right;refine wpAny_holding (wpAny_bind ((intKind G.prog G.w).pyHash (bC k tk) ?_));refine gy (s:={ s with toks:=s.toks+1 }) hz5.1 hz5.2 hz h0 fun hk h' o' es' t' xs' ver' hs ho' x' hp=>?_;exact h1 hk h' xs' o' (st.upd (x':= .iset xs' o') h rfl rfl hs ho' x'.ov _) hs hp x'.nodup
theorem dy {σ:am} {a:Addr} {x:bL} (h:σ a=some x):σ.set a x=σ:=am.set_same h
theorem yt {it acc:Addr} {C:am->Prop}:∀ {xs:List Int} {os:List (Addr×Obj)} {ys:List Int} {ver:Obj} {σ:am} {B:PB} {s:Shared} {R:Result->Shared->Prop},xs.length+ys.length<63->
  gM G A.in1 kJ it C (aB xs) os->St G L B ρ σ s->da os L B σ s->σ acc=some (.iset ys ver)->ys.Nodup->(∀ zs ver,C (σ.set acc (.iset zs ver)))->
  (∀ B' s' zs ver',B.le B'->zs.Nodup->zs.length<=xs.length+ys.length->(∀ i,i∈zs↔i∈ys\/i∈xs)->St G L B' ρ (σ.set acc (.iset zs ver')) s'->R (.ok (.ret .none)) s')->
  codeAny (model G.prog G.w) A (.builtin "set.update.loop" ⟨[.ref acc, .ref it],[]⟩) R s:=by
 intro xs
 induction xs with
 | nil=>
  intro os ys ver σ B s R hz hS st hF ha hn hC hR;refine codeAny_builtin F.entry_set_update_loop ?_;rw [Around.under_plainId F.plain_set_update_loop _];have hC':=hC ys ver;rw [dy ha] at hC';refine jp (hS _ _ _ _ _ _ st hF hC' fun s' st'=>wpAny_pure (hR B s' ys ver (.refl B) hn (by simp) (by simp) ?_));rw [dy ha];exact st'
 | cons x xs ih=>
  intro os ys ver σ B s R hz hS st hF ha hn hC hR;refine codeAny_builtin F.entry_set_update_loop ?_;rw [Around.under_plainId F.plain_set_update_loop _];have hC':=hC ys ver;rw [dy ha] at hC';refine jp (hS _ _ _ _ _ _ st hF hC' fun B1 s1 val os1 l₁ st1 hF1 r1 hS1=>?_);obtain ⟨t,rfl⟩:=r1.intE;show wpAny _ A.in1 (holding [.int x t] (setAdd acc (.int x t))>>=_) _ _ _;exists (wpAny_holding (pU st1 ha (by simp at hz;exact Nat.lt_of_add_left_lt hz) (fun hx=>?_) fun hx h' ys' ver' st2 hs hp hn'=>?_))
  ·refine wpAny_pure ⟨plainId_quiet F.plain_set_update_loop _,ih (ys:=ys) (ver:=ver) (by simp at hz ⊢;lia) hS1 (st1.toks _) ?_ ha hn hC fun B' s' zs ver' l' hn' hl hm st'=>hR B' s' zs ver' (l₁.trans l') hn' (by simp;lia) (fun i=>?_) st'⟩
   ·exact ⟨hF1.1,hF1.2⟩
   ·rw [hm i,IZ];constructor
    ·rintro (h | h);exact .inl h;exact .inr (.inr h)
    ·rintro (h | rfl | h);exact .inl h;exact .inl hx;exact .inr h
  ·have hlen:=hp.length_eq;refine wpAny_pure ⟨plainId_quiet F.plain_set_update_loop _,ih (ys:=ys') (ver:=ver') (by simp at hz hlen ⊢;lia) hS1 st2 ?_ (am.set_self ..) hn' (fun zs v=>by rw [am.set_set];exact hC zs v) fun B' s' zs v l' hn'' hl hm st'=>hR B' s' zs v (l₁.trans l') hn'' (by simp at hlen ⊢;lia) (fun i=>?_) (by rw [am.set_set] at st';exact st')⟩
   ·refine ⟨hF1.1,fun p m=>?_⟩;ac_rfl;obtain ⟨g1,g2,g3,g4,g5⟩:=hF1.2 p m;right
    have hne:p.1≠acc:=fun q=>by rw [q,ha] at g2;injection g2
    exact ⟨g1,by rw [am.set_ne _ _ hne];exact g2,g3,(hs.2 _ hne).trans g4,g5⟩
   ·rw [hm i,j7 hp,IZ];constructor
    ·rintro ((h | h) | h);exact .inr (.inl h);exact .inl h;exact .inr (.inr h)
    ·rintro (h | h | h);exact .inl (.inr h);exact .inl (.inl h);exact .inr h
end
section
variable {G:aK} {A:Around} {env:Env} {ρ:aX} {σ:am} {L:Addr} {B:PB} {s:Shared} {i:Int} {l l' d a:Addr} {xs ys:List Int} {v w:V} {ver:Obj} {E:Value->Shared->Prop}
theorem l3 {id:String} {acc:Addr} {Q:Unit->Shared->Prop} (hh:A.handled=none) (st:St G L B ρ σ s) (ha:σ acc=some (.iset ys ver)) (hn:ys.Nodup) (hl:bE σ l (aB xs)) (hz:xs.length+ys.length<63)
  (hR:∀ B' s' zs ver',B.le B'->zs.Nodup->zs.length<=xs.length+ys.length->(∀ i,i∈zs↔i∈ys\/i∈xs)->St G L B' ρ (σ.set acc (.iset zs ver')) s'->Q () s'):
  wpAny (model G.prog G.w) A (Builtin.Frozenset.updateFrom id acc (.ref l)) Q jH s:=by
 intros G A ρ σ L B s l xs ys ver id acc Q
 intro hh st ha hn hl hz hR
 cases st.lst hl with | mk vs ep el re=>
 have hT:s.TypeIs (.ref l) "list" :=⟨_,el,rfl⟩
 have hne:l≠acc:=fun e=>by rw [e] at hl;rcases hl with h | h <;> rw [ha] at h <;> cases h
 refine wpAny_bind ?_;show wpAny _ _ (isInstance (.ref l) (.type "set")>>=_) _ _ _;exists (wpAny_isInstance hT F.sub_list_set ?_);show wpAny _ _ (isInstance (.ref l) (.type "frozenset")) _ _ _;refine wpAny_isInstance hT F.sub_list_frozenset ?_;dsimp only [Bool.false_eq_true,if_false];exists (wpAny_typeOf hT ?_)
 have hnd:(Value.type "list" == Value.type "dict")=false:=by decide
 simp only [hnd,Bool.false_eq_true,if_false];exists (wpAny_pyIter_list (bg el) ?_);have st1:=st.push { cls:= .type "list_iterator",data:= .fields #[.ref l, .int 0 0] };have hF:=st.one (o:={ cls:= .type "list_iterator",data:= .fields #[.ref l, .int 0 0] }) rfl rfl;exists (wpAny_runValue ?_);refine codeAny_mono (yt (A:=A) (xs:=xs) (ys:=ys) (ver:=ver) (acc:=acc) hz (nY (A:=A.in1) hh (aB xs) 0 _ rfl ⟨rfl,rfl⟩) st1 hF ha hn (fun zs v=>?_) (R:=fun r s'=>r = .ok (.ret .none)/\Q () s') fun B' s' zs ver' l' h1 h2 h3 st'=>⟨rfl,hR B' s' zs ver' l' h1 h2 h3 st'⟩) ?_
 ·rcases hl with h | h
  ·exact .inl (by rw [am.set_ne _ _ hne];exact h)
  ·exact .inr (by rw [am.set_ne _ _ hne];exact h)
 ·rintro r s' ⟨rfl,q⟩;exact wpAny_pure q
theorem iQ (hh:A.handled=none) {Q:V->am->Prop} (hl:bE σ l (aB xs)) (hz:xs.length<63) (q:∀ a zs ver,σ a=none->zs.Nodup->zs.length<=xs.length->(∀ i,i∈zs↔i∈xs)->Q (.ref a) (σ.set a (.iset zs ver))):WC G A (.ty "set") [.ref l] [] σ Q:=by
 revert G A σ l xs Q
 injections G A σ l
 injections xs
 intro hh
 injections Q
 intro hl hz q
 injections L B ρ s
 intro fv ys kx st rf r rk;obtain ⟨x,rfl,r1⟩:=r.one;obtain rfl:=r1.refE;obtain rfl:=rf.tyE;obtain rfl:=rk.nilE;refine io (Q₁:=fun obj s1=>obj = .ref s.heap.objs.size/\s1={ s with heap:=s.heap.push (cg (!(G.w.params.followText "set-order"))) }) F.called_set (F.typeCall_set_1 _) (qL (F.newCall_set_1 _) ⟨rfl,rfl⟩) ?_;rintro obj s1 ⟨rfl,rfl⟩;have hS:(s.heap.push (cg (!(G.w.params.followText "set-order")))).get? s.heap.objs.size=some (cg (!(G.w.params.followText "set-order"))):=I7 _ rfl;refine ⟨⟨_,hS,rfl⟩,codeAny_call_builtin F.called_set.init.plain F.entry_set_init (check_set_init_1 ⟨_,hS,rfl⟩ ?_)⟩;have hf:=st.fresh (I4 s.heap.objs.size);have st1:=st.alloc (x:= .iset [] _) rfl rfl (jc (G:=G)).ov
 have hl':bE (σ.set s.heap.objs.size (.iset [] (cg (!(G.w.params.followText "set-order"))))) l (aB xs):=by
  have hne:l≠s.heap.objs.size:=fun e=>by rw [e] at hl;rcases hl with h | h <;> rw [hf] at h <;> injection h
  rcases hl with h | h
  ·exact .inl (by rw [am.set_ne _ _ hne];exact h)
  ·exact .inr (by rw [am.set_ne _ _ hne];exact h)
 refine t5 hS (wpAny_mono (l3 (A:=A.in1.in1) hh st1 (am.set_self ..) List.nodup_nil hl' (by simpa using hz) fun B' s' zs ver' l' h1 h2 h3 st'=>?_) (fun _ _ q=>q) fun _ _ e=>e.elim);rw [am.set_set] at st';exact ⟨rfl,B', .ref _,_,l',st', .ref _,q _ zs ver' hf h1 (by simpa using h2) (by simpa using h3)⟩
theorem cw.setOf {o es} {ver:Nat} {t} {h:Heap} (ho:h.get? a=some o) (x:cw G xs o es ver t):h.SetOf (intKind G.prog G.w) a (fun k=>decide (k∈xs)) xs.length:=by
 intros G a xs o es ver t h
 intro ho x;refine ⟨o,es,ver,t,ho,x.ex,x.data,x.elems,fun k=>?_,by rw [x.size];have:=x.small;show _<4096;exact eW this rfl,x.fits,x.size⟩;rw [decide_eq_true_iff,<- x.map,I0];constructor
 ·rintro ⟨e,he,rfl⟩;obtain ⟨i,tk,rfl⟩:=x.els e he;exact ⟨_,he,bC i tk⟩
 ·rintro ⟨e,he,hk⟩;obtain ⟨i,tk,rfl⟩:=x.els e he;refine ⟨_,he,?_⟩;simp [intKind,Value.isInt] at hk;exact hk
theorem kh (h:σ a=some (.iset xs ver)):∀ B ρ s,St G L B ρ σ s->∃ o,s.heap.get? a=some o/\o.cls = .type "set" /\o.dict=none:=fun B ρ s st=>by
 obtain ⟨es,v,t,ho,x⟩:=st.iset h;exact ⟨_,ho,x.ex.1,x.ex.2.1⟩
theorem uZ (h:σ a=some (.iset xs ver)):Bq G (.ref a) σ "set" :=fun L B ρ s val st r=>by
 obtain rfl:=r.refE;obtain ⟨o,ho,hc,_⟩:=kh h _ _ _ st;exact ⟨o,ho,hc⟩
theorem pq {k:Int} {Q:V->am->Prop} (h:σ a=some (.iset xs ver)) (q:Q (.bool (decide (k∈xs))) σ):WO G A L (dA .In) [.int k, .ref a] ρ σ Q:= .two fun B s x y st r1 r2=>by
 obtain rfl:=r2.refE;obtain ⟨t,rfl⟩:=r1.intE;ac_rfl;obtain ⟨es,v',t',hz0⟩:=st.iset h;right;exact wpAny_inSet_of (bC k t) rfl (hz0.2.setOf hz0.1) ⟨B,_,σ, .refl B,st.toks _, .bool _,q⟩
theorem dI {k:Int} {Q:V->am->Prop} (h:σ a=some (.iset xs ver)) (q:Q (.bool (!decide (k∈xs))) σ):WO G A L (dA .NotIn) [.int k, .ref a] ρ σ Q:= .two fun B s x y st r1 r2=>by
 obtain rfl:=r2.refE;obtain ⟨t,rfl⟩:=r1.intE;ac_rfl;obtain ⟨es,v',t',hz1⟩:=st.iset h;right;exact wpAny_notInSet_of (bC k t) rfl (hz1.2.setOf hz1.1) ⟨B,_,σ, .refl B,st.toks _, .bool _,q⟩
theorem b9 {Q:V->List V->am->Prop} (hl:σ a=some (.iset xs ver)) (h:Q (.bi "set.add") [.ref a] σ):WM G A L (.ref a) "add" ρ σ Q:=iT (kh hl) F.plainAttrs_set F.slot_set_add F.type_set_add h
theorem oQ {Q:V->List V->am->Prop} (hl:σ a=some (.iset xs ver)) (h:Q (.bi "set.remove") [.ref a] σ):WM G A L (.ref a) "remove" ρ σ Q:=iT (kh hl) F.plainAttrs_set F.slot_set_remove F.type_set_remove h
theorem oR {Q:V->List V->am->Prop} (hl:σ a=some (.iset xs ver)) (h:Q (.bi "set.update") [.ref a] σ):WM G A L (.ref a) "update" ρ σ Q:=iT (kh hl) F.plainAttrs_set F.slot_set_update F.type_set_update h
theorem b7 {k:Int} {Q:V->am->Prop} (h:σ a=some (.iset xs ver)) (hn:xs.Nodup) (hz:xs.length<63) (q:∀ zs ver',zs.Nodup->zs.length<=xs.length+1->(∀ i,i∈zs↔i=k\/i∈xs)->Q .none (σ.set a (.iset zs ver'))):WC G A (.bi "set.add") [.ref a, .int k] [] σ Q:= .bi2 fun L B ρ s x y st r1 r2=>by
 obtain rfl:=r1.refE;obtain ⟨t,rfl⟩:=r2.intE;ac_rfl;obtain ⟨o,hz2⟩:=kh h _ _ _ st;right;refine wpAny_call_entry F.slot_set_add ⟨o,hz2.1,hz2.2.1⟩ F.entry_set_add ?_ (F.args_set_add_2 _ _);unfold Builtin.«set.add» Builtin.Frozenset.oneOther;simp only [List.isEmpty_nil,bind_assoc];exists (wpAny_pure ?_)
 try dsimp only
 exists (wpAny_pure ?_)
 try dsimp only
 exists (pU st h hz (fun hk=>?_) fun hk h' xs' ver' st' hs hp hn'=>?_)
 ·exact wpAny_pure ⟨_,rfl,B, .none,_, .refl B,by rw [dy h];exact st.toks _, .none,q xs ver hn (Nat.le_add_right _ _) fun i=>⟨.inr,fun h=>h.elim (fun e=>e▸hk) id⟩⟩
 ·have hlen:=hp.length_eq;exact wpAny_pure ⟨_,rfl,B, .none,_, .refl B,st', .none,q xs' ver' hn' (by simp at hlen;exact Nat.le_of_eq hlen) (j7 hp)⟩
end
theorem jM {α:Type}:∀ {l:List α} {i:Nat} (h:i<l.length),(l[i]::l.eraseIdx i).Perm l
 | x::r,0,_=> .refl _
 | x::r,i+1,h=>by
  have:=jM (l:=r) (i:=i) (by simpa using h)
  exact (List.Perm.swap x _ _).trans (this.cons x)
theorem uV {α:Type} (next:Nat->Nat):∀ (n k:Nat) (left:List α) (out:Array α),left.length=n->(pickOrder.go next n k left out).toList.Perm (out.toList++left)
 | 0,k,left,out,h=>by
  have:left=[]:=List.eq_nil_of_length_eq_zero h
  subst this;show out.toList.Perm (out.toList++[]);rw [List.append_nil]
 | n+1,k,left,out,h=>by
  show (match left[next k % left.length]? with | some x=>pickOrder.go next n (k+1) (left.eraseIdx (next k % left.length)) (out.push x) | none=>out).toList.Perm _
  have hlt:next k % left.length<left.length:=Nat.mod_lt _ (Nat.lt_of_add_left_lt (Nat.le_of_eq h.symm));rw [IX hlt];dsimp only;refine (uV next n (k+1) _ _ (by rw [List.length_eraseIdx,if_pos hlt];omega)).trans ?_;rw [Array.toList_push,List.append_assoc];refine List.Perm.append_left _ ?_;exact jM hlt
theorem vP {α:Type} (next:Nat->Nat) (xs:Array α):(pickOrder next xs).toList.Perm xs.toList:=by
 have:=uV next xs.size 0 xs.toList #[] (by simp)
 have e:pickOrder next xs=pickOrder.go next xs.size 0 xs.toList #[]:=rfl;rw [e];simpa using this
namespace F2
theorem fT:Manifest.owners.lookup (String.ofList ['r','o','t','a','r','e','t','i','_','t','e','s'].reverse)=some Manifest.sig_set_iterator:=by kernel_rfl
theorem slot_set_iterator_next:Slot "set_iterator" "__next__" "set_iterator.__next__" :=
 .of (owner:= "set_iterator") (n:= "__next__") (by rw [typeLookup_type,builtinLookup_eq_fast];kernel_rfl) nofun nofun nofun
  (by first | exact .inl nofun | exact .inr nofun) (by rw [isSubtype_type];kernel_rfl)
theorem entry_set_iterator_next:entryFor table "set_iterator.__next__" = some Builtin.«set_iterator.__next__»:=entryFor_of_tree (⋯)
theorem args_set_iterator_next_1 (a:Value):argsOk "set_iterator.__next__" ⟨[a],[]⟩:=by
 unfold argsOk;rw [signature?_of (id:= "set_iterator.__next__") (n:=['_','_','t','x','e','n','_','_']) (o:=['r','o','t','a','r','e','t','i','_','t','e','s']) (⋯) fT];kernel_rfl
theorem slot_set_iterator_iter:Slot "set_iterator" "__iter__" "set_iterator.__iter__" :=
 .of (owner:= "set_iterator") (n:= "__iter__") (by rw [typeLookup_type,builtinLookup_eq_fast];kernel_rfl) nofun nofun nofun
  (by first | exact .inl nofun | exact .inr nofun) (by rw [isSubtype_type];kernel_rfl)
theorem args_set_iterator_iter_1 (a:Value):argsOk "set_iterator.__iter__" ⟨[a],[]⟩:=by
 unfold argsOk;rw [signature?_of (id:= "set_iterator.__iter__") (n:=['_','_','r','e','t','i','_','_']) (o:=['r','o','t','a','r','e','t','i','_','t','e','s']) (⋯) fT];kernel_rfl
theorem entry_set_iterator_iter:entryFor table "set_iterator.__iter__" = some Builtin.«dict_keyiterator.__iter__»:=
 entryFor_alias (id':= "dict_keyiterator.__iter__") (⋯) rfl nofun (⋯)
theorem entry_set_iter:entryFor table "set.__iter__" = some Builtin.«frozenset.__iter__»:=
 entryFor_alias (id':= "frozenset.__iter__") (⋯) rfl nofun (⋯)
end F2
section
variable {G:aK} {A:Around} {env:Env} {ρ:aX} {σ:am} {L:Addr} {B:PB} {s:Shared} {i:Int} {l l' d a:Addr} {xs ys:List Int} {v w:V} {ver:Nat} {E:Value->Shared->Prop}
abbrev gZ (a:Addr) (slot i n ep:Nat):Obj:={ cls:= .type "set_iterator",dict:=none,data:= .fields #[rawInt slot,rawInt i, .ref a,rawInt n,rawInt ep],slots:= #[] }
abbrev bN (G:aK) (a:Addr) (ver:Nat) (es:Array (Int×Value)):Array (Int×Value):=if G.w.params.followText "set-order" = true then pickOrder (G.w.params.setOrder a ver) es else es
theorem eQ (G:aK) (a:Addr) (ver:Nat) (es:Array (Int×Value)):(bN G a ver es).toList.Perm es.toList:=by
 unfold bN;split
 ·exact vP _ _
 ·exact .refl _
theorem o8 {o:Obj} {es:Array (Int×Value)} {t:SetTable} {Q:Bool->Shared->Prop} (ho:s.heap.get? a=some o) (x:cw G xs o es ver t) (h:Q false s):wpAny (model G.prog G.w) A (setDrawn a) Q E s:=by
 exists (wpAny_setState_of ho x.data x.fits ?_);exists (wpAny_bind (wpAny_askSetting (wpAny_pure (wpAny_pure ?_))));show Q (!_&&(!t.plain&&decide (es.size > 1))) s;rw [x.plain];simpa using h
theorem nR {o:Obj} {es:Array (Int×Value)} {t:SetTable} {Q:Value->Shared->Prop} (ho:s.heap.get? a=some o) (x:cw G xs o es ver t)
  (h:Q (.ref s.heap.objs.size) { s with heap:=s.heap.push (gZ a 0 0 es.size ver) }):wpAny (model G.prog G.w) A (pyIter (.ref a)) Q E s:=by
 intros G A s a xs ver E o es t Q
 intro ho x h;have hT:s.TypeIs (.ref a) "set" :=⟨o,ho,x.ex.1⟩;refine wpAny_pyIter_slot hT F.slot_set_iter (wpAny_call_entry F.slot_set_iter hT F2.entry_set_iter ?_ (F.args_set_iter_1 _));unfold Builtin.«frozenset.__iter__» Builtin.Frozenset.slot0 slotArgs;simp only [List.isEmpty_nil,Bool.not_true,Bool.false_eq_true,↓reduceIte,bind_assoc,List.length_nil,bne_self_eq_false];exists (wpAny_pure ?_)
 try dsimp only
 exists (wpAny_pure ?_);exists (wpAny_bind (wpAny_setEntries_of ho x.data x.fits (wpAny_pure ?_)));exists (o8 ho x ?_);simp only [Bool.false_eq_true,if_false];exists (wpAny_pure ?_);exists (wpAny_setEpoch_of ho x.data x.fits ?_);refine wpAny_bind ?_;refine wpAny_newObj_type (wpAny_pure ⟨_,rfl, "set_iterator",_,⟨_,I7 _ rfl,rfl⟩,F2.slot_set_iterator_next.lookup,?_⟩);exact h
abbrev jJ (G:aK) (t:SetTable) (slot i:Nat):Prop:=G.w.params.followText "set-order" = true\/SetTable.below t.place slot=i
theorem sJ (G:aK) {t:SetTable} (h:dq t):jJ G t 0 0:= .inr (mQ h.2.2 (Nat.zero_le _) (fun i _ h=>absurd h (Nat.not_lt_zero _)) fun i _ _=>Nat.zero_le _)
theorem sL {t:SetTable} (h:dq t) {i:Nat} (hi:i<t.place.size):SetTable.below t.place (t.place[i]+1)=i+1:=by
 refine mQ h.2.2 hi (fun k hk hlt=>?_) fun k hk hle=>?_
 ·rcases Nat.lt_or_eq_of_le (Nat.le_of_lt_succ hlt) with hlt | rfl
  ·have:=List.pairwise_iff_getElem.mp h.2.2 k i (by simpa using hk) (by simpa using hi) hlt
   simp at this;omega
  ·omega
 ·have:=List.pairwise_iff_getElem.mp h.2.2 i k (by simpa using hi) (by simpa using hk) hle
  simp at this;omega
theorem qJ {o:Obj} {es:Array (Int×Value)} {t:SetTable} {slot i:Nat} {Q:Option (Value×Nat)->Shared->Prop} (ho:s.heap.get? a=some o) (x:cw G xs o es ver t) (hs:jJ G t slot i)
  (h0:(bN G a ver es).size<=i->Q none s) (h1:∀ (hi:i<(bN G a ver es).size) next,jJ G t next (i+1)->Q (some ((bN G a ver es)[i].2,next)) s):
  wpAny (model G.prog G.w) A (setNext a slot i ver) Q E s:=by
 intros G A s a xs ver E o es t slot i Q
 intro ho x hs h0 h1
 have hsz:t.place.size=es.size:=by
  have:=x.fits
  unfold SetTable.fits at this;simp only [Bool.and_eq_true,Jj] at this;exact this.1
 exists (wpAny_setState_of ho x.data x.fits ?_);exists (wpAny_bind (wpAny_askSetting (wpAny_pure ?_)));dsimp only
 by_cases hb:G.w.params.followText "set-order" = true
 ·have hb':(({ program:=(model G.prog G.w).prog,params:=(model G.prog G.w).w.params }:Setting).params.followText "set-order")=true:=hb;rw [if_pos hb']
  have hne:(ver != ver)=false:=by simp
  simp only [hne,Bool.false_eq_true,if_false];refine wpAny_bind ?_;exists (wpAny_setState_of ho x.data x.fits ?_);exists (wpAny_bind (wpAny_askSetting (wpAny_pure ?_)));dsimp only;rw [if_pos hb'];exists (wpAny_askSetting (wpAny_pure ?_));refine wpAny_pure ?_
  have hw:bN G a ver es=pickOrder (G.w.params.setOrder a ver) es:=by unfold bN;rw [if_pos hb]
  rw [hw] at h0 h1;show Q (Option.map (fun e=>(e.2,slot)) (pickOrder (G.w.params.setOrder a ver) es)[i]?) s
  by_cases hi:i<(pickOrder (G.w.params.setOrder a ver) es).size
  ·rw [IY hi];exact h1 hi slot (.inl hb)
  ·rw [Array.getElem?_eq_none (Nat.le_of_not_lt hi)];exact h0 (Nat.le_of_not_lt hi)
 ·have hb':¬ (({ program:=(model G.prog G.w).prog,params:=(model G.prog G.w).w.params }:Setting).params.followText "set-order")=true:=hb;rw [if_neg hb']
  have hw:bN G a ver es=es:=by unfold bN;rw [if_neg hb]
  rw [hw] at h0 h1
  have hl:t.led=true:=by rcases x.led with h | h;exact absurd h hb;exact h
  have hbe:SetTable.below t.place slot=i:=by rcases hs with h | h;exact absurd h hb;exact h
  refine wpAny_ite_split (fun h=>absurd (show (!t.plain&&decide (es.size > 1))=true from h) (by rw [x.plain];simp)) (fun _=>?_);refine wpAny_bind ?_
  show wpAny _ _ (if (!t.led&&!es.isEmpty)=true then unsupported "set:maker-not-led" else pure ()) _ _ _
  rw [hl];simp only [Bool.not_true,Bool.false_and,Bool.false_eq_true,if_false];refine wpAny_pure ?_;rw [hbe]
  by_cases hi:i<es.size
  ·have hi':i<t.place.size:=Nat.le_trans hi (Nat.le_of_eq hsz.symm);rw [IY hi,IY hi'];exact wpAny_pure (h1 hi _ (.inr (sL x.good hi')))
  ·rw [Array.getElem?_eq_none (Nat.le_of_not_lt hi)];exact wpAny_pure (h0 (Nat.le_of_not_lt hi))
abbrev cF (G:aK) (a:Addr) (ver:Nat) (es:Array (Int×Value)):List Int:=(bN G a ver es).toList.map dh
theorem gH {o:Obj} {es:Array (Int×Value)} {t:SetTable} (x:cw G xs o es ver t):(cF G a ver es).Perm xs:=by
 have:=(eQ G a ver es).map dh
 rw [x.map] at this;exact this
theorem fo {o:Obj} {it:Addr} {es:Array (Int×Value)} {t:SetTable} {slot i:Nat} {Q:Option Value->Shared->Prop} (hh:A.handled=none) (hit:s.heap.get? it=some (gZ a slot i es.size ver)) (ho:s.heap.get? a=some o) (x:cw G xs o es ver t) (hne:it≠a) (hs:jJ G t slot i)
  (h0:(bN G a ver es).size<=i->∀ h',Heap.ExtBut it s.heap h'->Q none { s with heap:=h' })
  (h1:∀ (hi:i<(bN G a ver es).size) next h',jJ G t next (i+1)->Heap.SameBut it s.heap h'->h'.get? it=some (gZ a next (i+1) es.size ver)->Q (some (bN G a ver es)[i].2) { s with heap:=h' }):
  wpAny (model G.prog G.w) A (pyNext (.ref it)) Q E s:=by
 intros G A s a xs ver E o it es t slot i Q
 intro hh hit ho x hne hs h0 h1;have hT:s.TypeIs (.ref it) "set_iterator" :=⟨_,hit,rfl⟩
 exists (wpAny_attempt (wpAny_callSpecial?_slot (name:=Str.ofString "__next__") hT F2.slot_set_iterator_next
  (wpAny_call_entry F2.slot_set_iterator_next hT F2.entry_set_iterator_next ?_ (F2.args_set_iterator_next_1 _))))
 exists (wpAny_pure ?_);exists (wpAny_fieldsOf hit rfl ?_);dsimp only;exists (wpAny_setEntries_of ho x.data x.fits ?_)
 show wpAny _ _ (if ((es.size:Int) != (es.size:Int))=true then _ else _) _ _ _
 rw [if_neg (by simp)];show wpAny _ _ (setNext a slot i ver>>=_) _ _ _;exists (qJ ho x hs (fun hle=>?_) fun hi next hn=>?_)
 ·dsimp only;show wpAny _ _ (setField (.ref it) 2 .none>>=_) _ _ _;exists (wpAny_setField_rec hit (by simp) fun h' hit' hs'=>?_);refine wpAny_bind ?_;dsimp only [newExc,newTuple];exists (wpAny_newObj_type ?_ (by size_fits));refine wpAny_bind (m:=firstArgMember _ _) (wpAny_of_eq (a:=Value.none) (by first | rfl | (dsimp only [firstArgMember];rfl)) ?_);refine wpAny_newObj_type ?_ (by size_fits);dsimp only [raiseNew];exists (wpAny_handled ?_)
  first | rw [show A.in1.handled=none from hh] | rw [hh]
  exists (wpAny_pure (wpAny_throw ?_));exists (wpAny_isInstance (T:= "StopIteration") (b:=true) ⟨_,I7 _ rfl,rfl⟩ isSubtype_stop ?_);exact wpAny_pure (h0 hle _ ((hs'.extBut.push _).push _))
 ·dsimp only;show wpAny _ _ (setField (.ref it) 0 (rawInt next)>>=_) _ _ _;exists (wpAny_setField_rec hit (by simp) fun h' hit' hs'=>?_);show wpAny _ _ (setField (.ref it) 1 (rawInt ((i:Int)+1))>>=_) _ _ _;exists (wpAny_setField_rec (s:={ s with heap:=h' }) hit' (by simp) fun h'' hit'' hs''=>?_);refine wpAny_pure ⟨_,rfl,wpAny_pure (h1 hi next h'' hn (hs'.trans hs'') ?_)⟩;exact hit''
theorem vY (hh:A.handled=none) {tgt:Expr} {it a:Addr} {xs:List Int} {ob:Obj} {es:Array (Int×Value)} {t:SetTable} (x:cw G xs ob es ver t) (hne:it≠a):∀ (ys:List (Int×Value)) (i slot:Nat),(bN G a ver es).toList.drop i=ys->jJ G t slot i->
  gM G A tgt it (fun σ=>σ a=some (.iset xs ob)) (aB (ys.map dh)) [(it,gZ a slot i es.size ver)]:=by
 revert G A xs tgt it a ob es t ver
 injections G A
 injections ver
 intro hh
 injections tgt it a xs
 injections ob es
 injections t
 intro x hne ys
 induction ys with
 | nil=>
  intro i slot hd hs;intro L B ρ σ s Q st hF hC h;have ⟨hB,hσ,hL,e,_⟩:=hF.get;ac_rfl;obtain ⟨es',ver',t',hz0⟩:=st.iset hC;right
  exact fo hh e hz0.1 x hne hs (fun _ h' he=>h _ (st.extBut (t:=s.toks) hB hσ hL he)) fun hi=>by
   have:=List.drop_eq_nil_iff.mp hd
   simp at this;exact (wX hi this).elim
 | cons y ys ih=>
  intros y ys
  intro ih
  injections i slot
  intro hd hs;intro L B ρ σ s Q st hF hC h;have ⟨hB,hσ,hL,e,_⟩:=hF.get;ac_rfl;obtain ⟨es',ver',t',hz1⟩:=st.iset hC;right
  have hy:(bN G a ver es).toList[i]?=some y:=by
   have:=congrArg (fun l=>l[0]?) hd
   simpa using this
  refine fo hh e hz1.1 x hne hs (fun hle=>?_) fun hi next h' hn hs' hit'=>?_
  ·rw [Array.getElem?_toList,Array.getElem?_eq_none hle] at hy;cases hy
  ·have ey:(bN G a ver es)[i]=y:=by rw [Array.getElem?_toList,IY hi] at hy;cases hy;rfl
   rw [ey];have hmem:y∈es.toList:=(eQ G a ver es).mem_iff.mp (List.mem_of_getElem? hy);obtain ⟨k,tk,rfl⟩:=x.els y hmem;have st':St G L B ρ σ { s with heap:=h' }:=st.extBut (t:=s.toks) hB hσ hL hs'.extBut;refine dQ (s:={ s with heap:=h' }) hit' rfl (by decide) ?_;refine h B _ _ [(it,gZ a next (i+1) es.size ver)] (.refl B) st' (.one hB hσ hL hit' rfl) (.int k tk) (ih (i+1) next ?_ hn);rw [<- List.drop_drop,hd];rfl
theorem mI (hh:A.handled=none) {tgt:Expr} {ob:Obj} {Q:am->(am->Prop)->List V->Prop} (h:σ a=some (.iset xs ob)) (q:∀ ys:List Int,ys.Perm xs->Q σ (fun σ=>σ a=some (.iset xs ob)) (aB ys)):WI G A L tgt (.ref a) ρ σ Q:=fun B s val st r=>by
 obtain rfl:=r.refE;ac_rfl;obtain ⟨es,ver,t,hz2⟩:=st.iset h;right;refine nR hz2.1 hz2.2 ?_
 have hne:s.heap.objs.size≠a:=fun e=>by have:=I9 hz2.1;rw [e] at this;exact Ji _ this
 exact ⟨_,_,_,_,B,_,rfl, .refl B,st.push _,st.one (o:=gZ a 0 0 es.size ver) rfl rfl,h,vY hh hz2.2 hne _ 0 0 rfl (sJ G hz2.2.good), .one fun s Q e q=>by
  have hT:s.TypeIs (.ref _) "set_iterator" :=⟨_,e,rfl⟩;refine wpAny_pyIter_slot hT F2.slot_set_iterator_iter (wpAny_call_entry F2.slot_set_iterator_iter hT F2.entry_set_iterator_iter ?_ (F2.args_set_iterator_iter_1 _));show wpAny _ _ (ret _) _ _ s
  exact wpAny_pure ⟨_,rfl, "set_iterator",_,hT,F2.slot_set_iterator_next.lookup,q⟩,q _ (gH hz2.2)⟩
end
section
variable {G:aK} {A:Around} {env:Env} {ρ:aX} {σ:am} {L:Addr} {B:PB} {s:Shared} {i:Int} {l l' d a b:Addr} {xs ys:List Int} {v w:V} {ob oc:Obj} {E:Value->Shared->Prop}
theorem wP (hh:A.handled=none) {Q:List V->am->Prop} (h:σ a=some (.iset xs ob)) (hz:xs.length<1000) (q:∀ acc ys,σ acc=none->ys.Perm xs->Q (aB ys) (σ.set acc (.list (aB ys)))):va G A (.ref a) σ Q:=by
 refine ph (T:= "set") ⟨by decide,by decide⟩ (fun hT hq=>xI hT hq) fun acc hacc L ρ=>?_
 have hne:a≠acc:=fun e=>by rw [e,hacc] at h;injection h
 have h':∀ zs,(σ.set acc (.list zs)) a=some (.iset xs ob):=fun zs=>by rw [am.set_ne _ _ hne];exact h
 refine ⟨uZ (h' _),mI (A:=A.in1) hh (h' _) fun ys hp=>?_⟩;refine ⟨am.set_self ..,fun zs=>?_,by have:=hp.length_eq;simp;exact sY (Nat.le_of_eq this) hz rfl,uZ (h' _),?_⟩
 ·show ((σ.set acc (.list [])).set acc (.list zs)) a=_;rw [am.set_ne _ _ hne];exact h' _
 ·rw [am.set_set];exact q acc ys hacc hp
theorem i5 {α:Type} (xs:Array α) (p:Nat):(SetTable.eraseAt xs p).toList=xs.toList.eraseIdx p:=by
 unfold SetTable.eraseAt;rw [List.eraseIdx_eq_take_drop_succ]
 simp
 exact List.take_of_length_le (by simp)
theorem zP {t:SetTable} (g:dq t) {i:Nat} (hi:i<t.place.size):dq (t.drop i)/\(t.drop i).place.size+1=t.place.size/\(t.drop i).fill=t.fill/\(t.drop i).mask=t.mask/\(t.drop i).led=t.led/\(t.drop i).plain=t.plain:=by
 have e:t.drop i={ t with place:=SetTable.eraseAt t.place i,dummies:=SetTable.insertAt t.dummies (SetTable.below t.dummies t.place[i]) t.place[i] }:=by
  unfold SetTable.drop;rw [IY hi]
 rw [e];have h1:=il hi
 have hf:({ t with place:=SetTable.eraseAt t.place i,dummies:=SetTable.insertAt t.dummies (SetTable.below t.dummies t.place[i]) t.place[i] }:SetTable).fill=t.fill:=by
  unfold SetTable.fill;simp only [cH];lia
 refine ⟨⟨g.1,by rw [hf];exact g.2.1,?_⟩,h1,hf,rfl,rfl,rfl⟩;show (SetTable.eraseAt t.place i).toList.Pairwise (· < ·);rw [i5];exact g.2.2.sublist (List.eraseIdx_sublist ..)
theorem pP {α β:Type} (f:α->β):∀ (l:List α) (j:Nat),(l.eraseIdx j).map f=(l.map f).eraseIdx j
 | [],_=>rfl
 | x::r,0=>rfl
 | x::r,j+1=>by simp [pP f r j]
theorem cw.placeSize {o es} {ver:Nat} {t} (x:cw G xs o es ver t):t.place.size=es.size:=by
 have:=x.fits
 unfold SetTable.fits at this;simp only [Bool.and_eq_true,Jj] at this;exact this.1
theorem pG {o:Obj} {es:Array (Int×Value)} {ver:Nat} {t:SetTable} {k:Int} {tk:Tok} {Q:Option Nat->Shared->Prop} (ho:s.heap.get? a=some o) (x:cw G xs o es ver t) (h:Q (xs.findIdx? fun i=>i==k) s):
  wpAny (model G.prog G.w) A (setFind a (.int k tk) (jD G.prog G.w k)) Q E s:=by
 exists (wpAny_setState_of ho x.data x.fits ?_);dsimp only;rw [x.byScan];simp only [↓reduceIte];exists (wpAny_rule ?_);exists (wpAny_setScan_of (knd:=intKind G.prog G.w) (bC k tk) ho x.data x.fits x.elems ?_);rw [x.find]
 cases hr:xs.findIdx? (fun i=>i==k) with
 | some j=>rw [hr] at h;exact wpAny_pure (by rw [Nat.zero_add];exact h)
 | none=>rw [hr] at h;exact wpAny_pure h
theorem oK {k:Int} {Q:V->am->Prop} (h:σ a=some (.iset xs ob)) (hk:k∈xs) (q:∀ zs ob',zs.Nodup->zs.length+1=xs.length->(∀ i,i∈zs↔i≠k/\i∈xs)->Q .none (σ.set a (.iset zs ob'))):WC G A (.bi "set.remove") [.ref a, .int k] [] σ Q:=by
 intros G A σ a xs ob k Q
 intro h hk q
 injections L B ρ s
 intro fv ys kx st rf r rk;obtain ⟨x,y,rfl,r1,r2⟩:=r.two;obtain rfl:=r1.refE;obtain ⟨tk,rfl⟩:=r2.intE;obtain rfl:=rf.biE;obtain rfl:=rk.nilE;ac_rfl;obtain ⟨es,ver,t,ho,x⟩:=st.iset h;right;refine wpAny_call_entry F.slot_set_remove ⟨ob,ho,x.ex.1⟩ F.entry_set_remove ?_ (F.args_set_remove_2 _ _);unfold Builtin.«set.remove» Builtin.Frozenset.oneOther;simp only [List.isEmpty_nil,bind_assoc];exists (wpAny_pure ?_)
 try dsimp only
 exists (wpAny_pure ?_)
 try dsimp only
 exists (wpAny_tryCatch ?_);refine wpAny_holding ?_;exists ((intKind G.prog G.w).pyHash (bC k tk) ?_);exists (pG (s:={ s with toks:=s.toks+1 }) ho x ?_)
 cases hr:xs.findIdx? (fun i=>i==k) with
 | none=>exact absurd (List.findIdx?_eq_none_iff.mp hr k hk) (by simp)
 | some j=>
  ac_rfl;obtain ⟨hj,hpj,_⟩:=List.findIdx?_eq_some_iff_getElem.mp hr;right;have hjk:xs[j]=k:=Jj.mp hpj;dsimp only;exists (wpAny_setState_of (s:={ s with toks:=s.toks+1 }) ho x.data x.fits ?_);dsimp only
  have hje:j<es.size:=by rw [x.size];exact hj
  have hjp:j<t.place.size:=by rw [x.placeSize];exact hje
  ac_rfl;obtain ⟨g',d1,d2,d3,d4,d5⟩:=zP x.good hjp;right;have hsz:=il hje;have hl:(SetTable.eraseAt es j).toList=es.toList.eraseIdx j:=i5 ..
  have hmap:(SetTable.eraseAt es j).toList.map dh=xs.eraseIdx j:=by
   rw [hl,pP,x.map]
  have hxl:(xs.eraseIdx j).length+1=xs.length:=by rw [List.length_eraseIdx,if_pos hj];lia
  exists (wpAny_storeSet_of (s:={ s with toks:=s.toks+1 }) ho x.data ?_ (by rw [x.size] at hsz;have:=x.small;rw [sizeLine_eq];exact E4 (Nat.le.intro hsz) this rfl));exists (wpAny_point (wpAny_pure ?_));have o1:(s.heap.update a (Obj.putSet (SetTable.eraseAt es j) (t.drop j))).get? a=some (Obj.putSet (SetTable.eraseAt es j) (t.drop j) ob):=Jc _ ho (by rw [putSet_of _ _ x.data];rfl)
  have x':=x.store (es':=SetTable.eraseAt es j) (t':=t.drop j) hmap (fun e m=>x.els e (by rw [hl] at m;exact (List.eraseIdx_sublist ..).mem m)) (x.nodup.sublist (List.eraseIdx_sublist ..)) (by
   unfold SetTable.fits
   have:=x.placeSize
   have h2:=x.good.le;simp only [d2,d3,Bool.and_eq_true,Jj,decide_eq_true_eq]
   lia) (d5.trans x.plain) (by rcases x.led with h | h;exact .inl h;exact .inr (d4.trans h)) g' (by have:=x.small;exact sY (Nat.le.intro hxl) this rfl)
  have st':=st.upd (x':= .iset (xs.eraseIdx j) _) h rfl rfl (Heap.SameBut.update ..) o1 x'.ov (s.toks+1);show wpAny _ _ (ret Value.none) _ _ _;refine wpAny_pure ⟨_,rfl,B, .none,_, .refl B,st', .none,q _ _ x'.nodup hxl fun i=>?_⟩;have hn:=x.nodup;have hper:=jM hj;rw [hjk] at hper;constructor
  ·intro hi;refine ⟨fun e=>?_,hper.mem_iff.mp (.tail _ hi)⟩;subst e
   have:=hper.symm.nodup hn
   exact (I6.mp this).1 hi
  ·rintro ⟨hne,hi⟩;rcases IZ.mp (hper.mem_iff.mpr hi) with e | hi
   ·exact absurd e hne
   ·exact hi
end
section
variable {G:aK} {A:Around} {env:Env} {ρ:aX} {σ:am} {L:Addr} {B:PB} {s:Shared} {i:Int} {l l' d a b:Addr} {xs ys:List Int} {v w:V} {ob oc:Obj} {E:Value->Shared->Prop} {ver:Nat}
theorem qK {o:Obj} {es:Array (Int×Value)} {t:SetTable} {Q:Array (Int×Value)->Shared->Prop} (ho:s.heap.get? a=some o) (x:cw G xs o es ver t) (h:Q (bN G a ver es) s):wpAny (model G.prog G.w) A (setWalk a) Q E s:=by
 intros G A s a xs E ver o es t Q
 intro ho x h;exists (wpAny_setState_of ho x.data x.fits ?_);exists (wpAny_bind (wpAny_askSetting (wpAny_pure ?_)));dsimp only
 by_cases hb:G.w.params.followText "set-order" = true
 ·have hb':(({ program:=(model G.prog G.w).prog,params:=(model G.prog G.w).w.params }:Setting).params.followText "set-order")=true:=hb;rw [if_pos hb'];exists (wpAny_askSetting (wpAny_pure ?_));unfold bN at h;rw [if_pos hb] at h;exact h
 ·have hb':¬ (({ program:=(model G.prog G.w).prog,params:=(model G.prog G.w).w.params }:Setting).params.followText "set-order")=true:=hb;rw [if_neg hb'];unfold bN at h;rw [if_neg hb] at h
  have hl:t.led=true:=by rcases x.led with h | h;exact absurd h hb;exact h
  refine wpAny_ite_split (fun h=>absurd (show (!t.plain&&decide (es.size > 1))=true from h) (by rw [x.plain];simp)) (fun _=>?_);refine wpAny_bind ?_
  show wpAny _ _ (if (!t.led&&decide (es.size > 1))=true then unsupported "set:maker-not-led" else pure ()) _ _ _
  rw [hl];simp only [Bool.not_true,Bool.false_and,Bool.false_eq_true,if_false];exact wpAny_pure (wpAny_pure h)
theorem fU {o:Obj} {es:Array (Int×Value)} {t:SetTable} {others:List Addr} {filled:Option Addr} {Q:Array (Int×Value)->Shared->Prop} (ho:s.heap.get? a=some o) (x:cw G xs o es ver t) (h:Q (bN G a ver es) s):wpAny (model G.prog G.w) A (setWalkUnseen a others filled) Q E s:=by
 intros G A s a xs E ver o es t others filled Q
 intro ho x h;exists (wpAny_setState_of ho x.data x.fits ?_);exists (wpAny_bind (wpAny_askSetting (wpAny_pure ?_)));dsimp only
 have hc:((({ program:=(model G.prog G.w).prog,params:=(model G.prog G.w).w.params }:Setting).params.followText "set-order") || (t.led&&t.plain) || decide (es.size<=1))=true:=by
  rcases x.led with h | h
  ·have h':(({ program:=(model G.prog G.w).prog,params:=(model G.prog G.w).w.params }:Setting).params.followText "set-order")=true:=h;rw [h'];rfl
  ·rw [h,x.plain];simp
 rw [if_pos hc];exact qK ho x h
theorem o9 {o:Obj} {es:Array (Int×Value)} {t:SetTable} {wanted:Nat} {Q:Unit->Shared->Prop} (ho:s.heap.get? a=some o) (x:cw G xs o es ver t) (hw:wanted<1000) (hx:xs.length*2<wanted)
  (h:∀ h' o' es' ver' t' xs',Heap.SameBut a s.heap h'->h'.get? a=some o'->cw G xs' o' es' ver' t'->xs'.Perm xs->Q () { s with heap:=h' }):wpAny (model G.prog G.w) A (setRelay a wanted) Q E s:=by
 intros G A s a xs E ver o es t wanted Q
 intro ho x hw hx h;ac_rfl;obtain ⟨hF,hle⟩:=fJ hw;obtain ⟨hA,_⟩:=ij hw
 have hbig:¬ SetTable.sizeAbove wanted > sizeLine:=by
  rw [sizeLine_eq];simp only [IZ,List.mem_nil_iff,or_false] at hA;lia
 obtain ⟨t',order,e,hso,hm,hl,hpl,hd,hp,hfit⟩:=qr hF t.finger (t.movedTo (SetTable.sizeAbove wanted - 1)) t.led t.plain (es.map (·.1)) (by simp;have:=x.size;lia);right;simp only [Array.size_map] at hp hfit;have hp':=jN hp
 have hsz:(order.filterMap (es[·]?)).size=es.size:=by
  rw [<- Array.length_toList,hp'.length_eq,Array.length_toList]
 have hmap:=hp'.map dh;rw [x.map] at hmap
 have hfill:t'.fill=es.size:=by
  unfold SetTable.fits at hfit;simp only [Bool.and_eq_true,Jj] at hfit;unfold SetTable.fill;rw [hfit.1,hd];rfl
 exists (wpAny_setState_of ho x.data x.fits ?_);dsimp only;rw [if_neg hbig];refine wpAny_bind ?_
 show wpAny _ _ (do
  let some (t,order):=t.relaid (es.map (·.1)) wanted | unsupported "internal:set-table-without-room"
  let es':=order.filterMap (es[·]?)
  if (es'.size != es.size)=true then unsupported "internal:set-table-lost-an-element"
  pure (es',t)) _ _ s
 have e':t.relaid (es.map (·.1)) wanted=some (t',order):=e;rw [e'];dsimp only;rw [if_neg (by simp [hsz])];refine wpAny_pure ?_;dsimp only;refine wpAny_storeSet_of ho x.data ?_ (by rw [hsz,x.size,sizeLine_eq];have:=x.small;lia);have o1:(s.heap.update a (Obj.putSet (order.filterMap (es[·]?)) t')).get? a=some (Obj.putSet (order.filterMap (es[·]?)) t' o):=Jc _ ho (by rw [putSet_of _ _ x.data];rfl);refine h _ _ _ (ver+1) t' _ (Heap.SameBut.update ..) o1 (x.store rfl (fun e m=>x.els e (hp'.mem_iff.mp m)) (hmap.symm.nodup x.nodup) (by rw [hsz];exact hfit) (hpl.trans x.plain) (by rcases x.led with h | h;exact .inl h;exact .inr (hl.trans h)) ⟨by rw [hm];exact hF,?_,hso⟩ (by rw [hmap.length_eq];exact x.small)) hmap;rw [hfill,hm,x.size];lia
theorem iE (st:St G L B ρ σ s) (h:σ a=some (.iset xs ob)) (hz:xs.length<63) {k:Int} {tk:Tok} {Q:Bool->Shared->Prop}
  (h0:k∈xs->Q false s) (h1:k∉xs->∀ h' xs' ob',St G L B ρ (σ.set a (.iset xs' ob')) { s with heap:=h' }->Heap.SameBut a s.heap h'->xs'.Perm (k::xs)->xs'.Nodup->Q true { s with heap:=h' }):
  wpAny (model G.prog G.w) A (setAddHashed a (.int k tk) (jD G.prog G.w k)) Q E s:=by
 ac_rfl;obtain ⟨es,ver,t,ho,x⟩:=st.iset h;right;refine gy ho x hz h0 fun hk h' o' es' t' xs' ver' hs ho' x' hp=>?_;exact h1 hk h' xs' o' (st.upd (x':= .iset xs' o') h rfl rfl hs ho' x'.ov s.toks) hs hp x'.nodup
theorem je {es:Array (Int×Value)} {t:SetTable} {Q:Nat->Shared->Prop} (ho:s.heap.get? a=some ob) (x:cw G xs ob es ver t) (h:Q ver s):wpAny (model G.prog G.w) A (setEpoch a) Q E s:=wpAny_setEpoch_of ho x.data x.fits h
theorem kj {id:String} {es:Array (Int×Value)} {t:SetTable} {Q:Unit->Shared->Prop} (ho:s.heap.get? a=some ob) (x:cw G xs ob es ver t) (h:Q () s):wpAny (model G.prog G.w) A (Builtin.Frozenset.unchanged id a ver) Q E s:=by
 exists (je ho x ?_);rw [if_neg (by simp)];exact wpAny_pure h
abbrev kM (id:String) (b:Addr) (ver:Nat):Sem (ForInStep Unit):=
 Builtin.Frozenset.unchanged id b ver>>=fun _=>setState b>>=fun st=>if (st.2.1 != ver)=true then (unsupported "set.changed-during-merge" >>= fun (_: Unit)=>pure (.yield ())) else pure (.yield ())
theorem tS {id:String} {es:Array (Int×Value)} {t:SetTable} {f:Int×Value->Unit->Sem (ForInStep Unit)}
  (hf:∀ h y,f (h,y) ()=(holding [y] (setAddHashed a y h)>>=fun _=>kM id b ver))
  (x:cw G xs ob es ver t) (hab:b≠a):∀ (l:List (Int×Value)) {ys:List Int} {σ:am} {oc:Obj} {s:Shared} {Q:Unit->Shared->Prop},(∀ e∈l,e∈es.toList)->St G L B ρ σ s->σ b=some (.iset xs ob)->σ a=some (.iset ys oc)->ys.Nodup->ys.length+l.length<63->
  (∀ s' zs oc',zs.Nodup->zs.length<=ys.length+l.length->(∀ i,i∈zs↔i∈ys\/i∈l.map dh)->St G L B ρ (σ.set a (.iset zs oc')) s'->Q () s')->
  wpAny (model G.prog G.w) A (forIn l () f) Q E s:=by
 intros G A ρ L B a b xs ob E ver id es t f
 intro hf x hab l
 induction l with
 | nil=>
  intro ys σ oc s Q hl st hb ha hn hz h;dsimp only [List.forIn_nil];exact wpAny_pure (h s ys oc hn (by simp) (by simp) (by rw [dy ha];exact st))
 | cons e l ih=>
  intros e l
  intro ih
  injections ys σ oc s
  intro Q hl st hb ha hn hz h;obtain ⟨k,tk,rfl⟩:=x.els e (hl e (.head _));rw [List.forIn_cons,hf];have hl':∀ e∈l,e∈es.toList:=fun e m=>hl e (.tail _ m)
  have rest:∀ (K:ForInStep Unit->Sem Unit) (s1:Shared),s1.heap.get? b=some ob->wpAny (model G.prog G.w) A (K (.yield ())) Q E s1->wpAny (model G.prog G.w) A (kM id b ver) (fun r s'=>wpAny (model G.prog G.w) A (K r) Q E s') E s1:=by
   intro K s1 ho hr;exists (kj ho x ?_);exists (wpAny_setState_of ho x.data x.fits ?_);dsimp only;rw [if_neg (by simp)];exact wpAny_pure hr
  exists (wpAny_bind (wpAny_holding (iE st ha (by simp at hz;exact zD hz) (fun hk=>?_) fun hk h' zs oc' st' hs hp hn'=>?_)))
  ·refine rest _ _ ?_ (ih hl' st hb ha hn (by simp at hz;exact rF hz rfl) fun s' zs oc' h1 h2 h3 h4=>h s' zs oc' h1 (by simp;exact Fs h2) (fun i=>?_) h4)
   ·obtain ⟨_,_,_,ho,_⟩:=st.iset hb;exact ho
   ·rw [h3 i,List.map_cons,IZ];constructor
    ·rintro (q | q);exact .inl q;exact .inr (.inr q)
    ·rintro (q | rfl | q);exact .inl q;exact .inl hk;exact .inr q
  ·have hb':(σ.set a (.iset zs oc')) b=some (.iset xs ob):=by rw [am.set_ne _ _ hab];exact hb
   have hlen:=hp.length_eq;refine rest _ _ ?_ (ih hl' st' hb' (am.set_self ..) hn' (by simp at hz hlen ⊢;lia) fun s' zs' oc'' h1 h2 h3 h4=>h s' zs' oc'' h1 (by simp at hlen ⊢;exact Ft hlen h2) (fun i=>?_) (by rw [am.set_set] at h4;exact h4))
   ·obtain ⟨_,_,_,ho,_⟩:=st'.iset hb';exact ho
   ·rw [h3 i,j7 hp,List.map_cons,IZ];show _↔_\/i=k\/_;constructor
    ·rintro ((q | q) | q);exact .inr (.inl q);exact .inl q;exact .inr (.inr q)
    ·rintro (q | q | q);exact .inl (.inr q);exact .inl (.inl q);exact .inr q
theorem oh {es:Array (Int×Value)}:∀ e∈(bN G b ver es).toList,e∈es.toList:=fun e m=>(eQ G b ver es).mem_iff.mp m
theorem lM {o:Obj} {es:Array (Int×Value)} {t:SetTable} (x:cw G xs o es ver t) (i:Int):i∈(bN G b ver es).toList.map dh↔i∈xs:=(gH (a:=b) x).mem_iff
theorem eC {o:Obj} {es:Array (Int×Value)} {t:SetTable} (x:cw G xs o es ver t):(bN G b ver es).toList.length=xs.length:=by
 rw [(eQ G b ver es).length_eq];simpa using x.size
theorem sH {id:String} (st:St G L B ρ σ s) (hb:σ b=some (.iset xs ob)) (ha:σ a=some (.iset ys oc)) (hab:b≠a) (hn:ys.Nodup) (hne:ys≠[]) (hz:ys.length+xs.length<63) {Q:Unit->Shared->Prop}
  (h:∀ s' zs oc',zs.Nodup->zs.length<=ys.length+xs.length->(∀ i,i∈zs↔i∈ys\/i∈xs)->St G L B ρ (σ.set a (.iset zs oc')) s'->Q () s'):
  wpAny (model G.prog G.w) A (Builtin.Frozenset.merge id a b) Q E s:=by
 revert G A ρ σ L B s a b xs ys ob oc E id Q
 injections G A ρ σ L B s a
 injections b xs ys ob
 injections oc E
 injections id
 intro st hb ha hab hn hne hz
 injections Q
 intro h;ac_rfl;obtain ⟨es,ver,t,ho,x⟩:=st.iset hb;right;exists (je ho x ?_);unfold setMerge;have hba:(a==b)=false:=beq_eq_false_iff_ne.mpr (Ne.symm hab);rw [hba];dsimp only [Bool.false_eq_true,if_false];exists (wpAny_setState_of ho x.data x.fits ?_);dsimp only;refine wpAny_ite_split (fun hemp=>?_) (fun hemp=>?_)
 ·have h0:xs=[]:=by
   have h1:=x.size
   have:es.size=0:=by simpa using hemp
   exact List.eq_nil_of_length_eq_zero (by lia)
  subst h0;exact wpAny_pure (h s ys oc hn (by simp) (by simp) (by rw [dy ha];exact st))
 have hx0:0<xs.length:=by
  rw [<- x.size]
  have:¬ es.isEmpty=true:=hemp
  simp at this;rcases Nat.eq_zero_or_pos es.size with h | h
  ·exact absurd (by simpa using h) this
  ·exact h
 have road:∀ {o':Obj} {es':Array (Int×Value)} {v':Nat} {t':SetTable} {ys':List Int},cw G ys' o' es' v' t'->ys'≠[]->t'.road t = .oneByOne:=by
  intro o' es' v' t' ys' x' hne';unfold SetTable.road;have h1:=x'.placeSize;have h2:=x'.size;have h3:ys'.length≠0:=fun e=>hne' (List.eq_nil_of_length_eq_zero e)
  have:(t'.fill != 0)=true:=by
   refine bne_iff_ne.mpr fun e=>?_;unfold SetTable.fill at e;lia
  rw [if_pos this]
 have tail:∀ (s1:Shared) (ys':List Int) (oc':Obj),ys'.Perm ys->St G L B ρ (σ.set a (.iset ys' oc')) s1->∀ (K:Array (Int×Value)×Nat×SetTable->Sem Unit),
   (∀ es' v' t',t'.road t = .oneByOne->wpAny (model G.prog G.w) A (setWalkUnseen b [a] (some a)>>=fun r=>forIn r PUnit.unit (fun p _=>holding [p.2] (setAddHashed a p.2 p.1)>>=fun _=>kM id b ver)>>=fun _=>pure ()) Q E s1->wpAny (model G.prog G.w) A (K (es',v',t')) Q E s1)->
   wpAny (model G.prog G.w) A (setState a>>=K) Q E s1:=by
  intro s1 ys' oc' hp st1 K hK;have ha1:(σ.set a (.iset ys' oc')) a=some (.iset ys' oc'):=am.set_self ..;ac_rfl;obtain ⟨es',v',t',ho',x'⟩:=st1.iset ha1;right;have hne':ys'≠[]:=fun e=>hne (by rw [e] at hp;exact List.nil_perm.mp hp);have hlen:=hp.length_eq;exists (wpAny_setState_of ho' x'.data x'.fits (hK _ _ _ (road x' hne') ?_))
  have hb1:(σ.set a (.iset ys' oc')) b=some (.iset xs ob):=by rw [am.set_ne _ _ hab];exact hb
  ac_rfl;obtain ⟨_,_,_,hob,_⟩:=st1.iset hb1;right;exists (fU hob x ?_)
  have hz':ys'.length+xs.length<63:=by lia
  rw [<- Array.forIn_toList];exists (tS (G:=G) (id:=id) (b:=b) (a:=a) (fun h y=>rfl) x hab _ oh st1 hb1 ha1 (hp.symm.nodup hn) (by rw [eC x];exact hz') fun s' zs oc'' h1 h2 h3 h4=>wpAny_pure (h s' zs oc'' h1 (by rw [eC x] at h2;lia) (fun i=>?_) (by rw [am.set_set] at h4;exact h4)));rw [h3 i,lM x,hp.mem_iff]
 have room:∀ (K:Unit->Sem Unit),(∀ s1 ys' oc',ys'.Perm ys->St G L B ρ (σ.set a (.iset ys' oc')) s1->wpAny (model G.prog G.w) A (K ()) Q E s1)->wpAny (model G.prog G.w) A (setRoomFor a es.size>>=K) Q E s:=by
  intro K hK;ac_rfl;obtain ⟨es',v',t',ho',x'⟩:=st.iset ha;right;exists (wpAny_bind (wpAny_setState_of ho' x'.data x'.fits ?_));dsimp only
  cases hr:t'.roomFor es.size with
  | none=>exact wpAny_pure (hK s ys oc (.refl _) (by rw [dy ha];exact st))
  | some wanted=>
   have hw:wanted=(ys.length+xs.length)*2:=by
    unfold SetTable.roomFor at hr
    split at hr
    ·obtain rfl:=Option.some.inj hr;rw [x'.placeSize,x'.size,x.size]
    ·injection hr
   refine o9 ho' x' (by lia) (by lia) fun h' o'' es'' v'' t'' ys'' hs ho'' x'' hp=>?_;exact hK _ ys'' o'' hp (st.upd (x':= .iset ys'' o'') ha rfl rfl hs ho'' x''.ov s.toks)
 refine room _ fun s1 ys' oc' hp st1=>?_;refine tail s1 ys' oc' hp st1 _ fun es' v' t' hroad hk=>?_;dsimp only;rw [hroad];exact hk
theorem n5 {id:String} (st:St G L B ρ σ s) (hb:σ b=some (.iset xs ob)) (ha:σ a=some (.iset ys oc)) (hab:b≠a) (hn:ys.Nodup) (hne:ys≠[]) (hz:ys.length+xs.length<63) {Q:Unit->Shared->Prop}
  (h:∀ s' zs oc',zs.Nodup->zs.length<=ys.length+xs.length->(∀ i,i∈zs↔i∈ys\/i∈xs)->St G L B ρ (σ.set a (.iset zs oc')) s'->Q () s'):
  wpAny (model G.prog G.w) A (Builtin.Frozenset.updateFrom id a (.ref b)) Q E s:=by
 revert G A ρ σ L B s a b xs ys ob oc E id Q
 injections G A ρ σ L B s a
 injections b xs ys ob
 injections oc E
 injections id
 intro st hb ha hab hn hne hz
 injections Q
 intro h;ac_rfl;obtain ⟨es,ver,t,hz4⟩:=st.iset hb;right;have hT:s.TypeIs (.ref b) "set" :=⟨ob,hz4.1,hz4.2.ex.1⟩;refine wpAny_bind ?_;show wpAny _ _ (isInstance (.ref b) (.type "set")>>=_) _ _ _;exists (wpAny_isInstance hT sub_set_self ?_);refine wpAny_pure ?_;dsimp only [if_true];exists (wpAny_pure ?_);exact sH st hb ha hab hn hne hz h
theorem oM {Q:V->am->Prop} (hb:σ b=some (.iset xs ob)) (ha:σ a=some (.iset ys oc)) (hab:b≠a) (hn:ys.Nodup) (hne:ys≠[]) (hz:ys.length+xs.length<63)
  (q:∀ zs oc',zs.Nodup->zs.length<=ys.length+xs.length->(∀ i,i∈zs↔i∈ys\/i∈xs)->Q .none (σ.set a (.iset zs oc'))):WC G A (.bi "set.update") [.ref a, .ref b] [] σ Q:=by
 intros G A σ a b xs ys ob oc Q
 intro hb ha hab hn hne hz q
 injections L B ρ s
 intro fv zs kx st rf r rk;obtain ⟨x,y,rfl,r1,r2⟩:=r.two;obtain rfl:=r1.refE;obtain rfl:=r2.refE;obtain rfl:=rf.biE;obtain rfl:=rk.nilE;ac_rfl;obtain ⟨es,ver,t,hz5⟩:=st.iset ha;right;refine wpAny_call_entry F.slot_set_update ⟨oc,hz5.1,hz5.2.ex.1⟩ F.entry_set_update ?_ (F.args_set_update_2 _ _);unfold Builtin.«set.update» Builtin.Frozenset.manyOthers;dsimp only [List.isEmpty_nil];exists (wpAny_pure ?_);refine wpAny_bind ?_;rw [List.forIn_cons];exists (wpAny_bind (n5 st hb ha hab hn hne hz fun s' zs oc' h1 h2 h3 h4=>?_));refine wpAny_pure ?_;dsimp only;rw [List.forIn_nil];exact wpAny_pure (wpAny_pure ⟨_,rfl,B, .none,_, .refl B,h4, .none,q zs oc' h1 h2 h3⟩)
end
section
variable {G:aK} {A:Around} {env:Env} {ρ:aX} {σ:am} {L:Addr} {B:PB} {s:Shared} {i:Int} {l l' d a b r:Addr} {xs ys:List Int} {v w:V} {ob oc od:Obj} {E:Value->Shared->Prop} {ver:Nat}
theorem o0:entryFor table "set.__sub__" = some Builtin.«frozenset.__sub__»:=
 entryFor_alias (id':= "frozenset.__sub__") (⋯) rfl nofun (⋯)
abbrev rL (id:String) (a:Addr) (ver:Nat):Sem (ForInStep Unit):=Builtin.Frozenset.unchanged id a ver>>=fun _=>pure (.yield ())
theorem vt {id:String} {es:Array (Int×Value)} {t:SetTable} {f:Int×Value->Unit->Sem (ForInStep Unit)}
  (hf:∀ h y,f (h,y) ()=(holding [y] (setFind b y h>>=fun o=>if (!o.isSome)=true then (setAddHashed r y h>>=fun _=>pure ()) else pure ())>>=fun _=>rL id a ver))
  (x:cw G xs ob es ver t) (har:a≠r) (hbr:b≠r):∀ (l:List (Int×Value)) {zs:List Int} {σ:am} {od:Obj} {s:Shared} {Q:Unit->Shared->Prop},(∀ e∈l,e∈es.toList)->St G L B ρ σ s->σ a=some (.iset xs ob)->σ b=some (.iset ys oc)->σ r=some (.iset zs od)->zs.Nodup->zs.length+l.length<63->
  (∀ s' zs' od',zs'.Nodup->zs'.length<=zs.length+l.length->(∀ i,i∈zs'↔i∈zs\/(i∈l.map dh/\i∉ys))->St G L B ρ (σ.set r (.iset zs' od')) s'->Q () s')->
  wpAny (model G.prog G.w) A (forIn l () f) Q E s:=by
 intros G A ρ L B a b r xs ys ob oc E ver id es t f
 intro hf x har hbr l
 induction l with
 | nil=>
  intro zs σ od s Q hl st ha hb hr hn hz h;dsimp only [List.forIn_nil];exact wpAny_pure (h s zs od hn (by simp) (by simp) (by rw [dy hr];exact st))
 | cons e l ih=>
  intros e l
  intro ih
  injections zs σ od s
  intro Q hl st ha hb hr hn hz h;obtain ⟨k,tk,rfl⟩:=x.els e (hl e (.head _));rw [List.forIn_cons,hf];have hl':∀ e∈l,e∈es.toList:=fun e m=>hl e (.tail _ m)
  have rest:∀ (K:ForInStep Unit->Sem Unit) (s1:Shared),s1.heap.get? a=some ob->wpAny (model G.prog G.w) A (K (.yield ())) Q E s1->wpAny (model G.prog G.w) A (rL id a ver) (fun r s'=>wpAny (model G.prog G.w) A (K r) Q E s') E s1:=by
   intro K s1 ho hr;exact wpAny_bind (kj ho x (wpAny_pure hr))
  ac_rfl;obtain ⟨es',ver',t',hz0⟩:=st.iset hb;right;exists (wpAny_bind (wpAny_holding (wpAny_bind (pG hz0.1 hz0.2 ?_))))
  by_cases hk:k∈ys
  ·have hsome:(ys.findIdx? fun i=>i==k).isSome=true:=by
    cases hr:ys.findIdx? (fun i=>i==k) with
    | some j=>rfl
    | none=>exact absurd (List.findIdx?_eq_none_iff.mp hr k hk) (by simp)
   rw [hsome];simp only [Bool.not_true,Bool.false_eq_true,if_false];refine wpAny_pure (rest _ _ ?_ (ih hl' st ha hb hr hn (by simp at hz;exact rF hz rfl) fun s' zs' od' h1 h2 h3 h4=>h s' zs' od' h1 (by simp;exact Fs h2) (fun i=>?_) h4))
   ·obtain ⟨_,_,_,ho,_⟩:=st.iset ha;exact ho
   ·rw [h3 i,List.map_cons,IZ];show _↔_\/((i=k\/_)/\_);constructor
    ·rintro (q | ⟨q,q'⟩);exact .inl q;exact .inr ⟨.inr q,q'⟩
    ·rintro (q | ⟨rfl | q,q'⟩);exact .inl q;exact absurd hk q';exact .inr ⟨q,q'⟩
  ·have hnone:(ys.findIdx? fun i=>i==k).isSome=false:=by
    cases hr:ys.findIdx? (fun i=>i==k) with
    | some j=>
     have hz1:=List.findIdx?_eq_some_iff_getElem.mp hr;exact absurd (by rw [<- Jj.mp hz1.2.1];exact List.getElem_mem hz1.1) hk
    | none=>rfl
   rw [hnone];simp only [Bool.not_false,if_true];exists (iE st hr (by simp at hz;exact zD hz) (fun hkz=>?_) fun hkz h' zs' od' st' hs hp hn'=>?_)
   ·refine wpAny_pure (rest _ _ ?_ (ih hl' st ha hb hr hn (by simp at hz;exact rF hz rfl) fun s' zs' od' h1 h2 h3 h4=>h s' zs' od' h1 (by simp;exact Fs h2) (fun i=>?_) h4))
    ·obtain ⟨_,_,_,ho,_⟩:=st.iset ha;exact ho
    ·rw [h3 i,List.map_cons,IZ];show _↔_\/((i=k\/_)/\_);constructor
     ·rintro (q | ⟨q,q'⟩);exact .inl q;exact .inr ⟨.inr q,q'⟩
     ·rintro (q | ⟨rfl | q,q'⟩);exact .inl q;exact .inl hkz;exact .inr ⟨q,q'⟩
   ·have ha':(σ.set r (.iset zs' od')) a=some (.iset xs ob):=by rw [am.set_ne _ _ har];exact ha
    have hb':(σ.set r (.iset zs' od')) b=some (.iset ys oc):=by rw [am.set_ne _ _ hbr];exact hb
    have hlen:=hp.length_eq;refine wpAny_pure (rest _ _ ?_ (ih hl' st' ha' hb' (am.set_self ..) hn' (by simp at hz hlen ⊢;lia) fun s' zs'' od'' h1 h2 h3 h4=>h s' zs'' od'' h1 (by simp at hlen ⊢;exact Ft hlen h2) (fun i=>?_) (by rw [am.set_set] at h4;exact h4)))
    ·obtain ⟨_,_,_,ho,_⟩:=st'.iset ha';exact ho
    ·rw [h3 i,j7 hp,List.map_cons,IZ];show _↔_\/((i=k\/_)/\_);constructor
     ·rintro ((rfl | q) | ⟨q,q'⟩);exact .inr ⟨.inl rfl,hk⟩;exact .inl q;exact .inr ⟨.inr q,q'⟩
     ·rintro (q | ⟨rfl | q,q'⟩);exact .inl (.inr q);exact .inl (.inl rfl);exact .inr ⟨q,q'⟩
theorem ja {Q:Bool->Shared->Prop} (hT:s.TypeIs (.ref a) "set") (h:Q true s):wpAny (model G.prog G.w) A (Builtin.Frozenset.isAnySet (.ref a)) Q E s:=by
 show wpAny _ _ (isInstance (.ref a) (.type "set")>>=_) _ _ _;exact wpAny_bind (wpAny_isInstance hT sub_set_self (wpAny_pure h))
theorem vL (st:St G L B ρ σ s) {Q:Value->Shared->Prop} (h:St G L B ρ (σ.set s.heap.objs.size (.iset [] (cg (!(G.w.params.followText "set-order"))))) { s with heap:=s.heap.push (cg (!(G.w.params.followText "set-order"))) }->Q (.ref s.heap.objs.size) { s with heap:=s.heap.push (cg (!(G.w.params.followText "set-order"))) }):wpAny (model G.prog G.w) A (newSet (.type "set")) Q E s:=by
 exists (wpAny_bind (wpAny_askSetting (wpAny_pure ?_)));dsimp only;dsimp only [newObj];exact wpAny_bind (wpAny_alloc (wpAny_pure (h (st.alloc (x:= .iset [] _) rfl rfl (jc (G:=G)).ov))))
theorem oZ {id:String} (st:St G L B ρ σ s) (ha:σ a=some (.iset xs ob)) (hb:σ b=some (.iset ys oc)) (hq:xs.length / 4<=ys.length) (hz:xs.length<63) {Q:Value->Shared->Prop}
  (q:∀ r zs od s',σ r=none->zs.Nodup->zs.length<=xs.length->(∀ i,i∈zs↔i∈xs/\i∉ys)->St G L B ρ (σ.set r (.iset zs od)) s'->Q (.ref r) s'):wpAny (model G.prog G.w) A (Builtin.Frozenset.difference id a (.ref b)) Q E s:=by
 revert G A ρ σ L B s a b xs ys ob oc E id Q
 injections G A ρ σ L B s a
 injections b xs ys ob
 injections oc E
 injections id
 intro st ha hb hq hz
 injections Q
 intro q;ac_rfl;obtain ⟨es,ver,t,ho,x⟩:=st.iset ha;obtain ⟨es',ver',t',hz3⟩:=st.iset hb;right;have hTa:s.TypeIs (.ref a) "set" :=⟨_,ho,x.ex.1⟩;have hTb:s.TypeIs (.ref b) "set" :=⟨_,hz3.1,hz3.2.ex.1⟩;have hf:=st.fresh (I4 s.heap.objs.size)
 have hra:a≠s.heap.objs.size:=fun e=>by rw [e,hf] at ha;injection ha
 have hrb:b≠s.heap.objs.size:=fun e=>by rw [e,hf] at hb;injection hb
 exists (ja hTb ?_);show wpAny _ _ (Builtin.Frozenset.addrOf (.ref b)>>=_) _ _ _;exists (wpAny_pure ?_);show wpAny _ _ (Builtin.Frozenset.sizeOf b>>=_) _ _ _;exists (wpAny_bind (wpAny_setEntries_of hz3.1 hz3.2.data hz3.2.fits (wpAny_pure ?_)));exists (wpAny_bind (wpAny_setEntries_of ho x.data x.fits (wpAny_pure ?_)));rw [if_neg (by rw [x.size,hz3.2.size];exact Nat.not_lt_of_ge hq)];exists (wpAny_bind (wpAny_isInstance hTa sub_set_self (wpAny_pure ?_)));exists (vL st fun st1=>?_);exists (wpAny_pure ?_)
 have ha1:(σ.set s.heap.objs.size (.iset [] (cg (!(G.w.params.followText "set-order"))))) a=some (.iset xs ob):=by rw [am.set_ne _ _ hra];exact ha
 have hb1:(σ.set s.heap.objs.size (.iset [] (cg (!(G.w.params.followText "set-order"))))) b=some (.iset ys oc):=by rw [am.set_ne _ _ hrb];exact hb
 ac_rfl;obtain ⟨_,_,_,ho1,_⟩:=st1.iset ha1;right;exists (je ho1 x ?_);simp only [if_true];exists (wpAny_holding (wpAny_bind (fU ho1 x ?_)));rw [<- Array.forIn_toList];exists (vt (G:=G) (id:=id) (a:=a) (b:=b) (r:=s.heap.objs.size) (ver:=ver) (fun h y=>by rfl) x hra hrb _ oh st1 ha1 hb1 (am.set_self ..) List.nodup_nil (by rw [eC x];simpa using hz) fun s' zs od h1 h2 h3 h4=>wpAny_pure (wpAny_pure ?_));rw [am.set_set] at h4;refine q _ zs od s' hf h1 (by rw [eC x] at h2;simpa using h2) (fun i=>?_) h4;rw [h3 i,lM x]
 simp
theorem tx {Q:V->am->Prop} (ha:σ a=some (.iset xs ob)) (hb:σ b=some (.iset ys oc)) (hq:xs.length / 4<=ys.length) (hz:xs.length<63)
  (q:∀ r zs od,σ r=none->zs.Nodup->zs.length<=xs.length->(∀ i,i∈zs↔i∈xs/\i∉ys)->Q (.ref r) (σ.set r (.iset zs od))):WO G A L (lH .Sub) [.ref a, .ref b] ρ σ Q:=by
 intros G A ρ σ L a b xs ys ob oc Q
 intro ha hb hq hz q
 injections B s
 injections vs
 intro st rr;obtain ⟨x,y,rfl,r1,r2⟩:=rr.two;obtain rfl:=r1.refE;obtain rfl:=r2.refE;ac_rfl;obtain ⟨es,ver,t,hz5⟩:=st.iset ha;obtain ⟨es',ver',t',hz6⟩:=st.iset hb;right;have hTa:s.TypeIs (.ref a) "set" :=⟨_,hz5.1,hz5.2.ex.1⟩;have hTb:s.TypeIs (.ref b) "set" :=⟨_,hz6.1,hz6.2.ex.1⟩;show wpAny _ _ (binaryOp .Sub (.ref a) (.ref b)) _ _ s;refine wpAny_binaryOp_same (op:= .Sub) (id:= "set.__sub__") hTa hTb F.fills_set_sub F.slot_set_sub ?_;refine wpAny_call_entry F.slot_set_sub hTa o0 ?_ (F.args_set_sub_2 _ _);have hf:=st.fresh (I4 s.heap.objs.size)
 have hra:a≠s.heap.objs.size:=fun e=>by rw [e,hf] at ha;injection ha
 have hrb:b≠s.heap.objs.size:=fun e=>by rw [e,hf] at hb;injection hb
 unfold Builtin.«frozenset.__sub__»
 wp_delta
 unfold Builtin.Frozenset.slot1 slotArgs;dsimp only [List.isEmpty_nil,Bool.not_true,Bool.false_eq_true,↓reduceIte,bind_assoc,List.length_cons,List.length_nil,Nat.zero_add,bne_self_eq_false];exists (wpAny_pure ?_);dsimp only
 try (exists (wpAny_pure ?_);dsimp only)
 refine wpAny_bind ?_;show wpAny _ _ (Builtin.Frozenset.isAnySet (.ref a)>>=_) _ _ _;exists (ja hTa ?_);refine ja hTb ?_;simp only [Bool.not_true,Bool.false_eq_true,if_false];exists (wpAny_pure ?_);exists (oZ st ha hb hq hz fun r zs od s' h1 h2 h3 h4 st'=>?_);exact wpAny_pure ⟨_,rfl,(fun a=>nomatch a),B, .ref _,_, .refl B,st', .ref _,q r zs od h1 h2 h3 h4⟩
end
section
variable {G:aK} {A:Around} {env:Env} {ρ:aX} {σ:am} {L:Addr} {B:PB} {s:Shared} {i:Int} {l l' d a b r:Addr} {xs ys:List V} {v w:V} {E:Value->Shared->Prop} {ver:Nat}
abbrev am.del (σ:am) (a:Addr):am:=fun b=>if b=a then none else σ b
theorem am.del_self (σ:am) (a:Addr):(σ.del a) a=none:=by simp [am.del]
theorem am.del_ne (σ:am) {a b:Addr} (h:b≠a):(σ.del a) b=σ b:=by simp [am.del,h]
theorem am.del_some {σ:am} {a b:Addr} {x:bL} (h:(σ.del a) b=some x):σ b=some x:=by
 unfold am.del at h;split at h
 ·injection h
 ·exact h
theorem St.drop (st:St G L B ρ σ s) (a:Addr):St G L B ρ (σ.del a) s where
 base:=st.base
 keep:=st.keep
 keepG:=st.keepG
 own:=fun b y e=>st.own b y (am.del_some e)
 loc:=st.loc
 LB:=st.LB
 Lσ:=by unfold am.del;split;rfl;exact st.Lσ
 os:=st.os
 bare:=st.bare
 two:=fun b y e=>st.two b y (am.del_some e)
theorem St.rawB (st:St G L B ρ σ s) {o:Obj} (h:σ a=some (.raw o)):B.o a=none/\s.heap.get? a=some o:=by
 cases st.own a _ h with | mk o' e v b=>exact ⟨b,(v:o'=o)▸e⟩
theorem da.cons {os:List (Addr×Obj)} (hF:da os L B σ s) {o:Obj} (hn:a∉os.map (·.1)) (h1:B.o a=none) (h2:σ a=none) (h3:a≠L) (h4:s.heap.get? a=some o) (h5:cA o=false):da ((a,o)::os) L B σ s:=
 ⟨I6.mpr ⟨hn,hF.1⟩,fun p m=>(IZ.mp m).elim (fun e=>e▸⟨h1,h2,h3,h4,h5⟩) (hF.2 p)⟩
theorem uQ {a b:Addr} {o:Obj} (h:a≠b):a∉[(b,o)].map (·.1):=fun m=>h (IN.mp m)
theorem St.extBut2 (st:St G L B ρ σ s) {e it:Addr} (hB:B.o e=none) (hσ:σ e=none) (hL:e≠L) (hB2:B.o it=none) (hσ2:σ it=none) (hL2:it≠L) {h':Heap} {t:Nat} (hk:∀ b o,b≠e->b≠it->s.heap.get? b=some o->h'.get? b=some o):St G L B ρ σ { s with heap:=h',toks:=t } where
 base:=st.base
 keep:=fun b o eb=>hk b o (fun q=>by rw [q,hB] at eb;injection eb) (fun q=>by rw [q,hB2] at eb;injection eb) (st.keep b o eb)
 keepG:=st.keepG
 own:=fun b x eb=>(by obtain ⟨o,e',v,hb⟩:=st.own b x eb;exact ⟨o,hk b o (fun q=>by rw [q,hσ] at eb;injection eb) (fun q=>by rw [q,hσ2] at eb;injection eb) e',v,hb⟩)
 loc:=(by obtain ⟨m,⟨o,es,ep,n1,n2⟩,rr⟩:=st.loc;exact ⟨m,⟨o,es,ep,hk L o (Ne.symm hL) (Ne.symm hL2) n1,n2⟩,rr⟩)
 LB:=st.LB
 Lσ:=st.Lσ
 os:=st.os
 bare:=st.bare
 two:=st.two
abbrev gh (it:Addr) (i:Int) (old:Value):Obj:={ cls:= .type "enumerate",dict:=none,data:= .fields #[.none, .bool false, .ref it,rawInt i, .none,old],slots:= #[] }
abbrev Bj (l:Addr) (i:Nat) (o:Obj):Prop:=o.cls = .type "list_iterator" /\o.data = .fields #[.ref l, .int i 0]
theorem p0 {Q:V->am->Prop} (hl:bE σ l xs) (q:∀ e it oi,σ e=none->σ it=none->e≠it->Bj l 0 oi->Q (.ref e) ((σ.set it (.raw oi)).set e (.raw (gh it 0 .none)))):WC G A (.ty "enumerate") [.ref l] [] σ Q:=fun L B ρ s fv ys kx st rf r rk=>by
 obtain ⟨x,rfl,r1⟩:=r.one;obtain rfl:=r1.refE;obtain rfl:=rf.tyE;obtain rfl:=rk.nilE
 cases st.lst hl with | mk vs ep el re=>
 refine call_enumerate_list (bg el) fun h' he hit hz hk=>?_;ac_rfl;obtain ⟨oi,hz0⟩:=hit;right;have st1:St G L B ρ σ { s with heap:=h' }:=st.more (t:=s.toks) hk;have hf0:=st.freshB (I4 s.heap.objs.size);have hf1:=st.freshB (Nat.le_succ s.heap.objs.size);have st2:=st1.adopt (x:= .raw oi) rfl hf0 (st.bigL (I4 _)) (st.big (I4 _)) hz0.1 rfl;have st3:=st2.adopt (x:= .raw (gh s.heap.objs.size 0 .none)) (a:=s.heap.objs.size+1) rfl hf1 (st.bigL (Nat.le_succ _)) (st.big (Nat.le_succ _)) he rfl;exact ⟨B, .ref _,_, .refl B,st3, .ref _,q _ _ oi (st.fresh (Nat.le_succ _)) (st.fresh (I4 _)) (Nat.succ_ne_self _) ⟨hz0.2.1,hz0.2.2⟩⟩
abbrev rR (n:Nat):List V->List V
 | []=>[]
 | x::xs=> .tup [.int n,x]::rR (n+1) xs
theorem ue (hh:A.handled=none) {elts:List Expr} {tk:Nat} {pos:Pos} {e it l:Addr} {xs:List V} (hne:e≠it) (ys:List V):∀ (i:Nat) (oi:Obj) (old:Value),xs.drop i=ys->Bj l i oi->gM G A (.Tuple elts tk pos) e (fun σ=>bE σ l xs) (rR i ys) [(e,gh it i old),(it,oi)]:=by
 induction ys with
 | nil=>
  intro i oi old hd ho L B ρ σ s Q st hF hC h;have f:=hF.get;have g:=hF.tail.get
  cases st.lst hC with | mk vs ep el r=>
  exact wpAny_pyNext_enum_end hh f.2.2.2.1 ⟨oi,g.2.2.2.1,ho.1,ho.2⟩ (bg el) (by
   rw [Array.getElem?_eq_none_iff,<- Array.length_toList,<- r.length]
   exact List.drop_eq_nil_iff.mp hd) fun h' hx=>h _ (st.extBut (t:=s.toks) g.1 g.2.1 g.2.2.1 hx)
 | cons y ys ih=>
  intro i oi old hd ho L B ρ σ s Q st hF hC h;have f:=hF.get;have g:=hF.tail.get;ac_rfl
  cases st.lst hC with | mk vs ep el r=>
  have hx:xs[i]?=some y:=by rw [<- List.head?_drop,hd];rfl
  obtain ⟨z,hz1⟩:=r.get hx;right;refine wpAny_pyNext_enum_item f.2.2.2.1 ⟨oi,g.2.2.2.1,ho.1,ho.2⟩ (bg el) (by rw [<- Array.getElem?_toList];exact hz1.1) hne fun h' he' hit' ht hsz hk=>?_
  cases hit' with | intro oi' w=>
  refine wpAny_letOwnedTupleGo_enum (s:={ s with heap:=h',toks:=s.toks+1 }) he' fun h₂ he2 hs2=>?_;have hfB:=st.freshB (I4 s.heap.objs.size);have hel:=Nat.ne_of_lt (I9 f.2.2.2.1);have hil:=Nat.ne_of_lt (I9 g.2.2.2.1);have st1:St G L B ρ σ { s with heap:=h₂,toks:=s.toks+1 }:=st.extBut2 f.1 f.2.1 f.2.2.1 g.1 g.2.1 g.2.2.1 fun b o h1 h2 e=>hs2.extBut b o h1 (hk b o h1 h2 e);have lf:=PB.le_set (B:=B) (some (ej #[.int i s.toks,z])) hfB
  exact h _ _ _ [(e,gh it ((i+1:Nat):Int) z),(it,oi')] lf (st1.frost hfB (st.fresh (I4 s.heap.objs.size)) (Nat.ne_of_gt st.Llt) (hs2.extBut _ _ (Ne.symm hel) ht))
   (.cons (.one ((PB.set_ne _ _ hil).trans g.1) g.2.1 g.2.2.1 (hs2.extBut it oi' (Ne.symm hne) w.1) (by unfold cA;rw [w.2.2])) (uQ hne) ((PB.set_ne _ _ hel).trans f.1) f.2.1 f.2.2.1 he2 rfl)
   (.tup (xs:= #[.int i s.toks,z]) (PB.set_self ..) (.cons (.int i s.toks) (.cons (hz1.2.mono lf) .nil))) (ih (i+1) oi' z (by rw [<- List.drop_drop,hd];rfl) ⟨w.2.1,w.2.2⟩)
theorem zq (hh:A.handled=none) {elts:List Expr} {tk:Nat} {pos:Pos} {e it:Addr} {oi:Obj} {Q:am->(am->Prop)->List V->Prop} (he:σ e=some (.raw (gh it 0 .none))) (hi:σ it=some (.raw oi)) (hne:e≠it) (ho:Bj l 0 oi) (hl:bE σ l xs) (hle:l≠e) (hli:l≠it)
  (q:Q ((σ.del e).del it) (fun σ=>bE σ l xs) (rR 0 xs)):WI G A L (.Tuple elts tk pos) (.ref e) ρ σ Q:=fun B s val st r=>by
 obtain rfl:=r.refE;have f:=st.rawB he;have g:=st.rawB hi
 have hC:bE ((σ.del e).del it) l xs:=by
  unfold bE;rw [am.del_ne _ hli,am.del_ne _ hle];exact hl
 exact wpAny_pyIter_enum f.2 ⟨e,[(e,gh it ((0:Nat):Int) .none),(it,oi)],_,_,B,_,rfl, .refl B,(st.drop e).drop it,
  .cons (.one g.1 (am.del_self ..) (st.ne hi) g.2 (by unfold cA;rw [ho.2])) (uQ hne) f.1 ((am.del_ne _ hne).trans (am.del_self ..)) (st.ne he) f.2 rfl,hC,ue hh hne xs 0 oi .none rfl ho,fun s Q e' q=>wpAny_pyIter_enum (e' _ (.head _)) q,q⟩
end
abbrev iC:Code->Bool
 | .builtin "lifetime.gc.finalise" _=>true
 | _=>false
abbrev wC (Γ:Ctx):Prop:=iC Γ.code=false/\∀ x∈Γ.below,iC x.1=false
abbrev eD {α:Type} (M:Model) (A:Around) (t:Sem α) (Q:α->Shared->Prop) (E:Value->Shared->Prop) (s:Shared):Prop:=
 ∀ Γ p,Γ.In A->wC Γ->Sem.wp M Γ t (fun a _ s'=>Q a s') (fun e _ s'=>E e s') p s
abbrev dw (M:Model) (A:Around) (c:Code) (R:Result->Shared->Prop) (s:Shared):Prop:=
 ∀ Γ p,Γ.code=c->Γ.Below A->(∀ x∈Γ.below,iC x.1=false)->wpCode M Γ R p s
section
variable {α β:Type} {M:Model} {A:Around} {E:Value->Shared->Prop} {s:Shared}
theorem gI {t:Sem α} {Q:α->Shared->Prop} (h:wpAny M A t Q E s):eD M A t Q E s:=fun Γ p hΓ _=>h Γ p hΓ
theorem bH {a:α} {Q:α->Shared->Prop} (h:Q a s):eD M A (pure a) Q E s:=gI (wpAny_pure h)
theorem cB {t:Sem α} {Q Q':α->Shared->Prop} {E':Value->Shared->Prop} (h:eD M A t Q E s) (hQ:∀ a s,Q a s->Q' a s) (hE:∀ e s,E e s->E' e s):eD M A t Q' E' s:=
 fun Γ p hΓ hn=>Sem.wp_mono M Γ t (fun a _ s=>hQ a s) (fun e _ s=>hE e s) p s (h Γ p hΓ hn)
theorem bY {m:Sem α} {f:α->Sem β} {Q:β->Shared->Prop} (h:eD M A m (fun a s'=>eD M A (f a) Q E s') E s):eD M A (m>>=f) Q E s:=fun Γ p hΓ hn=>by
 rw [Sem.wp_bind'];exact Sem.wp_mono M Γ m (fun a p' s' h'=>h' Γ p' hΓ hn) (fun _ _ _ h'=>h') p s (h Γ p hΓ hn)
theorem bn {m:Sem α} {f:α->Sem β} {Q:β->Shared->Prop} (h:wpAny M A m (fun a s'=>eD M A (f a) Q E s') E s):eD M A (m>>=f) Q E s:=bY (gI h)
theorem jf {vs:List Value} {m:Sem α} {Q:α->Shared->Prop} (h:eD M A m Q E s):eD M A (holding vs m) Q E s:=fun Γ p hΓ hn=>by rw [Sem.wp_holding];exact h Γ p hΓ hn
theorem eR {m:Sem α} {k:Value->Sem Unit} {Q:α->Shared->Prop} (h:eD M A m Q (fun e s'=>eD M A (k e) (fun _ s''=>E e s'') E s') s):eD M A (m.onRaise k) Q E s:=fun Γ p hΓ hn=>by
 rw [Sem.wp_onRaise];exact Sem.wp_mono M Γ m (fun _ _ _ h'=>h') (fun e p' s' h'=>h' Γ p' hΓ hn) p s (h Γ p hΓ hn)
theorem sX {m:Sem α} {Q:Except Value α->Shared->Prop} (h:eD M A m (fun a=>Q (.ok a)) (fun e=>Q (.error e)) s):eD M A m.attempt Q E s:=fun Γ p hΓ hn=>by rw [Sem.wp_attempt];exact h Γ p hΓ hn
theorem Aw {c:Prop} [Decidable c] {a b:Sem α} {Q:α->Shared->Prop} (h1:c->eD M A a Q E s) (h2:¬ c->eD M A b Q E s):eD M A (if c then a else b) Q E s:=by
 split <;> simp_all
theorem m6 {c:Code} {R R':Result->Shared->Prop} (h:dw M A c R s) (hR:∀ r s,R r s->R' r s):dw M A c R' s:=
 fun Γ p hc hΓ hn=>wpCode_mono hR (h Γ p hc hΓ hn)
theorem lG {Γ:Ctx} (h:wC Γ) (c:Code) (hd:Option Value) (p:Pos):∀ x∈(Γ.enter c hd p).below,iC x.1=false:=by
 intro x hx;rcases IZ.mp hx with rfl | hx
 ·exact h.1
 ·exact h.2 x hx
theorem Ax {c:Code} {h:Option Value} {Q:Flow->Shared->Prop} (hc:dw M (A.mark h) c (fun r s'=>match r with | .ok f=>Q f s' | .error e=>E e s') s) (hnb:h≠some byPass:=by intro x;cases x):eD M A (run c h) Q E s:=
 fun Γ p hΓ hn=>by rw [Sem.wp_run];exact hc _ p rfl (hΓ.enter c h p hnb) (lG hn c h p)
theorem km {c:Code} {Q:Value->Shared->Prop} (hc:dw M A c (fun r s'=>match r with | .ok (.ret v)=>Q v s' | .ok _=>False | .error e=>E e s') s):eD M A (runValue c) Q E s:=
 fun Γ p hΓ hn=>by rw [Sem.wp_runValue];exact hc _ p rfl (hΓ.enter c none p (by intro x;injection x)) (lG hn c none p)
theorem oo {f:Value} {pos:List Value} {kw:List (Str×Value)} {Q:Value->Shared->Prop}
  (hc:dw M A (.call f ⟨pos,kw⟩) (fun r s'=>match r with | .ok (.ret v)=>Q v s' | .ok _=>False | .error e=>E e s') s):eD M A (call f pos kw) Q E s:=km hc
theorem cG {c:Code} {R:Result->Shared->Prop} (hf:iC c=false)
  (h:eD M (A.under c) (M.den c) (fun fin s'=>match fin with | .done f=>R (.ok f) s' | .again c'=>c'.quiet=true/\dw M A c' R s') (fun e s'=>R (.error e) s') s):dw M A c R s:=fun Γ p hc hΓ hn=>by
 rw [wpCode_iff_wp,hc];refine Sem.wp_mono M Γ _ (fun fin p' s' h'=>?_) (fun _ _ _ h'=>h') p s (h Γ p (hc▸hΓ.in) ⟨by rw [hc];exact hf,hn⟩)
 cases fin with
 | done f=>exact h'
 | again c'=>exact ⟨h'.1,h'.2 (Γ.goto c') p' rfl (hΓ.goto c') hn⟩
theorem v9 {Q:List (Code×Pos)->Shared->Prop} (h:∀ st:List (Code×Pos),(∀ x∈st,iC x.1=false)->Q st s):eD M A stack Q E s:=fun Γ p hΓ hn=>by
 show Q ((Γ.code,p)::Γ.below) s;refine h _ fun x hx=>?_;rcases IZ.mp hx with rfl | hx
 ·exact hn.1
 ·exact hn.2 x hx
end
instance iCl:Nonempty ClaimW:=⟨PySem.Challenge.rw_au0018_08.row.toRowW.claim⟩
@[reducible] noncomputable def uB:Ctx:=⟨.builtin "claim.caller" {},none,none,[],none⟩
theorem qf:wC uB:=⟨rfl,fun x h=>nomatch h⟩
inductive AK (prog:Program) (w:World) (t:Sem Fin) (s:Shared) (R:Result->Shared->Prop):Prop
 | mk (n:Nat) (r:Result) (s' s'':Shared) (e1:runN (denote table) prog w n s ⟨t, .builtin "claim.caller" {},default,[]⟩ = .halted (outcomeOf r) s')
  (e2:schedN (denote table) prog w n (.single s ⟨t, .builtin "claim.caller" {},default,[]⟩) = .halted (outcomeOf r) s') (e3:s'.forget=s''.forget) (h:R r s''):AK prog w t s R
theorem rQ {prog:Program} {w:World} {t:Sem Fin} {s:Shared} {R:Result->Shared->Prop} (hreg:s.asleep)
  (h:eD (model prog w) callerA t (fun fin s'=>∃ f,fin = .done f/\R (.ok f) s'/\AllBare s'.gens) (fun e s'=>R (.error e) s'/\AllBare s'.gens) s):
  AK prog w t s R:=by
 have hw:=h uB default caller_in qf;ac_rfl
 obtain ⟨n,r,a,b,x1,x2,x3,x4⟩:=wp_halts_full (M:=model prog w) (R:=R) hreg (Sem.wp_mono _ _ t (fun fin p s' hf=>by
  obtain ⟨f,rfl,hr,hb⟩:=hf
  exact ⟨hr,leftWithCleanup_false_of_bare hb⟩) (fun e p s' hf=>⟨hf.1,leftWithCleanup_false_of_bare hf.2⟩) _ _ hw)
 right;exact ⟨n,r,b,a,x2,x1,x3,x4⟩
theorem qe {c:ClaimW} {tree:List Value->Sem Fin} {w:World} {s:Shared} {free:Addr->Prop} {gens:Prop} {kept:Heap->Prop} (hz:s.asleep) (hgens:s.gens=#[])
  (spec:∀ args,c.pre args=true->WData.layableAll args=true->∀ ord:List DictEntry->List DictEntry,(∀ l,(ord l).Perm l)->∃ vs s1,layAllW c.records (classAt s.heap) w.params ord args s=some (vs,s1)/\
   eD (model c.prog w) callerA (tree vs) (fun fin s'=>∃ f,fin = .done f/\(c.Ends s args vs s1 (.ok f) s'/\s'.os=s.os/\kept s'.heap)/\AllBare s'.gens)
    (fun e s'=>(c.Ends s args vs s1 (.error e) s'/\s'.os=s.os/\kept s'.heap)/\AllBare s'.gens) s1):
  c.CallFrom (fun vs=>⟨tree vs, .builtin "claim.caller" {},default,[]⟩) w free gens kept s:=by
 intros c tree w s free gens kept
 intro hz hgens spec;unfold ClaimW.CallFrom
 injections args
 intro hp hl
 injections ord
 intro ho;ac_rfl;obtain ⟨vs,s1,laid,hc⟩:=spec args hp hl ord ho;have rest:=layAllW_rest _ _ _ laid
 cases rQ (R:=fun r s'=>c.Ends s args vs s1 r s'/\s'.os=s.os/\kept s'.heap) (Shared.asleep_of_life rest.2.2.2 hz) hc with | mk n r s' s'' e1 e2 e3 E=>
 obtain ⟨ends,os,kp⟩:=E;obtain ⟨eh,_,_,eo,_⟩:=Shared.forget_eq e3;have life:s'.heap.life=s.heap.life:=(runN_life _ _ _ e1).trans rest.2.2.2
 have kp':kept s'.heap:=by rw [eh];exact kp
 have os':s'.os=s.os:=by rw [eo];exact os
 refine hG ⟨vs,s1,laid,n,_,s',e2,?_,(fun _ i x hx=>by rw [hgens] at hx;simp at hx),kp',by rw [life],Shared.rest_eq os'⟩;rcases ends.congr eh with ⟨v,rfl,d1,d2,d3,d4,d5⟩ | ⟨e,ob,cls,rfl,d1,d2,d3,d4,d5⟩
 ·exact .inl ⟨v,rfl,d1,d2,d3,fun b o y _=>d4 b o y,d5⟩
 ·exact .inr ⟨e,ob,cls,rfl,d1,d2,d3,d4,fun b o y _=>d5 b o y⟩
@[reducible] noncomputable def uy (q:Program) (loose:List Str) (XP:(Str->Option Value)->Heap->Prop) (YP:World->Heap->Prop) (r:RowW) (d:DefRec) (kwd:List (Str×Expr)):Prop:=
 ∀ (w:World) (s0 s1:Shared) (mg mb:Str->Option Value),Ground q loose r.records XP w s0 mg mb s1.heap->YP w s1.heap->∀ (a:Addr) (o:Obj) (pm cd doc dV kV:Value),s1.heap.get? a=some o->
  o.data = .func { docDef d.name d.params d.body d.scope pm cd doc with defaults:=dV,kwdefaults:=kV }->s1.heap.CodeRec cd d.name->Dflts mg s1.heap d.params kwd dV kV->mg d.name=some (.ref a)->s1.gens=#[]->
  ∀ (args:List WData) (vals:List Value) (as:List Addr),r.claim.pre args=true->WData.layableAll args=true->ReadsAllW r.records (classAt s0.heap) s1.heap vals args as->WellAll w.params s1.heap vals args->(∀ a∈as,(a==sysModules)=false)->
   eD (model r.prog w) callerA (PySem.call (.ref a) vals) (fun v s'=>GoodWG r.claim (classAt s0.heap) (ExcName.means s0.heap) args s1 (.ok (.ret v)) s')
    (fun e s'=>GoodWG r.claim (classAt s0.heap) (ExcName.means s0.heap) args s1 (.error e) s') s1
theorem Ae {r:OpenRow} {q:Program} {loose:List Str} {Xt:Shared->Bool} {XP:(Str->Option Value)->Heap->Prop} {α:Type} {Yf:Shared->α} {Ya:World->α} {YP:World->Heap->Prop} {d:DefRec} {kwd:List (Str×Expr)} {N:Nat}
  (left:LeftO r.prog q loose Xt Yf Ya N) (hY:∀ w s,Yf s=Ya w->YP w s.heap) (hYk:∀ w h h',YP w h->(∀ b o,h.get? b=some o->h'.get? b=some o)->YP w h')
  (hX:∀ s,Xt s=true->XP (s.heap.nsMap mainGlobals) s.heap) (hXk:∀ mg h h',XP mg h->(∀ b o,h.get? b=some o->h'.get? b=some o)->XP mg h')
  (hdef:defOf q r.name=some (d,kwd)) (hp:r.prog.theDef r.name=some (d.params,d.body,d.scope)) (hk:kwWritten? d.params.kwonlyargs d.params.kw_defaults=some kwd) (hRf:∀ s,Xt s=true->RecFacts r.records s.heap) (hwr:(!r.writes || r.records.isEmpty)=true)
  (k1:r.wellSaid=true) (ok:(chainsOk q&&opensWell r.prog&&(frees r.toRowW&&r.within.isEmpty))=true) (hb:r.prog.bare) (hw:r.toRowW.promised)
  (call:uy q loose XP YP r.toRowW d kwd):r.Holds:=by
 ac_rfl;have hz3:=Bool.and_eq_true_iff.mp ok;have hz4:=Bool.and_eq_true_iff.mp hz3.1;have hz5:=Bool.and_eq_true_iff.mp hz3.2;have hz6:=frees_parts hz5.1;right;have within:r.toRowW.claim.within=[]:=List.isEmpty_iff.mp hz5.2;have idf:=ident_freeW hz6.2.1 hz6.2.2.1 hz6.2.2.2.1;refine ⟨k1,hw,⟨hb,hz4.2,by show r.toRowW.makers.map _=[];rw [hz6.2.2.2.2];rfl⟩,hw.witness,fun w=>⟨(left.behind hX hz4.1 w).1,fun s' hs'=>IW fun hG=>?_⟩⟩;ac_rfl;obtain ⟨s0,fence,g0,s,top,asl,gz,isns,GG,y⟩:=(left.behind (XP:=fun mg h=>XP mg h/\RecFacts r.toRowW.records h) (fun s hs=>⟨hX s hs,hRf s hs⟩) hz4.1 w).2 s' hs';right;have G1:Ground q loose [] XP w s (s.heap.nsMap mainGlobals) (s.heap.nsMap builtinsNs) s.heap:=⟨GG.T,GG.B,GG.D,GG.TE,GG.TD,GG.W,GG.X.1,GG.cls,GG.has,GG.apart,GG.once,GG.K⟩;have RF:=GG.X.2;have top':=top;have gz:s.gens=#[]:=Array.eq_empty_of_size_eq_zero (Jj.mp gz);have G2:Ground q loose r.toRowW.records XP w s _ _ s.heap:=RF.ground G1;refine hG ⟨s0,fence,g0,s,top,fun n hn=>?_,RF.1,RF.2.1,qe (c:=r.toRowW.claim) asl gz fun args hpre hlay ord hord=>IW fun hG=>?_⟩
 ·obtain rfl:n=r.name:=by split at hn <;> simp_all
  exact pinned_of_view isns G1 hdef hp hk
 ·obtain ⟨⟨vs,s1⟩,laid⟩:=Option.isSome_iff_exists.mp (layAllW_isSome (P:=w.params) (ord:=ord) G2.has args r.toRowW.args s (pre_splitW hpre).1);have keeps:=layAllW_keeps _ _ _ laid;have rest:=layAllW_rest _ _ _ laid;ac_rfl;obtain ⟨as,hz8⟩:=reads_layAllW hord _ _ _ laid hlay s1.heap (fun _ _ e=>e);have L:Laid r.toRowW.records w s s1 args vs as:=⟨⟨ord,hord,laid⟩,hz8.1,hz8.2.1,hz8.2.2,keeps,rest.1.trans gz,rest.2.2.1⟩;have G3:=G2.keeps hXk keeps;obtain ⟨a,o,pm,cd,doc,dV,kV,hz9⟩:=G3.fn hdef;right;have hc:=call w s s1 _ _ G3 (hYk _ _ _ (hY w s y) keeps) a o pm cd doc dV kV hz9.2.1 hz9.2.2.1 hz9.2.2.2.1 hz9.2.2.2.2 (defOf_name hdef▸hz9.1) L.gens args vs as hpre hlay L.reads L.well (L.low G2.low);refine hG ⟨vs,s1,laid,?_⟩;clear hG;refine bn (wpAny_nsGet G3.T.g ?_);rw [hz9.1];refine bY (cB hc (fun v s' g=>bH ⟨_,rfl,?_⟩) fun e s' g=>?_)
  ·have z:=g.laid (c:=r.toRowW.claim) hz6.1 within idf L;exact ⟨⟨z.1,z.2.1,fun q=>⟨namesKept_of top' isns r.keeps keeps g.2.1.old,noTable hwr q⟩⟩,z.2.2⟩
  ·have z:=g.laid (c:=r.toRowW.claim) hz6.1 within idf L;exact ⟨⟨z.1,z.2.1,fun q=>⟨namesKept_of top' isns r.keeps keeps g.2.1.old,noTable hwr q⟩⟩,z.2.2⟩
section
variable {G:aK} {A:Around} {env:Env} {ρ:aX} {σ:am} {L:Addr} {B:PB} {s:Shared} {α β γ δ:Type}
abbrev oY (G:aK) (A:Around) (L:Addr) (R:PB->β->α->Prop) (t:Sem α) (Q:β->aX->am->Prop) (B:PB) (s:Shared):Prop:=
 eD (model G.prog G.w) A t (qY G L R Q B) jH s
abbrev cI (G:aK) (A:Around) (L:Addr) (R:PB->β->α->Prop) (ρ:aX) (t:Sem α) (Q:β->am->Prop) (B:PB) (s:Shared):Prop:=
 eD (model G.prog G.w) A t (ip G L R ρ Q B) jH s
theorem Wp.n {R:PB->β->α->Prop} {t:Sem α} {Q:β->aX->am->Prop} (h:Wp G A L R t Q B s):oY G A L R t Q B s:=gI h
theorem cq.n {R:PB->β->α->Prop} {t:Sem α} {Q:β->am->Prop} (h:cq G A L R ρ t Q B s):cI G A L R ρ t Q B s:=gI h
theorem cI.le {R:PB->β->α->Prop} {Q:β->am->Prop} {B':PB} {t:Sem α} (l:B.le B') (h:cI G A L R ρ t Q B' s):cI G A L R ρ t Q B s:=cB h (fun _ _ z=>z.le l) fun _ _ e=>e
theorem oY.le {R:PB->β->α->Prop} {Q:β->aX->am->Prop} {B':PB} {t:Sem α} (l:B.le B') (h:oY G A L R t Q B' s):oY G A L R t Q B s:=cB h (fun _ _ z=>z.le l) fun _ _ e=>e
theorem cI.to {R:PB->β->α->Prop} {t:Sem α} {Q:β->am->Prop} {Q':α->Shared->Prop} (h:cI G A L R ρ t Q B s) {E:Value->Shared->Prop} (k:∀ B' s' x y σ',B.le B'->St G L B' ρ σ' s'->R B' y x->Q y σ'->Q' x s'):eD (model G.prog G.w) A t Q' E s:=
 cB h (fun x s' z=>by cases z with | mk B' y σ' l st r q=>exact k B' s' x y σ' l st r q) fun _ _ e=>False.elim e
theorem oY.to {R:PB->β->α->Prop} {t:Sem α} {Q:β->aX->am->Prop} {Q':α->Shared->Prop} (h:oY G A L R t Q B s) {E:Value->Shared->Prop} (k:∀ B' s' x y ρ' σ',B.le B'->St G L B' ρ' σ' s'->R B' y x->Q y ρ' σ'->Q' x s'):eD (model G.prog G.w) A t Q' E s:=
 cB h (fun x s' z=>by cases z with | mk B' y ρ' σ' l st r q=>exact k B' s' x y ρ' σ' l st r q) fun _ _ e=>False.elim e
theorem cI.bind {R:PB->β->α->Prop} {R':PB->δ->γ->Prop} {t:Sem α} {f:α->Sem γ} {Q:β->am->Prop} {Q':δ->am->Prop}
  (h:cI G A L R ρ t Q B s) (k:∀ B' s' x y σ',B.le B'->St G L B' ρ σ' s'->R B' y x->Q y σ'->cI G A L R' ρ (f x) Q' B' s'):cI G A L R' ρ (t>>=f) Q' B s:=
 bY (h.to fun B' s' x y σ' l st r q=>(k B' s' x y σ' l st r q).le l)
theorem cI.bindS {R:PB->β->α->Prop} {R':PB->δ->γ->Prop} {t:Sem α} {f:α->Sem γ} {Q:β->am->Prop} {Q':δ->aX->am->Prop}
  (h:cI G A L R ρ t Q B s) (k:∀ B' s' x y σ',B.le B'->St G L B' ρ σ' s'->R B' y x->Q y σ'->oY G A L R' (f x) Q' B' s'):oY G A L R' (t>>=f) Q' B s:=
 bY (h.to fun B' s' x y σ' l st r q=>(k B' s' x y σ' l st r q).le l)
theorem oY.bind {R:PB->β->α->Prop} {R':PB->δ->γ->Prop} {t:Sem α} {f:α->Sem γ} {Q:β->aX->am->Prop} {Q':δ->aX->am->Prop}
  (h:oY G A L R t Q B s) (k:∀ B' s' x y ρ' σ',B.le B'->St G L B' ρ' σ' s'->R B' y x->Q y ρ' σ'->oY G A L R' (f x) Q' B' s'):oY G A L R' (t>>=f) Q' B s:=
 bY (h.to fun B' s' x y ρ' σ' l st r q=>(k B' s' x y ρ' σ' l st r q).le l)
theorem oY.mono {R:PB->β->α->Prop} {t:Sem α} {Q Q':β->aX->am->Prop} (h:oY G A L R t Q B s) (k:∀ y ρ' σ',Q y ρ' σ'->Q' y ρ' σ'):oY G A L R t Q' B s:=h.to fun B' s' x y ρ' σ' l st r q=>⟨B',y,ρ',σ',l,st,r,k _ _ _ q⟩
theorem oY.standAt {R:PB->β->α->Prop} {Q:β->aX->am->Prop} {f:Unit->Sem α} {p:Pos} (h:oY G A L R (f ()) Q B s):oY G A L R (PySem.standAt p>>=f) Q B s:=bn (wpAny_standAt h)
theorem cI.standAt {R:PB->β->α->Prop} {Q:β->am->Prop} {f:Unit->Sem α} {p:Pos} (h:cI G A L R ρ (f ()) Q B s):cI G A L R ρ (PySem.standAt p>>=f) Q B s:=bn (wpAny_standAt h)
theorem cI.holding {R:PB->β->α->Prop} {Q:β->am->Prop} {t:Sem α} {vs:List Value} (h:cI G A L R ρ t Q B s):cI G A L R ρ (PySem.holding vs t) Q B s:=jf h
abbrev E3 (G:aK) (A:Around) (env:Env) (e:Expr) (ρ:aX) (σ:am) (Q:V->am->Prop):Prop:=
 ∀ B s,St G env.locals B ρ σ s->cI G A env.locals VR ρ (eval e env) Q B s
abbrev yU (G:aK) (A:Around) (env:Env) (st:Stmt) (ρ:aX) (σ:am) (Q:F->aX->am->Prop):Prop:=
 ∀ B s,St G env.locals B ρ σ s->oY G A env.locals FR (exec st env) Q B s
abbrev jU (G:aK) (A:Around) (env:Env) (st:List Stmt) (ρ:aX) (σ:am) (Q:F->aX->am->Prop):Prop:=
 ∀ B s,St G env.locals B ρ σ s->oY G A env.locals FR (execs st env) Q B s
theorem WS.n {e:Stmt} {Q:F->aX->am->Prop} (h:WS G A env e ρ σ Q):yU G A env e ρ σ Q:=fun B s st=>(h B s st).n
theorem WL.n {e:List Stmt} {Q:F->aX->am->Prop} (h:WL G A env e ρ σ Q):jU G A env e ρ σ Q:=fun B s st=>(h B s st).n
theorem jU.mono {e:List Stmt} {Q Q':F->aX->am->Prop} (h:jU G A env e ρ σ Q) (k:∀ v ρ' σ',Q v ρ' σ'->Q' v ρ' σ'):jU G A env e ρ σ Q':=fun B s st=>(h B s st).mono k
theorem jV {Q:F->aX->am->Prop} (h:Q .next ρ σ):jU G A env [] ρ σ Q:=(aE h).n
noncomputable abbrev F5 (G:aK) (A:Around) (env:Env) (l:List Stmt) (Q:F->aX->am->Prop):aX->am->Prop:=fun ρ σ=>jU G A env l ρ σ Q
theorem eH {st:Stmt} {rest:List Stmt} {Q:F->aX->am->Prop} (h:yU G A env st ρ σ (Nx (F5 G A env rest Q) Q)):jU G A env (st::rest) ρ σ Q:=fun B s hs=>by
 dsimp only [arm_execs_cons];refine (h B s hs).bind fun B1 s1 x f ρ1 σ1 l₁ st1 r1 h=>?_
 cases r1 with
 | next=>exact h B1 s1 st1
 | brk=>exact (Wp.pure (Q:=Q) st1 FR.brk h).n
 | cont=>exact (Wp.pure (Q:=Q) st1 FR.cont h).n
 | ret r=>exact (Wp.pure (Q:=Q) st1 (FR.ret r) h).n
theorem cE {st:Stmt} {rest:List Stmt} {Q:F->aX->am->Prop} (h:WS G A env st ρ σ (Nx (F5 G A env rest Q) Q)):jU G A env (st::rest) ρ σ Q:=eH h.n
theorem tB {e:Expr} {pos} {Q:F->aX->am->Prop} (h:E3 G A env e ρ σ fun v σ'=>Q (.ret v) ρ σ'):yU G A env (.Return (some e) pos) ρ σ Q:=fun B s st=>by
 dsimp only [exec_Return_some];exact .standAt ((h B s st).bindS fun B1 s1 x f σ1 l₁ st1 r1 h=>(Wp.pure st1 (.ret r1) h).n)
theorem wW {t:Expr} {b o:List Stmt} {pos} {Q:F->aX->am->Prop} (h:WT G A env t ρ σ fun c σ1=>if c then jU G A env b ρ σ1 Q else jU G A env o ρ σ1 Q):yU G A env (.If t b o pos) ρ σ Q:=fun B s st=>by
 dsimp only [arm_exec_If];refine .standAt ((h B s st).n.bindS fun B1 s1 x a σ1 l₁ st1 r1 h=>?_);cases r1
 cases x with
 | true=>exact h B1 s1 st1
 | false=>exact h B1 s1 st1
theorem iq {x:Str} {p pos} {e:Expr} {Q:F->aX->am->Prop} (h:E3 G A env e ρ σ fun v σ1=>WB G A env x v ρ σ1 (Q .next)) (hs:autoParam (swapsWith e (some (.Name x p)) pos.line env=pure false) TaR):yU G A env (.Assign [.Name x p] e pos) ρ σ Q:=fun B s st=>by
 rw [exec_Assign_Name env x p e pos hs];refine .standAt ((h B s st).bindS fun B1 s1 y v σ1 l₁ st1 r1 h=> .standAt ?_);exact (Wp.bind (R:=qP (α:=Unit)) (Q:=fun _=>Q .next) (wpAny_bindName (h B1 s1 y st1 r1)) fun B2 s2 _ _ ρ2 σ2 l₂ st2 _ q=> .pure st2 .next q).n
abbrev E0 (G:aK) (A:Around) (f:V) (vs:List V) (kv:List (Str×V)) (σ:am) (Q:V->am->Prop):Prop:=
 ∀ L B ρ s fv xs kx,St G L B ρ σ s->VR B f fv->VRs B vs xs->oF B kv kx->cI G A L VR ρ (call fv xs kx) Q B s
abbrev te (G:aK) (A:Around) (f:V) (vs:List V) (kv:List (Str×V)) (σ:am) (Q:V->am->Prop):Prop:=
 ∀ L B ρ s fv xs kx,St G L B ρ σ s->VR B f fv->VRs B vs xs->oF B kv kx->dw (model G.prog G.w) A (.call fv ⟨xs,kx⟩) (mh G L ρ Q B) s
theorem te.wc {f:V} {vs kv} {Q:V->am->Prop} (h:te G A f vs kv σ Q):E0 G A f vs kv σ Q:=fun L B ρ s fv xs kx st r1 r2 r3=>
 oo (m6 (h L B ρ s fv xs kx st r1 r2 r3) fun _ s2 z=>by cases z with | mk val v B2 σ2 e l₂ st2 r₂ q=>subst e;exact ⟨B2,v,σ2,l₂,st2,r₂,q⟩)
theorem i0 {prog:Program} {w:World} {R:Result->Shared->Prop} {a:Addr} {args:Args} {o:Obj} {fd:FuncData} {body:List Stmt} (hroom:A.depth<recursionLimit) (ho:s.heap.get? a=some o)
  (hd:o.data = .func fd) (hco:fd.scope.isCoroutine=false) (hgen:fd.scope.isGenerator=false) (hbody:fd.body = .stmts body) (hcd:s.heap.CodeRec fd.code fd.qualname)
  (h:eD (model prog w) A.in1 (bindArgs fd args) (fun binds s1=>eD (model prog w) A.in1 (newFunctionEnv fd.scope fd.globals fd.closure binds (fd.qualname ++ ".<locals>.") (some a) fd.code none fd.builtins)
    (fun env s2=>s2.heap.NoLimit/\dw (model prog w) A (.func body env) R s2) (fun e s'=>R (.error e) s') s1) (fun e s'=>R (.error e) s') s):dw (model prog w) A (.call (.ref a) args) R s:=by
 intros A s prog w R a args o fd body
 intro hroom ho hd hco hgen hbody hcd h;refine cG rfl ?_;show eD _ A.in1 (callAny (.ref a) args) _ _ s;dsimp only [callAny];refine bn (wpAny_load ho ?_);ac_rfl;obtain ⟨c,oc,vs,tq,hz0⟩:=hcd;right;rw [hd];dsimp only [callFunction];rw [hco,hgen,hbody,hz0.1];rw [hz0.1] at h;refine bn (m:=field (.ref c) 1) (wpAny_field hz0.2.1 hz0.2.2.1 hz0.2.2.2 (bn (wpAny_pure ?_)));refine bY (cB h (fun binds s1 h1=>bY (cB h1 (fun env s2 h2=>?_) fun _ _ h'=>h')) fun _ _ h'=>h');exact bn (wpAny_enterFrame h2.1 hroom (bH (And.intro rfl h2.2)))
theorem m4 {prog:Program} {w:World} {R:Result->Shared->Prop} {body:List Stmt} (h:eD (model prog w) (A.deeper env) (execs body env) (fun f s'=>R (.ok (.ret (match f with | .ret v=>v | _=> .none))) s') (fun _ _=>False) s):dw (model prog w) A (.func body env) R s:=by
 refine cG rfl ?_
 show eD _ (A.deeper env) (do point;match <- (execs body env).onRaise (leaving env) with | .ret v=>ret v | _=>ret .none) _ _ s
 refine bn (wpAny_point (bY (eR (cB h (fun f s' h'=>?_) fun _ _ h'=>h'.elim))))
 cases f <;> exact bH h'
theorem yx {f:Addr} {fd:FuncData} {body:List Stmt} {vs:List V} {kv:List (Str×V)} {Q:V->am->Prop} {bv:List (Str×V)} (D:u1 G f fd body vs kv bv σ) (hroom:A.depth<recursionLimit)
  (h:∀ L,σ L=none->cM L fd.scope.names fd.closure σ fun cells σ1=>
   iM G A.in1 (aR fd f L cells) bv (fun _=>none) σ1 fun ρ2 σ2=>jU G (A.deeper (aR fd f L cells)) (aR fd f L cells) body ρ2 σ2 fun fl _ σ'=>Q (jF fl) σ'):te G A (.ref f) vs kv σ Q:=fun L B ρ s fv xs kx st r1 r2 r3=>by
 obtain rfl:=r1.refE
 cases D with | mk hf hbody hb hco hgen=>
 cases hf L B ρ s st with | intro o z=>
 cases hb B s xs kx st.K r2 r3 with | intro bx w=>
 exact i0 hroom z.1 z.2.1 hco hgen hbody z.2.2 (gI (w.1 _ _ _ _ (cB (gI (qN st w.2 (h _ (st.fresh (I4 _))) (Q:=fun env s2=>s2.heap.NoLimit/\dw (model G.prog G.w) A (.func body env) (mh G L ρ Q B) s2) fun oL cells B3 ρ3 σ3 s3 hq hoL l3 st3 h3=>
  ⟨st3.lim,m4 ((h3 B3 s3 st3).to fun B4 s4 fl fl' ρ4 σ4 l4 st4 r4 q=>yz st hq hoL (l3.trans l4) st4 r4 q)⟩)) (fun _ _ q=>q) fun _ _ e=>False.elim e)))
end
open PySem PySem.W PyProof.Rows PySem.Calls PyProof PySem.SeqAt Builtin.Getset_descriptor
section
variable {prog:Program} {w:World} {A:Around} {E:Value->Shared->Prop} {s:Shared} {R:Result->Shared->Prop} {α:Type}
theorem gF {id:String} {args:Args} {b:Builtin} (hf:iC (.builtin id args)=false) (hb:entryFor table id=some b)
  (h:eD (model prog w) (A.under (.builtin id args)) (b args)
   (fun fin s'=>match fin with | .done f=>R (.ok f) s' | .again c'=>c'.quiet=true/\dw (model prog w) A c' R s') (fun e s'=>R (.error e) s') s):
  dw (model prog w) A (.builtin id args) R s:=by
 refine cG hf ?_
 show eD _ _ (match entryFor table id with | some b=>b args | none=>unsupported ((withoutEnding? id "#data").getD id)) _ _ s
 rw [hb];exact h
theorem jL {id:String} {args:Args} {b:Builtin} (hf:iC (.builtin id args)=false) (hq:plainId id=true) (hb:entryFor table id=some b)
  (h:wpAny (model prog w) A.in1 (checkBuiltinCall id args) (fun _ s1=>eD (model prog w) A.in1 (b args)
   (fun fin s'=>match fin with | .done f=>R (.ok f) s' | .again c'=>c'.quiet=true/\dw (model prog w) A c' R s') (fun e s'=>R (.error e) s') s1)
   (fun e s'=>R (.error e) s') s):dw (model prog w) A (.call (.builtin id) args) R s:=by
 refine cG rfl ?_
 show eD _ A.in1 (do checkBuiltinCall id args;again (.builtin id args)) _ _ s
 refine bn (wpAny_mono h (fun _ s1 h1=>bH (And.intro (plainId_quiet hq args) (gF hf hb ?_))) fun _ _ h'=>h');rw [Around.under_plainId hq args];exact h1
theorem gG {id:String} {args:Args} (h:id≠ "lifetime.gc.finalise"):iC (.builtin id args)=false:=by
 unfold iC
 split
 ·rename_i e; (injection e with zz;subst zz);exact absurd rfl h
 ·rfl
variable {K:Frag} {x C:Addr} {ox:Obj} {od:Option Obj} {name:Str} {expr:Bool} {Q:Value->Shared->Prop}
theorem pH {g a:Value} (X:K.In s.heap) (I:InstAt s.heap x ox C od) (hga:findIn K (.ref C) "__getattribute__" = some (some (.builtin "object.__getattribute__")))
  (hf:findObj K C od name=some (.bind g a)) (hk:findIn K (.ref C) "__getattr__" = some none)
  (h:eD (model prog w) A.in1 (call g [a, .ref x, .ref C]) (fun v s'=>eD (model prog w) A (handedOut v) Q E s') (fun _ _=>False) { s with toks:=s.toks+1 }):
  eD (model prog w) A (getAttr (.ref x) name expr) Q E s:=by
 ac_rfl;obtain ⟨hh,gg,d,t,os⟩:=s;right;have L0:=I.type (M:=model prog w);have L1:=looks_findIn (M:=model prog w) X hga;have L2:=looks_find (M:=model prog w) X I hf;have L3:=looks_findIn (M:=model prog w) X hk;refine bn (wpAny_mkText (jf (bn (L0.at (bn (L1.at ?_))))));show eD _ _ (getAttrEveryday _ _ _) _ _ _;refine bY (eR (km (gF (gG (by decide)) F.plainObj_entry_getattr_hooked ?_)));refine bn (wpAny_pure (bn (L0.at (bn (L2.at (bn (L3.at ?_)))))));show eD _ _ (holding [a] (call g [a, .ref x, .ref C])>>=ret) _ _ _;exact bY (jf (cB h (fun v s' z=>bH z) fun _ _ z=>z.elim))
theorem eX:entryFor table "function.__dict__" = some Builtin.«function.__dict__»:=entryFor_of_tree (⋯)
abbrev eB (o:Obj):Obj:=if o.slots.isEmpty then { o with slots:= #[none] } else o
variable {p d:Addr} {n:Str} {tn:Tok} {z tp:Value}
theorem BU {β:Type} {st:List (Code×Pos)} (hst:∀ y∈st,iC y.1=false) {f:Code×Pos->Option β} (hf:∀ c q,iC c=false->f (c,q)=none):st.findSome? f=none:=by
 rw [List.findSome?_eq_none_iff];exact fun y m=>hf y.1 y.2 (hst y m)
theorem Dw (X:K.In s.heap) (I:InstAt s.heap x (instObj C d) C od) (hp:recIn K p "getset_descriptor" = some [.str n tn, .ref C, .builtin "function.__dict__",z]) (hm:mroIn K C (.ref C)=some true)
  (hsm:mroIn K C (.type "staticmethod")=some false) (hcm:mroIn K C (.type "classmethod")=some false) (hdct:(clsIn K C).any (·.hasDict)=true) (hct:nsIn K cStatics "_thread.count" = some none) {o:Obj} (hod:s.heap.get? d=some o)
  (h:R (.ok (.ret (.ref d))) { s with heap:=s.heap.update d eB }):dw (model prog w) A (.call (.builtin "getset_descriptor.__get__") ⟨[.ref p, .ref x,tp],[]⟩) R s:=by
 revert prog w A s R K x C od p d n tn z tp o
 injections prog w A s R K x C
 injections od p d n
 injections tn z
 injections tp
 intro X I hp hm hsm hcm hdct hct
 injections o
 intro hod h;ac_rfl;obtain ⟨pd,sl,ho⟩:=rec_of X hp;obtain ⟨hh,g,dr,t,os⟩:=s;right;have L0:=I.type (M:=model prog w);have L1:=looks_mroIn (M:=model prog w) X hm;have hx:=I.at_;dsimp only at ho hx L0 L1;have f0:=looks_field (M:=model prog w) ho 0 (v:= .str n tn) rfl;have f1:=looks_field (M:=model prog w) ho 1 (v:= .ref C) rfl;have f2:=looks_field (M:=model prog w) ho 2 (v:= .builtin "function.__dict__") rfl;refine jL (gG (by decide)) KF.slot_gs.plain KF.entry_gs (KF.slot_gs.check _ _ _ _ _ _ _ _ ⟨_,ho,rfl⟩ (KF.args_gs _ _ _) (gI ?_));unfold Builtin.«getset_descriptor.__get__» descrGet;dsimp only [dga_obj];exists (wpAny_pure ?_)
 repeat lk
 refine ⟨Code.quiet_builtin _ nofun,gF (gG (by decide)) eX ?_⟩;have L2:=looks_mroIn (M:=model prog w) X hsm;have L3:=looks_mroIn (M:=model prog w) X hcm;refine bn ?_
 repeat lk
 show eD _ _ (instanceDictHandedOut x>>=fun r=>ret (match r with | some d=> .ref d | none=> .none)) _ _ _
 refine bY ?_;refine bn ?_;ac_rfl;obtain ⟨cd,hc,hd'⟩:=any_some hdct;right;have L4:=looks_clsIn (M:=model prog w) X hc
 repeat lk
 rw [hd'];refine wpAny_pure (bn (wpAny_loadPart hx ?_));show eD _ _ (_>>=_) _ _ _;refine bY ?_
 k_delta "dictMadeRealInsideACollection"
 refine bn (wpAny_load hod ?_);refine Aw (fun _=>bH ?_) (fun _=>?_)
 ·exact bn (wpAny_update hod (bH (bH h)))
 ·refine bY (v9 fun st hst=>?_)
  rw [BU hst (fun c q hc=>by
   dsimp only
   split
   ·injection hc
   ·rfl)]
  refine bn ((looks_nsIn X hct).here (bH ?_));exact bn (wpAny_update hod (bH (bH h)))
end
section
variable {prog:Program} {w:World} {A:Around} {E:Value->Shared->Prop} {s:Shared} {R:Result->Shared->Prop} {env:Env}
theorem uh {c:Code} {Q:Flow->Shared->Prop} (hc:dw (model prog w) A c (fun r s'=>match r with | .ok f=>Q f s' | .error _=>False) s):eD (model prog w) A (runOwn c env) Q E s:=by
 refine eR (Ax (m6 hc fun r s' h=>?_))
 cases r with
 | ok f=>exact h
 | error e=>exact h.elim
theorem rJ {stmts:List Stmt} (h:eD (model prog w) A (execs stmts env) (fun f s'=>R (.ok f) s') jH s):dw (model prog w) A (.block stmts env) R s:=by
 refine cG rfl ?_
 show eD _ _ (do return Fin.done (<- (execs stmts env).onRaise (fun x=>do noteFrame x env;theTreesLotGoes x))) _ _ s
 exact bY (eR (cB h (fun f s' h'=>bH h') fun _ _ h'=>h'.elim))
theorem mZ {target it body orelse} (I:Nat->Shared->Prop)
  (turn:∀ n s,I n s->pk (model prog w) A target it (fun r s1=>match r with
   | none=>eD (model prog w) A (execs orelse env) (fun f s3=>R (.ok f) s3) jH s1
   | some v=>wpAny (model prog w) A (assign target env v) (fun _ s2=>eD (model prog w) A (execs body env) (fun f s3=>match f with
     | .next | .cont=>∃ m,m<n/\I m s3
     | .brk=>R (.ok .next) s3
     | .ret v=>R (.ok (.ret v)) s3) jH s2) jH s1) s)
  (n:Nat) (h:I n s):dw (model prog w) A (.forLoop target it body orelse env) R s:=by
 induction n using Nat.strongRecOn generalizing s with
 | ind n ih=>
 refine cG rfl ?_
 show eD _ _ ((forTurn target it body orelse env).onRaise (fun x=>do noteFrame x env;theTreesLotGoes x)) _ _ s
 refine eR ?_;dsimp only [forTurn];refine bn (wpAny_standAt (bn (wpAny_onRaise (wpAny_mono (turn n s h) (fun r s1 h1=>?_) fun _ _ h'=>h'.elim))))
 cases r with
 | none=>exact bH ⟨rfl,rJ h1⟩
 | some v=>
  refine bn (wpAny_mono h1 (fun _ s2 h2=>?_) fun _ _ h'=>h'.elim);refine bn (wpAny_mono h2 (fun _ s3 h3=>?_) fun _ _ h'=>h'.elim);refine bY (cB h3 (fun f s4 h4=>?_) fun _ _ h'=>h'.elim)
  cases f with
  | next=>exact bH ⟨rfl,(by obtain ⟨m,hm,hI⟩:=h4;exact ih m hm hI)⟩
  | cont=>exact bH ⟨rfl,(by obtain ⟨m,hm,hI⟩:=h4;exact ih m hm hI)⟩
  | brk=>exact bH h4
  | ret v=>exact bH h4
end
section
variable {G:aK} {A:Around} {env:Env} {ρ:aX} {σ:am} {L:Addr} {B:PB} {s:Shared}
abbrev ur (G:aK) (A:Around) (env:Env) (C:am->Prop) (tgt:Expr) (body orelse:List Stmt) (Q:F->aX->am->Prop):List V->aX->am->Prop
 | [],ρ,σ=>jU G A env orelse ρ σ Q
 | x::xs,ρ,σ=>lV G A env tgt x ρ σ fun ρ₁ σ₁=>jU G A env body ρ₁ σ₁ (Lp (fun ρ₂ σ₂=>C σ₂/\ur G A env C tgt body orelse Q xs ρ₂ σ₂) Q)
theorem zv {tgt iter:Expr} {body orelse:List Stmt} {pos} {Q:F->aX->am->Prop} (h:WE G A env iter ρ σ fun v σ1=>WI G A env.locals tgt v ρ σ1 fun σ2 C xs=>ur G A env C tgt body orelse Q xs ρ σ2)
  (hs:∀ x,foldedSetIterable iter env x=pure x:=by intro _;rfl):yU G A env (.For tgt iter body orelse pos) ρ σ Q:=fun B s st=>by
 revert G A env ρ σ tgt iter body orelse pos Q B s
 injections G A env ρ σ tgt iter body
 injections orelse pos
 injections Q
 intro h hs
 injections B s
 intro st;dsimp only [exec_For];refine .standAt ((h B s st).n.bindS fun B1 s1 x v σ1 l₁ st1 r1 h=>?_);rw [hs];refine bn (wpAny_pure (oY.standAt (bn (wpAny_holding (wpAny_mono (h B1 s1 x st1 r1) (fun _ s2 z=>?_) fun _ _ x=>False.elim x)))))
 cases z with | mk it os C xs B2 σ2 e l₂ st2 hF hC hS _ h=>
 subst e;refine uh (mZ (wz G A env C tgt it B1 (ur G A env C tgt body orelse Q)) (fun n s z=>?_) xs.length ⟨B2,_,σ2,xs,os,l₂,st2,hF,hC,hS,rfl,h⟩)
 cases z with | mk B' ρ σ xs os l st hF hC hS e h=>
 subst e
 cases xs with
 | nil=>exact hS _ _ _ _ _ _ st hF hC fun s' st'=>(h B' s' st').to fun B3 s3 f f' ρ3 σ3 l3 st3 r3 h=>⟨B3,f',ρ3,σ3,l.trans l3,st3,r3,h⟩
 | cons x xs=>
  refine hS _ _ _ _ _ _ st hF hC fun B1 s1 val os1 l₁ st1 hF1 r1 hS1=>?_
  cases st1.loan hF1 with | mk Bf lf stf back=>
  refine (h Bf s1 val stf (r1.mono lf)).to fun B2 s2 _ _ ρ2 σ2 l₂ st2 _ h=>(h B2 s2 st2).to fun B3 s3 f f' ρ3 σ3 l3 st3 r3 h=>?_;have lB:=(l.trans l₁).trans (lf.trans (l₂.trans l3))
  cases r3 with
  | next=>cases back (l₂.trans l3) st3 with | mk Bt lt _ _ stt hFt=>exact ⟨xs.length,Nat.lt_succ_self _,Bt,ρ3,σ3,xs,os1,(l.trans l₁).trans lt,stt,hFt,h.1,hS1,rfl,h.2⟩
  | cont=>cases back (l₂.trans l3) st3 with | mk Bt lt _ _ stt hFt=>exact ⟨xs.length,Nat.lt_succ_self _,Bt,ρ3,σ3,xs,os1,(l.trans l₁).trans lt,stt,hFt,h.1,hS1,rfl,h.2⟩
  | brk=>exact ⟨B3, .next,ρ3,σ3,lB,st3, .next,h⟩
  | ret r=>exact ⟨B3, .ret _,ρ3,σ3,lB,st3, .ret r,h⟩
theorem tz {body orelse:List Stmt} {h0:ExceptHandler} {hs:List ExceptHandler} {pos} {Q:F->aX->am->Prop} (h:WL G A env body ρ σ (Nx (fun ρ' σ'=>WL G A env orelse ρ' σ' Q) Q)):
  WS G A env (.Try body (h0::hs) orelse [] pos) ρ σ Q:=fun B s st=>
 wpAny_Try_except (wpAny_mono (h B s st) (fun f s1 z=>by
  cases z with | mk B1 f' ρ1 σ1 l₁ st1 r1 h=>
  cases r1 with
  | next=>exact (h B1 s1 st1).le l₁
  | brk=>exact ⟨B1, .brk,ρ1,σ1,l₁,st1, .brk,h⟩
  | cont=>exact ⟨B1, .cont,ρ1,σ1,l₁,st1, .cont,h⟩
  | ret r=>exact ⟨B1, .ret _,ρ1,σ1,l₁,st1, .ret r,h⟩) fun _ _ e=>False.elim e)
theorem zw {body orelse:List Stmt} {h0:ExceptHandler} {hs:List ExceptHandler} {pos} {Q:F->aX->am->Prop} (h:jU G A env body ρ σ (Nx (fun ρ' σ'=>jU G A env orelse ρ' σ' Q) Q)):
  yU G A env (.Try body (h0::hs) orelse [] pos) ρ σ Q:=fun B s st=>by
 revert G A env ρ σ body orelse h0 hs pos Q B s
 injections G A env ρ σ body orelse h0
 injections hs pos
 injections Q
 intro h
 injections B s
 intro st;dsimp only [arm_exec_Try];refine .standAt ?_;unfold tryStmt;dsimp only [List.isEmpty_nil,if_true,List.isEmpty_cons,Bool.false_and,Bool.false_eq_true,if_false];refine bY (sX (cB (h B s st) (fun f s1 z=>?_) fun _ _ e=>False.elim e))
 cases z with | mk B1 f' ρ1 σ1 l₁ st1 r1 h=>
 cases r1 with
 | next=>exact (h B1 s1 st1).le l₁
 | brk=>exact bH ⟨B1, .brk,ρ1,σ1,l₁,st1, .brk,h⟩
 | cont=>exact bH ⟨B1, .cont,ρ1,σ1,l₁,st1, .cont,h⟩
 | ret r=>exact bH ⟨B1, .ret _,ρ1,σ1,l₁,st1, .ret r,h⟩
end
open PySem PySem.W PyProof.Rows PySem.Calls PyProof PySem.SeqAt Builtin.Getset_descriptor
section
variable {G:aK} {A:Around} {env:Env} {ρ:aX} {σ:am} {L:Addr} {B:PB} {s:Shared}
theorem cI.operate {β:Type} {R:PB->β->Value->Prop} {Q:β->am->Prop} {t:Sem Value} {vs:List Value} (h:cI G A L R ρ t Q B s):cI G A L R ρ (PySem.operate vs t) Q B s:=
 fun Γ p hΓ hn=>by rw [Sem.wp_operate];exact h Γ p hΓ hn
theorem cI.keep {α β:Type} {R:PB->β->α->Prop} {Q:β->am->Prop} {t:Sem α} {vs:List Value} (h:cI G A L R ρ t Q B s):cI G A L R ρ (t.keep vs) Q B s:=
 fun Γ p hΓ hn=>by rw [Sem.wp_keep];exact h Γ p hΓ hn
theorem cI.back {α β:Type} {R:PB->β->α->Prop} {Q:β->am->Prop} {t:Sem α} (h:cq G A L R ρ t Q B s):cI G A L R ρ t Q B s:=gI h
abbrev Dg (G:aK) (A:Around) (env:Env) (f:V) (first:List V) (es:List Expr) (kws:List Keyword) (ρ:aX) (σ:am) (Q:V->am->Prop):Prop:=
 ∀ B s fv xs pos,St G env.locals B ρ σ s->VR B f fv->VRs B first xs->cI G A env.locals VR ρ (callWith pos fv xs (backTo pos (starEach es env)) (backToKw pos (keywordEach kws env))) Q B s
theorem zk {f:V} {first:List V} {es:List Expr} {kws:List Keyword} {Q:V->am->Prop}
  (h:p7 G A env es ρ σ fun vs σ1=>Dh G A env kws ρ σ1 fun kv σ2=>ba G A f σ2/\E0 G A f (first++vs) ((kws.filterMap (·.arg)).zip kv) σ2 Q)
  (hp:autoParam (mC env es) TaR) (hk:autoParam (kws.all (·.arg.isSome)=true) TaR):Dg G A env f first es kws ρ σ Q:=fun B s fv fs pos st r rf=>by
 refine cI.bind (cI.holding (A5 (pos:=pos) (Q:=fun vs kv σ2=>ba G A f σ2/\E0 G A f (first++vs) kv σ2 Q) hp hk h st).n) fun B1 s1 a y σ1 l₁ st1 ra h=> .standAt ?_;have call:=h.2 _ _ _ _ _ _ _ st1 (r.mono l₁) ((rf.mono l₁).append ra.1) ra.2
 have tail:∀ {t:Sem Value},cI G A env.locals VR ρ t Q B1 s1->cI G A env.locals VR ρ (t>>=fun r=>holding [r] point>>=fun _=>pure r) Q B1 s1:=
  fun ht=>ht.bind fun B2 s2 x v σ2 l₂ st2 r2 q=> .back (wpAny_bind (wpAny_holding (wpAny_point (cq.pure st2 r2 q))))
 have tk:∀ m:Value,_:=fun m=>tail (t:=callMarked m fv (fs++a.pos) a.kw) (by unfold callMarked;exact call.keep);have to:∀ vs:List Value,_:=fun vs=>tail (cI.operate (vs:=vs) call);have tc:=tail call
 cases h.1 _ _ _ _ _ st1 (r.mono l₁) with | intro k hkeep=>
 refine bn (hkeep _ ?_);clear hkeep h;dsimp only;generalize ((backTo pos (starEach es env)).any (·.1) || (backToKw pos (keywordEach kws env)).any (·.1.isNone))=hs
 cases k <;> cases hs <;> (try dsimp only) <;> first
  | exact tc
  | exact tk _
  | exact to _
  | (split <;> first | exact tc | exact tk _)
theorem lX {o:Expr} {name:Str} {apos pos:Pos} {es:List Expr} {kws:List Keyword} {Q:V->am->Prop} (h:WE G A env o ρ σ fun ov σ1=>WM G A env.locals ov name ρ σ1 fun f first σ2=>Dg G A env f first es kws ρ σ2 Q)
  (hbase:autoParam (attributeBase o name env (eval o env)=eval o env) TaR) (hform:autoParam (methodCallForm (es.length+kws.length) (backTo pos (starEach es env)) (backToKw pos (keywordEach kws env))=true) TaR)
  (hline:autoParam ((apos.endLine==pos.line)=true) TaR):E3 G A env (.Call (.Attribute o name apos) es kws pos) ρ σ Q:=fun B s st=>by
 rw [arm_eval_Call,hbase];refine (h B s st).n.bind fun B1 s1 x v σ1 l₁ st1 r1 h=>?_;refine .standAt ?_;unfold methodCall calleeOf methodCallPos;rw [if_pos hform,if_pos (by rw [hform,hline];rfl)];refine (cq.holding (h B1 s1 x _ st1 r1)).n.bind fun B2 s2 y w σ2 l₂ st2 r2 h=>?_;exact bn (wpAny_pure (h B2 s2 _ _ pos st2 r2.1 r2.2))
abbrev wQ (G:aK) (A:Around) (L:Addr) (o:V) (name:Str) (ρ:aX) (σ:am) (Q:V->am->Prop):Prop:=
 ∀ B s ov expr,St G L B ρ σ s->VR B o ov->cI G A L VR ρ (getAttr ov name expr) Q B s
theorem fG {x:Str} {p pos:Pos} {attr:Str} {Q:V->am->Prop} (h:WE G A env (.Name x p) ρ σ fun o σ1=>wQ G A env.locals o attr ρ σ1 Q):E3 G A env (.Attribute (.Name x p) attr pos) ρ σ Q:=fun B s st=>by
 dsimp only [arm_eval_Attribute]
 exact cI.bind (t:=attributeBase (.Name x p) attr env (eval (.Name x p) env)) (h B s st).n fun B1 s1 y v σ1 l₁ st1 r1 h=>
  .standAt ((cI.holding (h B1 s1 y true st1 r1)).bind fun B2 s2 z w σ2 l₂ st2 r2 h=> .back (wpAny_bind (wpAny_pure (cq.pure st2 r2 h))))
theorem rj {x C d f p:Addr} {m n b ob} {name:Str} {Q:V->am->Prop} (hx:σ x=some (.inst C d)) (hd:σ d=some (.ns m n b ob)) (hv:m name=none)
  (hga:findIn G.K (.ref C) "__getattribute__" = some (some (.builtin "object.__getattribute__"))) (hk:findIn G.K (.ref C) "__getattr__" = some none) (ho:findObj G.K C (some (probe name none)) name=some (.bind (.ref f) (.ref p)))
  (h:E0 G A.in1 (.ref f) [.ref p, .ref x, .ref C] [] σ fun v σ'=>Q v σ'/\∀ B val,VR B v val->handedIn val=true):wQ G A L (.ref x) name ρ σ Q:=fun B s ov expr st r=>by
 obtain rfl:=r.refE
 cases st.inst hx hd with | mk od I hod _=>
 exact pH st.K I hga ((fH (cY hod hv)).trans ho) hk ((h L B ρ _ _ _ _ (st.toks (s.toks+1)) (.ref f) (.cons (.ref p) (.cons (.ref x) (.cons (.ref C) .nil))) .nil).to fun B' s' val v σ' l st' r' q=>by
  rw [handedOut_of (q.2 _ _ r')]
  exact bH ⟨B',v,σ',l,st',r',q.1⟩)
theorem nG {m:Str->Option V} {n:Nat} {b:Bool} {ob o:Obj} (h:CF G B m n b ob o):CF G B m n true (eB o) (eB o)/\(eB o).isFreed=false:=by
 cases h with | mk _ es ep m' hz hx hd hk hf hr=>
 obtain ⟨c,d,dt,sl⟩:=o;obtain rfl:=(hd:dt=_)
 have e:eB ⟨c,d, .dict es ep,sl⟩=⟨c,d, .dict es ep, #[none]⟩:=by
  cases b with
  | false=>obtain rfl:=(hx.2.2:sl=_);rfl
  | true=>obtain rfl:=(hx.2.2:sl=_);rfl
 rw [e];exact ⟨⟨rfl,es,ep,m',hz,⟨hx.1,hx.2.1,rfl⟩,rfl,hk,hf,hr⟩,rfl⟩
theorem ti {x C d p:Addr} {m n b ob} {nm:Str} {tn:Tok} {z:Value} {Q:V->am->Prop} (hx:σ x=some (.inst C d)) (hd:σ d=some (.ns m n b ob)) (hv:m "__dict__" = none)
  (h:∀ ob',Q (.ref d) (σ.set d (.ns m n true ob')))
  (hga:findIn G.K (.ref C) "__getattribute__" = some (some (.builtin "object.__getattribute__"))) (hk:findIn G.K (.ref C) "__getattr__" = some none) (ho:findObj G.K C (some (probe "__dict__" none)) "__dict__" = some (.bind (.builtin "getset_descriptor.__get__") (.ref p)))
  (hp:recIn G.K p "getset_descriptor" = some [.str nm tn, .ref C, .builtin "function.__dict__",z]) (hm:mroIn G.K C (.ref C)=some true)
  (hsm:mroIn G.K C (.type "staticmethod")=some false) (hcm:mroIn G.K C (.type "classmethod")=some false) (hdct:(clsIn G.K C).any (·.hasDict)=true) (hct:nsIn G.K cStatics "_thread.count" = some none):wQ G A L (.ref x) "__dict__" ρ σ Q:=fun B s ov expr st r=>by
 obtain rfl:=r.refE
 cases st.inst hx hd with | mk od I hod D=>
 have v:=nG hod;have D':=Jc (h:=s.heap) eB D v.2
 exact pH st.K I hga ((fH (cY hod hv)).trans ho) hk (oo (Dw (s:={ s with toks:=s.toks+1 }) st.K I hp hm hsm hcm hdct hct D (by
  show eD _ _ (handedOut (.ref d)) _ _ _;rw [handedOut_of rfl]
  exact bH ⟨B, .ref d,_, .refl B,st.upd (x':= .ns m n true _) hd rfl rfl (Heap.SameBut.update ..) D' v.1 (s.toks+1), .ref d,h _⟩)))
end
open PySem PySem.W PyProof.Rows PySem.Calls PyProof PySem.SeqAt Builtin.Getset_descriptor
section
variable {prog:Program} {w:World} {A:Around} {E:Value->Shared->Prop} {s:Shared} {R:Result->Shared->Prop} {K:Frag} {x C:Addr} {od:Option Obj} {p d:Addr} {n:Str} {tn:Tok} {z tp:Value}
theorem wpAny_ite {α:Type} {M:Model} {c:Prop} [Decidable c] {a b:Sem α} {Q:α->Shared->Prop} (h1:c->wpAny M A a Q E s) (h2:¬ c->wpAny M A b Q E s):wpAny M A (if c then a else b) Q E s:=by
 by_cases h:c
 ·rw [if_pos h];exact h1 h
 ·rw [if_neg h];exact h2 h
theorem FG (X:K.In s.heap) (I:InstAt s.heap x (instObj C d) C od) (hp:recIn K p "getset_descriptor" = some [.str n tn, .ref C, .builtin "function.__dict__",z]) (hm:mroIn K C (.ref C)=some true)
  (hsm:mroIn K C (.type "staticmethod")=some false) (hcm:mroIn K C (.type "classmethod")=some false) (hdct:(clsIn K C).any (·.hasDict)=true) {o:Obj} (hod:s.heap.get? d=some o) (hsl:o.slots.isEmpty=false)
  (h:R (.ok (.ret (.ref d))) { s with heap:=s.heap.update d eB }):codeAny (model prog w) A (.call (.builtin "getset_descriptor.__get__") ⟨[.ref p, .ref x,tp],[]⟩) R s:=by
 revert prog w A s R K x C od p d n tn z tp o
 injections prog w A s R K x C
 injections od p d n
 injections tn z
 injections tp
 intro X I hp hm hsm hcm hdct
 injections o
 intro hod hsl h;ac_rfl;obtain ⟨pd,sl,ho⟩:=rec_of X hp;obtain ⟨hh,g,dr,t,os⟩:=s;right;have L0:=I.type (M:=model prog w);have L1:=looks_mroIn (M:=model prog w) X hm;have hx:=I.at_;dsimp only at ho hx L0 L1;have f0:=looks_field (M:=model prog w) ho 0 (v:= .str n tn) rfl;have f1:=looks_field (M:=model prog w) ho 1 (v:= .ref C) rfl;have f2:=looks_field (M:=model prog w) ho 2 (v:= .builtin "function.__dict__") rfl;refine codeAny_call_builtin KF.slot_gs.plain KF.entry_gs (KF.slot_gs.check _ _ _ _ _ _ _ _ ⟨_,ho,rfl⟩ (KF.args_gs _ _ _) ?_);unfold Builtin.«getset_descriptor.__get__» descrGet;dsimp only [dga_obj];exists (wpAny_pure ?_)
 repeat lk
 refine ⟨Code.quiet_builtin _ nofun,codeAny_builtin eX ?_⟩;have L2:=looks_mroIn (M:=model prog w) X hsm;have L3:=looks_mroIn (M:=model prog w) X hcm;ac_rfl;obtain ⟨cd,hz2⟩:=any_some hdct;right;have L4:=looks_clsIn (M:=model prog w) X hz2.1
 repeat lk
 rw [hz2.2]
 repeat lk
 refine wpAny_ite (fun _=>wpAny_pure (wpAny_bind (wpAny_update hod (wpAny_pure (wpAny_pure h))))) fun q=>absurd (by rw [hsl];rfl) q
end
section
variable {G:aK} {A:Around} {env:Env} {ρ:aX} {σ:am} {L d:Addr} {B:PB} {s:Shared} {m:Str->Option V} {n:Nat} {b:Bool} {ob:Obj} {k:Str}
theorem fu (k:Str) (t:Tok):(strKind G.prog G.w).is k (.str k t)=true:=(strKind_is G.prog G.w k t).trans (by simp)
theorem BV (h:σ d=some (.ns m n b ob)):∀ B ρ s,St G L B ρ σ s->∃ o,s.heap.get? d=some o/\o.cls = .type "dict" /\o.dict=none:=fun B ρ s st=>by
 cases st.own _ _ h with | mk o ho v _=>cases v with | mk _ es ep m' a ex=>exact ⟨o,ho,ex.1,ex.2.1⟩
theorem ut {Q:V->List V->am->Prop} (hl:σ d=some (.ns m n b ob)) (h:Q (.bi "dict.get") [.ref d] σ):WM G A L (.ref d) "get" ρ σ Q:=iT (BV hl) F.plainAttrs_dict F.slot_dict_get F.type_dict_get h
theorem uq {w:V} {Q:V->am->Prop} (h:σ d=some (.ns m n b ob)) (q:Q ((m k).getD w) σ):WC G A (.bi "dict.get") [.ref d, .str k,w] [] σ Q:=by
 intros G A σ d m n b ob k w Q
 intro h q
 injections L B ρ s
 intro fv ys kx st rf r rk;obtain ⟨x,y,z,rfl,r1,r2,r3⟩:=r.three;obtain rfl:=r1.refE;obtain ⟨t,rfl⟩:=r2.strE;obtain rfl:=rf.biE;obtain rfl:=rk.nilE
 cases st.own _ _ h with | mk o ho v _=>cases v with | mk _ es ep m' sz ex hd ks hf hr=>
 refine call_meetsIn (S:=fun _ R s1=>s=s1/\R (.ok (.ret ((m' k).getD z))) { s with toks:=s.toks+1 }) F.slot_dict_get ⟨o,ho,ex.1⟩ F.entry_dict_get (F.args_dict_get_3 _ _ _) (.of_wp fun A R s' hs=>?_) ⟨rfl,B,_,σ, .refl B,st.toks _,(hr k).getD r3,q⟩;obtain ⟨rfl,h'⟩:=hs
 have key:wpAny (model G.prog G.w) A.in1 (dictGet d (.str k t)) (fun r s'=>r=m' k/\s'={ s with toks:=s.toks+1 }) jH s:=by
  refine wpAny_holding (wpAny_bind ((strKind G.prog G.w).pyHash (fu k t) (wpAny_bind (wpAny_dictFind_of (s:={ s with toks:=s.toks+1 }) (fu k t) ho hd ks ?_))));rw [<- hf k,findBy_of_findIdx?]
  cases es.findIdx? fun e=>(strKind G.prog G.w).is k e.key with
  | none=>exact wpAny_pure ⟨rfl,rfl⟩
  | some i=>exact wpAny_bind (wpAny_dictEntries (s:={ s with toks:=s.toks+1 }) ho hd (wpAny_pure ⟨rfl,rfl⟩))
 show wpAny _ _ (dictGet d _>>=_) _ _ s;exists (wpAny_mono key (fun r s' e=>?_) fun _ _ e=>False.elim e);obtain ⟨rfl,rfl⟩:=e
 cases hm:m' k with
 | some v=>rw [hm] at h';exact wpAny_pure ⟨v,rfl,h'⟩
 | none=>
  rw [hm] at h';show wpAny _ _ (Builtin.Dict.missed d _>>=_) _ _ _;exact wpAny_bind (wpAny_missed_other (st.notMods h) (wpAny_pure ⟨z,rfl,h'⟩))
theorem mM {v:V} {Q:aX->am->Prop} (h:σ d=some (.ns m n b ob)) (hz:n<900) (q:∀ ob',Q ρ (σ.set d (.ns (fun y=>if y=k then some v else m y) (n+1) b ob'))):Dk G A L sA [.ref d, .str k,v] ρ σ Q:=by
 intros G A ρ σ L d m n b ob k v Q
 intro h hz q
 injections B s
 intro zs st r;obtain ⟨x,y,z,rfl,r1,r2,r3⟩:=r.three;obtain rfl:=r1.refE;obtain ⟨t,rfl⟩:=r2.strE
 cases st.own _ _ h with | mk o ho v _=>cases v with | mk _ es ep m' sz ex hd ks hf hr=>
 have mapd:(∀ f,(Obj.mapDict f o).cls=o.cls/\(Obj.mapDict f o).dict=o.dict/\(Obj.mapDict f o).slots=o.slots)/\∀ f,(Obj.mapDictKeys f o).cls=o.cls/\(Obj.mapDictKeys f o).dict=o.dict/\(Obj.mapDictKeys f o).slots=o.slots:=by
  obtain ⟨c,dd,dt,sl⟩:=o;obtain rfl:=(hd:dt=_);exact ⟨fun _=>⟨rfl,rfl,rfl⟩,fun _=>⟨rfl,rfl,rfl⟩⟩
 have T:s.TypeIs (.ref d) "dict" :=⟨o,ho,ex.1⟩
 have fin:∀ o' es' ep',s.heap.get? d=some o->(o'.cls = .type "dict" /\o'.dict=none/\o'.slots=if b=true then #[none] else #[])->o'.data = .dict es' ep'->es'.size<=n+1->KeysOf (strKind G.prog G.w) es'->(∀ y,findBy (strKind G.prog G.w).is es' y=if y=k then some z else m' y)->∀ f,f o=o'->qY G L (qP (α:=Unit)) (fun _ ρ' σ'=>Q ρ' σ') B () { s with heap:=s.heap.update d f,toks:=s.toks+1 }:=fun o' es' ep' _ e1 e2 e3 e4 e5 f ef=>by
  subst ef
  exact ⟨B,(),ρ,_, .refl B,st.upd (x':= .ns (fun y=>if y=k then some v else m y) (n+1) b _) h rfl rfl (Heap.SameBut.update ..) (Jc _ ho (Obj.isFreed_of_dict e2)) ⟨rfl,es',ep',fun y=>if y=k then some z else m' y,e3,e1,e2,e4,e5,fun y=>yc hr r3 k y⟩ (s.toks+1),rfl,q _⟩
 show wpAny _ _ (setItem _ _ _) _ _ s;refine wpAny_holding ?_;exists (wpAny_sequenceKey T (by decide) ?_);exists (wpAny_callSpecial?_slot (name:=Str.ofString "__setitem__") T slot_dict_setitem (wpAny_call_entry slot_dict_setitem T entry_dict_setitem ?_ (args_dict_setitem _ _ _)));show wpAny _ _ (Builtin.Dict.notOrdered "__setitem__" ⟨[.ref d, .str k t,z],[]⟩>>=_) _ _ s;exists (wpAny_notOrdered_dict T ?_);show wpAny _ _ (dictSet d (.str k t) z>>=_) _ _ s;exists (wpAny_holding (wpAny_bind ((strKind G.prog G.w).pyHash (fu k t) ?_)));refine wpAny_holding (wpAny_bind (wpAny_dictFind_of (s:={ s with toks:=s.toks+1 }) (fu k t) ho hd ks ?_))
 cases hi:es.findIdx? fun e=>(strKind G.prog G.w).is k e.key with
 | some i=>
  exists (wpAny_rule (wpAny_bind (wpAny_updateDict (s:={ s with toks:=s.toks+1 }) ho hd (wpAny_point (wpAny_pure ⟨.none,rfl,wpAny_pure (fin (Obj.mapDict (·.modify i fun e=>{ e with val:=z }) o) (es.modify i fun e=>{ e with val:=z }) ep ho ⟨?_,?_,?_⟩ (Obj.data_mapDict hd _) (by rw [Array.size_modify];exact Nat.le_succ_of_le sz) (ks.modify i z) (fun y=>?_) (Obj.mapDict _) rfl)⟩)))))
  ·exact (mapd.1 _).1▸ex.1
  ·exact (mapd.1 _).2.1▸ex.2.1
  ·exact (mapd.1 _).2.2▸ex.2.2
  ·rw [findBy_modify (strKind G.prog G.w).is (strKind G.prog G.w).inj es k y z i hi,hf]
 | none=>
  exists (wpAny_rule (wpAny_updateDictKeys (hz:=by rw [sizeLine_eq];exact E4 sz hz rfl) (s:={ s with toks:=s.toks+1 }) ho hd (wpAny_pure ⟨.none,rfl,wpAny_pure (fin (Obj.mapDictKeys (·.push ⟨(strKind G.prog G.w).hash k, .str k t,z⟩) o) (es.push ⟨(strKind G.prog G.w).hash k, .str k t,z⟩) (ep+1) ho ⟨?_,?_,?_⟩ (Obj.data_mapDictKeys hd _) (by rw [Array.size_push];exact Nat.succ_le_succ sz) (ks.push (fu k t) z) (fun y=>?_) (Obj.mapDictKeys _) rfl)⟩)))
  ·exact (mapd.2 _).1▸ex.1
  ·exact (mapd.2 _).2.1▸ex.2.1
  ·exact (mapd.2 _).2.2▸ex.2.2
  ·rw [findBy_push (strKind G.prog G.w).is es k y _ _ z (KeyKind.is_eq_decide (fu k t)) hi,hf]
theorem vj {x C p:Addr} {nm:Str} {tn:Tok} {z:Value} {Q:V->am->Prop} (hx:σ x=some (.inst C d)) (hd:σ d=some (.ns m n true ob)) (hv:m "__dict__" = none)
  (h:Q (.ref d) σ)
  (hga:findIn G.K (.ref C) "__getattribute__" = some (some (.builtin "object.__getattribute__"))) (hk:findIn G.K (.ref C) "__getattr__" = some none) (ho:findObj G.K C (some (probe "__dict__" none)) "__dict__" = some (.bind (.builtin "getset_descriptor.__get__") (.ref p)))
  (hp:recIn G.K p "getset_descriptor" = some [.str nm tn, .ref C, .builtin "function.__dict__",z]) (hm:mroIn G.K C (.ref C)=some true)
  (hsm:mroIn G.K C (.type "staticmethod")=some false) (hcm:mroIn G.K C (.type "classmethod")=some false) (hdct:(clsIn G.K C).any (·.hasDict)=true):vh G A L (.ref x) "__dict__" ρ σ Q:=fun B s ov expr st r=>by
 obtain rfl:=r.refE
 cases st.inst hx hd with | mk od I hod D=>
 have v:=nG hod;have D':=Jc (h:=s.heap) eB D v.2
 have heq:eB od=od:=by unfold eB;rw [if_neg (by cases hod with | mk _ es ep m' sz ex=>rw [ex.2.2];exact Jg)]
 have hsl:od.slots.isEmpty=false:=by cases hod with | mk _ es ep m' sz ex=>rw [ex.2.2];rfl
 exact get_bind st.K I hga ((fH (cY hod hv)).trans ho) hk (wpAny_call (FG (s:={ s with toks:=s.toks+1 }) st.K I hp hm hsm hcm hdct D hsl (by
  show wpAny _ _ (handedOut (.ref d)) _ _ _;rw [handedOut_of rfl]
  exact wpAny_pure ⟨B, .ref d,_, .refl B,(am.set_same hd)▸st.upd (x':= .ns m n true ob) hd rfl rfl (Heap.SameBut.update ..) D' (by rw [heq];exact hod) (s.toks+1), .ref d,h⟩)))
end
section
variable {G:aK} {A:Around} {env:Env} {ρ:aX} {σ:am} {L d a:Addr} {B:PB} {s:Shared} {n:Nat} {p:Int×Int} {xs:List (Int×Int)} {E:Value->Shared->Prop}
inductive d0 (B:PB) (p:Int×Int) (x:Value):Prop
 | mk (u v:Tok) (r:Addr) (e:x = .ref r) (h:B.o r=some (ej #[.int p.1 u, .int p.2 v])):d0 B p x
theorem VR.pair {x:Value} (h:VR B (.tup [.int p.1, .int p.2]) x):d0 B p x:=by
 intros B p x
 intro h
 cases h with | @tup r vs _ hb rs=>
 obtain ⟨l⟩:=vs
 cases rs with | cons r1 rs=>cases rs with | cons r2 rs=>
 cases rs;cases r1;cases r2;exact ⟨_,_,r,rfl,hb⟩
theorem j6 {h:Heap} {r:Addr} {i j:Int} {u v:Tok} (e:h.get? r=some (ej #[.int i u, .int j v])):IsTupleKey (intKind G.prog G.w) h [i,j] r:=
 ⟨_,_,0,e,rfl,rfl, .cons (bC _ _) (.cons (bC _ _) .nil)⟩
theorem ve {pos:Pos} {Q:V->am->Prop} (h:∀ a,σ a=none->Q (.ref a) (σ.set a (.tdict 0))):WE G A env (.Dict [] [] pos) ρ σ Q:=fun B s st=>
 wpAny_Dict_empty ⟨B, .ref _,_, .refl B,st.alloc (x:= .tdict 0) rfl rfl ⟨⟨rfl,rfl,rfl⟩, #[],0,[],rfl,rfl,List.nodup_nil,(fun _ m=>nomatch m),I4 _⟩, .ref _,h _ (st.fresh (I4 _))⟩
theorem su {K:Type} [DecidableEq K] {xs:List (K×Addr×Value)} {k:K} {a:Addr} {v:Value} {x:K×Addr×Value} (m:x∈storedH xs k a v):(x.1=k/\x.2.1=a)\/∃ y∈xs,x.1=y.1/\x.2.1=y.2.1:=by
 unfold storedH at m
 split at m
 ·obtain ⟨y,hy,rfl⟩:=I0.mp m;refine .inr ⟨y,hy,?_⟩;unfold putAt
  split <;> exact ⟨rfl,rfl⟩
 ·rcases I1.mp m with m | m
  ·exact .inr ⟨x,m,rfl,rfl⟩
  ·rw [IN] at m;subst m;exact .inl ⟨rfl,rfl⟩
theorem nZ {K:Type} [DecidableEq K] {xs:List (K×Addr×Value)} {k:K} {a:Addr} {v:Value}:(storedH xs k a v).length<=xs.length+1:=by
 unfold storedH
 split
 ·rw [IP];exact Nat.le_succ _
 ·rw [IV];exact I4 _
theorem oX {v:V} {Q:aX->am->Prop} (hu:A.units+2<cLine) (h:σ d=some (.tdict n)) (hz:n<1000) (q:Q ρ (σ.set d (.tdict (n+1)))):Dk G A L sA [.ref d, .tup [.int p.1, .int p.2],v] ρ σ Q:=by
 intros G A ρ σ L d n p v Q
 intro hu h hz q
 injections B s
 intro zs st r;obtain ⟨x,y,z,rfl,r1,r2,r3⟩:=r.three;obtain rfl:=r1.refE
 cases r2.pair with | mk u v' k e hb=>
 subst e
 cases st.own _ _ h with | mk o ho v _=>cases v with | mk ex es ep xs hd he nd hk few=>
 have D:s.heap.DictOfH (tupleKind (intKind G.prog G.w)) d xs:=⟨o,es,ep,ho,ex,hd,he,fun x m=>by
  cases hk x m with | mk vs hb i=>exact ⟨_,vs,0,st.keep _ _ hb,rfl,rfl,i⟩,nd⟩
 have kr:IsTupleKey (intKind G.prog G.w) s.heap [p.1,p.2] k:=j6 (st.keep _ _ hb);refine wpAny_setItem_heap (knd:=tupleKind (intKind G.prog G.w)) (k:=[p.1,p.2]) (show A.units+1<cLine by lia) kr D (fun h' D' hs=>?_) (by rw [sizeLine_eq];lia);ac_rfl;obtain ⟨o',es',ep',hz1⟩:=D';right;refine ⟨B,(),ρ,_, .refl B,st.upd (x':= .tdict (n+1)) h rfl rfl hs hz1.1 ⟨hz1.2.1,es',ep',_,hz1.2.2.1,hz1.2.2.2.1,hz1.2.2.2.2.2,fun x m=>?_,Nat.le_trans nZ (Nat.succ_le_succ few)⟩ _,rfl,q⟩;rcases su m with ⟨e1,e2⟩ | ⟨y,hy,e1,e2⟩
 ·exact ⟨_,by rw [e2];exact hb,by rw [e1];exact .cons (bC _ _) (.cons (bC _ _) .nil)⟩
 ·cases hk y hy with | mk vs hb i=>exact ⟨vs,by rw [e2];exact hb,by rw [e1];exact i⟩
theorem u8 {Q:V->am->Prop} (q:∀ a,σ a=none->Q (.ref a) (σ.set a (.tset [] 0))):WC G A (.ty "set") [] [] σ Q:=by
 intros G A σ Q
 intro q
 injections L B ρ s
 intro fv ys kx st rf r rk;cases r;obtain rfl:=rf.tyE;obtain rfl:=rk.nilE;refine io (Q₁:=fun obj s1=>obj = .ref s.heap.objs.size/\s1={ s with heap:=s.heap.push (cg (!(G.w.params.followText "set-order"))) }) F.called_set F.typeCall_set_0 (qL F.newCall_set_0 ⟨rfl,rfl⟩) ?_;rintro obj s1 ⟨rfl,rfl⟩;have hS:(s.heap.push (cg (!(G.w.params.followText "set-order")))).get? s.heap.objs.size=some (cg (!(G.w.params.followText "set-order"))):=I7 _ rfl;refine ⟨⟨_,hS,rfl⟩,codeAny_call_builtin F.called_set.init.plain F.entry_set_init (check_set_init ⟨_,hS,rfl⟩ ?_)⟩;have st1:=st.alloc (x:= .tset [] 0) (o:=cg (!(G.w.params.followText "set-order"))) rfl rfl ⟨⟨rfl,rfl,rfl⟩, #[],0, .fresh 0 0 _,rfl,(fun e h=>by simp at h),by rfl,⟨xA,by show 0*5<7*3;decide, .nil⟩,⟨by show 7 % 2=1;rfl,by show 7<1024;decide⟩,I4 _⟩
 have fin:ip G L VR ρ Q B (.ref s.heap.objs.size) { s with heap:=s.heap.push (cg (!(G.w.params.followText "set-order"))) }:=
  ⟨B, .ref _,_, .refl B,st1, .ref _,q _ (st.fresh (I4 _))⟩
 exact nW hS ⟨rfl,fin⟩
theorem Am {t:SetTable} {j i:Nat} (h:t.slot j = .live i):i<t.place.size:=by
 unfold SetTable.slot at h;dsimp only at h
 split at h
 ·rename_i e
  (injection h with zz;subst zz)
  exact (Array.getElem?_eq_some_iff.mp (Jj.mp e)).1
 ·split at h <;> injection h
theorem kH {t:SetTable} {n:Nat} (h:t.fits n=true):t.place.size=n:=by
 unfold SetTable.fits at h;simp only [Bool.and_eq_true,Jj] at h;exact h.1
theorem qy {M:Model} {n:Nat} {i:Int} {u:Tok}:ofAClassStatement n (.int i u)=pure false:=by cases n <;> rfl
theorem jE {M:Model} {x:Value} (px:d0 B p x) (hB:∀ a o,B.o a=some o->s.heap.get? a=some o) {Q:Bool->Shared->Prop} (h:Q false s):wpAny M A (ofAClassStatement 8 x) Q E s:=by
 cases px with | mk u v r e hb=>
 subst e;have ho:=hB _ _ hb
 rw [show ofAClassStatement 8 (.ref r)=typeOf (.ref r)>>=fun c=>match c with
  | .type t=>do
   let underTuple <- if t == "tuple" then pure true else isSubtype (.type t) (.type "tuple")
   if !underTuple then return false
   let some items <- seqItems? (.ref r) | return true
   for y in items do
    if <- ofAClassStatement 7 y then return true
   return false
  | _=>pure true from by kernel_rfl]
 exists (wpAny_typeOf (T:= "tuple") ⟨_,ho,rfl⟩ ?_);exists (wpAny_pure ?_);exists (wpAny_seqItems ho rfl ?_);dsimp only;refine wpAny_bind ?_;show wpAny _ _ (forIn (#[Value.int p.1 u,Value.int p.2 v]:Array Value) _ _) _ _ _;rw [<- Array.forIn_toList];refine wpAny_forIn_list _ (fun rest r s'=>r.1=none/\s'=s/\∀ y∈rest,∃ i t,y=Value.int i t) _ ?_ ?_ _ _ ⟨rfl,rfl,fun y m=>?_⟩
 ·rintro y rest r s' ⟨hr,rfl,hy⟩;obtain ⟨i,t,rfl⟩:=hy _ (.head _);rw [qy (M:=M)];exact wpAny_bind (wpAny_pure (wpAny_pure ⟨rfl,rfl,fun y m=>hy y (.tail _ m)⟩))
 ·rintro ⟨r1,r2⟩ s' ⟨hr,rfl,_⟩;simp only at hr;subst hr;exact wpAny_pure h
 ·simp at m
  rcases m with rfl | rfl <;> exact ⟨_,_,rfl⟩
theorem q7.pairAt {x:Value} (h:q7 B xs x):∃ q∈xs,d0 B q x:=by cases h with | mk a b u v r e h m=>exact ⟨(a,b),m,u,v,r,e,h⟩
theorem i4 {x:Value} (px:d0 B p x) (hB:∀ a o,B.o a=some o->s.heap.get? a=some o) {Q:Bool->Shared->Prop} (h:Q true s):wpAny (model G.prog G.w) A (eqIsQuiet 8 x) Q E s:=by
 cases px with | mk u v r e hb=>
 subst e;exact wpAny_eqIsQuiet_tuple (j6 (G:=G) (hB _ _ hb)) h
theorem rK {x:Value} (px:d0 B p x) (hB:∀ a o,B.o a=some o->s.heap.get? a=some o) {Q:Bool->Shared->Prop} (h:Q false s) (l:List Value) (hl:∀ y∈l,q7 B xs y):wpAny (model G.prog G.w) A (searchCouldBeSeen x l) Q E s:=by
 revert G A B s p xs E x Q l
 injections G A B s p xs E x
 intro px hB
 injections Q
 intro h
 injections l
 intro hl;refine wpAny_bind ?_;refine wpAny_forIn_list _ (fun rest r s'=>r.1=none/\s'=s/\∀ y∈rest,q7 B xs y) _ ?_ ?_ _ _ ⟨rfl,rfl,hl⟩
 ·rintro y rest r s' ⟨hr,rfl,hy⟩;ac_rfl;obtain ⟨q,_,py⟩:=(hy _ (.head _)).pairAt;right;have fin:∀ r:Option Bool×PUnit,r.1=none->r.1=none/\s'=s'/\∀ y∈rest,q7 B xs y:=fun r e=>⟨e,rfl,fun y m=>hy y (.tail _ m)⟩;refine wpAny_ite (fun _=>wpAny_pure (fin _ rfl)) fun _=>?_;exists (i4 px hB ?_);refine wpAny_ite (fun q=>by injection q) fun _=>?_;exists (i4 py hB ?_);refine wpAny_ite (fun q=>by injection q) fun _=>?_;exists (jE px hB ?_);refine wpAny_ite (fun q=>by injection q) fun _=>?_;exists (jE py hB ?_);refine wpAny_ite (fun q=>by injection q) fun _=>?_;exact wpAny_pure (fin _ rfl)
 ·rintro ⟨r1,r2⟩ s' ⟨hr,rfl,_⟩;simp only at hr;subst hr;exact wpAny_pure h
theorem As {x:Value} {hs:Int} {o:Obj} {es:Array (Int×Value)} {ver:Nat} {t:SetTable} {adding:Bool} (hu:A.units+1<cLine) (ho:s.heap.get? a=some o) (hd:o.data = .set es ver t) (hels:∀ e∈es.toList,q7 B xs e.2) (hf:t.fits es.size=true) (hg:dq t) (odd:t.mask % 2=1)
  (hB:∀ a o,B.o a=some o->s.heap.get? a=some o) (px:d0 B p x) {Q:SetFound->Shared->Prop} (found:∀ r,p∈xs->Q (.there r) s) (free:∀ j w,(w=true->t.slot j = .dummy)->(w=false->t.slot j = .empty)->Q (.free j w) s):
  ∀ (fuel:Nat) (stand:Option SetTable.Probe) (n:Nat),n<fuel->n<10*SetTable.turns t.mask->t.slot (dX t.mask n (dg (stand.getD (t.probeStart hs)))).1 = .empty->(∀ d,(stand.getD (t.probeStart hs)).dummy=some d->t.slot d = .dummy)->
   wpAny (model G.prog G.w) A (setSearchFrom a x hs adding fuel stand) Q E s:=by
 revert G A a B s p xs E x hs o es ver t adding Q
 injections G A a B s p xs E
 injections x hs o es
 injections ver t
 injections adding
 intro hu ho hd hels hf hg odd hB px
 injections Q
 intro found free;intro fuel
 induction fuel with
 | zero=>exact fun _ n h=>absurd h (Nat.not_lt_zero _)
 | succ fuel ih=>
  intro stand n hn hn' he hdm;exists (wpAny_setState_of ho hd hf ?_);dsimp only;rw [if_neg (by unfold SetTable.gaveWay;rw [odd];decide)];ac_rfl;obtain ⟨met,e,hm⟩:=sC (hashAt:=fun i=>(es[i]?.map (·.1)).getD 0) (h:=hs) _ (stand.getD (t.probeStart hs)) n hn' he hdm;right;have e:t.probe (fun i=>(es[i]?.map (·.1)).getD 0) hs (stand.getD (t.probeStart hs))=some met:=e
  k_delta "storedHashAt"
  rw [e]
  cases met with
  | empty j dummy=>
   cases dummy with
   | none=>exact wpAny_pure (free _ _ (fun q=>nomatch q) fun _=>hm.1)
   | some d=>
    have hd':=hm.2 d rfl;refine wpAny_ite (fun q=>?_) fun _=>wpAny_pure (free _ _ (fun _=>hd') fun q=>nomatch q);rw [hd'] at q;simp at q
  | candidate j i next=>
   ac_rfl;obtain ⟨m1,m2,m3,k,hz4⟩:=hm;have hi:i<es.size:=kH hf▸Am m1;ac_rfl;obtain ⟨⟨h1,y⟩,hget⟩: ∃ e,es[i]?=some e:=⟨_,IY hi⟩
   have hmem:(h1,y)∈es.toList:=by simpa using Array.mem_of_getElem? hget
   obtain ⟨q,hq,py⟩:=(hels _ hmem).pairAt;right;right
   have eqy:∀ {A:Around} {E:Value->Shared->Prop} {R:Bool->Shared->Prop},A.units+1<cLine->R (decide ([q.1,q.2]=[p.1,p.2])) s->wpAny (model G.prog G.w) A (eqBool y x) R E s:=fun hu r=>by
    cases py with | mk u v k e hb=>cases px with | mk u' v' k' e' hb'=>
    subst e;subst e';exact wpAny_eqBool_tuple (Nat.lt_of_succ_lt hu) (j6 (G:=G) (hB _ _ hb)) (j6 (G:=G) (hB _ _ hb')) r
   have same:∀ {A:Around} {E:Value->Shared->Prop} {R:Bool->Shared->Prop},R true s->wpAny (model G.prog G.w) A (isSame y y) R E s:=fun r=>by
    cases py with | mk u v k e hb=>
    subst e;exact wpAny_isSame_ref_self r
   have rest:wpAny (model G.prog G.w) A (do
     let some (_,y):=es[i]? | unsupported "internal:set-entry"
     let equal <- holding [y] (eqBool y x)
     let (es',_,t') <- setState a
     if adding&&equal then return .there none
     let some same:=t'.sameMemory t.moves t.mask | unsupported "set.changed-during-lookup:is-the-new-block-at-the-old-address"
     let still <- match (if same then t'.slot j else .empty) with
      | .live i'=>match es'[i']? with
       | some (_,y')=>do pure (if <- isSame y' y then some i' else none)
       | none=>pure none
      | _=>pure none
     match still with
     | none=>rule "set.search.anew";setSearchFrom a x hs adding fuel none
     | some i'=>if equal then return .there (some i') else setSearchFrom a x hs adding fuel (some next)) Q E s:=by
    rw [hget];exists (wpAny_holding (eqy hu ?_));exists (wpAny_setState_of ho hd hf ?_);dsimp only
    have sm:t.sameMemory t.moves t.mask=some true:=by unfold SetTable.sameMemory;rw [if_pos (by simp)]
    have again:(decide ([q.1,q.2]=[p.1,p.2]))=false->wpAny (model G.prog G.w) A (setSearchFrom a x hs adding fuel (some next)) Q E s:=fun _=>
     ih (some next) (n - (k+1)) (by omega) (by omega) (by
      show t.slot (dX t.mask (n - (k+1)) (dg next)).1 = .empty;rw [hz4.2,<- jh,show k+1+(n - (k+1))=n by omega]
      exact he) m3
    have mem:(decide ([q.1,q.2]=[p.1,p.2]))=true->p∈xs:=fun e=>by
     have e:=Jf e;simp only [List.cons.injEq,and_true] at e;rw [show p=q from Prod.ext e.1.symm e.2.symm];exact hq
    refine wpAny_ite (fun c=>wpAny_pure (found _ (mem ?_))) fun _=>?_
    ·simp at c;exact I5 (by simp [c.2])
    ·rw [sm];dsimp only;rw [if_pos rfl,m1];dsimp only;rw [hget];exists (same (wpAny_bind (wpAny_pure ?_)));rw [if_pos rfl];dsimp only;exact wpAny_ite (fun c=>wpAny_pure (found _ (mem c))) fun c=>again ((Bool.not_eq_true _).mp c)
   refine wpAny_ite (fun _=>wpAny_bind (rK (xs:=xs) px hB (wpAny_ite (fun q=>by injection q) fun _=>rest) _ fun y m=>?_)) fun _=>rest;obtain ⟨e,he,rfl⟩:=I0.mp m;exact hels e (by simp at he;simpa using he.1)
inductive s7 (G:aK) (B:PB) (xs:List (Int×Int)) (n:Nat) (o:Obj) (es:Array (Int×Value)) (ver:Nat) (t:SetTable):Prop
 | mk (ex:o.ExactSet) (d:o.data = .set es ver t) (els:∀ e∈es.toList,q7 B xs e.2) (fits:t.fits es.size=true) (good:dq t) (odd:t.mask % 2=1/\t.mask<1024) (few:es.size<=n):s7 G B xs n o es ver t
theorem ki {x:Value} {hs:Int} {o:Obj} {es:Array (Int×Value)} {ver:Nat} {t:SetTable} {adding:Bool} (hu:A.units+1<cLine) (ho:s.heap.get? a=some o) (T:s7 G B xs n o es ver t)
  (hB:∀ a o,B.o a=some o->s.heap.get? a=some o) (px:d0 B p x) {Q:SetFound->Shared->Prop} (found:∀ r,p∈xs->Q (.there r) s) (free:∀ j w,(w=true->t.slot j = .dummy)->(w=false->t.slot j = .empty)->Q (.free j w) s):
  wpAny (model G.prog G.w) A (setSearch a x hs adding) Q E s:=by
 ac_rfl
 cases T with | mk ex hd hels hf hg odd few=>
 have hz0:=sO t hs;obtain ⟨k,hk,he⟩:=hg.meets hz0.1 hz0.2.1;right;exact As hu ho hd hels hf hg odd.1 hB px found free 100000 none k (by unfold SetTable.turns at hk;lia) hk he hz0.2.2
theorem DJ {x:Value} {hs:Int} {o:Obj} {es:Array (Int×Value)} {ver:Nat} {t:SetTable} (hu:A.units+1<cLine) (ho:s.heap.get? a=some o) (T:s7 G B xs n o es ver t) (hB:∀ a o,B.o a=some o->s.heap.get? a=some o) (px:d0 B p x)
  {Q:Option Nat->Shared->Prop} (h:∀ r:Option Nat,(r.isSome=true->p∈xs)->Q r s):wpAny (model G.prog G.w) A (setFind a x hs) Q E s:=by
 revert G A a B s n p xs E x hs o es ver t Q
 injections G A a B s n p xs
 injections E x hs o
 injections es ver
 injections t
 intro hu ho T hB px
 injections Q
 intro h
 have key:=ki (hs:=hs) (adding:=false) (E:=E) hu ho T hB px (Q:=fun r s'=>s'=s/\match r with | .there _=>p∈xs | _=>True) (fun r m=>⟨rfl,m⟩) fun _ _ _ _=>⟨rfl,trivial⟩
 cases T with | mk ex hd hels hf hg odd few=>
 exists (wpAny_setState_of ho hd hf ?_);dsimp only
 have nb:byScan x es=false:=by cases px with | mk u v r e _=>subst e;rfl
 rw [nb,if_neg Jg];exists (wpAny_mono key (fun r s' z=>?_) fun _ _ e=>e);obtain ⟨rfl,m⟩:=z
 cases r with
 | there i=>exact wpAny_pure (h _ fun _=>m)
 | free j w=>exact wpAny_pure (h _ fun q=>nomatch q)
theorem yq (h:σ a=some (.tset xs n)):∀ B ρ s,St G L B ρ σ s->∃ o,s.heap.get? a=some o/\o.cls = .type "set" /\o.dict=none:=fun B ρ s st=>by
 cases st.own _ _ h with | mk o ho v _=>cases v with | mk ex=>exact ⟨o,ho,ex.1,ex.2.1⟩
theorem pR {x:Value} (px:d0 B p x) (hB:∀ a o,B.o a=some o->s.heap.get? a=some o) (hu:A.units<cLine) {Q:Int->Shared->Prop} (h:∀ z,Q z { s with toks:=s.toks+3 }):wpAny (model G.prog G.w) A (pyHash x) Q E s:=by
 cases px with | mk u v r e hb=>
 subst e;exact wpAny_pyHash_tuple (knd:=intKind G.prog G.w) hu (j6 (hB _ _ hb)) (h _)
theorem v3 {x:Value} {o:Obj} {es:Array (Int×Value)} {ver:Nat} {t:SetTable} (hu:A.units+3<cLine) (ho:s.heap.get? a=some o) (T:s7 G B xs n o es ver t) (hB:∀ a o,B.o a=some o->s.heap.get? a=some o) (px:d0 B p x)
  {Q:Bool->Shared->Prop} (h:∀ b:Bool,(b=true->p∈xs)->Q b { s with toks:=s.toks+3 }):wpAny (model G.prog G.w) A (contains (.ref a) x) Q E s:=by
 revert G A a B s n p xs E x o es ver t Q
 injections G A a B s n p xs
 injections E x o es
 injections ver t
 intro hu ho T hB px
 injections Q
 intro h
 have hT:s.TypeIs (.ref a) "set" :=by cases T with | mk ex=>exact ⟨o,ho,ex.1⟩
 unfold contains
 try with_reducible refine wpAny_holding ?_
 exists (wpAny_specialOf hT F.slot_set_contains.lookup ?_)
 show wpAny _ _ (if (some (Value.builtin "set.__contains__")==some Value.none)=true then _ else _) _ E s
 rw [if_neg (by rw [beq_builtin_none];exact Jg)]
 exists (wpAny_callSpecialUnlessNone?_slot (name:=Str.ofString "__contains__") hT F.slot_set_contains
  (wpAny_call_entry F.slot_set_contains hT entry_set_contains ?_ (F.args_set_contains_2 _ _)))
 unfold Builtin.«frozenset.__contains__» Builtin.Frozenset.oneOther;simp only [List.isEmpty_nil,bind_assoc];unfold Builtin.Frozenset.addrOf Builtin.Frozenset.withSetAsKey setContains;exists (wpAny_pure ?_)
 try dsimp only
 exists (wpAny_pure ?_)
 try dsimp only
 exists (wpAny_tryCatch ?_);refine wpAny_holding ?_;exists (pR px hB (by show A.units+1<cLine;exact Dn hu rfl) fun z=>?_);exists (DJ (s:={ s with toks:=s.toks+3 }) (by show A.units+1+1<cLine;exact Nat.le_of_lt hu) ho T hB px fun r hr=>?_);refine wpAny_pure ?_;show wpAny _ _ (ret (Value.bool r.isSome)) _ _ _;exact wpAny_pure ⟨_,rfl,wpAny_truthy_bool (h _ hr)⟩
theorem oW {Q:V->am->Prop} (hu:A.units+3<cLine) (h:σ a=some (.tset xs n)) (q:∀ c:Bool,(c=false->p∈xs)->Q (.bool c) σ):WO G A L (dA .NotIn) [.tup [.int p.1, .int p.2], .ref a] ρ σ Q:= .two fun B s x y st r1 r2=>by
 obtain rfl:=r2.refE
 cases st.own _ _ h with | mk o ho v _=>cases v with | mk ex es ver t d els fits good odd few=>
 show wpAny _ _ (do return Value.bool (!(<- contains (.ref a) x))) (ip G L VR ρ Q B) jH s
 exact wpAny_bind (v3 hu ho ⟨ex,d,els,fits,good,odd,few⟩ st.keep r1.pair fun b hb=>wpAny_pure ⟨B,_,σ, .refl B,st.toks _, .bool _,q _ fun e=>hb (by simpa using e)⟩)
theorem kI {x:Value} (px:d0 B p x) (hB:∀ a o,B.o a=some o->s.heap.get? a=some o) {Q:Bool->Shared->Prop} (h:Q true s):wpAny (model G.prog G.w) A (hashByValue 8 x) Q E s:=by
 cases px with | mk u v r e hb=>
 subst e;have ho:=hB _ _ hb;have hT:s.TypeIs (.ref r) "tuple" :=⟨_,ho,rfl⟩;exists (wpAny_specialOf hT F.slot_tuple_hash.lookup ?_);dsimp only;exists (wpAny_seqItems ho rfl ?_);refine wpAny_bind ?_;show wpAny _ _ (forIn (#[Value.int p.1 u,Value.int p.2 v]:Array Value) _ _) _ _ _;rw [<- Array.forIn_toList];refine wpAny_forIn_list _ (fun rest r s'=>r.1=none/\s'=s/\∀ y∈rest,∃ i t,y=Value.int i t) _ ?_ ?_ _ _ ⟨rfl,rfl,fun y m=>?_⟩
 ·rintro y rest r s' ⟨hr,rfl,hy⟩;obtain ⟨i,t,rfl⟩:=hy _ (.head _);rw [show hashByValue 7 (Value.int i t)=pure true from rfl];exact wpAny_bind (wpAny_pure (wpAny_pure ⟨rfl,rfl,fun y m=>hy y (.tail _ m)⟩))
 ·rintro ⟨r1,r2⟩ s' ⟨hr,rfl,_⟩;simp only at hr;subst hr;exact wpAny_pure h
 ·simp at m
  rcases m with rfl | rfl <;> exact ⟨_,_,rfl⟩
inductive wE (t t1:SetTable) (n:Nat) (was:Bool):Prop
 | mk (fits:t1.fits (n+1)=true) (mask:t1.mask=t.mask) (so:t1.place.toList.Pairwise (· < ·)) (same:was=true->t1.fill=t.fill):wE t t1 n was
theorem yi {t:SetTable} (g:dq t) {n:Nat} (hf:t.fits n=true) {slot:Nat} {was:Bool} (hw:was=true->t.slot slot = .dummy) (hn:was=false->t.slot slot = .empty):wE t (t.put slot).1 n was:=by
 revert t n slot was
 injections t
 intro g
 injections n
 intro hf
 injections slot was
 intro hw hn;ac_rfl;have hz2:=yj t slot;right;have hsz:=kH hf
 have hfill:(t.put slot).1.fill<=t.fill+1:=by
  cases was with
  | true=>rw [hz2.2.2.2.2.1 (hw rfl)];exact Nat.le_add_right _ _
  | false=>rw [hz2.2.2.2.2.2 (hn rfl)];exact I4 _
 refine ⟨?_,hz2.1,iy g.2.2 (iD g.2.2 fun i q=>?_),fun q=>hz2.2.2.2.2.1 (hw q)⟩
 ·unfold SetTable.fits;rw [hz2.2.2.2.1,hsz,hz2.1]
  simp
  have:=g.room
  exact Nat.le_trans hfill this
 ·cases was with
  | true=>rw [hw rfl] at q;injection q
  | false=>rw [hn rfl] at q;injection q
theorem pe {w:Nat} (h:w<1000):(SetTable.sizeAbove w - 1) % 2=1/\SetTable.sizeAbove w - 1<1024:=by
 intros w
 intro h;obtain ⟨h1,h2⟩:=ij h;simp only [IZ,List.mem_nil_iff,or_false] at h1
 rcases h1 with h | h | h | h | h | h | h | h <;> rw [h] <;> decide
theorem q7.more {x:Value} (h:q7 B xs x):q7 B (p::xs) x:=by cases h with | mk a b u v r e h m=>exact ⟨a,b,u,v,r,e,h, .tail _ m⟩
theorem B3 {o:Obj} {es:Array (Int×Value)} {ver:Nat} {t:SetTable} (ho:s.heap.get? a=some o) (ex:o.ExactSet) (d:o.data = .set es ver t) (els:∀ e∈es.toList,q7 B xs e.2) (fits:t.fits es.size=true) (hn:n<200) (few:es.size<=n) (h0:0<es.size) {Q:Unit->Shared->Prop}
  (h:∀ es' t',s7 G B xs n (Obj.putSet es' t' o) es' (ver+1) t'->Q () { s with heap:=s.heap.update a (Obj.putSet es' t') }):wpAny (model G.prog G.w) A (setRelay a (SetTable.grown es.size)) Q E s:=by
 revert G A a B s n xs E o es ver t Q
 injections G A a B s n xs E
 injections o es ver t
 intro ho ex d els fits hn few h0
 injections Q
 intro h
 have hg:SetTable.grown es.size=es.size*4:=by unfold SetTable.grown;rw [if_neg (by lia)]
 ac_rfl;have hz4:=fJ (w:=es.size*4) (by lia);have hodd:=pe (w:=es.size*4) (by lia);obtain ⟨t',order,e,hso,hm,hl,hpl,hd,hp,hfit⟩:=qr hz4.1 t.finger (t.movedTo (SetTable.sizeAbove (es.size*4) - 1)) t.led t.plain (es.map (·.1)) (by simp;exact Nat.le_of_add_left_le hz4.2);right;simp only [Array.size_map] at hp hfit;have hp':=jN hp
 have hsz:(order.filterMap (es[·]?)).size=es.size:=by
  rw [<- Array.length_toList,hp'.length_eq,Array.length_toList]
 have hfill:t'.fill=es.size:=by unfold SetTable.fill;rw [kH hfit,hd];rfl
 exists (wpAny_setState_of ho d fits ?_);dsimp only;rw [hg];refine wpAny_ite (fun q=>?_) fun _=>?_
 ·rw [sizeLine_eq] at q;lia
 k_delta "reordered"
 rw [show t.relaid (es.map (·.1)) (es.size*4)=some (t',order) from e];refine wpAny_bind ?_;refine wpAny_ite (fun q=>by rw [hsz] at q;simp at q) fun _=>wpAny_pure ?_;refine wpAny_storeSet_of ho d (h _ _ ⟨?_,?_,fun e m=>els e (hp'.mem_iff.mp m),by rw [hsz];exact hfit,⟨by rw [hm];exact hz4.1,by rw [hfill,hm];lia,hso⟩,by rw [hm];exact hodd,by rw [hsz];exact few⟩) (by rw [hsz,sizeLine_eq];exact E4 few hn rfl)
 ·rw [putSet_of _ _ d];exact ex
 ·rw [putSet_of _ _ d]
theorem FK {x:Value} {hs:Int} {o:Obj} {es:Array (Int×Value)} {ver:Nat} {t:SetTable} (hu:A.units+1<cLine) (ho:s.heap.get? a=some o) (T:s7 G B xs n o es ver t) (hn:n<199) (hB:∀ a o,B.o a=some o->s.heap.get? a=some o) (px:d0 B p x)
  {Q:Bool->Shared->Prop} (hBa:B.o a=none) (h0:p∈xs->Q false s) (h1:∀ h' o' es' ver' t',Heap.SameBut a s.heap h'->h'.get? a=some o'->s7 G B (p::xs) (n+1) o' es' ver' t'->Q true { s with heap:=h' }):wpAny (model G.prog G.w) A (setAddHashed a x hs) Q E s:=by
 revert G A a B s n p xs E x hs o es ver t Q
 injections G A a B s n p xs
 injections E x hs o
 injections es ver
 injections t
 intro hu ho T hn hB px
 injections Q
 intro hBa h0 h1
 have key:=ki (hs:=hs) (adding:=true) (E:=E) hu ho T hB px (Q:=fun r s'=>s'=s/\match r with | .there _=>p∈xs | .free j w=>(w=true->t.slot j = .dummy)/\(w=false->t.slot j = .empty)) (fun r m=>⟨rfl,m⟩) fun _ _ a b=>⟨rfl,a,b⟩
 have nb:byScan x es=false:=by cases px with | mk u v r e _=>subst e;rfl
 ac_rfl;obtain ⟨ex,hd,hels,hf,hg,odd,few⟩:=id T;right;refine wpAny_holding (wpAny_bind (wpAny_setState_of ho hd hf ?_));dsimp only;rw [nb,if_neg Jg];exists (wpAny_mono key (fun r s' z=>?_) fun _ _ e=>e);obtain ⟨rfl,m⟩:=z
 cases r with
 | there i=>exact wpAny_pure (h0 m)
 | free j w=>
  dsimp only;exists (wpAny_setState_of ho hd hf ?_);dsimp only;have P:=yi hg hf m.1 m.2
  have fin:∀ t1:SetTable,wE t t1 es.size w->wpAny (model G.prog G.w) A (storeSet a (SetTable.insertAt es (t.put j).2 (hs,x)) t1>>=fun _=>if (!w&&t1.tooFull)=true then setRelay a (SetTable.grown (es.size+1))>>=fun _=>pure true else pure true) Q E s':=fun t1 P=>by
   have hsz:(SetTable.insertAt es (t.put j).2 (hs,x)).size=es.size+1:=cH ..;have hp:=SetTable.insertAt_perm es (t.put j).2 (hs,x);rw [Array.toList_push] at hp
   have els:∀ e∈(SetTable.insertAt es (t.put j).2 (hs,x)).toList,q7 B (p::xs) e.2:=fun e m=>by
    rcases I1.mp (hp.mem_iff.mp m) with m | m
    ·exact (hels e m).more
    ·rw [IN] at m;subst m
     cases px with | mk u v r e hb=>exact ⟨p.1,p.2,u,v,r,e,hb, .head _⟩
   exists (wpAny_storeSet_of ho hd ?_ (by rw [hsz,sizeLine_eq];exact sY few hn rfl));have o1:(s'.heap.update a (Obj.putSet (SetTable.insertAt es (t.put j).2 (hs,x)) t1)).get? a=some (Obj.putSet (SetTable.insertAt es (t.put j).2 (hs,x)) t1 o):=Jc _ ho (by rw [putSet_of _ _ hd];rfl);have sb1:=Heap.SameBut.update s'.heap a (Obj.putSet (SetTable.insertAt es (t.put j).2 (hs,x)) t1)
   have ex1:(Obj.putSet (SetTable.insertAt es (t.put j).2 (hs,x)) t1 o).ExactSet:=by rw [putSet_of _ _ hd];exact ex
   have d1:(Obj.putSet (SetTable.insertAt es (t.put j).2 (hs,x)) t1 o).data = .set (SetTable.insertAt es (t.put j).2 (hs,x)) (ver+1) t1:=by rw [putSet_of _ _ hd]
   have f1:t1.fits (SetTable.insertAt es (t.put j).2 (hs,x)).size=true:=by rw [hsz];exact P.1
   refine wpAny_ite (fun c=>?_) fun c=>?_
   ·rw [<- hsz];exists (B3 (n:=n+1) o1 ex1 d1 els f1 (lr hn rfl) (by lia) (Nat.lt_of_add_left_lt (Nat.le_of_eq hsz.symm)) fun es2 t2 T2=>wpAny_pure ?_);refine h1 _ _ es2 _ t2 (sb1.trans (Heap.SameBut.update ..)) (Jc _ o1 (by rw [putSet_of _ _ d1];rfl)) T2
   ·refine wpAny_pure (h1 _ _ _ _ t1 sb1 o1 ⟨ex1,d1,els,f1,⟨by rw [P.2];exact hg.1,?_,P.3⟩,by rw [P.2];exact odd,by lia⟩)
    cases w with
    | true=>rw [P.4 rfl,P.2];exact hg.2.1
    | false=>
     unfold SetTable.tooFull at c;simp at c;exact c
  refine wpAny_ite (fun _=>wpAny_bind (kI px hB ?_)) fun _=>wpAny_bind (wpAny_pure ?_)
  ·exact fin _ P
  ·exact fin _ P
theorem rq {Q:V->List V->am->Prop} (hl:σ a=some (.tset xs n)) (h:Q (.bi "set.add") [.ref a] σ):WM G A L (.ref a) "add" ρ σ Q:=iT (yq hl) F.plainAttrs_set F.slot_set_add F.type_set_add h
theorem q8 {Q:V->am->Prop} (hu:A.units+4<cLine) (h:σ a=some (.tset xs n)) (hn:n<199) (q:∀ ys n',n'<=n+1->(∀ r,r∈ys->r=p\/r∈xs)->Q .none (σ.set a (.tset ys n'))):WC G A (.bi "set.add") [.ref a, .tup [.int p.1, .int p.2]] [] σ Q:= .bi2 fun L B ρ s x y st r1 r2=>by
 obtain rfl:=r1.refE
 cases st.own _ _ h with | mk o ho v hb=>cases v with | mk ex es ver t d els fits good odd few=>
 refine wpAny_call_entry F.slot_set_add ⟨o,ho,ex.1⟩ F.entry_set_add ?_ (F.args_set_add_2 _ _);unfold Builtin.«set.add» Builtin.Frozenset.oneOther;simp only [List.isEmpty_nil,bind_assoc];exists (wpAny_pure ?_)
 try dsimp only
 exists (wpAny_pure ?_)
 try dsimp only
 exists (wpAny_holding (wpAny_bind (pR r2.pair st.keep (by show A.units+1<cLine;exact Dn hu rfl) fun z=>?_)));refine FK (s:={ s with toks:=s.toks+3 }) (by show A.units+1+1<cLine;exact Nat.le_of_lt (Nat.le_of_lt hu)) ho ⟨ex,d,els,fits,good,odd,few⟩ hn st.keep r2.pair hb (fun m=>?_) fun h' o' es' ver' t' hs ho' T=>?_
 ·exact wpAny_pure ⟨_,rfl,B, .none,_, .refl B,by rw [am.set_same h];exact st.toks _, .none,q xs n (Nat.le_succ _) fun r m=> .inr m⟩
 ·cases T with | mk ex' d' els' fits' good' odd' few'=>
  exact wpAny_pure ⟨_,rfl,B, .none,_, .refl B,st.upd (x':= .tset (p::xs) (n+1)) h rfl rfl hs ho' ⟨ex',es',ver',t',d',els',fits',good',odd',few'⟩ _, .none,q _ _ (I4 _) fun r m=>IZ.mp m⟩
end
abbrev bT (vs:Array Value):Obj:={ cls:= .none,data:= .fields vs }
inductive ml (q:Str) (oc:Obj):Prop
 | mk (vs:Array Value) (t:Tok) (d:oc.data = .fields vs) (h:vs[1]?=some (.str q t)):ml q oc
inductive fe (K:Frag) (c P:Addr):Prop
 | mk (vs:Array Value) (dd:Option Addr) (sl:Array (Option Value)) (file:Str) (tf tg tt:Tok) (flags text:Int) (inF:Bool) (h:K.lookup c=some ⟨.type "code",dd, .fields vs,sl⟩) (h11:vs[11]?=some (.ref P)) (h18:vs[18]?=some (.str file tf)) (h7:vs[7]?=some (.int flags tg)) (h9:vs[9]?=some (.bool inF)) (h10:vs[10]?=some (.int text tt)):fe K c P
theorem ir {pos pos':Pos} {c:Value} (hne:pos'.line≠pos.line\/pos'.col≠pos.col) (l:List Value) (h:TriplesOk l):codeAmong pos' (l++[rawInt pos.line,rawInt pos.col,c])=codeAmong pos' l:=by
 fun_induction TriplesOk l with
 | case1=>
  show (if (pos.line:Int)==pos'.line&&(pos.col:Int)==pos'.col then some c else none)=none
  rw [if_neg];simp only [Bool.and_eq_true,Jj];lia
 | case2 a t b u v rest ih=>
  show (if a==pos'.line&&b==pos'.col then some v else codeAmong pos' (rest++_))=(if a==pos'.line&&b==pos'.col then some v else codeAmong pos' rest)
  rw [ih h]
 | case3=>exact h.elim
section
variable {G:aK} {A:Around} {env:Env} {ρ:aX} {σ:am} {L:Addr} {B:PB} {s:Shared} {c P:Addr} {ps:Array Value} {E:Value->Shared->Prop}
inductive jw (σ σ':am) (P:Addr) (ps:Array Value) (pos:Pos) (q:Str) (c':Addr):Prop
 | mk (ps':Array Value) (oc:Obj) (hP:σ' P=some (.raw (bT ps'))) (tr:TriplesOk ps'.toList) (here:codeAmong pos ps'.toList=some (.ref c')) (hc:σ' c'=some (.raw oc)) (is:ml q oc) (cP:c'≠P) (ext:∀ a x,a≠P->σ a=some x->σ' a=some x)
   (other:∀ pos':Pos,(pos'.line≠pos.line\/pos'.col≠pos.col)->codeAmong pos' ps'.toList=codeAmong pos' ps.toList):jw σ σ' P ps pos q c'
inductive dF (σ:am) (P:Addr) (ps:Array Value) (pos:Pos) (q:Str):Prop
 | new (h:codeAmong pos ps.toList=none):dF σ P ps pos q
 | old (c':Addr) (oc:Obj) (h:codeAmong pos ps.toList=some (.ref c')) (hc:σ c'=some (.raw oc)) (is:ml q oc) (cP:c'≠P):dF σ P ps pos q
theorem dF.step {σ':am} {pos pos':Pos} {q q':Str} {c':Addr} (x:dF σ P ps pos' q') (k:jw σ σ' P ps pos q c') (hne:pos'.line≠pos.line\/pos'.col≠pos.col):∀ {ps':Array Value},σ' P=some (.raw (bT ps'))->dF σ' P ps' pos' q':=by
 intro ps'' e
 cases k with | mk ps' oc hP tr here hc is cP ext other=>
 rw [hP] at e;cases e
 cases x with
 | new h=>exact .new ((other _ hne).trans h)
 | old c1 oc1 h hc1 is1 cP1=>exact .old c1 oc1 ((other _ hne).trans h) (ext _ _ cP1 hc1) is1 cP1
theorem St.isCode (st:St G L B ρ σ s) (hc:fe G.K c P) (hP:σ P=some (.raw (bT ps))) (tr:TriplesOk ps.toList) (hcP:c≠P):s.heap.IsCode c P ps/\s.heap.TableAt c P ps:=by
 intros G ρ σ L B s c P ps
 intro st hc hP tr hcP
 cases hc with | mk vs dd sl file tf tg tt flags text inF h h11 h18 h7 h9 h10=>
 obtain ⟨o,ho,rfl⟩:=st.get hP
 have g:∀ {i:Nat} {v:Value},vs[i]?=some v->vs.getD i .none=v:=fun e=>by rw [Array.getD_eq_getD_getElem?,e];rfl
 exact ⟨⟨_,vs,file,tf,flags,tg,inF,text,tt,_,st.K _ _ h,rfl,g h11,g h18,g h7,g h9,g h10,ho,rfl,tr,hcP⟩,⟨_,vs,st.K _ _ h,rfl,rfl,h11⟩,ho⟩
theorem B5 {pos:Pos} {fl:Nat} {name q:Str} {p:Arguments} {scope:Scope} {body:FuncBody} (st:St G L B ρ σ s) (hcode:env.code = .ref c) (hc:fe G.K c P) (hP:σ P=some (.raw (bT ps))) (tr:TriplesOk ps.toList) (hcP:c≠P) (pl:dF σ P ps pos q)
  {Q:Value->Shared->Prop} (k:∀ c' σ' s',St G L B ρ σ' s'->jw σ σ' P ps pos q c'->Q (.ref c') s'):wpAny (model G.prog G.w) A (functionCode env pos fl name q p scope body) Q E s:=by
 have ic:=st.isCode hc hP tr hcP
 cases pl with
 | old c' oc h hc' is cP=>exact wpAny_functionCode_hit hcode ic.1 h (k _ _ _ st ⟨ps,oc,hP,tr,h,hc',is,cP,fun _ _ _ e=>e,fun _ _=>rfl⟩)
 | new h=>
  refine wpAny_functionCodeX hcode ic.1 ic.2 h fun c' h' tk he hge hlt ic' rec' tab' _=>?_;ac_rfl;obtain ⟨c1,oc,vs,t,e,hoc,d,h1⟩:=rec';right
  (injection e with zz;subst zz)
  have nP:c'≠P:=fun e=>by
   have:=st.lt hP
   rw [e] at hge;exact Ji _ (Jd this hge)
  have s1:=(st.drop P).extBut (t:=tk) (by cases st.own _ _ hP with | mk _ _ _ b=>exact b) (am.del_self ..) (st.ne hP) he;have s2:=s1.adopt (x:= .raw (bT (ps++#[rawInt pos.line,rawInt pos.col, .ref c']))) rfl (by cases st.own _ _ hP with | mk _ _ _ b=>exact b) (st.ne hP) (st.two _ _ hP) tab'.2 rfl;have s3:=s2.adopt (a:=c') (x:= .raw oc) rfl (st.freshB hge) (st.bigL hge) (st.big hge) hoc rfl;refine k c' _ _ s3 ⟨_,oc,by rw [am.set_ne _ _ (Ne.symm nP),am.set_self],?_,?_,am.set_self ..,⟨vs,t,d,h1⟩,nP,fun a x ha e=>?_,fun pos' hne=>?_⟩
  ·rw [show (ps++#[rawInt pos.line,rawInt pos.col,Value.ref c']).toList=ps.toList++[rawInt pos.line,rawInt pos.col, .ref c'] by simp];exact TriplesOk_snoc _ _ _ _ tr
  ·rw [show (ps++#[rawInt pos.line,rawInt pos.col,Value.ref c']).toList=ps.toList++[rawInt pos.line,rawInt pos.col, .ref c'] by simp];exact codeAmong_snoc _ tr h
  ·have hne:a≠c':=fun q=>by rw [q,st.fresh hge] at e;injection e
   rw [am.set_ne _ _ hne,am.set_ne _ _ ha,am.del_ne _ ha];exact e
  ·rw [show (ps++#[rawInt pos.line,rawInt pos.col,Value.ref c']).toList=ps.toList++[rawInt pos.line,rawInt pos.col, .ref c'] by simp];exact ir hne _ tr
inductive wB (G:aK) (h:Heap):Prop
 | mk (mg:Str->Option Value) (bm:Addr) (ob:Obj) (n:h.Ns mainGlobals mg) (hbm:mg "__builtins__" = some (.ref bm)) (ne:bm≠builtinsNs) (ho:h.get? bm=some ob) (hc:ob.cls = .type "module") (hd:ob.dict=some builtinsNs) (hp:ob.data = .plain):wB G h
abbrev qx (name q:Str) (args:Arguments) (body:List Stmt) (scope:Scope) (cl:List (Str×Addr)) (pm:Value) (tp c':Addr):FuncData:=
 { name:=name,qualname:=q,params:=args,body:= .stmts body,scope:=scope,globals:=mainGlobals,closure:=cl,defaults:= .none,kwdefaults:= .none,pyModule:=pm,code:= .ref c',closureTuple:= .ref tp,builtins:=builtinsNs }
abbrev dY (fd:FuncData):Obj:={ cls:= .type "function",data:= .func fd }
theorem DM {name q:Str} {args:Arguments} {body:List Stmt} {scope:Scope} {pos:Pos} {fl:Nat} {cl:List (Str×Addr)} (st:St G L B ρ σ s) (hmods:∀ h,G.P h->wB G h) (hg:env.globals=mainGlobals) (hcode:env.code = .ref c) (hc:fe G.K c P) (hP:σ P=some (.raw (bT ps))) (tr:TriplesOk ps.toList) (hcP:c≠P)
  (pl:dF σ P ps pos q) (hcl:closureFor scope env=pure cl) (hne:cl.isEmpty=false) (hdoc:docOf body=none) {Q:Value->Shared->Prop}
  (k:∀ f c' tp pm σ' s',St G L B ρ (σ'.set f (.raw (dY (qx name q args body scope cl pm tp c')))) s'->jw σ σ' P ps pos q c'->σ' f=none->Q (.ref f) s'):
  wpAny (model G.prog G.w) A (makeFunction name q args (.stmts body) scope env [] [] [] pos fl) Q E s:=by
 revert G A env ρ σ L B s c P ps E name q args body scope pos fl cl Q
 injections G A env ρ σ L B s c P ps E name q args body
 injections scope pos fl cl
 intro st hmods hg hcode hc hP tr hcP pl hcl hne hdoc
 injections Q
 intro k;unfold makeFunction;rw [List.zip_nil_right];exists (wpAny_pure ?_);exists (wpAny_pure ?_);exists (wpAny_pure ?_);exists (wpAny_of_eq hcl ?_);refine wpAny_ite_split (fun h=>absurd (hne.symm.trans h) Jg) fun _=>wpAny_bind (wpAny_newTextTuple ?_);have st1:=st.push { cls:= .type "tuple",data:= .seq (List.map (fun x=>Value.ref x.2) (cl.mergeSort fun a b=>decide (a.1.cps.toList<=b.1.cps.toList))).toArray };exists (B5 st1 hcode hc hP tr hcP pl fun c' σ' s' st2 kd=>?_)
 cases hmods _ (st2.base _ st2.keep) with | mk mg bm ob n hbm ne ho hcm hd hp=>
 rw [hg];exists (wpAny_builtinsFor n hbm ne ho hcm hd hp ?_);exists (wpAny_nsGet n ?_);exists (wpAny_of_eq (a:=Value.none) (by rw [hdoc]) ?_);exact wpAny_newObj_type (k _ c' s.heap.objs.size _ σ' _ (st2.alloc (x:= .raw _) rfl rfl rfl) kd (st2.fresh (I4 _))) (by size_fits)
theorem iY {name q:Str} {args:Arguments} {body:List Stmt} {scope:Scope} {pos:Pos} {cl:List (Str×Addr)} {Q:F->aX->am->Prop} (hmods:∀ h,G.P h->wB G h) (hc:fe G.K c P) (hP:σ P=some (.raw (bT ps))) (tr:TriplesOk ps.toList) (hcP:c≠P) (pl:dF σ P ps pos q)
  (hcl:closureFor scope env=pure cl) (hne:cl.isEmpty=false)
  (k:∀ f c' tp pm σ',jw σ σ' P ps pos q c'->σ' f=none->WB G A env name (.ref f) ρ (σ'.set f (.raw (dY (qx name q args body scope cl pm tp c')))) (Q .next))
  (hq:autoParam (qualnameIn env name name=q) TaR) (hg:autoParam (env.globals=mainGlobals) TaR) (hcode:autoParam (env.code = .ref c) TaR) (hdoc:autoParam (docOf body=none) TaR) (hd:autoParam (defaultsOf args env=([],[])) TaR) (ha:autoParam (annTrees args none env=[]) TaR):
  WS G A env (.FunctionDef name args body [] none [] scope none name pos) ρ σ Q:=fun B s st=>by
 rw [exec_def,hd,ha,hq];refine .standAt (wpAny_bind (wpAny_holding ?_));exists (wpAny_pure (wpAny_bind (wpAny_holding (wpAny_pure (wpAny_holding (wpAny_bind (wpAny_pure ?_)))))));refine DM st hmods hg hcode hc hP tr hcP pl hcl hne hdoc fun f c' tp pm σ' s' st' kd hf=>wpAny_bind (wpAny_standAt ?_);exact Wp.bind (R:=qP (α:=Unit)) (Q:=fun _=>Q .next) (wpAny_bindName (k f c' tp pm σ' kd hf B s' _ st' (.ref f))) fun B2 s2 _ _ ρ2 σ2 l₂ st2 _ q=> .pure st2 .next q
end
theorem sk {σ:am} {N x:Addr} {y z:bL} (hN:σ N=none) (hx:σ x=some y):(σ.set N z) x=some y:=(am.set_ne _ _ fun e=>by rw [e,hN] at hx;injection hx).trans hx
theorem aW {σ:am} {x y:Addr} {z:bL} (hx:σ x=some z) (hy:σ y=none):x≠y:=fun e=>by rw [e,hy] at hx;injection hx
abbrev Ex (D:List Addr) (σ σ':am):Prop:=∀ a y,a∉D->σ a=some y->σ' a=some y
section
variable {D D':List Addr} {σ σ' σ'':am}
theorem Ex.refl:Ex D σ σ:=fun _ _ _ e=>e
theorem Ex.trans (e:Ex D σ σ') (e':Ex D σ' σ''):Ex D σ σ'':=fun a y n h=>e' a y n (e a y n h)
theorem Ex.mono (e:Ex D σ σ') (h:∀ a∈D,a∈D'):Ex D' σ σ':=fun a y n x=>e a y (fun m=>n (h a m)) x
theorem Ex.nil (e:Ex [] σ σ'):Ex D σ σ':=e.mono fun _ m=>nomatch m
theorem Ex.at (e:Ex [] σ σ') {a:Addr} {y:bL} (h:σ a=some y):σ' a=some y:=e a y (fun m=>nomatch m) h
theorem Ex.but {d:Addr} (e:Ex [d] σ σ') {a:Addr} {y:bL} (h:σ a=some y) (n:a≠d):σ' a=some y:=e a y (fun m=>n (IN.mp m)) h
theorem Ex.none (e:Ex D σ σ') {N:Addr} (hN:σ' N=none) (h:N∉D):σ N=none:=by
 cases q:σ N with
 | none=>rfl
 | some y=>rw [e N y h q] at hN;injection hN
theorem bj {P:am->Prop} {a:Addr} {x:bL} (hn:σ a=none) (h:∀ σ1,σ1 a=some x->Ex [] σ σ1->P σ1):P (σ.set a x):=h _ (am.set_self ..) fun _ _ _ e=>sk hn e
theorem aZ {P:am->Prop} {a:Addr} {x:bL} (h:∀ σ1,σ1 a=some x->Ex [a] σ σ1->P σ1):P (σ.set a x):=h _ (am.set_self ..) fun b y n e=>(am.set_ne _ _ fun q=>n (by rw [q];exact .head _)).trans e
end
section
variable {G:aK} {A:Around} {env:Env} {ρ:aX} {σ:am} {L:Addr}
theorem kz {p C dp:Addr} {od:Obj} {name:Str} {v:V} {val:Value} {Q:V->am->Prop} (hp:G.K.lookup p=some (instObj C dp)) (hdp:G.K.lookup dp=some od) (ho:findObj G.K C (some od) name=some (.value val)) (hv:∀ B,VR B v val) (hh:handedIn val=true) (h:Q v σ)
  (hga:findIn G.K (.ref C) "__getattribute__" = some (some (.builtin "object.__getattribute__"))):vh G A L (.ref p) name ρ σ Q:=fun B s ov expr st r=>by
 obtain rfl:=r.refE;exact get_value st.K ⟨st.K _ _ hp,rfl,rfl,st.K _ _ hdp⟩ hga ho hh ⟨B,v,σ, .refl B,st.toks _,hv B,h⟩
theorem Di {p C dp:Addr} {od:Obj} {name:Str} {v:V} {val:Value} {Q:V->List V->am->Prop} (hp:G.K.lookup p=some (instObj C dp)) (hdp:G.K.lookup dp=some od) (ho:findObj G.K C (some od) name=some (.value val)) (hv:∀ B,VR B v val) (hh:handedIn val=true) (h:Q v [] σ)
  (hga:findIn G.K (.ref C) "__getattribute__" = some (some (.builtin "object.__getattribute__"))) (hk:findIn G.K (.ref C) "__getattr__" = some none) (hf:findIn G.K (.ref C) name=some none):WM G A L (.ref p) name ρ σ Q:=fun B s ov pl st r=>by
 obtain rfl:=r.refE;have I:InstAt s.heap p (instObj C dp) C (some od):=⟨st.K _ _ hp,rfl,rfl,st.K _ _ hdp⟩;exact method_usual st.K I hga hk hf rfl (get_value st.K I hga ho hh ⟨B,(v,[]),σ, .refl B,st.toks _,⟨hv B, .nil⟩,h⟩)
abbrev kZ (G:aK) (σ:am) (a:Addr):Prop:=∀ L B ρ s,St G L B ρ σ s->∃ o,s.heap.get? a=some o/\o.cls≠ .type "tuple"
theorem kZ.K {a:Addr} {o:Obj} (h:G.K.lookup a=some o) (hc:o.cls≠ .type "tuple"):kZ G σ a:=fun L B ρ s st=>⟨o,st.K _ _ h,hc⟩
theorem pu {a b:Addr} {Q:V->am->Prop} (ha:kZ G σ a) (hb:kZ G σ b) (h:Q (.bool (decide (a=b))) σ):WO G A L (dA .Is) [.ref a, .ref b] ρ σ Q:= .two fun B s x y st r1 r2=>by
 obtain rfl:=r1.refE;obtain rfl:=r2.refE
 by_cases e:a=b
 ·subst e;rw [I5 rfl] at h;exact wpAny_is_ref_self ⟨B,_,σ, .refl B,st, .bool _,h⟩
 ·rw [decide_eq_false e] at h;ac_rfl;obtain ⟨oa,hz0⟩:=ha _ _ _ _ st;obtain ⟨ob,hz1⟩:=hb _ _ _ _ st;right
  show wpAny _ _ (do return Value.bool (<- isSame (.ref a) (.ref b))) (ip G L VR ρ Q B) jH s
  exact wpAny_bind (wpAny_isSame_ref_other e hz0.1 hz1.1 hz0.2 (wpAny_pure ⟨B,_,σ, .refl B,st, .bool _,h⟩))
end
section
variable {G:aK} {A:Around} {env:Env} {ρ:aX} {σ:am}
theorem iR {l:List Stmt} {Q:F->aX->am->Prop} (h:∀ Q':F->aX->am->Prop,(∀ f ρ σ,Q f ρ σ->Q' f ρ σ)->WL G A env l ρ σ Q'):WL G A env l ρ σ Q:=h Q fun _ _ _ h=>h
theorem mO {l:Stmt} {Q:F->aX->am->Prop} (h:∀ Q':F->aX->am->Prop,(∀ f ρ σ,Q f ρ σ->Q' f ρ σ)->WS G A env l ρ σ Q'):WS G A env l ρ σ Q:=h Q fun _ _ _ h=>h
theorem lV.mono {t:Expr} {v:V} {Q Q':aX->am->Prop} (h:lV G A env t v ρ σ Q) (k:∀ ρ' σ',Q ρ' σ'->Q' ρ' σ'):lV G A env t v ρ σ Q':=fun B s val st r=>(h B s val st r).mono fun _ ρ' σ'=>k ρ' σ'
theorem cD {C:am->Prop} {tgt:Expr} {body orelse:List Stmt} {Q:F->aX->am->Prop} (Iv:List V->aX->am->Prop)
  (turn:∀ x xs ρ σ,Iv (x::xs) ρ σ->lV G A env tgt x ρ σ fun ρ1 σ1=>WL G A env body ρ1 σ1 (Lp (fun ρ2 σ2=>C σ2/\Iv xs ρ2 σ2) Q))
  (fin:∀ ρ σ,Iv [] ρ σ->WL G A env orelse ρ σ Q) (xs:List V):∀ {ρ:aX} {σ:am},Iv xs ρ σ->zp G A env C tgt body orelse Q xs ρ σ:=by
 induction xs with
 | nil=>exact fun h=>fin _ _ h
 | cons x xs ih=>
  intro ρ σ h;refine (turn x xs ρ σ h).mono fun ρ1 σ1 h1=>h1.mono fun f ρ2 σ2 h2=>?_
  cases f with
  | next=>exact ⟨h2.1,ih h2.2⟩
  | cont=>exact ⟨h2.1,ih h2.2⟩
  | brk=>exact h2
  | ret v=>exact h2
end
section
variable {G:aK} {A:Around} {σ:am} {l:Addr}
theorem xL {B:PB} {ns:List Int}:∀ {vs:List Value},VRs B (aB ns) vs->∃ xs:List (Int×Tok),vs=xs.map (fun p=>Value.int p.1 p.2)/\xs.map (·.1)=ns:=by
 induction ns with
 | nil=>intro vs r;cases r;exact ⟨[],rfl,rfl⟩
 | cons n ns ih=>
  intro vs r;obtain ⟨x,ys,rfl,a,b⟩:=VRs.uncons r;obtain ⟨t,rfl⟩:=a.intE;obtain ⟨xs,rfl,rfl⟩:=ih b;exact ⟨(n,t)::xs,rfl,rfl⟩
theorem lI (ns:List Int) (f:Nat->Int) (hf:∀ i,i<ns.length->f i=ns.getD i 0):∀ k,k<=ns.length->preSum f k=(ns.take k).sum:=by
 intro k
 induction k with
 | zero=>intro _;dsimp only [List.take_zero];rfl
 | succ k ih=>
  intro h;rw [List.take_add_one];show preSum f k+f k=_;rw [ih (Nat.le_of_lt h),hf k h,List.sum_append];rw [List.getD_eq_getElem?_getD,IX h]
  simp
theorem vZ {ns:List Int} (hb:∀ n∈ns,0<=n/\n<1000):0<=ns.sum/\ns.sum<=1000*ns.length:=by
 induction ns with
 | nil=>exact ⟨Int.le_refl _,Int.le_refl _⟩
 | cons n ns ih=>
  have:=hb n (.head _)
  have:=ih fun m h=>hb m (.tail _ h)
  dsimp only [List.sum_cons,List.length_cons];lia
theorem Br (hh:A.handled=none) {ns:List Int} {Q:V->am->Prop} (hl:bE σ l (aB ns)) (hb:∀ n∈ns,0<=n/\n<1000) (hz:ns.length<100) (h:Q (.int ns.sum) σ):WC G A (.bi "sum") [.ref l] [] σ Q:= .bi1 fun L B ρ s x st r1=>by
 obtain rfl:=r1.refE;ac_rfl
 cases st.lst hl with | mk vs ep e r=>
 obtain ⟨xs,hx,hn⟩:=xL r;right
 have hv:vs=intItems xs.toArray:=by
  apply Array.toList_inj.mp;rw [hx];simp [intItems]
 subst hv
 have hsz:xs.toArray.size=ns.length:=by rw [<- hn];simp
 have hf:∀ i,i<ns.length->numAt xs.toArray i=ns.getD i 0:=fun i hi=>by
  subst hn;unfold numAt;rw [IP] at hi;simp [List.getD_eq_getElem?_getD,hi]
 refine sum_intList hh (bg e) (fun j hj=>?_) fun h' tk t' hk=>?_
 ·rw [hsz] at hj;rw [hf j hj,lI ns _ hf (j+1) hj]
  have h1:ns.getD j 0∈ns:=by
   rw [List.getD_eq_getElem?_getD,IX hj];exact List.getElem_mem hj
  have h2:=hb _ h1;have h3:=vZ (ns:=ns.take (j+1)) fun n m=>hb n (List.mem_of_mem_take m);have h4:(ns.take (j+1)).length<=ns.length:=List.length_take_le' ..;unfold InLong;lia
 ·rw [hsz,lI ns _ hf ns.length (I4 _),List.take_length];exact ⟨B, .int ns.sum,σ, .refl B,st.quiet (s':={ s with heap:=h',toks:=tk }) hk rfl rfl, .int _ _,h⟩
end
set_option maxHeartbeats 4000000
abbrev A0:OpenLaw:={ prog:=qD,name:=yR,about:=[yZ,ui],foot:=7,most:=some 63,bound:=none,writes:=false }
theorem BZ:PySem.Challenge.rw_au0018_08=A0:=by kernel_rfl
theorem DF:A0.wellSaid=true:=by
 have h:PySem.W.Fast.tw9446332074065402090 A0=true:=by kernel_rfl
 rw [<- PySem.W.Fast.te9446332074065402090] at h;exact h
abbrev lZ:DefRec:=⟨yR,AY (ub 15 none),kD (ub 15 none),uW (ub 15 none),match ub 15 none with | .FunctionDef _ _ _ _ _ _ _ _ _ p=>p | _=>default⟩
theorem Dz:defOf q0 yR=some (lZ,[]):=by kernel_rfl
theorem DB:qD.theDef yR=some (lZ.params,lZ.body,lZ.scope):=by kernel_rfl
theorem FH:kwWritten? lZ.params.kwonlyargs lZ.params.kw_defaults=some []:=by kernel_rfl
theorem FI:(chainsOk q0&&opensWell qD&&(frees A0.row.toRowW&&A0.row.toRowW.within.isEmpty))=true:=by kernel_rfl
theorem BM:qD.bare:=⟨by kernel_rfl,by kernel_rfl,by kernel_rfl,by kernel_rfl,by kernel_rfl,by kernel_rfl⟩
theorem DA:∀ P,DC=(K P).map (·.1):=fun P=>by kernel_rfl
theorem BN:A0.row.toRowW.promised:=⟨[.list []],by kernel_rfl,by kernel_rfl⟩
theorem Ad (call:uy q0 tP (fun _ _=>True) (InK K) A0.row.toRowW lZ []):PySem.Challenge.rw_au0018_08.Holds:=by
 rw [BZ]
 exact holds_law DF fun said=>Ae (r:=A0.row) (Al DK) (fun w s y=>InK.of DA w s y) InK.keeps (fun _ _=>trivial) (fun _ _ _ _ _=>trivial)
  Dz DB FH (fun s _=>recFacts_of (⋯)) (⋯) said FI BM BN call
instance iL:Nonempty OpenLaw:=⟨PySem.Challenge.rw_au0018_08⟩
instance iP:Nonempty Program:=⟨qD⟩
instance iDr:Nonempty DefRec:=⟨lZ⟩
inductive AH (mg:Str->Option Value) (h:Heap):Prop
 | mk (bm:Addr) (ob:Obj) (hbm:mg "__builtins__" = some (.ref bm)) (ne:bm≠builtinsNs) (ho:h.get? bm=some ob) (hc:ob.cls = .type "module") (hd:ob.dict=some builtinsNs) (hp:ob.data = .plain):AH mg h
abbrev qo (p:Program) (w:World) (K:Frag) (mg mb:Str->Option Value) (os:OsState):aK where
 prog:=p
 w:=w
 P h:=K.In h/\h.NoLimit/\h.Ns mainGlobals mg/\h.Ns builtinsNs mb/\1<h.objs.size/\(∀ n:Str,n≠ "__name__" ->mb n=bootBuiltins n)/\AH mg h
 os:=os
 K:=K
 PK h x:=x.1
 lim h x:=x.2.1
 two h x:=x.2.2.2.2.1
theorem tR {K:Frag} {a:Addr} {o:Obj} (e:K.lookup a=some o):∃ o',(a,o')∈K:=by
 induction K with
 | nil=>injection e
 | cons p K ih=>
  obtain ⟨b,o'⟩:=p;rw [List.lookup_cons] at e
  cases h:a==b with
  | true=>exact ⟨o',Jj.mp h▸ .head _⟩
  | false=>rw [h] at e;obtain ⟨o'',m⟩:=ih e;exact ⟨o'', .tail _ m⟩
theorem tN {K:Frag} {q:Addr×Obj} (m:q∈K):∃ o,K.lookup q.1=some o:=by
 induction K with
 | nil=>cases m
 | cons p K ih=>
  obtain ⟨b,o'⟩:=p;dsimp only [List.lookup_cons]
  cases h:q.1==b with
  | true=>exact ⟨o',rfl⟩
  | false=>exact ih ((IZ.mp m).resolve_left fun e=>by rw [e] at h;simp at h)
theorem vC {p:Program} {w:World} {K:Frag} {mg mb:Str->Option Value} {os:OsState} {h h':Heap} (x:(qo p w K mg mb os).P h) (k0:h'.get? builtinsNs=h.get? builtinsNs) (k2:h'.get? cStatics=h.get? cStatics) (k3:h'.get? mainGlobals=h.get? mainGlobals)
  (kb:∀ a o,h.get? a=some o->o.cls = .type "module" ->h'.get? a=some o) (k:∀ q∈K,h'.get? q.1=h.get? q.1):(qo p w K mg mb os).P h':=by
 intros p w K mg mb os h h'
 intro x k0 k2 k3 kb k;have ns:∀ {a:Addr} {m:Str->Option Value},h.Ns a m->h'.get? a=h.get? a->h'.Ns a m:=fun n e=>(by obtain ⟨o,es,ep,ho,r⟩:=n;exact ⟨o,es,ep,e.trans ho,r⟩);ac_rfl;obtain ⟨x1,⟨mc,n,e⟩,x3,x4,x5,x6,⟨bm,ob,hbm,ne,ho,hc,hd,hp⟩⟩:=x;right;refine ⟨fun a o e=>?_,⟨mc,ns n k2,e⟩,ns x3 k3,ns x4 k0,?_,x6,⟨bm,ob,hbm,ne,kb _ _ ho hc,hc,hd,hp⟩⟩
 ·obtain ⟨b,hm⟩:=tR e;exact (k _ hm).trans (x1 a o e)
 ·obtain ⟨_,_,_,ho,_⟩:=ns n k2;exact Nat.lt_trans (by decide) (I9 ho)
abbrev gb:Option WData->Bool | some (.bool true)=>true | _=>false
theorem BQ (xs:List WData):WTm.holds [] (.and (.not (.lt (.lit (.int (63:Nat))) (.len (.arg 0)))) (.lit (.bool true))) { args:=[.list xs] }=gb (match !decide ((63:Int)<(xs.length:Nat)) with | false=>some (.bool false) | true=>some (.bool true)):=by kernel_rfl
theorem xT {l:OpenLaw} (hm:l.most=some 63) (hb:l.bound=none) {args:List WData} (h:l.row.toRowW.claim.pre args=true):∃ ns:List Int,args=[.list (ns.map .int)]/\ns.length<=63:=by
 revert l args
 injections l
 intro hm hb
 injections args
 intro h;ac_rfl;have hz4:=pre_splitW h;obtain ⟨d,r,rfl,h3,h4⟩:=hasAllW_cons (show WShape.hasAll [] args [.list .int]=true from hz4.1);obtain ⟨xs,rfl,h5⟩:=hasW_list h3;right;obtain ⟨ns,rfl⟩:=items_int h5
 have h6:r=[]:=by
  cases r with
  | nil=>rfl
  | cons a b=>exact absurd (show false=true from h4) Jg
 subst h6;refine ⟨ns,rfl,?_⟩;have h7:(OpenLaw.pre l).holds [] { args:=[.list (ns.map .int)] }=true:=hz4.2;unfold OpenLaw.pre at h7;rw [hm,hb] at h7
 by_cases hn:ns.length<=63
 ·exact hn
 ·have h8:decide ((63:Int)<((ns.map WData.int).length:Nat))=true:=I5 (by rw [IP];lia);have h9:=(BQ _).symm.trans h7;rw [h8] at h9;injection h9
theorem FR.val {B:PB} {f:F} {fl:Flow} (h:FR B f fl) (e:jF f = .bool true):l9 fl = .bool true:=by
 cases h with
 | ret r=>
  obtain rfl:=(e:_=V.bool true);rw [r.boolE]
 | next=>injection e
 | brk=>injection e
 | cont=>injection e
abbrev gV (d:DefRec) (pm cd doc:Value):FuncData:={ docDef d.name d.params d.body d.scope pm cd doc with defaults:= .none,kwdefaults:= .none }
abbrev BO (ts:List Addr) (fl:F) (σ:am):Prop:=jF fl = .bool true/\∀ t∈ts,∃ vs,σ t=some (.raw (bT vs))
abbrev l5 (prog:Program) (K:Params->Frag) (d:DefRec) (x:Str) (ts:List Addr):Prop:=
 ∀ (w:World) (mg mb:Str->Option Value) (os:OsState) (a L lv:Addr) (pm cd doc:Value) (script:List Int) (σ:am),σ lv=some (.flist (aB script))->(∀ t∈ts,σ t=some (.raw (bT #[])))->script.length<=63->σ L=none->
  cM L d.scope.names [] σ fun cells σ₁=>iM (qo prog w (K w.params) mg mb os) callerA.in1 (aR (gV d pm cd doc) a L cells) [(x, .ref lv)] (fun _=>none) σ₁ fun ρ₂ σ₂=>
   jU (qo prog w (K w.params) mg mb os) (callerA.deeper (aR (gV d pm cd doc) a L cells)) (aR (gV d pm cd doc) a L cells) d.body ρ₂ σ₂ fun fl _ σ'=>BO ts fl σ'
theorem v6 {B:PB} {ns:List Int}:∀ {vs:List Value} {P:Params} {h:Heap},WellAll P h vs (ns.map .int)->VRs B (aB ns) vs:=by
 induction ns with
 | nil=>intro vs P h x;cases x;exact .nil
 | cons n ns ih=>
  intro vs P h x;obtain ⟨v,vs',rfl,a,b⟩:=wellAll_cons_inv x;cases a;exact .cons (.int _ _) (ih b)
theorem vQ {l:OpenLaw} {args ds:List WData}:l.row.toRowW.claim.post args (.bool true) ds=true:=by
 show (WShape.has [] (.bool true) .bool&&WTm.holds [] (.eq .res (.lit (.bool true))) { args:=args,res:=some (.bool true),after:=ds })=true
 kernel_rfl
set_option tactic.hygienic true in
theorem start {l:OpenLaw} (hm:l.most=some 63) (hb:l.bound=none) {q:Program} {loose:List Str} {K Kt:Params->Frag} {d:DefRec} {x:Str} {ts:List Addr}
  (hdf0:d.params.defaults=[]) (hbind:∀ pm cd doc v,bindArgs (gV d pm cd doc) ⟨[v],[]⟩=pure [(x,v)]) (hco:d.scope.isCoroutine=false) (hgen:d.scope.isGenerator=false)
  (hK:∀ w h,InK Kt w h->(K w.params).In h/\∀ t∈ts,h.get? t=some (bT #[])/\isCodeTable h t) (hts:∀ t∈ts,t≠builtinsNs/\t≠cStatics/\t≠mainGlobals/\t≠1/\∀ w:World,∀ p∈K w.params,p.1≠t)
  (walk:l5 l.prog K d x ts):uy q loose (fun _ _=>True) (InK Kt) l.row.toRowW d []:=by
 revert l q loose K Kt d x ts
 injections l
 intro hm hb
 injections q loose K Kt
 injections d x
 injections ts
 intro hdf0 hbind hco hgen hK hts walk;unfold uy
 injections w s0 s1 mg
 injections mb
 intro GG Y
 injections a o pm cd
 injections doc dV
 injections kV
 intro ho hod hcd hdf hmg hgz
 injections args vals
 injections as
 intro hpre hlay hrd hwell hsys;obtain ⟨ns,rfl,hlen⟩:=xT hm hb hpre;obtain rfl:=hdf.none hdf0;obtain rfl:=hdf.noKw;obtain ⟨v,vs',rfl,w1,w2⟩:=wellAll_cons_inv hwell;cases w2
 cases w1 with | list hl hall=>
 rename_i lv items;obtain ⟨kin,ktab⟩:=hK w s1.heap Y;have P0:(qo l.prog w (K w.params) mg mb s1.os).P s1.heap:=⟨kin,GG.T.nolimit,GG.T.g,GG.T.b,(by obtain ⟨_,⟨_,_,_,h2,_⟩,_⟩:=GG.T.nolimit;exact Nat.lt_trans (by decide) (I9 h2)),GG.T.builtins,(by obtain ⟨bm,ob,q1,q2,q3,q4,q5,q6⟩:=GG.T.bmain;exact ⟨bm,ob,q1,q2,q3,q4,q5,q6⟩)⟩;have hT:∀ t∈ts,s1.heap.get? t=some (bT #[]):=fun t m=>(ktab t m).1
 have nlv:lv∉ts:=fun m=>by rw [hT lv m] at hl;cases hl
 let L:=s1.heap.objs.size
 let B:PB:=⟨fun b=>if b∈ts then none else s1.heap.get? b,fun _=>none⟩
 let σ:am:=fun b=>if b∈ts then some (.raw (bT #[])) else if b=lv then some (.flist (aB ns)) else none
 have σt:∀ t∈ts,σ t=some (.raw (bT #[])):=fun t m=>if_pos m;have σl:σ lv=some (.flist (aB ns)):=(if_neg nlv).trans (if_pos rfl)
 have Bo:∀ b o,B.o b=some o->b∉ts/\s1.heap.get? b=some o:=fun b o e=>by
  by_cases m:b∈ts
  ·rw [show B.o b=none from if_pos m] at e;injection e
  ·exact ⟨m,(if_neg m).symm.trans e⟩
 have oB:∀ b,b∉ts->B.o b=s1.heap.get? b:=fun b m=>if_neg m
 have LB:B.o L=none:=by
  cases e:B.o L with
  | none=>rfl
  | some o=>exact absurd (I9 (Bo _ _ e).2) (Ji _)
 have Lt:L∉ts:=fun m=>Ji _ (I9 (hT L m));have Ll:L≠lv:=fun e=>Ji L (by have:=I9 hl;rw [<- e] at this;exact this);have σL:σ L=none:=(if_neg Lt).trans (if_neg Ll)
 have back:∀ {h':Heap},(∀ b o,B.o b=some o->h'.get? b=some o)->(qo l.prog w (K w.params) mg mb s1.os).P h':=fun {h'} k=>by
  have at_: ∀ {b:Addr} {o:Obj},b∉ts->s1.heap.get? b=some o->h'.get? b=s1.heap.get? b:=fun m e=>(k _ _ ((oB _ m).trans e)).trans e.symm;ac_rfl;obtain ⟨_,⟨_,_,_,h2,_⟩,_⟩:=GG.T.nolimit;ac_rfl;obtain ⟨_,_,_,h3,_⟩:=GG.T.g;obtain ⟨_,_,_,h0,_⟩:=GG.T.b;right;right;refine vC P0 (at_ (fun m=>(hts _ m).1 rfl) h0) (at_ (fun m=>(hts _ m).2.1 rfl) h2) (at_ (fun m=>(hts _ m).2.2.1 rfl) h3) (fun a o e hc=>k _ _ ((oB _ fun m=>by rw [hT a m] at e;obtain rfl:=Option.some.inj e;injection hc).trans e)) fun p m=>?_;obtain ⟨o,e⟩:=tN m;exact at_ (fun m'=>(hts _ m').2.2.2.2 w p m rfl) (kin _ _ e)
 have st:∀ s,s={ s1 with heap:=s1.heap.push { cls:= .type "frame",data:= .dict #[] } }->St (qo l.prog w (K w.params) mg mb s1.os) L B (fun _=>none) σ s:=fun s e=>by
  subst e;refine ⟨fun h k=>back k,fun b o e=>I8 _ (Bo b o e).2,(fun _ _ e=>nomatch e),fun b x e=>?_,⟨fun _=>none,Heap.Ns.new s1.heap _,fun _=> .none⟩,LB,σL,rfl,?_,fun b x e q=>?_⟩
  ·by_cases m:b∈ts
   ·rw [σt b m] at e;obtain rfl:=Option.some.inj e;exact ⟨_,I8 _ (hT b m),rfl,if_pos m⟩
   ·rw [show σ b=if b=lv then some (.flist (aB ns)) else none from if_neg m] at e
    by_cases q:b=lv
    ·rw [if_pos q] at e;obtain rfl:=Option.some.inj e;subst q;exact ⟨_,I8 _ hl,⟨items.toArray,0,rfl,v6 hall⟩,(oB _ nlv).trans hl⟩
    ·rw [if_neg q] at e;injection e
  ·show AllBare s1.gens;rw [hgz];exact AllBare.empty
  ·by_cases m:b∈ts
   ·exact (hts b m).2.2.2.1 q
   ·rw [show σ b=if b=lv then some (.flist (aB ns)) else none from if_neg m] at e
    by_cases q':b=lv
    ·subst q'
     cases hrd with | cons r1 r2=>
     cases r1
     have:=hsys b (by simp)
     rw [q] at this;injection this
    ·rw [if_neg q'] at e;injection e
 refine oo (i0 (by decide) ho hod hco hgen rfl hcd (gI ((BindsTo.of_eq (hbind pm cd doc (.ref lv))) _ _ _ _ ?_)));refine gI ?_;show wpAny _ _ (newFunctionEnv (gV d pm cd doc).scope (gV d pm cd doc).globals (gV d pm cd doc).closure [(x,Value.ref lv)] ((gV d pm cd doc).qualname ++ ".<locals>.") (some a) (gV d pm cd doc).code none (gV d pm cd doc).builtins) _ _ _;unfold newFunctionEnv;dsimp only [Option.isSome_none,Bool.false_eq_true,if_false];exists (wpAny_alloc ?_)
 exists (yy _ (fun n k cells=>by cases hkc:k==NameKind.cell <;> simp) _ _ _ _ (walk w mg mb s1.os a L lv pm cd doc ns σ σl σt hlen σL) (st _ rfl) fun cells σ2 s2 h₂ st2=>?_)
 show wpAny _ _ (forIn [(x,Value.ref lv)] PUnit.unit _>>=fun _=>pure (aR (gV d pm cd doc) a L cells)) _ _ _;exists (wpAny_mono (yv (G:=qo l.prog w (K w.params) mg mb s1.os) (env:=aR (gV d pm cd doc) a L cells) _ (fun _ _ _=>rfl) (.cons (.ref lv) .nil) B _ _ _ (.refl B) h₂ st2 fun B3 ρ3 σ3 s3 l3 h₃ st3=>wpAny_pure ⟨st3.lim,m4 ((h₃ B3 s3 st3).to fun B4 s4 fl fl' ρ4 σ4 l₄ st4 r4 q=>?_)⟩) (fun _ _ q=>q) fun _ _ e=>False.elim e);have rv:l9 fl = .bool true:=r4.val q.1;have l4:=l3.trans l₄;show GoodWG _ _ _ _ _ (.ok (.ret (l9 fl))) _;rw [rv];refine ⟨.inl ⟨_, .bool true,[],rfl,fun _=>rfl, .bool true,?_,fun _=>⟨List.nodup_nil,fun _ m=>nomatch m⟩⟩,⟨fun b o e=>?_,fun b o e=>?_⟩,st4.os,st4.bare⟩
 ·exact vQ
 ·by_cases m:b∈ts
  ·obtain ⟨vs,e'⟩:=q.2 b m;obtain ⟨o',g,rfl⟩:=st4.get e';rw [hT b m] at e;obtain rfl:=Option.some.inj e;exact .inr (.inl ⟨(ktab b m).2,rfl, #[],vs,rfl,by rw [g];simp [bT]⟩)
  ·exact .inl (st4.keep _ _ (l4.1 _ _ ((oB b m).trans e)))
 ·by_cases m:b∈ts
  ·obtain ⟨vs,e'⟩:=q.2 b m;obtain ⟨o',g,rfl⟩:=st4.get e';exact ⟨_,g⟩
  ·exact ⟨o,st4.keep _ _ (l4.1 _ _ ((oB b m).trans e))⟩
theorem lJ:∀ {K:Frag} {n:Nat} {a:Addr} {o:Obj},List.lookup a (K.take n)=some o->K.lookup a=some o
 | [],_,_,_,e=>by rw [List.take_nil] at e;exact e
 | (b,o')::K,0,a,o,e=>nomatch e
 | (b,o')::K,n+1,a,o,e=>by
  rw [List.take_succ_cons,List.lookup_cons] at e;dsimp only [List.lookup_cons]
  cases h:a==b with
  | true=>rw [h] at e;exact e
  | false=>rw [h] at e;exact lJ e
abbrev K8 (P:Params):Frag:=(K P).take 103
theorem Dy {w:World} {h:Heap} (x:InK K w h):(K8 w.params).In h:=fun a o e=>x a o (lJ e)
theorem sU {h:Heap} {w:World} (x:InK K w h) {c t:Addr} {vs:Array Value} {d sl} (e:(K w.params).lookup c=some ⟨.type "code",d, .fields vs,sl⟩) (e':vs[11]?=some (.ref t)):isCodeTable h t:=
 ⟨c,_,vs,x _ _ e,rfl,rfl,e'⟩
abbrev qh (K:Frag) (c:Addr):Array Value:=match K.lookup c with | some ⟨_,_, .fields vs,_⟩=>vs | _=> #[]
theorem DI {w:World} {h:Heap} (x:InK K w h):∀ t∈([419,460]:List Addr),h.get? t=some (bT #[])/\isCodeTable h t:=fun t m=>by
 have h1:(K w.params).lookup 419=some (bT #[]):=by kernel_rfl
 have h2:(K w.params).lookup 460=some (bT #[]):=by kernel_rfl
 have e1:(K w.params).lookup 421=some ⟨.type "code",none, .fields (qh (K w.params) 421), #[]⟩:=by kernel_rfl
 have e1':(qh (K w.params) 421)[11]?=some (.ref 419):=by kernel_rfl
 have e2:(K w.params).lookup 464=some ⟨.type "code",none, .fields (qh (K w.params) 464), #[]⟩:=by kernel_rfl
 have e2':(qh (K w.params) 464)[11]?=some (.ref 460):=by kernel_rfl
 rcases IZ.mp m with rfl | m
 ·exact ⟨x _ _ h1,sU x e1 e1'⟩
 ·rcases IZ.mp m with rfl | m
  ·exact ⟨x _ _ h2,sU x e2 e2'⟩
  ·cases m
theorem uR {w:World} {t:Addr} (ht:(DC.take 103).contains t=false):∀ p∈K8 w.params,p.1≠t:=fun p m e=>by
 have h1:(K8 w.params).map (·.1)=DC.take 103:=by kernel_rfl
 have h2:p.1∈DC.take 103:=h1▸IR m;rw [e] at h2;rw [List.contains_iff_mem.mpr h2] at ht;injection ht
theorem FJ (walk:l5 qD K8 lZ ET [419,460]):PySem.Challenge.rw_au0018_08.Holds:=
 Ad (start rfl rfl (⋯) (fun _ _ _ _=>by kernel_rfl) (⋯) (⋯) (fun w h x=>⟨Dy x,DI x⟩) (fun t m=>by
  rcases IZ.mp m with rfl | m
  ·exact ⟨by decide,by decide,by decide,by decide,fun w=>uR (⋯)⟩
  ·rcases IZ.mp m with rfl | m
   ·exact ⟨by decide,by decide,by decide,by decide,fun w=>uR (⋯)⟩
   ·cases m) walk)
structure Rm (n:Nat) (A:Around):Prop where
 hh:A.handled=none
 hd:A.depth+n<=1000
 hu:A.units+10*n<=9800
theorem Rm.room {n:Nat} {A:Around} (r:Rm (n+1) A):A.depth<recursionLimit:=by have:=r.hd;show A.depth<1000;exact zD this
theorem Rm.deeper {n:Nat} {A:Around} {env:Env} (r:Rm (n+1) A):Rm n (A.deeper env):=⟨r.hh,by have:=r.hd;show A.depth+1+n<=1000;exact Ga this rfl,by have:=r.hu;show A.units+3+10*n<=9800;exact Gc this rfl⟩
theorem Rm.in1 {n:Nat} {A:Around} (r:Rm (n+1) A):Rm n A.in1:=⟨r.hh,by have:=r.hd;show A.depth+n<=1000;exact rF this rfl,by have:=r.hu;show A.units+1+10*n<=9800;exact Gc this rfl⟩
theorem Rm.of {n m:Nat} {A A':Around} (r:Rm n A) (h:A'.handled=A.handled) (d:A'.depth+m<=A.depth+n) (u:A'.units+10*m<=A.units+10*n):Rm m A':=⟨h.trans r.hh,Nat.le_trans d r.hd,Nat.le_trans u r.hu⟩
theorem Rm.le {n m:Nat} {A:Around} (r:Rm n A) (h:m<=n):Rm m A:=r.of rfl (Nat.add_le_add_iff_left.mpr h) (by lia)
section
variable {G:aK} {A:Around} {env:Env} {ρ:aX} {σ:am}
theorem b6 {L:Addr} {cells:List (Str×Addr)} {names:List (Str×NameKind)} {k:List (Str×Addr)->am->Prop} (h:names.all (fun p=> !(p.2 == .cell))=true) (q:k cells σ):cM L names cells σ k:=by
 induction names with
 | nil=>exact q
 | cons p r ih=>
  obtain ⟨n,kd⟩:=p;rw [List.all_cons,Bool.and_eq_true] at h;unfold cM;rw [if_neg (by rw [(Bool.not_eq_true' _).mp h.1];exact Jg)];exact ih h.2
abbrev j9 (l:List (Str×V)):aX:=l.foldl (fun ρ p=>ρ.set p.1 p.2) fun _=>none
theorem jz (hk:env.scope.kind = .function) {k:aX->am->Prop} (bv:List (Str×V)):∀ {ρ:aX},bv.all (fun p=>env.kindOf p.1==some .local)=true->k (bv.foldl (fun ρ p=>ρ.set p.1 p.2) ρ) σ->iM G A env bv ρ σ k:=by
 induction bv with
 | nil=>exact fun _ q=>q
 | cons p r ih=>
  intro ρ h q;obtain ⟨n,v⟩:=p;rw [List.all_cons,Bool.and_eq_true] at h;exact az (ih h.2 q) hk (Jj.mp h.1)
abbrev qi (K:Frag) (fd:FuncData):Bool:=match fd.code with
 | .ref c=>(match K.lookup c with
  | some o=>(match o.data with
   | .fields vs=>(match vs[1]? with
    | some v=>(match v with
     | .str q _=>q==fd.qualname
     | _=>false)
    | none=>false)
   | _=>false)
  | none=>false)
 | _=>false
theorem hJ {K:Frag} {fd:FuncData} (h:qi K fd=true) {hp:Heap} (x:K.In hp):hp.CodeRec fd.code fd.qualname:=by
 revert K fd hp
 injections K fd
 intro h
 injections hp
 intro x;unfold qi at h
 cases h1:fd.code with
 | ref c=>
  rw [h1] at h
  cases h2:K.lookup c with
  | none=>simp [h2] at h
  | some o=>
   cases h3:o.data with
   | fields vs=>
    cases h4:vs[1]? with
    | none=>simp [h2,h3,h4] at h
    | some v=>
     cases v with
     | str q t=>
      simp [h2,h3,h4] at h;exact ⟨c,o,vs,t,rfl,x _ _ h2,h3,by rw [h4,h]⟩
     | _=>simp [h2,h3,h4] at h
   | _=>simp [h2,h3] at h
 | _=>rw [h1] at h;injection h
abbrev xx (K:Frag) (fd:FuncData) (ns:List Str):Bool:=
 qi K fd&&!fd.scope.isCoroutine&&!fd.scope.isGenerator&&fd.scope.names.all (fun p=> !(p.2 == .cell))&&fd.scope.kind == .function&&ns.all fun n=>fd.scope.names.lookup n==some .local
theorem dc {K:Frag} {s:Shared} {fd:FuncData} {args:Args} {bx:List (Str×Value)} (x:K.In s.heap) (e:∀ S,PySem.W.peek K S (bindArgs fd args)=some bx):BindsTo s fd args bx:=
 fun M A E Q q=>(Looks.of_peek (M:=M) x (e _)).here q
inductive gL (K:Frag) (fd:FuncData) (vs:List V) (kv bv:List (Str×V)):Prop
 | mk (h:∀ B s xs kx,K.In s.heap->VRs B vs xs->oF B kv kx->∃ bx,BindsTo s fd ⟨xs,kx⟩ bx/\oF B bv bx):gL K fd vs kv bv
theorem c8 {K:Frag} {fd:FuncData} {v:V} {n:Str} (h:∀ S x,PySem.W.peek K S (bindArgs fd ⟨[x],[]⟩)=some [(n,x)]):gL K fd [v] [] [(n,v)]:=⟨fun B s xs kx hK r k=>by
 cases k
 cases r with | cons r1 r=>
 cases r
 exact ⟨_,dc hK fun S=>h S _, .cons r1 .nil⟩⟩
theorem hH {K:Frag} {fd:FuncData} {v v':V} {n n':Str} (h:∀ S x y,PySem.W.peek K S (bindArgs fd ⟨[x,y],[]⟩)=some [(n,x),(n',y)]):gL K fd [v,v'] [] [(n,v),(n',v')]:=⟨fun B s xs kx hK r k=>by
 cases k
 cases r with | cons r1 r=>cases r with | cons r2 r=>
 cases r
 exact ⟨_,dc hK fun S=>h S _ _, .cons r1 (.cons r2 .nil)⟩⟩
theorem qd {K:Frag} {fd:FuncData} {v v' v3:V} {n n' n3:Str} (h:∀ S x y z,PySem.W.peek K S (bindArgs fd ⟨[x,y,z],[]⟩)=some [(n,x),(n',y),(n3,z)]):gL K fd [v,v',v3] [] [(n,v),(n',v'),(n3,v3)]:=⟨fun B s xs kx hK r k=>by
 cases k
 cases r with | cons r1 r=>cases r with | cons r2 r=>cases r with | cons r3 r=>
 cases r
 exact ⟨_,dc hK fun S=>h S _ _ _, .cons r1 (.cons r2 (.cons r3 .nil))⟩⟩
theorem uz {K:Frag} {fd:FuncData} {v v' v3 v4:V} {n n' n3 n4:Str} (h:∀ S x y z w,PySem.W.peek K S (bindArgs fd ⟨[x,y,z,w],[]⟩)=some [(n,x),(n',y),(n3,z),(n4,w)]):gL K fd [v,v',v3,v4] [] [(n,v),(n',v'),(n3,v3),(n4,v4)]:=⟨fun B s xs kx hK r k=>by
 cases k
 cases r with | cons r1 r=>cases r with | cons r2 r=>cases r with | cons r3 r=>cases r with | cons r4 r=>
 cases r
 exact ⟨_,dc hK fun S=>h S _ _ _ _, .cons r1 (.cons r2 (.cons r3 (.cons r4 .nil)))⟩⟩
theorem ko {B:PB}:∀ ds:List Str,oF B (ds.map (·,V.none)) (ds.map (·,Value.none))
 | []=> .nil
 | d::ds=> .cons .none (ko ds)
theorem mX {K:Frag} {fd:FuncData} {v:V} {n:Str} {ds:List Str} (h:∀ S x,PySem.W.peek K S (bindArgs fd ⟨[x],[]⟩)=some ((n,x)::ds.map (·, .none))):gL K fd [v] [] ((n,v)::ds.map (·, .none)):=⟨fun B s xs kx hK r k=>by
 cases k
 cases r with | cons r1 r=>
 cases r
 exact ⟨_,dc hK fun S=>h S _, .cons r1 (ko ds)⟩⟩
theorem w4 {K:Frag} {fd:FuncData} {v v' v3:V} {n n' n3:Str} {ds:List Str} (h:∀ S x y z,PySem.W.peek K S (bindArgs fd ⟨[x,y,z],[]⟩)=some ((n,x)::(n',y)::(n3,z)::ds.map (·, .none))):gL K fd [v,v',v3] [] ((n,v)::(n',v')::(n3,v3)::ds.map (·, .none)):=⟨fun B s xs kx hK r k=>by
 cases k
 cases r with | cons r1 r=>cases r with | cons r2 r=>cases r with | cons r3 r=>
 cases r
 exact ⟨_,dc hK fun S=>h S _ _ _, .cons r1 (.cons r2 (.cons r3 (ko ds)))⟩⟩
noncomputable abbrev KR (Q:V->am->Prop):F->aX->am->Prop:=fun fl _ σ=>Q (jF fl) σ
theorem dB {f:Addr} {fd:FuncData} {body:List Stmt} {vs:List V} {kv bv:List (Str×V)} {Q:V->am->Prop} (hroom:A.depth<recursionLimit) (hk:G.K.lookup f=some (dY fd)) (hbody:fd.body = .stmts body) (ok:xx G.K fd (bv.map (·.1))=true)
  (hb:gL G.K fd vs kv bv)
  (h:∀ L,σ L=none->WL G (A.deeper (aR fd f L fd.closure)) (aR fd f L fd.closure) body (j9 bv) σ (KR Q)):eS G A (.ref f) vs kv σ Q:=by
 unfold xx at ok;simp only [Bool.and_eq_true,Bool.not_eq_true',Jj] at ok;ac_rfl;obtain ⟨⟨⟨⟨⟨o1,o2⟩,o3⟩,o4⟩,o5⟩,o6⟩:=ok;right;exact jt ⟨fun L B ρ s st=>⟨_,st.K _ _ hk,rfl,hJ o1 st.K⟩,hbody,hb.1,o2,o3⟩ hroom fun L hL=>b6 o4 (jz o5 bv (by rw [List.all_map] at o6;exact o6) (h L hL))
end
section
variable {A:Around} {w:World} {mg mb:Str->Option Value} {os:OsState} {σ:am}
noncomputable abbrev G8 (w:World) (mg mb:Str->Option Value) (os:OsState):aK:=qo qD w (K8 w.params) mg mb os
theorem uT {K:Frag} {h:Heap} {a:Addr} {m:Str->Option Value} {x:Str} {r:Option Value} (X:K.In h) (n:h.Ns a m) (e:nsIn K a x=some r):m x=r:=by
 intros K h a m x r
 intro X n e;ac_rfl;obtain ⟨o,es,ep,ho,hd,sk,hf⟩:=n;right;rw [<- hf x];unfold nsIn at e
 cases hl:K.lookup a with
 | none=>rw [hl] at e;cases e
 | some o'=>
  ac_rfl;obtain ⟨c,d,dt,sl⟩:=o';right;rw [hl] at e;have ho':=X _ _ hl;rw [ho] at ho';cases ho';cases (hd:dt=_)
  have e:(match es.toList.find? (·.key.isStr x) with | some e=>some (some e.val) | none=>if es.toList.any (·.refKey) then none else some none)=some r:=e
  unfold nsFind findBy;rw [<- Array.find?_toList]
  cases hf:es.toList.find? (·.key.isStr x) with
  | some y=>rw [hf] at e;cases e;rfl
  | none=>
   rw [hf] at e;dsimp only at e
   by_cases c:(es.toList.any (·.refKey))=true
   ·rw [if_pos c] at e;cases e
   ·rw [if_neg c] at e;cases e;rfl
theorem Du {x:Str} {v:V} {val:Value} (e:nsIn (K8 w.params) mainGlobals x=some none) (hb:bootBuiltins x=some val) (hx:x≠ "__name__") (hv:∀ B,VR B v val):GV (G8 w mg mb os) x v:=
 ⟨val,hv,fun h P=> .inr ⟨mg,mb,P.2.2.1,uT P.1 P.2.2.1 e,P.2.2.2.1,(P.2.2.2.2.2.1 x hx).trans hb⟩⟩
theorem Dv {x:Str} {v:V} {val:Value} (e:nsIn (K8 w.params) mainGlobals x=some (some val)) (hv:∀ B,VR B v val):GV (G8 w mg mb os) x v:=
 ⟨val,hv,fun h P=> .inl ⟨mg,P.2.2.1,uT P.1 P.2.2.1 e⟩⟩
theorem uP {x:Str} {n:String} (e:nsIn (K8 w.params) mainGlobals x=some none) (hb:bootBuiltins x=some (.type n)) (hx:x≠ "__name__"):GV (G8 w mg mb os) x (.ty n):=Du e hb hx fun _=> .ty n
theorem uN {x:Str} {n:String} (e:nsIn (K8 w.params) mainGlobals x=some none) (hb:bootBuiltins x=some (.builtin n)) (hx:x≠ "__name__"):GV (G8 w mg mb os) x (.bi n):=Du e hb hx fun _=> .bi n
theorem i9 {x:Str} {a:Addr} (e:nsIn (K8 w.params) mainGlobals x=some (some (.ref a))):GV (G8 w mg mb os) x (.ref a):=Dv e fun _=> .ref a
theorem x7:∀ h,(G8 w mg mb os).P h->wB (G8 w mg mb os) h:=fun h P=>by
 ac_rfl;obtain ⟨bm,ob,q1,q2,q3,q4,q5,q6⟩:=P.2.2.2.2.2.2;right;exact ⟨mg,bm,ob,P.2.2.1,q1,q2,q3,q4,q5,q6⟩
theorem dm:GV (G8 w mg mb os) "set" (.ty "set"):=uP (⋯) nofun (by decide)
theorem uO:GV (G8 w mg mb os) "list" (.ty "list"):=uP (⋯) nofun (by decide)
theorem j5:GV (G8 w mg mb os) Gi (.ty "range"):=uP (⋯) (⋯) (by decide)
theorem nF:GV (G8 w mg mb os) Gf (.bi "len"):=uN (⋯) (⋯) (by decide)
theorem xC:GV (G8 w mg mb os) Gg (.bi "abs"):=uN (⋯) (⋯) (by decide)
theorem BH:GV (G8 w mg mb os) Gh (.bi "sum"):=uN (⋯) (⋯) (by decide)
theorem vE:GV (G8 w mg mb os) uj (.bi "sorted"):=uN (⋯) (⋯) (by decide)
theorem qp:GV (G8 w mg mb os) "enumerate" (.ty "enumerate"):=uP (⋯) nofun (by decide)
theorem vD:GV (G8 w mg mb os) z1 (.bi "_functools.reduce"):=Dv (⋯) fun _=> .bi _
theorem gx:GV (G8 w mg mb os) DP (.ref 47):=i9 (⋯)
abbrev j2:FuncData:=fnEE CS Cb 7 (some 5) 140
theorem rX {x d a:Addr} {m n b o} {i:Int} {xs:List Int} {ob:Obj} {Q:V->am->Prop} (r:Rm 10 A) (hx:σ x=some (.inst 510 d)) (hd:σ d=some (.ns m n b o)) (hn:n<800) (hm:m y3=some (.ref a)) (ha:σ a=some (.iset xs ob)) (hi:i∈xs)
  (q:∀ o',Q .none (σ.set d (.ns (fun y=>if y=u0 then some (.int i) else m y) (n+1) b o'))):eS (G8 w mg mb os) A (.ref 141) [.ref x, .int i] [] σ Q:=by
 refine dB (fd:=j2) (bv:=[(gK, .ref x),("node", .int i)]) r.room (⋯) rfl (⋯) (hH fun _ _ _=>by kernel_rfl) fun L hL=>?_;show WL _ _ _ (_::_) _ _ _;refine al (pA (aI (ah (ak (v:= .int i) rfl ?_))));refine aH (ah (ak (v:= .ref x) rfl ?_));refine bG hx hd hm ?_ (fun B v h=>bB h) (⋯) (fun v=>by kernel_rfl);refine pq ha (aV ⟨I5 hi,?_⟩);refine al (aY (ah (ak (v:= .int i) rfl ?_)));refine b5 (ah (ak (v:= .ref x) rfl ?_));refine eJ hx hd (eW hn rfl) (fun o'=>?_) (⋯) (⋯) (⋯) (⋯);exact aE (q o')
abbrev js (m:Str->Option V) (k:Str) (v:V):Str->Option V:=fun y=>if y=k then some v else m y
abbrev zY:FuncData:=fnEE yW B8 7 (some 0) 104
inductive AO (σ σ':am) (d N P S E:Addr) (m:Str->Option V) (n:Nat) (b:Bool):Prop
 | mk (ob od:Obj) (hd:σ' d=some (.ns (js (js (js (js (js m y3 (.ref N)) Cu (.ref P)) wo (.ref S)) ER (.ref E)) u0 .none) (n+5) b od)) (hN:σ' N=some (.iset [] ob)) (hP:σ' P=some (.idict [] emptyDict)) (hS:σ' S=some (.idict [] emptyDict)) (hE:σ' E=some (.tdict 0))
   (nd:N≠P/\N≠S/\N≠E/\P≠S/\P≠E/\S≠E) (ex:Ex [d] σ σ') (fr:σ N=none/\σ P=none/\σ S=none/\σ E=none):AO σ σ' d N P S E m n b
theorem BB {x d:Addr} {m n b o} {Q:V->am->Prop} (r:Rm 10 A) (hx:σ x=some (.inst 510 d)) (hd:σ d=some (.ns m n b o)) (hn:n<800)
  (q:∀ σ' N P S E,AO σ σ' d N P S E m n b->Q .none σ'):eS (G8 w mg mb os) A (.ref 105) [.ref x] [] σ Q:=by
 intros A w mg mb os σ x d m n b o Q
 intro r hx hd hn q;refine dB (fd:=zY) (bv:=[(gK, .ref x)]) r.room (⋯) rfl (⋯) (c8 fun _ _=>by kernel_rfl) fun L hL=>?_;show WL _ _ _ (_::_) _ _ _
 have xd:x≠d:=fun e=>by rw [e,hd] at hx;cases hx
 refine al (aY (aF (ah (aQ dm (aJ (aA ⟨ba.ty,cL fun N ob hN=>bj (P:=fun s=>lV _ _ _ _ _ _ s _) hN fun σ1 fN e1=>b5 (ah (ak (v:= .ref x) rfl ?_))⟩))))));refine eJ (e1.at hx) (e1.at hd) (eW hn rfl) (fun o1=>aZ (P:=fun s=>WL _ _ _ _ _ s _) fun σ2 fd e2=>?_) (⋯) (⋯) (⋯) (⋯);have fN:=e2.but fN (aW hd hN).symm;refine al (aY (cu fun P hP=>bj (P:=fun s=>lV _ _ _ _ _ _ s _) hP fun σ3 fP e3=>b5 (ah (ak (v:= .ref x) rfl ?_))));refine eJ (e3.at (e2.but (e1.at hx) xd)) (e3.at fd) (lr hn rfl) (fun o2=>aZ (P:=fun s=>WL _ _ _ _ _ s _) fun σ4 fd' e4=>?_) (⋯) (⋯) (⋯) (⋯);have nP:=aW fN hP;have fP:=e4.but fP (aW fd hP).symm;have fN:=e4.but (e3.at fN) (aW hd hN).symm;have hx4:=e4.but (e3.at (e2.but (e1.at hx) xd)) xd;refine al (aY (cu fun S hS=>bj (P:=fun s=>lV _ _ _ _ _ _ s _) hS fun σ5 fS e5=>b5 (ah (ak (v:= .ref x) rfl ?_))));refine eJ (e5.at hx4) (e5.at fd') (F9 hn rfl) (fun o3=>aZ (P:=fun s=>WL _ _ _ _ _ s _) fun σ6 fd6 e6=>?_) (⋯) (⋯) (⋯) (⋯);have nS:=aW fN hS;have pS:=aW fP hS;have fN:=e6.but (e5.at fN) (aW hd hN).symm;have fP:=e6.but (e5.at fP) (aW fd hP).symm;have fS:=e6.but fS (aW fd' hS).symm;have hx6:=e6.but (e5.at hx4) xd;refine al (aY (ve fun E hE=>bj (P:=fun s=>lV _ _ _ _ _ _ s _) hE fun σ7 fE e7=>b5 (ah (ak (v:= .ref x) rfl ?_))));refine eJ (e7.at hx6) (e7.at fd6) (by omega) (fun o4=>aZ (P:=fun s=>WL _ _ _ _ _ s _) fun σ8 fd8 e8=>?_) (⋯) (⋯) (⋯) (⋯);have dE:=(aW fd6 hE).symm;refine al (aY (bV (b5 (ah (ak (v:= .ref x) rfl ?_)))));refine eJ (e8.but (e7.at hx6) xd) fd8 (by omega) (fun o5=>aZ (P:=fun s=>WL _ _ _ _ _ s _) fun σ9 fd9 e9=>aE (q _ N P S E ?_)) (⋯) (⋯) (⋯) (⋯);have up:∀ {a y},σ6 a=some y->a≠d->σ9 a=some y:=fun h n=>e9.but (e8.but (e7.at h) n) n;have k2:Ex [d] σ σ2:=e1.nil.trans e2;have k4:Ex [d] σ σ4:=k2.trans (e3.nil.trans e4);have k6:Ex [d] σ σ6:=k4.trans (e5.nil.trans e6);have nd':∀ {b:Addr},d≠b->b∉[d]:=fun n m=>n (IN.mp m).symm
 exact ⟨ob,o5,fd9,up fN (aW hd hN).symm,up fP (aW fd hP).symm,up fS (aW fd' hS).symm,e9.but (e8.but fE dE) dE,⟨nP,nS,aW fN hE,pS,aW fP hE,aW fS hE⟩,
  e1.nil.trans (e2.trans (e3.nil.trans (e4.trans (e5.nil.trans (e6.trans (e7.nil.trans (e8.trans e9))))))),⟨hN,k2.none hP (nd' (aW fd hP)),k4.none hS (nd' (aW fd' hS)),k6.none hE (nd' (aW fd6 hE))⟩⟩
end
set_option genInjectivity false in
structure jQ where
 d:Addr
 N:Addr
 P:Addr
 S:Addr
 E:Addr
 m:Str->Option V
 n:Nat
 b:Bool
 nodes:List Int
 preds:List (Int×Addr×List Int)
 succs:List (Int×Addr×List Int)
 ne:Nat
instance iGr:Nonempty jQ:=⟨by constructor <;> first | exact (0:Nat) | exact .none | exact [] | exact false | exact fun _=> .none | exact fun _=>False⟩
theorem An {P:Addr->Prop} {a x y z:Addr} (m:a∈[x,y,z]) (hx:P x) (hy:P y) (hz:P z):P a:=by
 rcases IZ.mp m with h | m
 ·exact h▸hx
 rcases IZ.mp m with h | m
 ·exact h▸hy
 ·exact IN.mp m▸hz
theorem BR {P:Addr->Prop} {a x y z u v w:Addr} (m:a∈[x,y,z,u,v,w]) (hx:P x) (hy:P y) (hz:P z) (hu:P u) (hv:P v) (hw:P w):P a:=by
 rcases IZ.mp m with h | m
 ·exact h▸hx
 rcases IZ.mp m with h | m
 ·exact h▸hy
 rcases IZ.mp m with h | m
 ·exact h▸hz
 ·exact An m hu hv hw
abbrev cb (l:List (Int×Addr×List Int)):List (Int×V):=l.map fun e=>(e.1, .ref e.2.1)
abbrev bD (l:List (Int×Addr×List Int)):List Addr:=l.map fun e=>e.2.1
inductive g7 (σ:am) (p:Addr) (l:List (Int×Addr×List Int)):Prop
 | mk (op:Obj) (h:σ p=some (.idict (cb l) op)) (at_: ∀ e∈l,∃ ob,σ e.2.1=some (.iset e.2.2 ob)):g7 σ p l
abbrev jQ.all (g:jQ) (x:Addr):List Addr:=x::g.d::g.N::g.P::g.S::g.E::(bD g.preds++bD g.succs)
structure AN (σ:am) (x:Addr) (g:jQ):Prop where
 hx:σ x=some (.inst 510 g.d)
 hd:∃ od,σ g.d=some (.ns g.m g.n g.b od)
 mN:g.m y3=some (.ref g.N)
 mP:g.m Cu=some (.ref g.P)
 mS:g.m wo=some (.ref g.S)
 mE:g.m ER=some (.ref g.E)
 hN:∃ ob,σ g.N=some (.iset g.nodes ob)
 hE:σ g.E=some (.tdict g.ne)
 hP:g7 σ g.P g.preds
 hS:g7 σ g.S g.succs
 nd:(g.all x).Nodup
section
variable {σ σ':am} {x:Addr} {g:jQ}
theorem g7.ex {D:List Addr} {p:Addr} {l:List (Int×Addr×List Int)} (h:g7 σ p l) (e:Ex D σ σ') (hp:p∉D) (hl:∀ a∈bD l,a∉D):g7 σ' p l:=by
 cases h with | mk op h at_=>
 exact ⟨op,e _ _ hp h,fun y m=>(at_ y m).imp fun ob q=>e _ _ (hl _ (IR m)) q⟩
end
inductive CD (g:jQ) (x:Addr):Prop
 | mk (xd:¬x=g.d) (xN:¬x=g.N) (xP:¬x=g.P) (xS:¬x=g.S) (xE:¬x=g.E) (xp:¬x∈bD g.preds) (xs:¬x∈bD g.succs) (dN:¬g.d=g.N) (dP:¬g.d=g.P) (dS:¬g.d=g.S) (dE:¬g.d=g.E) (dp:¬g.d∈bD g.preds) (ds:¬g.d∈bD g.succs) (NP:¬g.N=g.P) (NS:¬g.N=g.S) (NE:¬g.N=g.E) (Np:¬g.N∈bD g.preds) (Ns:¬g.N∈bD g.succs) (PS:¬g.P=g.S) (PE:¬g.P=g.E) (Pp:¬g.P∈bD g.preds) (Ps:¬g.P∈bD g.succs) (SE:¬g.S=g.E) (Sp:¬g.S∈bD g.preds) (Ss:¬g.S∈bD g.succs) (Ep:¬g.E∈bD g.preds) (Es:¬g.E∈bD g.succs) (nps:(bD g.preds++bD g.succs).Nodup):CD g x
theorem CD.of {g:jQ} {x:Addr} (hnd:(g.all x).Nodup):CD g x:=by
 intros g x
 intro hnd;have n:∀ {a b:Addr} {l:List Addr},a∉b::l->¬a=b:=List.ne_of_not_mem_cons;have m:∀ {a b:Addr} {l:List Addr},a∉b::l->a∉l:=List.not_mem_of_not_mem_cons;have lft:∀ {a:Addr} {l r:List Addr},a∉l++r->¬a∈l:=fun h q=>h (IS _ q);have rgt:∀ {a:Addr} {l r:List Addr},a∉l++r->¬a∈r:=fun h q=>h (IT _ q);have k1:=I6.mp hnd;have k2:=I6.mp k1.2;have k3:=I6.mp k2.2;have k4:=I6.mp k3.2;have k5:=I6.mp k4.2;have k6:=I6.mp k5.2;have x1:=m k1.1;have x2:=m x1;have x3:=m x2;have x4:=m x3;have x5:=m x4;have d1:=m k2.1;have d2:=m d1;have d3:=m d2;have d4:=m d3;have N1:=m k3.1;have N2:=m N1;have N3:=m N2;have P1:=m k4.1;have P2:=m P1;have S1:=m k5.1;exact ⟨n k1.1,n x1,n x2,n x3,n x4,lft x5,rgt x5,n k2.1,n d1,n d2,n d3,lft d4,rgt d4,n k3.1,n N1,n N2,lft N3,rgt N3,n k4.1,n P1,lft P2,rgt P2,n k5.1,lft S1,rgt S1,lft k6.1,rgt k6.1,k6.2⟩
theorem DE {a c:Addr} (Z L R:List Addr):(Z++((L++[a])++(R++[c]))).Perm (a::c::(Z++(L++R))):=by
 rw [List.append_assoc L,<- List.append_assoc Z,<- List.append_assoc Z];exact List.perm_middle.trans (.cons _ (by show (Z++L++(R++[c])).Perm _;rw [<- List.append_assoc];exact List.perm_append_singleton ..))
section
variable {A:Around} {w:World} {mg mb:Str->Option Value} {os:OsState} {σ:am}
abbrev lA:FuncData:=fnEE CP B9 7 (some 1) 111
inductive um (σ σ':am) (x:Addr) (g:jQ) (i:Int):Prop
 | mk (zs:List Int) (a c:Addr) (hz:∀ j,j∈zs↔j=i\/j∈g.nodes) (len:zs.length<=g.nodes.length+1) (nd:zs.Nodup) (h:AN σ' x { g with nodes:=zs,preds:=g.preds++[(i,a,[])],succs:=g.succs++[(i,c,[])] }) (ex:Ex [g.N,g.P,g.S] σ σ') (fr:σ a=none/\σ c=none):um σ σ' x g i
theorem AN.some {σ:am} {x:Addr} {g:jQ} (h:AN σ x g):∀ y∈g.all x,∃ z,σ y=some z:=fun y m=>by
 revert σ x g y
 injections σ x
 injections g
 intro h
 injections y
 intro m;ac_rfl
 cases h.hP with | mk op hP aP=>
 ac_rfl
 cases h.hS with | mk os hS aS=>
 obtain ⟨od,hd⟩:=h.hd;obtain ⟨ob,hN⟩:=h.hN;right;right;unfold jQ.all at m;simp only [IZ,I1] at m;rcases m with rfl | rfl | rfl | rfl | rfl | rfl | m | m
 ·exact ⟨_,h.hx⟩
 ·exact ⟨_,hd⟩
 ·exact ⟨_,hN⟩
 ·exact ⟨_,hP⟩
 ·exact ⟨_,hS⟩
 ·exact ⟨_,h.hE⟩
 ·obtain ⟨e,me,rfl⟩:=I0.mp m;obtain ⟨o,q⟩:=aP e me;exact ⟨_,q⟩
 ·obtain ⟨e,me,rfl⟩:=I0.mp m;obtain ⟨o,q⟩:=aS e me;exact ⟨_,q⟩
theorem d9 {l:List (Int×Addr×List Int)} {i:Int} (h:i∉l.map (·.1)):bS (cb l) i=none:=by
 unfold bS cb;rw [List.find?_map,Option.map_map];rw [List.find?_eq_none.mpr fun e m q=>h (by have:=Jf (p:=e.1=i) q;exact this▸IR m)]
 rfl
theorem eM (l:List (Int×Addr×List Int)) (e:Int×Addr×List Int):cb (l++[e])=cb l++[(e.1, .ref e.2.1)]:=by unfold cb;rw [I2];rfl
theorem tI {x:Addr} {g:jQ} {i:Int} {Q:V->am->Prop} (r:Rm 10 A) (h:AN σ x g) (hn:g.nodes.Nodup) (hz:g.nodes.length<60) (hp:i∉g.preds.map (·.1)) (hs:i∉g.succs.map (·.1)) (lp:g.preds.length<60) (ls:g.succs.length<60)
  (q:∀ σ',um σ σ' x g i->Q .none σ'):eS (G8 w mg mb os) A (.ref 112) [.ref x, .int i] [] σ Q:=by
 intros A w mg mb os σ x g i Q
 intro r h hn hz hp hs lp ls q;refine dB (fd:=lA) (bv:=[(gK, .ref x),("node", .int i)]) r.room (⋯) rfl (⋯) (hH fun _ _ _=>by kernel_rfl) fun L hL=>?_;show WL _ _ _ (_::_) _ _ _;ac_rfl;obtain ⟨od,hd⟩:=h.hd;obtain ⟨ob,hN⟩:=h.hN;right;refine al (bh (ay (aH (ah (ak (v:= .ref x) rfl ?_)))));refine bG h.hx hd h.mN ?_ (fun B v h=>bB h) (⋯) (fun v=>by kernel_rfl);refine b9 hN (aJ (ao (ah (ak (v:= .int i) rfl (aA ⟨ba.bi,?_⟩)))));refine b7 hN hn (eW hz rfl) fun zs o1 zn zl zm=>aZ (P:=fun s=>WL _ _ _ _ _ s _) fun σ1 fN e1=>?_;ac_rfl
 cases CD.of h.nd with | mk xd xN xP xS xE xp xs dN dP dS dE dp ds NP NS NE Np Ns PS PE Pp Ps SE Sp Ss Ep Es nps=>
 ac_rfl
 cases h.hP with | mk op hP aP=>
 cases h.hS with | mk os hS aS=>
 right;right;have hx1:=e1.but h.hx xN;have hd1:=e1.but hd dN;have hP1:=e1.but hP (Ne.symm NP);have hS1:=e1.but hS (Ne.symm NS);refine al (bh (ay (aH (ah (ak (v:= .ref x) rfl ?_)))));refine bG hx1 hd1 h.mP ?_ (fun B v h=>bB h) (⋯) (fun v=>by kernel_rfl);refine cW hP1 (aJ (ao (ah (ak (v:= .int i) rfl (ao (aF (ah (aQ dm (aJ (aA ⟨ba.ty,cL fun a oa ha=>bj (P:=fun s=>p7 _ _ _ _ _ s _) ha fun σ2 fa e2=>aA ⟨ba.bi,?_⟩⟩))))))))));have hP2:=e2.at hP1;refine WC_setdefault hP2 (by unfold cb;rw [IP];exact eW lp rfl) (fun v e=>by rw [d9 hp] at e;injection e) fun _ o2=>aZ (P:=fun s=>WL _ _ _ _ _ s _) fun σ3 fP e3=>?_;have aN:a≠g.N:=(aW fN ha).symm;have aP':a≠g.P:=(aW hP1 ha).symm;have hx3:=e3.but (e2.at hx1) xP;have hd3:=e3.but (e2.at hd1) dP;have hS3:=e3.but (e2.at hS1) (Ne.symm PS);refine al (bh (ay (aH (ah (ak (v:= .ref x) rfl ?_)))));refine bG hx3 hd3 h.mS ?_ (fun B v h=>bB h) (⋯) (fun v=>by kernel_rfl);refine cW hS3 (aJ (ao (ah (ak (v:= .int i) rfl (ao (aF (ah (aQ dm (aJ (aA ⟨ba.ty,cL fun c oc hc=>bj (P:=fun s=>p7 _ _ _ _ _ s _) hc fun σ4 fc e4=>aA ⟨ba.bi,?_⟩⟩))))))))));refine WC_setdefault (e4.at hS3) (by unfold cb;rw [IP];exact eW ls rfl) (fun v e=>by rw [d9 hs] at e;injection e) fun _ o3=>aZ (P:=fun s=>WL _ _ _ _ _ s _) fun σ5 fS e5=>aE (q _ ?_);have ex:Ex [g.N,g.P,g.S] σ σ5:=(e1.mono fun a m=>IN.mp m▸ .head _).trans (e2.nil.trans ((e3.mono fun a m=>IN.mp m▸ .tail _ (.head _)).trans (e4.nil.trans (e5.mono fun a m=>IN.mp m▸ .tail _ (.tail _ (.head _))))))
 have fr:∀ {b:Addr} {τ:am} {D:List Addr},Ex D σ τ->(∀ y∈D,∃ z,τ y=some z)->τ b=none->b∉g.all x:=fun {b τ D} e hD hb m=>by
  obtain ⟨z,hz⟩:=h.some b m
  by_cases q:b∈D
  ·obtain ⟨z',hz'⟩:=hD b q;rw [hz'] at hb;injection hb
  ·rw [e b z q hz] at hb;injection hb
 have fN3:=e3.but (e2.at fN) NP;have ga:a∉g.all x:=fr e1 (fun y m=>by rw [IN] at m;subst m;exact ⟨_,fN⟩) ha;have ec:Ex [g.N,g.P] σ σ3:=((e1.mono fun a m=>IN.mp m▸ .head _).trans e2.nil).trans (e3.mono fun a m=>IN.mp m▸ .tail _ (.head _))
 have gc:c∉g.all x:=fr (D:=[g.N,g.P]) ec (fun y m=>by
  simp only [IZ,I3,or_false] at m;rcases m with rfl | rfl
  ·exact ⟨_,fN3⟩
  ·exact ⟨_,fP⟩) hc
 have fa3:=e3.but fa aP';have ac:a≠c:=aW fa3 hc;have mS:g.S∈g.all x:= .tail _ (.tail _ (.tail _ (.tail _ (.head _))));have aS':a≠g.S:=fun e=>ga (e▸mS);have cS':c≠g.S:=fun e=>gc (e▸mS)
 have nin:∀ {y:Addr},y≠g.N->y≠g.P->y≠g.S->y∉[g.N,g.P,g.S]:=fun h1 h2 h3 m=>by
  simp only [IZ,I3,or_false] at m;rcases m with h | h | h
  ·exact h1 h
  ·exact h2 h
  ·exact h3 h
 have pin:∀ e∈g.preds,e.2.1∉[g.N,g.P,g.S]:=fun e m=>nin (fun q=>Np (q▸IR (f:=fun e=>e.2.1) m)) (fun q=>Pp (q▸IR (f:=fun e=>e.2.1) m)) (fun q=>Sp (q▸IR (f:=fun e=>e.2.1) m));have sin:∀ e∈g.succs,e.2.1∉[g.N,g.P,g.S]:=fun e m=>nin (fun q=>Ns (q▸IR (f:=fun e=>e.2.1) m)) (fun q=>Ps (q▸IR (f:=fun e=>e.2.1) m)) (fun q=>Ss (q▸IR (f:=fun e=>e.2.1) m))
 refine ⟨zs,a,c,zm,zl,zn,⟨ex _ _ (nin xN xP xS) h.hx,⟨od,ex _ _ (nin dN dP dS) hd⟩,h.mN,h.mP,h.mS,h.mE,⟨o1,e5.but (e4.at fN3) NS⟩,ex _ _ (nin (Ne.symm NE) (Ne.symm PE) (Ne.symm SE)) h.hE,⟨o2,by rw [eM];exact e5.but (e4.at fP) PS,fun e m=>?_⟩,⟨o3,by rw [eM];exact fS,fun e m=>?_⟩,?_⟩,ex,e1.none ha (fun m=>aN (IN.mp m)),ec.none hc (fun m=>gc (by simp at m;simp [jQ.all];rcases m with m | m <;> simp [m]))⟩
 ·rcases I1.mp m with m | m
  ·exact (aP e m).imp fun _ q=>ex _ _ (pin e m) q
  ·rw [IN] at m;subst m;exact ⟨oa,e5.but (e4.at fa3) aS'⟩
 ·rcases I1.mp m with m | m
  ·exact (aS e m).imp fun _ q=>ex _ _ (sin e m) q
  ·rw [IN] at m;subst m;exact ⟨oc,e5.but fc cS'⟩
 ·have p:(jQ.all { g with nodes:=zs,preds:=g.preds++[(i,a,[])],succs:=g.succs++[(i,c,[])] } x).Perm (a::c::g.all x):=by
   unfold jQ.all bD;rw [I2,I2];exact DE [x,g.d,g.N,g.P,g.S,g.E] _ _
  exact p.symm.nodup (I6.mpr ⟨fun m=>(IZ.mp m).elim ac ga,I6.mpr ⟨gc,h.nd⟩⟩)
end
abbrev cN (l:List (Int×Addr×List Int)) (k:Int) (zs:List Int):List (Int×Addr×List Int):=l.map fun e=>if e.1=k then (e.1,e.2.1,zs) else e
theorem pK (l:List (Int×Addr×List Int)) (k:Int) (zs:List Int):cb (cN l k zs)=cb l:=by
 unfold cb cN;rw [Jk]
 exact List.map_congr_left fun e _=>by dsimp only [Function.comp];split <;> rfl
theorem cp (l:List (Int×Addr×List Int)) (k:Int) (zs:List Int):bD (cN l k zs)=bD l:=by
 unfold bD cN;rw [Jk]
 exact List.map_congr_left fun e _=>by dsimp only [Function.comp];split <;> rfl
theorem bQ {l:List (Int×Addr×List Int)} {k:Int} {a:Addr} {xs:List Int} (nd:(l.map (·.1)).Nodup) (m:(k,a,xs)∈l):bS (cb l) k=some (.ref a):=by
 induction l with
 | nil=>cases m
 | cons e l ih=>
  rw [List.map_cons,I6] at nd;unfold bS cb;rw [List.map_cons];rcases IZ.mp m with rfl | m
  ·rw [List.find?_cons_of_pos (by simp)];rfl
  ·rw [List.find?_cons_of_neg (by
    intro q
    exact nd.1 ((Jf (p:=e.1=k) q)▸IR (f:=fun e=>e.1) m))]
   exact ih nd.2 m
theorem dO {α β:Type} {l:List α} {f:α->β} (nd:(l.map f).Nodup) {x y:α} (hx:x∈l) (hy:y∈l) (e:f x=f y):x=y:=by
 induction l with
 | nil=>cases hx
 | cons z l ih=>
  rw [List.map_cons,I6] at nd;rcases IZ.mp hx with q | q
  ·rcases IZ.mp hy with q' | q'
   ·rw [q,q']
   ·rw [<- q,e] at nd;exact absurd (IR q') nd.1
  ·rcases IZ.mp hy with q' | q'
   ·rw [<- q',<- e] at nd;exact absurd (IR q) nd.1
   ·exact ih nd.2 q q'
theorem g7.put {σ σ':am} {p:Addr} {l:List (Int×Addr×List Int)} {k:Int} {a:Addr} {xs zs:List Int} {o:Obj} (h:g7 σ p l) (e:Ex [a] σ σ') (ha:σ' a=some (.iset zs o)) (m:(k,a,xs)∈l) (hp:p≠a) (nk:(l.map (·.1)).Nodup) (na:(bD l).Nodup):g7 σ' p (cN l k zs):=by
 cases h with | mk op h at_=>
 refine ⟨op,by rw [pK];exact e.but h hp,fun y my=>?_⟩;obtain ⟨y0,m0,rfl⟩:=I0.mp my
 by_cases c:y0.1=k
 ·rw [if_pos c];rw [dO nk m0 m c];exact ⟨o,ha⟩
 ·rw [if_neg c];refine (at_ y0 m0).imp fun _ q=>e.but q fun ea=>c ?_;rw [dO na m0 m ea]
section
variable {A:Around} {w:World} {mg mb:Str->Option Value} {os:OsState} {σ:am}
abbrev jY:FuncData:=cR wg Cl 7 (some 33) 3 [] (.ref 365) .none .none (.str eu 357) .none (.ref 371) .none 0
inductive pX (σ σ':am) (x:Addr) (g:jQ) (i j:Int) (xi xj:List Int):Prop
 | mk (zi zj:List Int) (hi:∀ k,k∈zi↔k=j\/k∈xi) (hj:∀ k,k∈zj↔k=i\/k∈xj) (ni:zi.Nodup) (nj:zj.Nodup) (h:AN σ' x { g with preds:=cN g.preds j zj,succs:=cN g.succs i zi,ne:=g.ne+1 }) (ex:Ex (g.E::(bD g.preds++bD g.succs)) σ σ'):pX σ σ' x g i j xi xj
theorem rT {x:Addr} {g:jQ} {i j:Int} {ai aj:Addr} {xi xj:List Int} {Q:V->am->Prop} (r:Rm 10 A) (h:AN σ x g) (kp:(g.preds.map (·.1)).Nodup) (ks:(g.succs.map (·.1)).Nodup) (mi:(i,ai,xi)∈g.succs) (mj:(j,aj,xj)∈g.preds) (ni:xi.Nodup) (nj:xj.Nodup) (li:xi.length<60) (lj:xj.length<60)
  (lp:g.preds.length<60) (ls:g.succs.length<60) (hne:g.ne<900) (q:∀ σ',pX σ σ' x g i j xi xj->Q .none σ'):eS (G8 w mg mb os) A (.ref 372) [.ref x, .int i, .int j, .none] [] σ Q:=by
 intros A w mg mb os σ x g i j ai aj xi xj Q
 intro r h kp ks mi mj ni nj li lj lp ls hne q;refine dB (fd:=jY) (bv:=[(gK, .ref x),("from_", .int i),("to", .int j),("data", .none)]) r.room (⋯) rfl (⋯) (uz fun _ _ _ _ _=>by kernel_rfl) ?_
 injections L
 intro hL;show WL _ _ _ (_::_) _ _ _;ac_rfl;obtain ⟨od,hd⟩:=h.hd
 cases CD.of h.nd with | mk xd xN xP xS xE xp xs dN dP dS dE dp ds NP NS NE Np Ns PS PE Pp Ps SE Sp Ss Ep Es nps=>
 cases id h.hP with | mk op hP aP=>
 cases id h.hS with | mk os hS aS=>
 obtain ⟨oj,hj⟩:=aP _ mj;obtain ⟨oi,hi⟩:=aS _ mi;right;have aj':aj∈bD g.preds:=IR (f:=fun e=>e.2.1) mj;have ai':ai∈bD g.succs:=IR (f:=fun e=>e.2.1) mi;have aij:ai≠aj:=fun e=>(Jb.mp nps).2.2 _ aj' _ ai' e.symm;have gp:bS (cb g.preds) j=some (.ref aj):=bQ kp mj;have gs:bS (cb g.succs) i=some (.ref ai):=bQ ks mi;refine al (bh (ay (ay (aH (ah (ak (v:= .ref x) rfl ?_))))));refine bG h.hx hd h.mP ?_ (fun B v h=>bB h) (⋯) (fun v=>by kernel_rfl);refine cW hP (aJ (ao (ah (ak (v:= .int j) rfl (ao (aF (ah (aQ dm (aJ (aA ⟨ba.ty,cL fun a oa ha=>bj (P:=fun s=>p7 _ _ _ _ _ s _) ha fun σ1 fa e1=>aA ⟨ba.bi,?_⟩⟩))))))))));refine WC_setdefault (e1.at hP) (by unfold cb;rw [IP];exact eW lp rfl) (fun v e=>?_) (fun e=>by rw [gp] at e;injection e);rw [gp] at e;obtain rfl:=Option.some.inj e;refine b9 (e1.at hj) (aJ (ao (ah (ak (v:= .int i) rfl (aA ⟨ba.bi,?_⟩)))));refine b7 (e1.at hj) nj (by show xj.length<63;exact eW lj rfl) fun zj o2 zjn zjl zjm=>aZ (P:=fun s=>WL _ _ _ _ _ s _) fun σ2 fj e2=>?_;refine al (bh (ay (ay (aH (ah (ak (v:= .ref x) rfl ?_))))));have ne:∀ {y z:Addr} {l:List Addr},¬ y∈l->z∈l->y≠z:=fun h m e=>h (e▸m);have hx2:=e2.but (e1.at h.hx) (ne xp aj');have hd2:=e2.but (e1.at hd) (ne dp aj');have hS2:=e2.but (e1.at hS) (ne Sp aj');have hi2:=e2.but (e1.at hi) aij;refine bG hx2 hd2 h.mS ?_ (fun B v h=>bB h) (⋯) (fun v=>by kernel_rfl);refine cW hS2 (aJ (ao (ah (ak (v:= .int i) rfl (ao (aF (ah (aQ dm (aJ (aA ⟨ba.ty,cL fun a oa ha=>bj (P:=fun s=>p7 _ _ _ _ _ s _) ha fun σ3 fa e3=>aA ⟨ba.bi,?_⟩⟩))))))))));refine WC_setdefault (e3.at hS2) (by unfold cb;rw [IP];exact eW ls rfl) (fun v e=>?_) (fun e=>by rw [gs] at e;injection e);rw [gs] at e;obtain rfl:=Option.some.inj e;refine b9 (e3.at hi2) (aJ (ao (ah (ak (v:= .int j) rfl (aA ⟨ba.bi,?_⟩)))));refine b7 (e3.at hi2) ni (by show xi.length<63;exact eW li rfl) fun zi o4 zin zil zim=>aZ (P:=fun s=>WL _ _ _ _ _ s _) fun σ4 fi e4=>?_;have hx4:=e4.but (e3.at hx2) (ne xs ai');have hd4:=e4.but (e3.at hd2) (ne ds ai');have hE4:=e4.but (e3.at (e2.but (e1.at h.hE) (ne Ep aj'))) (ne Es ai');refine al (aY (ah (ak (v:= .none) rfl ?_)));refine bz (aH (ah (ak (v:= .ref x) rfl ?_)));refine bG hx4 hd4 h.mE ?_ (fun B v h=>bB h) (⋯) (fun v=>by kernel_rfl);refine dH (ao (ah (ak (v:= .int i) rfl (ao (ah (ak (v:= .int j) rfl (aA ⟨IU rfl,?_⟩)))))));refine oX (p:=(i,j)) (by have:=r.hu;show A.units+3+2<9900;exact Fr this rfl) hE4 (eW hne rfl) (aZ (P:=fun s=>WL _ _ _ _ _ s _) fun σ5 fE e5=>aE (q _ ?_));have A1:=(h.hP.ex (D:=[]) e1 (fun m=>nomatch m) fun _ _ m=>nomatch m).put e2 fj mj (ne Pp aj') kp (Jb.mp nps).1;have A1':=(A1.ex (D:=[]) e3 (fun m=>nomatch m) fun _ _ m=>nomatch m).ex e4 (fun m=>ne Ps ai' (IN.mp m)) fun a m m'=>(Jb.mp nps).2.2 _ (cp g.preds j zj▸m) _ ai' (IN.mp m');have A2:=((h.hS.ex (D:=[]) e1 (fun m=>nomatch m) fun _ _ m=>nomatch m).ex e2 (fun m=>ne Sp aj' (IN.mp m)) fun a m m'=>(Jb.mp nps).2.2 _ aj' _ m (IN.mp m').symm);have A2':=(A2.ex (D:=[]) e3 (fun m=>nomatch m) fun _ _ m=>nomatch m).put e4 fi mi (ne Ss ai') ks (Jb.mp nps).2.1;have k5:∀ {y z},σ4 y=some z->y≠g.E->σ5 y=some z:=fun q n=>e5.but q n;refine ⟨zi,zj,zim,zjm,zin,zjn,⟨k5 hx4 xE,⟨od,k5 hd4 dE⟩,h.mN,h.mP,h.mS,h.mE,h.hN.imp fun ob q=>k5 (e4.but (e3.at (e2.but (e1.at q) (ne Np aj'))) (ne Ns ai')) NE,fE,A1'.ex e5 (fun m=>PE (IN.mp m)) fun a m m'=>Ep (IN.mp m'▸cp g.preds j zj▸m),A2'.ex e5 (fun m=>SE (IN.mp m)) fun a m m'=>Es (IN.mp m'▸cp g.succs i zi▸m),?_⟩,?_⟩
 ·show (x::g.d::g.N::g.P::g.S::g.E::(bD (cN g.preds j zj)++bD (cN g.succs i zi))).Nodup;rw [cp,cp];exact h.nd
 ·exact e1.nil.trans ((e2.mono fun a m=>by rw [IN.mp m];exact .tail _ (IS _ aj')).trans (e3.nil.trans ((e4.mono fun a m=>by rw [IN.mp m];exact .tail _ (IT _ ai')).trans (e5.mono fun a m=>by rw [IN.mp m];exact .head _))))
end
section
variable {G:aK} {A:Around} {σ:am}
theorem br {f:Addr} {fd:FuncData} (hk:G.K.lookup f=some (dY fd)):ba G A (.ref f) σ:= .fn fun L B ρ s st=>⟨_,fd,st.K _ _ hk,rfl⟩
end
section
variable {A:Around} {w:World} {mg mb:Str->Option Value} {os:OsState} {σ:am}
abbrev lu:FuncData:=cR CR Ca 7 (some 2) 3 [] (.ref 113) .none .none (.str eu 357) .none (.ref 119) .none 0
theorem tH {x:Addr} {g:jQ} {i j:Int} {ai aj:Addr} {xi xj:List Int} {Q:V->am->Prop} (r:Rm 20 A) (h:AN σ x g) (ii:i∈g.nodes) (jj:j∈g.nodes) (kp:(g.preds.map (·.1)).Nodup) (ks:(g.succs.map (·.1)).Nodup) (mi:(i,ai,xi)∈g.succs) (mj:(j,aj,xj)∈g.preds) (ni:xi.Nodup) (nj:xj.Nodup) (li:xi.length<60) (lj:xj.length<60)
  (lp:g.preds.length<60) (ls:g.succs.length<60) (hne:g.ne<900) (hm:g.m wg=none) (q:∀ σ',pX σ σ' x g i j xi xj->Q .none σ'):eS (G8 w mg mb os) A (.ref 120) [.ref x, .int i, .int j] [] σ Q:=by
 refine dB (fd:=lu) (bv:=[(gK, .ref x),("src", .int i),("dest", .int j),("data", .none)]) r.room (⋯) rfl (⋯) (w4 (ds:=["data"]) fun _ _ _ _=>by kernel_rfl) fun L hL=>?_;show WL _ _ _ (_::_) _ _ _;ac_rfl;obtain ⟨od,hd⟩:=h.hd;obtain ⟨ob,hN⟩:=h.hN;right;refine al (bO (aI (ah (ak (v:= .int i) rfl (aH (ah (ak (v:= .ref x) rfl ?_)))))));refine bG h.hx hd h.mN ?_ (fun B v h=>bB h) (⋯) (fun v=>by kernel_rfl);refine dI hN (aV ?_);rw [I5 ii];refine aE (al (bO (aI (ah (ak (v:= .int j) rfl (aH (ah (ak (v:= .ref x) rfl ?_))))))));refine bG h.hx hd h.mN ?_ (fun B v h=>bB h) (⋯) (fun v=>by kernel_rfl);refine dI hN (aV ?_);rw [I5 jj];refine aE (al (bh (ay (ah (ak (v:= .ref x) rfl ?_)))));refine fZ (f:=372) h.hx hd hm (⋯) (⋯) (⋯) (⋯) ?_;refine aJ (ao (ah (ak (v:= .int i) rfl (ao (ah (ak (v:= .int j) rfl (ao (ah (ak (v:= .none) rfl (aA ⟨br (fd:=jY) (⋯),?_⟩))))))))));exact (rT ((r.deeper (n:=19)).le (by decide)) h kp ks mi mj ni nj li lj lp ls hne fun σ' a=>aE (q σ' a)).wc
abbrev uI:FuncData:=cR CK B7 5 (some 2) 3 [] (.ref 69) .none .none (.str CJ 291) .none (.ref 75) .none 0
inductive lg (K:Frag) (p:Addr) (nm:Str) (f:Addr):Prop
 | mk (dp:Addr) (od:Obj) (tk:Tok) (hp:K.lookup p=some (instObj 86 dp)) (hdp:K.lookup dp=some od) (hn:findObj K 86 (some od) yY=some (.value (.str nm tk))) (hf:findObj K 86 (some od) yX=some (.value (.ref f))):lg K p nm f
theorem d8 {k:Str} {t:Tok}:handedIn (.str k t)=true:=rfl
inductive jx (x d:Addr) (nm:Str) (Q:V->am->Prop) (G:aK) (v:V) (σ₁:am):Prop
 | mk (a:Addr) (m:Str->Option V) (n:Nat) (ob:Obj) (e:v = .ref a) (hd:σ₁ d=some (.ns m n true ob)) (hn:n<900) (q:∀ ob',Q (.ref a) (σ₁.set d (.ns (js m nm (.ref a)) (n+1) true ob'))):jx x d nm Q G v σ₁
theorem tJ {p f x d:Addr} {fdf:FuncData} {nm:Str} {m n ob} {Q:V->am->Prop} (r:Rm 30 A) (P:lg (K8 w.params) p nm f) (hkf:(K8 w.params).lookup f=some (dY fdf)) (hx:σ x=some (.inst 510 d)) (hd:σ d=some (.ns m n true ob)) (hdd:m qS=none) (hv:m nm=none)
  (h:∀ A',Rm 20 A'->eS (G8 w mg mb os) A' (.ref f) [.ref x] [] σ (jx x d nm Q (G8 w mg mb os))):eS (G8 w mg mb os) A (.ref 76) [.ref p, .ref x, .ref 510] [] σ Q:=by
 cases P with | mk dp od tk hp hdp hn hf=>
 refine dB (fd:=uI) (bv:=[(gK, .ref p),(FT, .ref x),(FS, .ref 510)]) r.room (⋯) rfl (⋯) (qd fun _ _ _ _=>by kernel_rfl) fun L hL=>?_;show WL _ _ _ (_::_) _ _ _;refine al (bO (aI (ah (ak (v:= .ref x) rfl (bV (bI (aV (aE ?_))))))));refine al (bO (aI (aH (ah (ak (v:= .ref p) rfl ?_)))));refine kz hp hdp hn (fun _=> .str nm tk) d8 ?_ (⋯);refine bV (bI (aV (aE ?_)));refine al (tz (al (ar (aH (ah (ak (v:= .ref x) rfl ?_))))));refine vj (p:=511) (nm:=qS) (tn:=943) (z:= .builtin "function.__dict__#set") hx hd hdd (az (aE (aE ?_))) (⋯) (⋯) (⋯) (⋯) (⋯) (⋯) (⋯) (⋯);refine al (ar (ay (ah (ak (v:= .ref d) rfl ?_))));refine ut hd (aJ (ao (aH (ah (ak (v:= .ref p) rfl ?_)))));refine kz hp hdp hn (fun _=> .str nm tk) d8 ?_ (⋯);refine ao (ah (aQ gx (aA ⟨ba.bi,?_⟩)));refine uq hd ?_;rw [hv];refine az (al (bO (aI (ah (ak (v:= .ref 47) rfl (ah (aQ gx ?_)))))));have nt:kZ (G8 w mg mb os) σ 47:=kZ.K (o:=⟨.type "object",none, .plain, #[]⟩) (⋯) (by decide);refine pu nt nt (aV ?_);rw [I5 rfl];show WL _ _ _ (_::_) _ _ _;refine al (ar (ay (ah (ak (v:= .ref p) rfl ?_))));refine Di hp hdp hf (fun _=> .ref f) rfl ?_ (⋯) (⋯) (⋯);refine aJ (ao (ah (ak (v:= .ref x) rfl (aA ⟨br hkf,?_⟩))));refine ((h _ ((r.deeper (n:=29)).le (by decide))).wc).mono fun v σ1 g=>?_
 cases g with | mk a m1 n1 ob1 e hd1 hn1 q=>
 subst e;refine az (al (tz (al (aY (ah (ak (v:= .ref a) rfl ?_))))));refine bz (ah (ak (v:= .ref d) rfl (aH (ah (ak (v:= .ref p) rfl ?_)))));refine kz hp hdp hn (fun _=> .str nm tk) d8 ?_ (⋯);refine mM hd1 hn1 fun ob'=>aE (aE (aE ?_));exact al (bA (ah (ak (v:= .ref a) rfl (q ob'))))
theorem yw {G:aK} {A:Around} {σ:am} {f:Addr} {fd:FuncData} {body:List Stmt} {vs:List V} {kv bv:List (Str×V)} {Q:V->am->Prop} (hroom:A.depth<recursionLimit) (hk:G.K.lookup f=some (dY fd)) (hbody:fd.body = .stmts body) (ok:xx G.K fd (bv.map (·.1))=true)
  (hb:gL G.K fd vs kv bv)
  (h:∀ L,σ L=none->jU G (A.deeper (aR fd f L fd.closure)) (aR fd f L fd.closure) body (j9 bv) σ fun fl _ σ'=>Q (jF fl) σ'):te G A (.ref f) vs kv σ Q:=by
 unfold xx at ok;simp only [Bool.and_eq_true,Bool.not_eq_true',Jj] at ok;ac_rfl;obtain ⟨⟨⟨⟨⟨o1,o2⟩,o3⟩,o4⟩,o5⟩,o6⟩:=ok;right;exact yx ⟨fun L B ρ s st=>⟨_,st.K _ _ hk,rfl,hJ o1 st.K⟩,hbody,hb.1,o2,o3⟩ hroom fun L hL=>b6 o4 (jz o5 bv (by rw [List.all_map] at o6;exact o6) (h L hL))
theorem ql {p f x d:Addr} {fdf:FuncData} {nm:Str} {m n b ob} {Q:V->am->Prop} (r:Rm 90 A) (P:lg (K8 w.params) p nm f) (hkf:(K8 w.params).lookup f=some (dY fdf)) (hx:σ x=some (.inst 510 d)) (hd:σ d=some (.ns m n b ob)) (hdd:m qS=none) (hv:m nm=none)
  (h:∀ A' σ₀ ob',Rm 80 A'->σ₀ d=some (.ns m n true ob')->Ex [d] σ σ₀->eS (G8 w mg mb os) A' (.ref f) [.ref x] [] σ₀ (jx x d nm Q (G8 w mg mb os))):te (G8 w mg mb os) A (.ref 76) [.ref p, .ref x, .ref 510] [] σ Q:=by
 cases P with | mk dp od tk hp hdp hn hf=>
 refine yw (fd:=uI) (bv:=[(gK, .ref p),(FT, .ref x),(FS, .ref 510)]) r.room (⋯) rfl (⋯) (qd fun _ _ _ _=>by kernel_rfl) fun L hL=>?_;show jU _ _ _ (_::_) _ _ _;refine eH (wW (aI (ah (ak (v:= .ref x) rfl (bV (bI (aV (jV ?_))))))));refine eH (wW (aI (aH (ah (ak (v:= .ref p) rfl ?_)))));refine kz hp hdp hn (fun _=> .str nm tk) d8 ?_ (⋯);refine bV (bI (aV (jV ?_)));refine eH (zw (eH (iq (fG (ah (ak (v:= .ref x) rfl ?_))))));refine ti (p:=511) (nm:=qS) (tn:=943) (z:= .builtin "function.__dict__#set") hx hd hdd (fun ob'=>aZ (P:=fun s=>WB _ _ _ _ _ _ s _) fun σ hd e=>az (jV (jV ?_))) (⋯) (⋯) (⋯) (⋯) (⋯) (⋯) (⋯) (⋯) (⋯);refine WL.n ?_;refine al (ar (ay (ah (ak (v:= .ref d) rfl ?_))));refine ut hd (aJ (ao (aH (ah (ak (v:= .ref p) rfl ?_)))));refine kz hp hdp hn (fun _=> .str nm tk) d8 ?_ (⋯);refine ao (ah (aQ gx (aA ⟨ba.bi,?_⟩)));refine uq hd ?_;rw [hv];refine az (al (bO (aI (ah (ak (v:= .ref 47) rfl (ah (aQ gx ?_)))))));have nt:kZ (G8 w mg mb os) σ 47:=kZ.K (o:=⟨.type "object",none, .plain, #[]⟩) (⋯) (by decide);refine pu nt nt (aV ?_);rw [I5 rfl];show WL _ _ _ (_::_) _ _ _;refine al (ar (ay (ah (ak (v:= .ref p) rfl ?_))));refine Di hp hdp hf (fun _=> .ref f) rfl ?_ (⋯) (⋯) (⋯);refine aJ (ao (ah (ak (v:= .ref x) rfl (aA ⟨br hkf,?_⟩))));refine ((h _ _ ob' ((r.deeper (n:=89)).le (by decide)) hd e).wc).mono fun v σ1 g=>?_
 cases g with | mk a m1 n1 ob1 e hd1 hn1 q=>
 subst e;refine az (al (tz (al (aY (ah (ak (v:= .ref a) rfl ?_))))));refine bz (ah (ak (v:= .ref d) rfl (aH (ah (ak (v:= .ref p) rfl ?_)))));refine kz hp hdp hn (fun _=> .str nm tk) d8 ?_ (⋯);refine mM hd1 hn1 fun ob'=>aE (aE (aE ?_));exact al (bA (ah (ak (v:= .ref a) rfl (q ob'))))
abbrev i8:FuncData:=fnEE yB Ck 7 (some 24) 306
theorem o7 {x d:Addr} {m n b o} {i:Int} {Q:V->am->Prop} (r:Rm 10 A) (hx:σ x=some (.inst 510 d)) (hd:σ d=some (.ns m n b o)) (hm:m u0=some (.int i)) (q:Q (.int i) σ):eS (G8 w mg mb os) A (.ref 307) [.ref x] [] σ Q:=by
 refine dB (fd:=i8) (bv:=[(gK, .ref x)]) r.room (⋯) rfl (⋯) (c8 fun _ _=>by kernel_rfl) fun L hL=>?_;show WL _ _ _ (_::_) _ _ _;refine al (pA (aI (aH (ah (ak (v:= .ref x) rfl ?_)))));refine bG hx hd hm ?_ (fun B v h=>fM h) (⋯) (fun v=>by kernel_rfl);refine bV (gC (aV ⟨rfl,?_⟩));refine al (bA (aH (ah (ak (v:= .ref x) rfl ?_))));exact bG hx hd hm q (fun B v h=>fM h) (⋯) (fun v=>by kernel_rfl)
theorem vT:lg (K8 w.params) 272 gJ 270:=⟨271,_,632,by kernel_rfl,(rfl:(K8 w.params).lookup 271=_),by kernel_rfl,by kernel_rfl⟩
theorem vR:lg (K8 w.params) 212 jP 210:=⟨211,_,518,by kernel_rfl,(rfl:(K8 w.params).lookup 211=_),by kernel_rfl,by kernel_rfl⟩
theorem vS:lg (K8 w.params) 202 oE 200:=⟨201,_,499,by kernel_rfl,(rfl:(K8 w.params).lookup 201=_),by kernel_rfl,by kernel_rfl⟩
theorem qB:lg (K8 w.params) 292 kU 290:=⟨291,_,670,by kernel_rfl,(rfl:(K8 w.params).lookup 291=_),by kernel_rfl,by kernel_rfl⟩
theorem jx.handed {x d:Addr} {nm:Str} {Q:V->am->Prop} {G:aK} {v:V} {σ1:am} (g:jx x d nm Q G v σ1):jx x d nm (fun v σ'=>Q v σ'/\∀ B val,VR B v val->handedIn val=true) G v σ1:=by
 cases g with | mk a m n ob e hd hn q=>exact ⟨a,m,n,ob,e,hd,hn,fun ob'=>⟨q ob',fun _ _ h=>bB h⟩⟩
theorem eS.mono {G:aK} {A:Around} {f:V} {vs:List V} {kv:List (Str×V)} {σ:am} {Q Q':V->am->Prop} (h:eS G A f vs kv σ Q) (k:∀ v σ',Q v σ'->Q' v σ'):eS G A f vs kv σ Q':=fun L B ρ s fv xs kx st r1 r2 r3=>
 codeAny_mono (h L B ρ s fv xs kx st r1 r2 r3) fun _ _ z=>by cases z with | mk val v B' σ' e l st r q=>exact ⟨val,v,B',σ',e,l,st,r,k _ _ q⟩
abbrev pD:FuncData:=fnEE ui Ce 7 (some 9) 168
theorem nv {x d:Addr} {m n b ob} {Q:V->am->Prop} (r:Rm 100 A) (hx:σ x=some (.inst 510 d)) (hd:σ d=some (.ns m n b ob)) (hdd:m qS=none) (hv:m gJ=none) (hkf:(K8 w.params).lookup 270=some (dY (fnEE gJ AA 7 (some 20) 269)))
  (h:∀ A' σ₀ ob',Rm 80 A'->σ₀ d=some (.ns m n true ob')->Ex [d] σ σ₀->eS (G8 w mg mb os) A' (.ref 270) [.ref x] [] σ₀ (jx x d gJ Q (G8 w mg mb os))):te (G8 w mg mb os) A (.ref 169) [.ref x] [] σ Q:=by
 refine yw (fd:=pD) (bv:=[(gK, .ref x)]) r.room (⋯) rfl (⋯) (c8 fun _ _=>by kernel_rfl) fun L hL=>?_;show jU _ _ _ (_::_) _ _ _;refine eH (tB (fG (ah (ak (v:= .ref x) rfl ?_))));refine rj (f:=76) (p:=272) hx hd hv (⋯) (⋯) (⋯) ?_;exact (ql (((r.deeper (n:=99)).in1 (n:=98)).le (by decide)) vT hkf hx hd hdd hv fun A' σ₀ ob' r' hd' e=>(h A' σ₀ ob' r' hd' e).mono fun _ _ g=>g.handed).wc
theorem nE {ρ:aX} {L:Addr} {p f x d:Addr} {fdf:FuncData} {nm:Str} {m n ob} {Q:V->am->Prop} (r:Rm 40 A) (P:lg (K8 w.params) p nm f) (hkf:(K8 w.params).lookup f=some (dY fdf)) (hx:σ x=some (.inst 510 d)) (hd:σ d=some (.ns m n true ob)) (hdd:m qS=none) (hv:m nm=none)
  (ho:findObj (K8 w.params) 510 (some (probe nm none)) nm=some (.bind (.ref 76) (.ref p))) (h:∀ A',Rm 20 A'->eS (G8 w mg mb os) A' (.ref f) [.ref x] [] σ (jx x d nm Q (G8 w mg mb os))):vh (G8 w mg mb os) A L (.ref x) nm ρ σ Q:=
 th hx hd hv (⋯) (⋯) ho (tJ ((r.in1 (n:=39)).le (by decide)) P hkf hx hd hdd hv fun A' r'=>(h A' r').mono fun _ _ g=>g.handed).wc
abbrev pE:FuncData:=fnEE jP Ci 7 (some 14) 209
abbrev vB:FuncData:=fnEE gJ AA 7 (some 20) 269
abbrev pF:FuncData:=fnEE oE Cg 7 (some 13) 199
abbrev j0:FuncData:=fnEE kU Cj 7 (some 22) 289
theorem E8 {fp g:Addr} {fd fdg:FuncData} {nmg:Str} {x d:Addr} {k:Nat} {m n b ob} {Q:V->am->Prop} (r:Rm (k+1) A) (hk:(K8 w.params).lookup fp=some (dY fd)) (hkg:(K8 w.params).lookup g=some (dY fdg)) (ok:xx (K8 w.params) fd [gK]=true) (hb:∀ S x,PySem.W.peek (K8 w.params) S (bindArgs fd ⟨[x],[]⟩)=some [(gK,x)]) {pa pc pr:Pos} {pn:Pos} (hbody:fd.body = .stmts [.Return (some (.Call (.Attribute (.Name gK pn) nmg pa) [] [] pc)) pr])
  (hline:(pa.endLine==pc.line)=true) (hloc:fd.scope.names.lookup gK=some .local) (hkind:fd.scope.kind = .function) (hx:σ x=some (.inst 510 d)) (hd:σ d=some (.ns m n b ob)) (hv:m nmg=none) (hf:findIn (K8 w.params) (.ref 510) nmg=some (some (.ref g))) (ht:typeIn (K8 w.params) (.ref g)=some (.type "function"))
  (h:∀ A',Rm k A'->eS (G8 w mg mb os) A' (.ref g) [.ref x] [] σ Q):eS (G8 w mg mb os) A (.ref fp) [.ref x] [] σ Q:=by
 refine dB (fd:=fd) (bv:=[(gK, .ref x)]) r.room hk hbody ok (c8 hb) fun L hL=>?_;refine al (bA (ay (ah (ak (v:= .ref x) (⋯) ?_ hkind hloc)) rfl rfl hline));refine fZ (f:=g) hx hd hv (⋯) (⋯) hf ht (aJ (aA ⟨br hkg,?_⟩));exact (h _ (r.deeper (n:=k))).wc
abbrev b4:FuncData:=cR yJ AD 7 (some 46) 3 [] (.ref 458) .none .none (.str eu 357) .none (.ref 464) .none 0
theorem xn {x d:Addr} {m n b ob} {Q:V->am->Prop} (r:Rm 20 A) (hx:σ x=some (.inst 510 d)) (hd:σ d=some (.ns m n b ob)) (hv:m "_find_back_edges" = none) (h:∀ A',Rm 19 A'->eS (G8 w mg mb os) A' (.ref 465) [.ref x] [] σ Q):eS (G8 w mg mb os) A (.ref 210) [.ref x] [] σ Q:=
 E8 (fd:=pE) (fdg:=b4) r (⋯) (⋯) (⋯) (fun _ _=>by kernel_rfl) rfl rfl (⋯) (⋯) hx hd hv (⋯) (⋯) h
abbrev cr:FuncData:=cR yE yF 7 (some 40) 3 [] (.ref 417) .none .none (.str eu 357) .none (.ref 421) .none 0
abbrev iu:FuncData:=fnEE yG Cp 7 (some 41) 428
abbrev jZ:FuncData:=fnEE yI Cs 7 (some 44) 449
theorem xr {x d:Addr} {m n b ob} {Q:V->am->Prop} (r:Rm 80 A) (hx:σ x=some (.inst 510 d)) (hd:σ d=some (.ns m n b ob)) (hv:m "_find_immediate_dominators" = none) (h:∀ A',Rm 79 A'->eS (G8 w mg mb os) A' (.ref 422) [.ref x] [] σ Q):eS (G8 w mg mb os) A (.ref 270) [.ref x] [] σ Q:=
 E8 (fd:=vB) (fdg:=cr) r (⋯) (⋯) (⋯) (fun _ _=>by kernel_rfl) rfl rfl (⋯) (⋯) hx hd hv (⋯) (⋯) h
theorem rW {x d:Addr} {m n b ob} {Q:V->am->Prop} (r:Rm 20 A) (hx:σ x=some (.inst 510 d)) (hd:σ d=some (.ns m n b ob)) (hv:m "_find_dominator_tree" = none) (h:∀ A',Rm 19 A'->eS (G8 w mg mb os) A' (.ref 429) [.ref x] [] σ Q):eS (G8 w mg mb os) A (.ref 290) [.ref x] [] σ Q:=
 E8 (fd:=j0) (fdg:=iu) r (⋯) (⋯) (⋯) (fun _ _=>by kernel_rfl) rfl rfl (⋯) (⋯) hx hd hv (⋯) (⋯) h
theorem xo {x d:Addr} {m n b ob} {Q:V->am->Prop} (r:Rm 20 A) (hx:σ x=some (.inst 510 d)) (hd:σ d=some (.ns m n b ob)) (hv:m "_find_dominators" = none) (h:∀ A',Rm 19 A'->eS (G8 w mg mb os) A' (.ref 450) [.ref x] [] σ Q):eS (G8 w mg mb os) A (.ref 200) [.ref x] [] σ Q:=
 E8 (fd:=pF) (fdg:=jZ) r (⋯) (⋯) (⋯) (fun _ _=>by kernel_rfl) rfl rfl (⋯) (⋯) hx hd hv (⋯) (⋯) h
abbrev jC:FuncData:=fnEE we Cd 7 (some 7) 154
abbrev gj:FuncData:=fnEE wd Cf 7 (some 11) 182
theorem qm {x d:Addr} {m n ob} {Q:V->am->Prop} (r:Rm 50 A) (hx:σ x=some (.inst 510 d)) (hd:σ d=some (.ns m n true ob)) (hdd:m qS=none) (hv:m oE=none) (h:∀ A',Rm 20 A'->eS (G8 w mg mb os) A' (.ref 200) [.ref x] [] σ (jx x d oE Q (G8 w mg mb os))):eS (G8 w mg mb os) A (.ref 155) [.ref x] [] σ Q:=by
 refine dB (fd:=jC) (bv:=[(gK, .ref x)]) r.room (⋯) rfl (⋯) (c8 fun _ _=>by kernel_rfl) fun L hL=>?_;show WL _ _ _ (_::_) _ _ _;refine al (bA (aH (ah (ak (v:= .ref x) rfl ?_))));exact nE (fdf:=pF) ((r.deeper (n:=49)).le (by decide)) vS (⋯) hx hd hdd hv (⋯) h
theorem kG {x d:Addr} {m n ob} {Q:V->am->Prop} (r:Rm 50 A) (hx:σ x=some (.inst 510 d)) (hd:σ d=some (.ns m n true ob)) (hdd:m qS=none) (hv:m kU=none) (h:∀ A',Rm 20 A'->eS (G8 w mg mb os) A' (.ref 290) [.ref x] [] σ (jx x d kU Q (G8 w mg mb os))):eS (G8 w mg mb os) A (.ref 183) [.ref x] [] σ Q:=by
 refine dB (fd:=gj) (bv:=[(gK, .ref x)]) r.room (⋯) rfl (⋯) (c8 fun _ _=>by kernel_rfl) fun L hL=>?_;show WL _ _ _ (_::_) _ _ _;refine al (bA (aH (ah (ak (v:= .ref x) rfl ?_))));exact nE (fdf:=j0) ((r.deeper (n:=49)).le (by decide)) qB (⋯) hx hd hdd hv (⋯) h
end
structure gB (T:List (Int×Addr×List Int)) (ps:List (Int×Int)):Prop where
 nk:(T.map (·.1)).Nodup
 keys:∀ k,k∈T.map (·.1)↔∃ p∈ps,k=p.1\/(k=p.2/\p.1≠p.2)
 sets:∀ e∈T,e.2.2.Nodup/\e.2.2.length<=ps.length/\∀ j,j∈e.2.2↔((j,e.1)∈ps/\j≠e.1)
 len:T.length<=2*ps.length
structure u6 (T:List (Int×Addr×List Int)) (ps:List (Int×Int)) (ks:List Int):Prop where
 nk:(T.map (·.1)).Nodup
 keys:∀ k,k∈T.map (·.1)↔(∃ p∈ps,k=p.1\/(k=p.2/\p.1≠p.2))\/k∈ks
 sets:∀ e∈T,e.2.2.Nodup/\e.2.2.length<=ps.length/\∀ j,j∈e.2.2↔((j,e.1)∈ps/\j≠e.1)
 len:T.length<=2*ps.length+ks.length
variable {T:List (Int×Addr×List Int)} {ps:List (Int×Int)} {ks:List Int} {k u v:Int} {a:Addr}
theorem gB.mid (h:gB T ps):u6 T ps []:=⟨h.nk,fun k=>(h.keys k).trans ⟨.inl,fun c=>c.elim id fun m=>nomatch m⟩,h.sets,Nat.le_succ_of_le h.len |> fun _=>h.len⟩
theorem u6.old (h:u6 T ps ks) (m:k∈T.map (·.1)):u6 T ps (k::ks):=⟨h.nk,fun j=>by
 rw [h.keys j,IZ];constructor
 ·rintro (c | c)
  ·exact .inl c
  ·exact .inr (.inr c)
 ·rintro (c | c | c)
  ·exact .inl c
  ·rw [c];exact (h.keys k).mp m
  ·exact .inr c,h.sets,Nat.le_succ_of_le h.len⟩
theorem u6.new (h:u6 T ps ks) (m:k∉T.map (·.1)):u6 (T++[(k,a,[])]) ps (k::ks):=by
 refine ⟨?_,fun j=>?_,fun e me=>?_,?_⟩
 ·rw [I2];exact Jb.mpr ⟨h.nk,by simp,fun x hx y hy=>by simp at hy;subst hy;intro e;subst e;exact m hx⟩
 ·rw [I2,I1,h.keys j,IZ];simp only [List.map_cons,List.map_nil,IZ,I3,or_false];constructor
  ·rintro ((c | c) | c)
   ·exact .inl c
   ·exact .inr (.inr c)
   ·exact .inr (.inl c)
  ·rintro (c | c | c)
   ·exact .inl (.inl c)
   ·exact .inr c
   ·exact .inl (.inr c)
 ·rcases I1.mp me with me | me
  ·exact h.sets e me
  ·rw [IN] at me;subst me;refine ⟨List.nodup_nil,Nat.zero_le _,fun j=>⟨(fun m=>nomatch m),fun ⟨c,n⟩=>?_⟩⟩;exact absurd ((h.keys k).mpr (.inl ⟨_,c, .inr ⟨rfl,n⟩⟩)) m
 ·dsimp only [IV,List.length_cons]
  have:=h.len
  simp
  exact Nat.succ_le_succ this
theorem u6.same (h:u6 T ps [u]):gB T (ps++[(u,u)]):=by
 refine ⟨h.nk,fun k=>?_,fun e me=>?_,?_⟩
 ·rw [h.keys k,IN];constructor
  ·rintro (⟨p,m,c⟩ | c)
   ·exact ⟨p,IS _ m,c⟩
   ·exact ⟨(u,u),by simp, .inl c⟩
  ·rintro ⟨p,m,c⟩;rcases I1.mp m with m | m
   ·exact .inl ⟨p,m,c⟩
   ·rw [IN] at m;subst m;rcases c with c | ⟨_,n⟩
    ·exact .inr c
    ·exact absurd rfl n
 ·have hz0:=h.sets e me;refine ⟨hz0.1,by rw [IV];exact Nat.le_succ_of_le hz0.2.1,fun j=>?_⟩;rw [hz0.2.2 j,I1,IN];constructor
  ·rintro ⟨c,n⟩;exact ⟨.inl c,n⟩
  ·rintro ⟨c | c,n⟩
   ·exact ⟨c,n⟩
   ·rw [Prod.mk.injEq] at c;exact absurd (c.1.trans c.2.symm) n
 ·have:=h.len
  simp at this ⊢;exact E7 this rfl
theorem u6.put {xs zs:List Int} (h:u6 T ps [v,u]) (huv:u≠v) (m:(v,a,xs)∈T) (hz:∀ j,j∈zs↔j=u\/j∈xs) (nz:zs.Nodup) (lz:zs.length<=xs.length+1):gB (cN T v zs) (ps++[(u,v)]):=by
 intros T ps u v a xs zs
 intro h huv m hz nz lz
 have hk:(cN T v zs).map (·.1)=T.map (·.1):=by
  unfold cN;rw [Jk]
  exact List.map_congr_left fun e _=>by dsimp only [Function.comp];split <;> rfl
 refine ⟨by rw [hk];exact h.nk,fun k=>?_,fun e me=>?_,?_⟩
 ·rw [hk,h.keys k];simp only [IZ,I3,or_false];constructor
  ·rintro (⟨p,m,c⟩ | c | c)
   ·exact ⟨p,IS _ m,c⟩
   ·exact ⟨(u,v),by simp, .inr ⟨c,huv⟩⟩
   ·exact ⟨(u,v),by simp, .inl c⟩
  ·rintro ⟨p,m,c⟩;rcases I1.mp m with m | m
   ·exact .inl ⟨p,m,c⟩
   ·rw [IN] at m;subst m;rcases c with c | ⟨c,_⟩
    ·exact .inr (.inr c)
    ·exact .inr (.inl c)
 ·unfold cN at me;obtain ⟨e0,m0,rfl⟩:=I0.mp me;ac_rfl;have hz1:=h.sets e0 m0;right
  by_cases c:e0.1=v
  ·rw [if_pos c]
   have:=dO h.nk m0 m c
   subst this;refine ⟨nz,by rw [IV];exact Nat.le_trans lz (Nat.succ_le_succ hz1.2.1),fun j=>?_⟩;show j∈zs↔_;rw [hz j,hz1.2.2 j,I1,IN,Prod.mk.injEq];dsimp only;constructor
   ·rintro (c | ⟨c,n⟩)
    ·exact ⟨.inr ⟨c,rfl⟩,by rw [c];exact huv⟩
    ·exact ⟨.inl c,n⟩
   ·rintro ⟨c | c,n⟩
    ·exact .inr ⟨c,n⟩
    ·exact .inl c.1
  ·rw [if_neg c];refine ⟨hz1.1,by rw [IV];exact Nat.le_succ_of_le hz1.2.1,fun j=>?_⟩;rw [hz1.2.2 j,I1,IN,Prod.mk.injEq];constructor
   ·rintro ⟨c,n⟩;exact ⟨.inl c,n⟩
   ·rintro ⟨q | q,n⟩
    ·exact ⟨q,n⟩
    ·exact absurd q.2 c
 ·have:=h.len
  unfold cN;simp at this ⊢;exact this
abbrev dC (ps:List (Int×Int)):List (Int×V):=ps.map fun p=>(p.1, .int p.2)
structure gA (σ:am) (D:Addr) (T:List (Int×Addr×List Int)):Prop where
 h:g7 σ D T
 na:(bD T).Nodup
 nD:D∉bD T
theorem gA.ex {σ σ':am} {D:Addr} {T:List (Int×Addr×List Int)} (h:gA σ D T) (e:Ex [] σ σ'):gA σ' D T:=⟨h.h.ex e (fun m=>nomatch m) (fun _ _ m=>nomatch m),h.na,h.nD⟩
theorem gA.snoc {σ σ1 σ2:am} {D a:Addr} {T:List (Int×Addr×List Int)} {k:Int} {oa od:Obj} (h:gA σ D T) (ha:σ a=none) (fa:σ1 a=some (.iset [] oa)) (e1:Ex [] σ σ1) (fd:σ2 D=some (.idict (cb T++[(k, .ref a)]) od)) (e2:Ex [D] σ1 σ2):gA σ2 D (T++[(k,a,[])]):=by
 ac_rfl;obtain ⟨⟨op,hp,at_⟩,na,nD⟩:=h;right;have aD:a≠D:=(aW hp ha).symm;refine ⟨⟨od,by rw [eM];exact fd,fun e m=>?_⟩,?_,?_⟩
 ·rcases I1.mp m with m | m
  ·exact (at_ e m).imp fun _ q=>e2.but (e1.at q) fun c=>nD (c▸IR (f:=fun e=>e.2.1) m)
  ·rw [IN] at m;subst m;exact ⟨oa,e2.but fa aD⟩
 ·unfold bD;rw [I2];refine Jb.mpr ⟨na,by simp,fun x hx y hy=>?_⟩;obtain ⟨e,me,rfl⟩:=I0.mp hx;simp at hy;subst hy;obtain ⟨o,q⟩:=at_ e me;exact aW q ha
 ·unfold bD;rw [I2];intro m;rcases I1.mp m with m | m
  ·exact nD m
  ·simp at m;exact aD m.symm
section
variable {A:Around} {w:World} {mg mb:Str->Option Value} {os:OsState} {σ:am}
inductive s9 (σ₀:am) (D:Addr) (ps:List (Int×Int)) (xs:List V) (ρ:aX) (σ:am):Prop
 | mk (pre:List (Int×Int)) (post:List (Int×Int)) (T:List (Int×Addr×List Int)) (e:ps=pre++post) (ex:xs=(dC post).map E9) (hT:gB T pre) (hA:gA σ D T) (ke:Ex [] σ₀ σ) (fr:∀ a∈bD T,σ₀ a=none) (hρ:ρ "domtree" = some (.ref D)):s9 σ₀ D ps xs ρ σ
theorem vy {x d di:Addr} {m n b ob} {ps:List (Int×Int)} {oi:Obj} {Q:V->am->Prop} (r:Rm 10 A) (hx:σ x=some (.inst 510 d)) (hd:σ d=some (.ns m n b ob)) (hm:m gJ=some (.ref di)) (hi:σ di=some (.idict (dC ps) oi)) (hl:ps.length<50) (np:(ps.map (·.1)).Nodup)
  (q:∀ σ' D T,Ex [] σ σ'->gA σ' D T->gB T ps->Q (.ref D) σ'):eS (G8 w mg mb os) A (.ref 429) [.ref x] [] σ Q:=by
 intros A w mg mb os σ x d di m n b ob ps oi Q
 intro r hx hd hm hi hl np q;refine dB (fd:=iu) (bv:=[(gK, .ref x)]) r.room (⋯) rfl (⋯) (c8 fun _ _=>by kernel_rfl) ?_
 injections L
 intro hL;show WL _ _ _ (_::_) _ _ _;refine al (ar (aH (ah (ak (v:= .ref x) rfl ?_))));refine bG hx hd hm (az ?_) (fun B v h=>bB h) (⋯) (fun v=>by kernel_rfl);refine al (ar (cu fun D hD=>bj (P:=fun s=>WB _ _ _ _ _ _ s _) hD fun σ1 fD e1=>az ?_));refine al (d6 (ay (ah (ak (v:= .ref di) rfl ?_))));refine wS (e1.at hi) (aJ (aA ⟨ba.bi,wN (e1.at hi) fun iv hiv=>bj (P:=fun s=>WI _ _ _ _ _ _ s _) hiv fun σ2 fiv e2=>?_⟩));refine wR (r.deeper (n:=9)).hh fiv (e2.at (e1.at hi)) ?_;refine cD (s9 σ D ps) ?_ ?_ _ ⟨[],ps,[],rfl,rfl,⟨List.nodup_nil,fun k=>⟨(fun m=>nomatch m),fun hE=>by obtain ⟨_,m,_⟩:=hE;exact nomatch m⟩,(fun _ m=>nomatch m),I4 _⟩,⟨⟨emptyDict,e2.at fD,(fun _ m=>nomatch m)⟩,List.nodup_nil,(fun m=>nomatch m)⟩,e1.trans e2,(fun _ m=>nomatch m),rfl⟩
 ·intro y ys ρ' σ' iv
  cases iv with | mk pre post T e ex hT hA ke fr hρ=>
  cases post with
  | nil=>injection ex
  | cons p post=>
   obtain ⟨u,v⟩:=p;cases ex;refine fq (r.deeper (n:=9)).hh ?_;refine bo (az (bo (az ?_)));show WL _ _ _ _ ((ρ'.set "u" (.int u)).set "v" (.int v)) σ' _;have gu:((ρ'.set "u" (.int u)).set "v" (.int v)) "u" = some (.int u):=(if_neg (by decide)).trans (if_pos rfl);have gv:((ρ'.set "u" (.int u)).set "v" (.int v)) "v" = some (.int v):=if_pos rfl;have gD:((ρ'.set "u" (.int u)).set "v" (.int v)) "domtree" = some (.ref D):=(if_neg (by decide)).trans ((if_neg (by decide)).trans hρ);generalize ((ρ'.set "u" (.int u)).set "v" (.int v))=ρ2 at gu gv gD ⊢;have hD':∀ {τ:am},Ex [D] σ' τ->Ex [] σ τ:=fun e a y _ h=>e a y (fun m=>by rw [IN] at m;rw [m,hD] at h;injection h) (ke.at h);ac_rfl;obtain ⟨op,hp,at_⟩:=hA.h;right
   have hlen:pre.length<50:=by rw [e,IV] at hl;exact zD hl
   have hT60:=hT.len;refine al (WS.mono (Q:=fun f ρ3 σ3=>f = .next/\ρ3=ρ2/\∃ Tm,gA σ3 D Tm/\u6 Tm pre [u]/\Ex [] σ σ3/\∀ b∈bD Tm,σ b=none) (bO (aI (ah (ak gu (ah (ak gD (gE hp (aV ?_)))))))) ?_)
   ·by_cases hk:u∈T.map (·.1)
    ·obtain ⟨y,hz3⟩:=I0.mp hk;rw [show bS (cb T) u=some (.ref y.2.1) from bQ (xs:=y.2.2) hT.nk (by rw [<- hz3.2];exact hz3.1)];exact aE ⟨rfl,rfl,T,hA,hT.mid.old hk,ke,fr⟩
    ·rw [d9 hk];refine al (aY (aF (ah (aQ dm (aJ (aA ⟨ba.ty,cL fun a oa ha=>bj (P:=fun s=>lV _ _ _ _ _ _ s _) ha fun σ3 fa e3=>bz (ah (ak gD (ah (ak gu ?_))))⟩))))));refine bZ (e3.at hp) (by unfold cb;rw [IP];exact zC hT60 hlen rfl rfl) fun od=>aZ (P:=fun s=>WL _ _ _ _ _ s _) fun σ4 fD e4=>aE ⟨rfl,rfl,T++[(u,a,[])],?_,hT.mid.new hk,hD' (e3.nil.trans e4),fun b m=>?_⟩
     have hs:eY (cb T) u (.ref a)=cb T++[(u, .ref a)]:=by
      unfold eY;rw [if_neg];intro c;ac_rfl;obtain ⟨z,mz,hz⟩:=List.any_eq_true.mp c;right;unfold cb at mz;obtain ⟨w',mw,rfl⟩:=I0.mp mz;exact hk ((Jf (p:=w'.1=u) hz)▸IR (f:=fun e=>e.1) mw)
     ·rw [hs] at fD;exact hA.snoc ha fa e3 fD e4
     ·unfold bD at m;rw [I2] at m;rcases I1.mp m with m | m
      ·exact fr b m
      ·simp at m;rw [m];exact ke.none ha (fun c=>nomatch c)
   ·rintro f ρ3 σ3 ⟨rfl,rfl,Tm,hAm,hMm,hEm,frm⟩;ac_rfl;obtain ⟨om,hm',atm⟩:=hAm.h;right;have lm:=hMm.len;refine al (bO (aI (ah (ak gu (ah (ak gv (pv (aV ?_))))))))
    by_cases huv:u=v
    ·subst huv;rw [show (u != u)=false by simp];exact aE (aE ⟨hEm.at hi,⟨pre++[(u,u)],post,Tm,by simp [e],rfl,hMm.same,hAm,hEm,frm,gD⟩⟩)
    rw [show (u != v)=true by simp [huv]]
    have fin:∀ {T2:List (Int×Addr×List Int)} {σ4 σ5:am} {a:Addr} {xs zs:List Int} {oz:Obj},gA σ4 D T2->u6 T2 pre [v,u]->Ex [] σ σ4->(∀ b∈bD T2,σ b=none)->(v,a,xs)∈T2->(∀ j,j∈zs↔j=u\/j∈xs)->zs.Nodup->zs.length<=xs.length+1->σ5 a=some (.iset zs oz)->Ex [a] σ4 σ5->σ5 di=some (.idict (dC ps) oi)/\s9 σ D ps ((dC post).map E9) ρ3 σ5:=fun {T2 σ4 σ5 a xs zs oz} hA2 hM2 hE2 fr2 m2 hz nz lz f5 e5=>by
     have ha:=fr2 a (IR (f:=fun e=>e.2.1) m2);have hE5:Ex [] σ σ5:=fun b y _ h=>e5.but (hE2.at h) (aW h ha);exact ⟨hE5.at hi,⟨pre++[(u,v)],post,cN T2 v zs,by simp [e],rfl,hM2.put huv m2 hz nz lz,⟨hA2.h.put e5 f5 m2 (fun c=>hA2.nD (c▸IR (f:=fun e=>e.2.1) m2)) hM2.nk hA2.na,by rw [cp];exact hA2.na,by rw [cp];exact hA2.nD⟩,hE5,(by rw [cp];exact fr2),gD⟩⟩
    refine al (bh (ay (ay (ah (ak gD ?_)))));refine cW hm' (aJ (ao (ah (ak gv (ao (aF (ah (aQ dm (aJ (aA ⟨ba.ty,cL fun a oa ha=>bj (P:=fun s=>p7 _ _ _ _ _ s _) ha fun σ4 fa e4=>aA ⟨ba.bi,?_⟩⟩))))))))))
    by_cases hk:v∈Tm.map (·.1)
    ·obtain ⟨⟨v',b,xs⟩,my,hy⟩:=I0.mp hk;cases (hy:v'=v);have gg:=bQ hMm.nk my;ac_rfl;obtain ⟨ob',hb⟩:=atm _ my;ac_rfl;obtain ⟨nx,lx,_⟩:=hMm.sets _ my;right;right;have lx:xs.length<=pre.length:=lx;refine WC_setdefault (e4.at hm') (by unfold cb;rw [IP];simp at lm;exact Dm lm hlen rfl rfl) (fun w' e'=>?_) (fun e'=>by rw [gg] at e';injection e');rw [gg] at e';cases e';refine b9 (e4.at hb) (aJ (ao (ah (ak gu (aA ⟨ba.bi,?_⟩)))));exact b7 (e4.at hb) nx (by show xs.length<63;lia) fun zs oz nz lz hz=>aZ (P:=fun s=>WL _ _ _ _ _ s _) fun σ5 f5 e5=>aE (aE (fin (hAm.ex e4) (hMm.old hk) (hEm.trans e4) frm my hz nz lz f5 e5))
    ·have aD:a≠D:=(aW hm' ha).symm;refine WC_setdefault (e4.at hm') (by unfold cb;rw [IP];simp at lm;exact Dm lm hlen rfl rfl) (fun w' e'=>by rw [d9 hk] at e';injection e') fun _ od=>aZ (P:=fun s=>WM _ _ _ _ _ _ s _) fun σ5 fD e5=>?_;have fa5:=e5.but fa aD;refine b9 fa5 (aJ (ao (ah (ak gu (aA ⟨ba.bi,?_⟩)))));refine b7 fa5 List.nodup_nil (by decide) fun zs oz nz lz hz=>aZ (P:=fun s=>WL _ _ _ _ _ s _) fun σ6 f6 e6=>aE (aE (fin (hAm.snoc ha fa e4 fD e5) (hMm.new hk) (fun b y _ h=>e5.but ((hEm.trans e4).at h) (aW h hD)) (fun b m=>?_) (IT _ (.head _)) hz nz lz f6 e6));unfold bD at m;rw [I2] at m;rcases I1.mp m with m | m
     ·exact frm b m
     ·simp at m;rw [m];exact hEm.none ha (fun c=>nomatch c)
 ·intro ρ' σ' iv
  cases iv with | mk pre post T e ex hT hA ke fr hρ=>
  cases post with
  | nil=>
   rw [List.append_nil] at e;subst e;exact aE (al (bA (ah (ak hρ (q σ' D T ke hA hT)))))
  | cons _ _=>injection ex
abbrev uJ:FuncData:=fnEE yH Cr 7 (some 43) 442
theorem rU {x d di:Addr} {m n b ob} {Q:V->am->Prop} (r:Rm 19 A) (hx:σ x=some (.inst 510 d)) (hd:σ d=some (.ns m n b ob)) (hm:m gJ=some (.ref di)) (hv:m "_find_dominators_from_immediate_doms" = none)
  (h:∀ A',Rm 18 A'->eS (G8 w mg mb os) A' (.ref 443) [.ref x, .ref di] [] σ Q):eS (G8 w mg mb os) A (.ref 450) [.ref x] [] σ Q:=by
 refine dB (fd:=jZ) (bv:=[(gK, .ref x)]) r.room (⋯) rfl (⋯) (c8 fun _ _=>by kernel_rfl) fun L hL=>?_;show WL _ _ _ (_::_) _ _ _;refine al (bA (ay (ah (ak (v:= .ref x) rfl ?_))));refine fZ (f:=443) hx hd hv (⋯) (⋯) (⋯) (⋯) ?_;refine aJ (ao (aH (ah (ak (v:= .ref x) rfl ?_))));refine bG hx hd hm ?_ (fun B v h=>bB h) (⋯) (fun v=>by kernel_rfl);exact aA ⟨br (fd:=uJ) (⋯),(h _ (r.deeper (n:=18))).wc⟩
end
inductive Up (ps:List (Int×Int)):Int->Int->Prop
 | refl (k:Int):Up ps k k
 | step {k v j:Int}:(k,v)∈ps->Up ps v j->Up ps k j
structure jg (ps:List (Int×Int)):Prop where
 np:(ps.map (·.1)).Nodup
 cl:∀ p∈ps,p.2∈ps.map (·.1)
 rk:∃ rk:Int->Nat,∀ p∈ps,p.1=p.2\/rk p.2<rk p.1
variable {T:List (Int×Addr×List Int)} {ps:List (Int×Int)} {k v j:Int} {a:Addr} {xs:List Int}
theorem jg.one (h:jg ps) (m:(k,v)∈ps) (m':(k,j)∈ps):v=j:=congrArg Prod.snd (dO (f:=fun p:Int×Int=>p.1) h.np m m' rfl)
theorem jg.root_of (h:jg ps) (m:(k,k)∈ps) {x:Int} (u:Up ps x j):x=k->j=k:=by
 induction u with
 | refl=>exact id
 | step q _ ih=>exact fun e=>ih (by rw [e] at q;exact (h.one m q).symm)
theorem jg.up_root (h:jg ps) (m:(k,k)∈ps):Up ps k j↔j=k:=
 ⟨fun u=>h.root_of m u rfl,by rintro rfl;exact .refl _⟩
theorem jg.up_step (h:jg ps) (m:(k,v)∈ps):Up ps k j↔j=k\/Up ps v j:=by
 constructor
 ·intro u
  cases u with
  | refl=>exact .inl rfl
  | step q u=>rw [h.one m q];exact .inr u
 ·rintro (rfl | u)
  ·exact .refl _
  ·exact .step m u
theorem Up.key (h:jg ps) (u:Up ps k j) (m:k∈ps.map (·.1)):j∈ps.map (·.1):=by
 induction u with
 | refl=>exact m
 | step q _ ih=>exact ih (h.cl _ q)
structure fX (T:List (Int×Addr×List Int)) (ps:List (Int×Int)):Prop where
 nk:(T.map (·.1)).Nodup
 sub:∀ k∈T.map (·.1),k∈ps.map (·.1)
 sets:∀ e∈T,e.2.2.Nodup/\∀ j,j∈e.2.2↔Up ps e.1 j
theorem fX.len (h:fX T ps) (c:jg ps) (m:(k,a,xs)∈T):xs.length<=ps.length:=by
 have:=h.sets _ m
 have hk:=h.sub k (IR (f:=fun e=>e.1) m);have l:=IQ this.1 (l₂:=ps.map (·.1)) fun j mj=>((this.2 j).mp mj).key c hk;rwa [IP] at l
theorem fX.snoc (h:fX T ps) (hk:k∉T.map (·.1)) (m:k∈ps.map (·.1)) (nx:xs.Nodup) (hx:∀ j,j∈xs↔Up ps k j):fX (T++[(k,a,xs)]) ps:=by
 refine ⟨?_,fun j m'=>?_,fun e me=>?_⟩
 ·rw [I2];exact Jb.mpr ⟨h.nk,by simp,fun x mx y hy=>by simp at hy;subst hy;intro e;subst e;exact hk mx⟩
 ·rw [I2] at m';rcases I1.mp m' with m' | m'
  ·exact h.sub j m'
  ·simp at m';rw [m'];exact m
 ·rcases I1.mp me with me | me
  ·exact h.sets e me
  ·rw [IN] at me;subst me;exact ⟨nx,hx⟩
structure Df (T:List (Int×Addr×List Int)) (ps:List (Int×Int)) (rk:Int->Nat) (ch bs:List Int) (n:Nat):Prop where
 kc:∀ k∈ch,k∉T.map (·.1)/\k∈ps.map (·.1)
 kb:∀ k∈bs,k∈ps.map (·.1)
 lt:ch.Pairwise (fun x y=>rk x<rk y)
 all:∀ k∈ps.map (·.1),k∈T.map (·.1)\/k∈bs
 n:n+ch.length+2*T.length=2*ps.length+bs.length
 lb:bs.length<=ps.length
variable {rk:Int->Nat} {ch bs:List Int} {n:Nat}
theorem Df.few (h:Df T ps rk ch bs n) (r:fX T ps):ch.length+T.length<=ps.length:=by
 have l:=IQ (l₁:=ch++T.map (·.1)) (l₂:=ps.map (·.1)) (Jb.mpr ⟨h.lt.imp fun {x y} l e=>by rw [e] at l;exact Ji _ l,r.nk,fun x hx y hy e=>(h.kc x hx).1 (e▸hy)⟩) fun x m=>(I1.mp m).elim (fun m=>(h.kc x m).2) (r.sub x);rwa [IV,IP,IP] at l
inductive du (T:List (Int×Addr×List Int)) (ps:List (Int×Int)) (rk:Int->Nat) (st:List Int) (n:Nat):Prop
 | mk (ch bs:List Int) (e:st=ch++bs) (h:Df T ps rk ch bs n):du T ps rk st n
variable {st:List Int} {t:Int}
theorem du.key (h:du T ps rk (t::st) n):t∈ps.map (·.1):=by
 cases h with | mk ch bs e h=>
 have:t∈ch++bs:=e▸ .head _
 exact (I1.mp this).elim (fun m=>(h.kc t m).2) (h.kb t)
theorem du.skip (h:du T ps rk (t::st) n) (r:fX T ps) (m:t∈T.map (·.1)):∃ m,m<n/\du T ps rk st m:=by
 intros T ps rk n st t
 intro h r m
 cases h with | mk ch bs e h=>
 have hf:=h.few r;have hn:=h.n
 cases ch with
 | cons c ch=>cases e;exact absurd m (h.kc _ (.head _)).1
 | nil=>
  cases bs with
  | nil=>injection e
  | cons b bs=>
   cases e;simp at hn hf;refine ⟨n - 1,by lia,⟨[],st,rfl,⟨fun k m=>(nomatch m),fun k m=>h.kb k (.tail _ m), .nil,fun j mj=>(h.all j mj).elim .inl fun q=>?_,by simp;lia,Nat.le_of_succ_le h.lb⟩⟩⟩;exact (IZ.mp q).elim (fun q=> .inl (q▸m)) .inr
theorem du.done (h:du T ps rk (t::st) n) (r:fX T ps) (ht:t∉T.map (·.1)):∃ m,m<n/\du (T++[(t,a,xs)]) ps rk st m:=by
 intros T ps a xs rk n st t
 intro h r ht
 cases h with | mk ch bs e h=>
 have hf:=h.few r;have hlt':=IQ (l₁:=t::T.map (·.1)) (l₂:=ps.map (·.1)) (I6.mpr ⟨ht,r.nk⟩) fun x m=>(IZ.mp m).elim (fun q=>q▸du.key ⟨ch,bs,e,h⟩) (r.sub x);rw [List.length_cons,IP,IP] at hlt';have hn:=h.n
 have mem:∀ {j},j∈(T++[(t,a,xs)]).map (·.1)↔j∈T.map (·.1)\/j=t:=by intro j;rw [I2];simp
 cases ch with
 | cons c ch=>
  cases e;simp at hn hf;have hlt:=List.pairwise_cons.mp h.lt;refine ⟨n - 1,by lia,⟨ch,bs,rfl,⟨fun k m=>⟨fun q=>?_,(h.kc k (.tail _ m)).2⟩,h.kb,hlt.2,fun j mj=>(h.all j mj).elim (fun q=> .inl (mem.mpr (.inl q))) .inr,by simp;lia,h.lb⟩⟩⟩;rcases mem.mp q with q | q
  ·exact (h.kc k (.tail _ m)).1 q
  ·have:=hlt.1 k m;rw [q] at this;exact Ji _ this
 | nil=>
  cases bs with
  | nil=>injection e
  | cons b bs=>
   cases e;simp at hn hf;refine ⟨n - 3,by lia,⟨[],st,rfl,⟨fun k m=>(nomatch m),fun k m=>h.kb k (.tail _ m), .nil,fun j mj=>(h.all j mj).elim (fun q=> .inl (mem.mpr (.inl q))) fun q=>?_,by simp;lia,Nat.le_of_succ_le h.lb⟩⟩⟩;exact (IZ.mp q).elim (fun q=> .inl (mem.mpr (.inr q))) .inr
theorem du.push (h:du T ps rk (t::st) n) (r:fX T ps) (hv:v∉T.map (·.1)) (ht:t∉T.map (·.1)) (mv:v∈ps.map (·.1)) (hr:rk v<rk t):∃ m,m<n/\du T ps rk (v::t::st) m:=by
 intros T ps v rk n st t
 intro h r hv ht mv hr
 cases h with | mk ch bs e h=>
 have hn:=h.n;have hs:0<n->Df T ps rk (v::ch) bs (n - 1):=fun hp=>⟨fun k m=>(IZ.mp m).elim (fun e=>by rw [e];exact ⟨hv,mv⟩) (h.kc k),h.kb,List.pairwise_cons.mpr ⟨fun y my=>?_,h.lt⟩,h.all,by simp;lia,h.lb⟩
 ·by_cases hp:0<n
  ·exact ⟨n - 1,(Nat.sub_one_lt_of_lt hp),⟨v::ch,bs,by rw [e];rfl,hs hp⟩⟩
  ·have:Df T ps rk (v::ch) bs 0->False:=fun q=>by have:=q.n;simp at this;lia
   have z:n=0:=Nat.eq_zero_of_not_pos hp;subst z;have hf:=h.few r;exfalso
   have hc:∀ y∈ch,rk v<rk y:=fun y my=>by
    cases ch with
    | nil=>cases my
    | cons c ch=>
     (injection e with zz;subst zz)
     rcases IZ.mp my with rfl | my
     ·exact hr
     ·exact Nat.lt_trans hr ((List.pairwise_cons.mp h.lt).1 y my)
   have l:=IQ (l₁:=v::(ch++T.map (·.1))) (l₂:=ps.map (·.1)) (I6.mpr ⟨fun m=>(I1.mp m).elim (fun m=>by have:=hc v m;exact Ji _ this) hv,Jb.mpr ⟨h.lt.imp fun {x y} l e=>by rw [e] at l;exact Ji _ l,r.nk,fun x hx y hy e=>(h.kc x hx).1 (e▸hy)⟩⟩) fun x m=>(IZ.mp m).elim (fun e=>e▸mv) fun m=>(I1.mp m).elim (fun m=>(h.kc x m).2) (r.sub x);simp at l;lia
 ·cases ch with
  | nil=>cases my
  | cons c ch=>
   (injection e with zz;subst zz)
   rcases IZ.mp my with rfl | my
   ·exact hr
   ·exact Nat.lt_trans hr ((List.pairwise_cons.mp h.lt).1 y my)
theorem du.start:du [] ps rk ((ps.map (·.1)).reverse) (3*ps.length):=⟨[],_,rfl,⟨fun k m=>(nomatch m),fun k m=>Ja.mp m, .nil,fun j m=> .inr (Ja.mpr m),by simp;exact Nat.succ_mul 2 _,by simp⟩⟩
theorem du.len (h:du T ps rk st n) (r:fX T ps):st.length<=2*ps.length:=by
 cases h with | mk ch bs e h=>
 have:=h.few r
 have:=h.lb
 rw [e,IV];lia
theorem du.empty (h:du T ps rk [] n) (m:k∈ps.map (·.1)):k∈T.map (·.1):=by
 cases h with | mk ch bs e h=>
 cases ch with
 | cons _ _=>injection e
 | nil=>
  cases bs with
  | cons _ _=>injection e
  | nil=>exact (h.all k m).resolve_right fun m=>nomatch m
theorem c9 {ps:List (Int×Int)} (np:(ps.map (·.1)).Nodup) {k v:Int} (m:(k,v)∈ps):bS (dC ps) k=some (.int v):=by
 induction ps with
 | nil=>cases m
 | cons e l ih=>
  rw [List.map_cons,I6] at np;unfold bS dC;rw [List.map_cons];rcases IZ.mp m with rfl | m
  ·rw [List.find?_cons_of_pos (by simp)];rfl
  ·rw [List.find?_cons_of_neg (by
    intro q
    exact np.1 ((Jf (p:=e.1=k) q)▸IR (f:=fun e=>e.1) m))]
   exact ih np.2 m
theorem gR (ps:List (Int×Int)):(dC ps).map (·.1)=ps.map (·.1):=by unfold dC;rw [Jk];rfl
theorem bt (xs ys:List Int):aB (xs++ys)=aB xs++aB ys:=I2
theorem g7.snoc {σ σ1 σ2:am} {D a:Addr} {T:List (Int×Addr×List Int)} {k:Int} {xs:List Int} {oa od:Obj} (h:g7 σ D T) (aD:a≠D) (nD:D∉bD T) (fa:σ1 a=some (.iset xs oa)) (e1:Ex [] σ σ1) (fd:σ2 D=some (.idict (cb T++[(k, .ref a)]) od)) (e2:Ex [D] σ1 σ2):g7 σ2 D (T++[(k,a,xs)]):=by
 ac_rfl;obtain ⟨op,hp,at_⟩:=h;right;refine ⟨od,by rw [eM];exact fd,fun e m=>?_⟩;rcases I1.mp m with m | m
 ·exact (at_ e m).imp fun _ q=>e2.but (e1.at q) fun c=>nD (c▸IR (f:=fun e=>e.2.1) m)
 ·rw [IN] at m;subst m;exact ⟨oa,e2.but fa aD⟩
theorem kK {T:List (Int×Addr×List Int)} {k:Int} {v:V} (hk:k∉T.map (·.1)):eY (cb T) k v=cb T++[(k,v)]:=by
 unfold eY;rw [if_neg];intro c;ac_rfl;obtain ⟨z,mz,hz⟩:=List.any_eq_true.mp c;right;unfold cb at mz;obtain ⟨w',mw,rfl⟩:=I0.mp mz;exact hk ((Jf (p:=w'.1=k) hz)▸IR (f:=fun e=>e.1) mw)
section
variable {A:Around} {w:World} {mg mb:Str->Option Value} {os:OsState} {σ:am}
inductive s4 (σ₀:am) (D S di:Addr) (ps:List (Int×Int)) (rk:Int->Nat) (n:Nat) (ρ:aX) (σ:am):Prop
 | mk (T:List (Int×Addr×List Int)) (st:List Int) (hT:fX T ps) (hA:g7 σ D T) (fr:∀ a∈bD T,σ₀ a=none/\a≠D/\a≠S) (hst:du T ps rk st n) (hS:σ S=some (.list (aB st.reverse))) (ke:Ex [] σ₀ σ) (hD:ρ "result" = some (.ref D)) (hs:ρ "stack" = some (.ref S)) (hi:ρ "immediate_doms" = some (.ref di)):s4 σ₀ D S di ps rk n ρ σ
theorem Bz {x di:Addr} {ps:List (Int×Int)} {oi:Obj} {Q:V->am->Prop} (r:Rm 18 A) (hi:σ di=some (.idict (dC ps) oi)) (hl:ps.length<30) (hc:jg ps)
  (q:∀ σ' D T,Ex [] σ σ'->g7 σ' D T->fX T ps->(∀ k∈ps.map (·.1),k∈T.map (·.1))->Q (.ref D) σ'):eS (G8 w mg mb os) A (.ref 443) [.ref x, .ref di] [] σ Q:=by
 intros A w mg mb os σ x di ps oi Q
 intro r hi hl hc q;refine dB (fd:=uJ) (bv:=[(gK, .ref x),("immediate_doms", .ref di)]) r.room (⋯) rfl (⋯) (hH fun _ _ _=>by kernel_rfl) ?_
 injections L
 intro hL;show WL _ _ _ (_::_) _ _ _;refine al (bO (aI (ah (ak (v:= .ref di) rfl (bV (bI (aV (aE ?_))))))));refine al (ar (cu fun D hD=>bj (P:=fun s=>WB _ _ _ _ _ _ s _) hD fun σ1 fD e1=>az ?_));refine al (ar (aF (ah (aQ uO (aJ (ao (ay (ah (ak (v:= .ref di) rfl ?_)))))))));refine zt (e1.at hi) (aJ (aA ⟨ba.bi,zo (e1.at hi) fun iv hiv=>bj (P:=fun s=>p7 _ _ _ _ _ s _) hiv fun σ2 fiv e2=>aA ⟨ba.ty,?_⟩⟩));refine p6 (r.deeper (n:=17)).hh fiv (e2.at (e1.at hi)) (by unfold dC;rw [IP];exact eW hl rfl) fun S hS=>bj (P:=fun s=>WB _ _ _ _ _ _ s _) hS fun σ3 fS e3=>az ?_;obtain ⟨rk,hrk⟩:=hc.rk;have ke:Ex [] σ σ3:=e1.trans (e2.trans e3);have fD3:σ3 D=some (.idict [] emptyDict):=e3.at (e2.at fD);have DS:D≠S:=aW (e2.at fD) hS;have hD0:σ D=none:=hD;have hS0:σ S=none:=e1.none (e2.none hS (fun m=>nomatch m)) (fun m=>nomatch m);refine al (dJ (s4 σ D S di ps rk) (3*ps.length) ⟨[],(ps.map (·.1)).reverse,⟨List.nodup_nil,(fun _ m=>nomatch m),fun _ m=>nomatch m⟩,⟨emptyDict,fD3,fun _ m=>nomatch m⟩,(fun _ m=>nomatch m), .start,by rw [List.reverse_reverse,<- gR];exact fS,ke,rfl,rfl,rfl⟩ fun n ρ' σ' iv=>?_)
 cases iv with | mk T st hT hA fr hst hS' ke hrD hrS hri=>
 have lst:=hst.len hT;refine eK (ah (ak hrS (iX (.inl hS') (by unfold aB;rw [IP,Jh];exact zC lst hl rfl rfl) ?_)))
 cases st with
 | nil=>
  exact aE (al (bA (ah (ak hrD (q σ' D T ke hA hT fun k m=>hst.empty m)))))
 | cons t st=>
  rw [show (!(aB (t::st).reverse).isEmpty)=true by unfold aB;simp]
  have lv:(aB st.reverse).length<2 ^ 20:=by unfold aB;rw [IP,Jh];simp at lst;lia
  have lv1:(aB st.reverse++[V.int t]).length<2 ^ 20:=by rw [IV];unfold aB;rw [IP,Jh];simp at lst ⊢;exact zC lst hl rfl rfl
  have fS:σ' S=some (.list (aB st.reverse++[.int t])):=by rw [hS',List.reverse_cons,bt];rfl
  refine al (ar (aG (ah (ak hrS (fF (bp (mK ⟨PG.list (.inl fS),eI (.inl fS) (eW lv rfl) (az ?_)⟩)))))));show WL _ _ _ _ (ρ'.set "node" (.int t)) σ' _;have gn:(ρ'.set "node" (.int t)) "node" = some (.int t):=if_pos rfl;have gD:(ρ'.set "node" (.int t)) "result" = some (.ref D):=(if_neg (by decide)).trans hrD;have gS:(ρ'.set "node" (.int t)) "stack" = some (.ref S):=(if_neg (by decide)).trans hrS;have gi:(ρ'.set "node" (.int t)) "immediate_doms" = some (.ref di):=(if_neg (by decide)).trans hri;generalize (ρ'.set "node" (.int t))=ρ2 at gn gD gS gi ⊢;ac_rfl;obtain ⟨op,hp,at_⟩:=id hA;right
  have lT:T.length<=ps.length:=by
   have:=IQ hT.nk (l₂:=ps.map (·.1)) fun k m=>hT.sub k m
   rwa [IP,IP] at this
  have nDT:D∉bD T:=fun m=>(fr D m).2.1 rfl;have nST:S∉bD T:=fun m=>(fr S m).2.2 rfl;have mt:=hst.key;refine al (bO (aI (ah (ak gn (ah (ak gD (tm hp (aV ?_))))))))
  by_cases hk:t∈T.map (·.1)
  ·obtain ⟨y,my,hy⟩:=I0.mp hk;rw [show bS (cb T) t=some (.ref y.2.1) from bQ (xs:=y.2.2) hT.nk (by rw [<- hy];exact my)];refine al (bh (ay (ah (ak gS (iU (.inl fS) (aJ (aA ⟨ba.bi,iN fS lv (aZ (P:=fun s=>WL _ _ _ _ _ s _) fun σ5 f5 e5=>aE (aE ?_))⟩)))))));ac_rfl;obtain ⟨m,hm,hst'⟩:=hst.skip hT hk;right;exact ⟨m,hm,⟨T,st,hT,hA.ex e5 (fun q=>DS (IN.mp q)) (fun a ma q=>nST (IN.mp q▸ma)),fr,hst',f5,fun a y _ h=>e5.but (ke.at h) (aW h hS0),gD,gS,gi⟩⟩
  ·rw [d9 hk];ac_rfl;obtain ⟨⟨t',v⟩,mp,ht⟩:=I0.mp mt;right
   replace mp:(t,v)∈ps:=by rw [<- ht];exact mp
   have mv:v∈ps.map (·.1):=hc.cl _ mp;have fi:=ke.at hi;refine al (ar (aG (ah (ak gi (ah (ak gn ⟨PG.dict fi,bb fi (c9 hc.np mp) (az ?_)⟩))))));show WL _ _ _ _ (ρ2.set "other_node" (.int v)) σ' _;have go:(ρ2.set "other_node" (.int v)) "other_node" = some (.int v):=if_pos rfl;have gn:(ρ2.set "other_node" (.int v)) "node" = some (.int t):=(if_neg (by decide)).trans gn;have gD:(ρ2.set "other_node" (.int v)) "result" = some (.ref D):=(if_neg (by decide)).trans gD;have gS:(ρ2.set "other_node" (.int v)) "stack" = some (.ref S):=(if_neg (by decide)).trans gS;have gi:(ρ2.set "other_node" (.int v)) "immediate_doms" = some (.ref di):=(if_neg (by decide)).trans gi;generalize (ρ2.set "other_node" (.int v))=ρ2 at gn gD gS gi go ⊢
   have fin:∀ {σ3 σ4 σ5:am} {a:Addr} {xs:List Int} {oa:Obj} {od:Obj} {ρ3:aX},σ' a=none->σ3 a=some (.iset xs oa)->Ex [] σ' σ3->xs.Nodup->(∀ j,j∈xs↔Up ps t j)->σ4 D=some (.idict (cb T++[(t, .ref a)]) od)->Ex [D] σ3 σ4->σ5 S=some (.list (aB st.reverse))->Ex [S] σ4 σ5->ρ3 "result" = some (.ref D)->ρ3 "stack" = some (.ref S)->ρ3 "immediate_doms" = some (.ref di)->∃ m,m<n/\s4 σ D S di ps rk m ρ3 σ5:=fun {σ3 σ4 σ5 a xs oa od ρ3} ha fa e3 nx hx f4 e4 f5 e5 k1 k2 k3=>by
    ac_rfl;obtain ⟨m,hm,hst'⟩:=hst.done (a:=a) (xs:=xs) hT hk;right;have aD:a≠D:=(aW hp ha).symm;have aS:a≠S:=(aW fS ha).symm;have hA4:=hA.snoc aD nDT fa e3 f4 e4
    have adr:∀ {b},b∈bD (T++[(t,a,xs)])->b∈bD T\/b=a:=fun {b} m=>by
     unfold bD at m ⊢;rw [I2] at m
     exact (I1.mp m).imp id fun m=>by simpa using m
    refine ⟨m,hm,⟨_,st,hT.snoc hk mt nx hx,hA4.ex e5 (fun q=>DS (IN.mp q)) (fun b mb q=>?_),fun b mb=>?_,hst',f5,fun b y _ h=>e5.but (e4.but (e3.at (ke.at h)) (aW h hD0)) (aW h hS0),k1,k2,k3⟩⟩
    ·rcases adr mb with q' | q'
     ·exact nST (IN.mp q▸q')
     ·exact aS (q'.symm.trans (IN.mp q))
    ·rcases adr mb with q' | q'
     ·exact fr b q'
     ·rw [q'];exact ⟨ke.none ha (fun m=>nomatch m),aD,aS⟩
   refine al (bO (aI (ah (ak go (ah (ak gD (gE hp (aV ?_))))))))
   by_cases hv:v∈T.map (·.1)
   ·obtain ⟨⟨v',av,xv⟩,my,hy⟩:=I0.mp hv
    replace my:(v,av,xv)∈T:=by rw [<- hy];exact my
    have gg:=bQ hT.nk my;rw [gg];ac_rfl;obtain ⟨ov,fv⟩:=at_ _ my;obtain ⟨nxv,hxv⟩:=hT.sets _ my;right;have lxv:=hT.len hc my;refine al (ar (aF (ah (aQ dm (aJ (ao (dG (ao (ah (ak gn (aA ⟨IU rfl,fun l hl=>bj (P:=fun s=>p7 _ _ _ _ _ s _) hl fun σ2 f2 e2=>aA ⟨ba.ty,?_⟩⟩)))))))))));refine iQ (xs:=[t]) (r.deeper (n:=17)).hh (.inl f2) (IU rfl) fun a zs oa ha nz lz hz=>bj (P:=fun s=>WB _ _ _ _ _ _ s _) ha fun σ3 fa e3=>az ?_;show WL _ _ _ _ (ρ2.set "doms" (.ref a)) σ3 _;have gd:(ρ2.set "doms" (.ref a)) "doms" = some (.ref a):=if_pos rfl;have go:(ρ2.set "doms" (.ref a)) "other_node" = some (.int v):=(if_neg (by decide)).trans go;have gn:(ρ2.set "doms" (.ref a)) "node" = some (.int t):=(if_neg (by decide)).trans gn;have gD:(ρ2.set "doms" (.ref a)) "result" = some (.ref D):=(if_neg (by decide)).trans gD;have gS:(ρ2.set "doms" (.ref a)) "stack" = some (.ref S):=(if_neg (by decide)).trans gS;have gi:(ρ2.set "doms" (.ref a)) "immediate_doms" = some (.ref di):=(if_neg (by decide)).trans gi;generalize (ρ2.set "doms" (.ref a))=ρ2 at gn gD gS gi go gd ⊢;have CH:=e2.trans e3;have ha0:σ' a=none:=e2.none ha (fun m=>nomatch m);refine al (bh (ay (ah (ak gd (oR fa (aJ (ao (aG (ah (ak gD (ah (ak go ⟨PG.dict (CH.at hp),bb (CH.at hp) gg (aA ⟨ba.bi,?_⟩)⟩))))))))))));refine oM (CH.at fv) fa (aW fv ha0) nz (fun e=>by have:=(hz t).mpr (.head _);rw [e] at this;cases this) (Je (Nat.add_le_add lz lxv) (by show 1+ps.length<63;lia)) fun ys oy ny ly hy=>aZ (P:=fun s=>WL _ _ _ _ _ s _) fun σ3' fa' e3'=>?_;have e3'':Ex [] σ' σ3':=fun b y _ h=>e3'.but (CH.at h) (aW h ha0);refine al (aY (ah (ak gd (bz (ah (ak gD (ah (ak gn ?_))))))));refine bZ (e3''.at hp) (by unfold cb;rw [IP];exact sY lT ‹_› rfl) fun od=>aZ (P:=fun s=>WL _ _ _ _ _ s _) fun σ4 f4 e4=>?_;rw [kK hk] at f4;have fS4:=e4.but (e3''.at fS) (Ne.symm DS);refine al (bh (ay (ah (ak gS (iU (.inl fS4) (aJ (aA ⟨ba.bi,iN fS4 lv (aZ (P:=fun s=>WL _ _ _ _ _ s _) fun σ5 f5 e5=>aE (aE (aE ?_)))⟩)))))));refine fin ha0 fa' e3'' ny (fun j=>?_) f4 e4 f5 e5 gD gS gi;rw [hy j,hz j,hc.up_step mp,IN];exact or_congr Iff.rfl (hxv j)
   ·rw [d9 hv];refine al (bO (aI (ah (ak go (ah (ak gn (wT (aV ?_))))))))
    by_cases hvt:v=t
    ·subst hvt;rw [show (v==v)=true by simp];refine al (aY (aF (ah (aQ dm (aJ (ao (dG (ao (ah (ak gn (aA ⟨IU rfl,fun l hl=>bj (P:=fun s=>p7 _ _ _ _ _ s _) hl fun σ2 f2 e2=>aA ⟨ba.ty,?_⟩⟩)))))))))));refine iQ (xs:=[v]) (r.deeper (n:=17)).hh (.inl f2) (IU rfl) fun a zs oa ha nz lz hz=>bj (P:=fun s=>lV _ _ _ _ _ _ s _) ha fun σ3 fa e3=>bz (ah (ak gD (ah (ak gn ?_))));refine bZ (e3.at (e2.at hp)) (by unfold cb;rw [IP];exact sY lT ‹_› rfl) fun od=>aZ (P:=fun s=>WL _ _ _ _ _ s _) fun σ4 f4 e4=>?_;rw [kK hk] at f4;have fS4:=e4.but (e3.at (e2.at fS)) (Ne.symm DS);refine al (bh (ay (ah (ak gS (iU (.inl fS4) (aJ (aA ⟨ba.bi,iN fS4 lv (aZ (P:=fun s=>WL _ _ _ _ _ s _) fun σ5 f5 e5=>aE (aE (aE (aE ?_))))⟩)))))));exact fin (e2.none ha (fun m=>nomatch m)) fa (e2.trans e3) nz (fun j=>by rw [hz j,hc.up_root mp];simp) f4 e4 f5 e5 gD gS gi
    ·rw [show (v==t)=false by simp [hvt]];have hr:=(hrk _ mp).resolve_left (Ne.symm hvt);ac_rfl;obtain ⟨m,hm,hst'⟩:=hst.push hT hv hk mv hr;right;refine al (bh (ay (ah (ak gS (cz (.inl hS') (aJ (ao (ah (ak go (aA ⟨ba.bi,co hS' (by unfold aB;rw [IP,Jh];exact zC lst hl rfl rfl) (aZ (P:=fun s=>WL _ _ _ _ _ s _) fun σ5 f5 e5=>aE (aE (aE (aE ?_))))⟩))))))))));refine ⟨m,hm,⟨T,v::t::st,hT,hA.ex e5 (fun q=>DS (IN.mp q)) (fun a ma q=>nST (IN.mp q▸ma)),fr,hst',by rw [f5,List.reverse_cons (a:=v),bt];rfl,fun a y _ h=>e5.but (ke.at h) (aW h hS0),gD,gS,gi⟩⟩
end
inductive Ed (l:List (Int×Addr×List Int)) (u v:Int):Prop
 | mk (a:Addr) (xs:List Int) (m:(u,a,xs)∈l) (h:v∈xs):Ed l u v
abbrev yT (E:Int->Int->Prop):List Int->Prop
 | []=>True
 | u::b=>(b=[]\/∃ p,p∈b/\E p u)/\yT E b
theorem yT.ins {E:Int->Int->Prop} {r:List Int} {p c:Int} (hp:p∈r) (e:E p c):∀ (a:List Int),yT E (a++r)->yT E (a++c::r)
 | [],h=>⟨.inr ⟨p,hp,e⟩,h⟩
 | x::a,h=>⟨.inr (h.1.elim (fun q=>by rw [(List.append_eq_nil_iff.mp q).2] at hp;cases hp) fun hE=>by obtain ⟨q,m,eq⟩:=hE;exact ⟨q,(I1.mp m).elim (IS _) fun m=>IT _ (.tail _ m),eq⟩),yT.ins hp e a h.2⟩
structure Po (l:List (Int×Addr×List Int)) (e:Int) (full:List Int):Prop where
 nd:full.Nodup
 par:yT (Ed l) full
 last:∃ l',full=l'++[e]
 sub:∀ u∈full,u∈l.map (·.1)
variable {l:List (Int×Addr×List Int)} {e c u:Int} {full a r:List Int}
theorem Po.len (h:Po l e full):full.length<=l.length:=by
 have:=IQ h.nd (l₂:=l.map (·.1)) fun u m=>h.sub u m
 rwa [IP] at this
theorem Po.ins (h:Po l e (a++r)) (hu:u∈r) (he:Ed l u c) (hc:c∉a++r) (mc:c∈l.map (·.1)):Po l e (a++c::r):=by
 refine ⟨?_,h.par.ins hu he a,?_,fun w m=>?_⟩
 ·exact (List.perm_middle (a:=c) (l₁:=a) (l₂:=r)).symm.nodup (I6.mpr ⟨hc,h.nd⟩)
 ·obtain ⟨l',q⟩:=h.last;rcases List.append_eq_append_iff.mp q with ⟨x,rfl,hr⟩ | ⟨x,rfl,hr⟩
  ·exact ⟨a++c::x,by rw [hr];simp⟩
  ·cases x with
   | nil=>rw [List.nil_append] at hr;exact ⟨l'++[c],by rw [<- hr];simp⟩
   | cons y x=>
    rw [List.cons_append] at hr
    have:=(List.cons.inj hr).2
    rw [eq_comm,List.append_eq_nil_iff] at this;rw [this.2] at hu;cases hu
 ·rcases I1.mp m with m | m
  ·exact h.sub w (IS _ m)
  ·rcases IZ.mp m with rfl | m
   ·exact mc
   ·exact h.sub w (IT _ m)
structure wD (l:List (Int×Addr×List Int)) (be:List (Int×Int)) (e:Int) (po:List Int):Prop where
 pp:Po l e po
 cl:∀ u∈po,∀ c,Ed l u c->(u,c)∉be->c∈po
abbrev wt (b:Bool):Nat:=if b then 1 else 2
abbrev A7 (st:List (Int×Bool)):Nat:=(st.map fun x=>wt x.2).sum
structure u7 (l:List (Int×Addr×List Int)) (be:List (Int×Int)) (e:Int) (po:List Int) (st:List (Int×Bool)) (xs:List Int) (n:Nat):Prop where
 pp:Po l e (po++st.map (·.1))
 seen:∀ k,k∈xs↔k∈po++st.map (·.1)
 nx:xs.Nodup
 cl:∀ u∈po++st.map (·.1),(u,false)∈st\/∀ c,Ed l u c->(u,c)∉be->c∈po++st.map (·.1)
 n:3*(l.length - (po++st.map (·.1)).length)+A7 st<=n
structure wl (l:List (Int×Addr×List Int)) (be:List (Int×Int)) (e:Int) (u:Int) (ys:List Int) (po:List Int) (st:List (Int×Bool)) (xs:List Int) (n:Nat):Prop where
 pp:Po l e (po++st.map (·.1))
 seen:∀ k,k∈xs↔k∈po++st.map (·.1)
 nx:xs.Nodup
 cl:∀ w∈po++st.map (·.1),(w,false)∈st\/∀ c,Ed l w c->(w,c)∉be->c∈po++st.map (·.1)\/(w=u/\c∈ys)
 n:3*(l.length - (po++st.map (·.1)).length)+A7 st<n
 top:(u,true)∈st
 ed:∀ c∈ys,Ed l u c/\c∈l.map (·.1)
variable {be:List (Int×Int)} {po xs ys:List Int} {st:List (Int×Bool)} {n:Nat}
theorem u7.out (h:u7 l be e po ((u,true)::st) xs n):∃ m,m<n/\u7 l be e (po++[u]) st xs m:=by
 have q:po++((u,true)::st).map (·.1)=(po++[u])++st.map (·.1):=by simp
 obtain ⟨h1,h2,h3,h4,h5⟩:=h;rw [q] at h1 h5;have hw:A7 ((u,true)::st)=1+A7 st:=rfl;rw [hw] at h5;refine ⟨n - 1,by omega,⟨h1,fun k=>by rw [h2 k,q],h3,fun w m=>?_,by omega⟩⟩;rw [<- q] at m ⊢;refine (h4 w m).imp (fun m=>?_) id;rcases IZ.mp m with c | m
 ·cases c
 ·exact m
theorem u7.turn (h:u7 l be e po ((u,false)::st) xs n) (hy:∀ c,c∈ys↔Ed l u c) (hk:∀ c∈ys,c∈l.map (·.1)):wl l be e u ys po ((u,true)::st) xs n:=by
 obtain ⟨h1,h2,h3,h4,h5⟩:=h;refine ⟨h1,h2,h3,fun w m=>?_,?_, .head _,fun c m=>⟨(hy c).mp m,hk c m⟩⟩
 ·rcases h4 w m with c | c
  ·rcases IZ.mp c with c | c
   ·cases c;exact .inr fun c hc _=> .inr ⟨rfl,(hy c).mpr hc⟩
   ·exact .inl (.tail _ c)
  ·exact .inr fun c' hc hb=> .inl (c c' hc hb)
 ·have h5:3*(l.length - (po++((u,true)::st).map (·.1)).length)+(2+A7 st)<=n:=h5;show 3*(l.length - (po++((u,true)::st).map (·.1)).length)+(1+A7 st)<n;omega
theorem wl.skip (h:wl l be e u (c::ys) po st xs n) (hc:(u,c)∈be\/c∈xs):wl l be e u ys po st xs n:=
 ⟨h.pp,h.seen,h.nx,fun w m=>(h.cl w m).imp id fun q c' he hb=>(q c' he hb).elim .inl fun hE=>by obtain ⟨e1,m⟩:=hE;exact (IZ.mp m).elim (fun e2=>hc.elim (fun b=>absurd (e1▸e2▸b) hb) fun s=> .inl (e2▸(h.seen c).mp s)) fun m=> .inr ⟨e1,m⟩,h.n,h.top,fun c m=>h.ed c (.tail _ m)⟩
theorem wl.push {zs:List Int} (h:wl l be e u (c::ys) po st xs n) (hc:c∉xs) (nz:zs.Nodup) (hz:∀ k,k∈zs↔k=c\/k∈xs):wl l be e u ys po ((c,false)::st) zs n:=by
 intros l e c u be po xs ys st n zs
 intro h hc nz hz;have ed:=h.ed c (.head _);have hc':c∉po++st.map (·.1):=fun m=>hc ((h.seen c).mpr m)
 have mem:∀ k,k∈po++((c,false)::st).map (·.1)↔k=c\/k∈po++st.map (·.1):=fun k=>by simp only [List.map_cons,I1,IZ];constructor <;> (intro h;rcases h with h | h | h <;> simp [h])
 have p:=h.pp.ins (IR (f:=fun x:Int×Bool=>x.1) h.top) ed.1 hc' ed.2;refine ⟨p,fun k=>by rw [hz k,h.seen k];exact (mem k).symm,nz,fun w m=>?_,?_, .tail _ h.top,fun c m=>h.ed c (.tail _ m)⟩
 ·rcases (mem w).mp m with rfl | m
  ·exact .inl (.head _)
  ·refine (h.cl w m).imp (.tail _) fun q c' he hb=>(q c' he hb).elim (fun m=> .inl ((mem c').mpr (.inr m))) fun ⟨e1,m⟩=>?_;rcases IZ.mp m with e2 | m
   ·exact .inl ((mem c').mpr (.inl e2))
   ·exact .inr ⟨e1,m⟩
 ·have hl:=Po.len (full:=po++c::st.map (·.1)) p;have hn:=h.n;have hw:A7 ((c,false)::st)=2+A7 st:=rfl;rw [hw];simp only [List.map_cons,IV,List.length_cons,IP] at hl hn ⊢;omega
theorem wl.fin (h:wl l be e u [] po st xs n):∃ m,m<n/\u7 l be e po st xs m:=
 ⟨_,h.n,⟨h.pp,h.seen,h.nx,fun w m=>(h.cl w m).imp id fun q c' he hb=>(q c' he hb).resolve_right fun x=>(nomatch x.2),I4 _⟩⟩
theorem u7.end (h:u7 l be e po [] xs n):wD l be e po:=by
 obtain ⟨h1,h2,h3,h4,h5⟩:=h;rw [List.map_nil,List.append_nil] at h1
 exact ⟨h1,fun u m c he hb=>by
  have:=(h4 u (by simpa using m)).resolve_left (fun x=>nomatch x) c he hb
  simpa using this⟩
theorem u7.start (m:e∈l.map (·.1)) (hx:∀ k,k∈xs↔k=e) (nx:xs.Nodup):u7 l be e [] [(e,false)] xs (3*l.length+2):=
 ⟨⟨by simp,⟨.inl rfl,trivial⟩,⟨[],rfl⟩,fun u mu=>by simp at mu;rw [mu];exact m⟩,fun k=>by rw [hx k];simp,nx,fun u mu=>by simp at mu;rw [mu];exact .inl (.head _),by
  show 3*(l.length - 1)+2<=_
  omega⟩
theorem u7.few (h:u7 l be e po st xs n):po.length+st.length<=l.length/\xs.length<=l.length:=by
 have:=h.pp.len
 rw [IV,IP] at this;refine ⟨this,Nat.le_trans (IQ h.nx (l₂:=po++st.map (·.1)) fun k m=>(h.seen k).mp m) h.pp.len⟩
theorem wl.few (h:wl l be e u ys po st xs n):po.length+st.length<=l.length/\xs.length<=l.length:=by
 have:=h.pp.len
 rw [IV,IP] at this;refine ⟨this,Nat.le_trans (IQ h.nx (l₂:=po++st.map (·.1)) fun k m=>(h.seen k).mp m) h.pp.len⟩
theorem vn {K:Frag} {fd:FuncData} {v v1 v2 v3:V} {n m1 m2 m3:Str} (h:∀ S x y z t,PySem.W.peek K S (bindArgs fd ⟨[x],[(m1,y),(m2,z),(m3,t)]⟩)=some [(n,x),(m1,y),(m2,z),(m3,t)]):gL K fd [v] [(m1,v1),(m2,v2),(m3,v3)] [(n,v),(m1,v1),(m2,v2),(m3,v3)]:=⟨fun B s xs kx hK r k=>by
 cases k with | cons k1 k=>cases k with | cons k2 k=>cases k with | cons k3 k=>
 cases k
 cases r with | cons r1 r=>
 cases r
 exact ⟨_,dc hK fun S=>h S _ _ _ _, .cons r1 (.cons k1 (.cons k2 (.cons k3 .nil)))⟩⟩
abbrev yu (x:Int×Bool):V:= .tup [.int x.1, .bool x.2]
theorem aw {ρ:aX} {a b:Str} {x:V} {y:Option V} (h:ρ b=y) (n:autoParam (b≠a) TaD):(ρ.set a x) b=y:=(if_neg n).trans h
theorem bK {ρ:aX} {a:Str} {x:V}:(ρ.set a x) a=some x:=if_pos rfl
theorem sB {xs ys:List Int} (hx:xs.Nodup) (hy:ys.Nodup) (h:∀ i,i∈xs↔i∈ys):xs.length=ys.length:=
 Nat.le_antisymm (IQ hx fun i m=>(h i).mp m) (IQ hy fun i m=>(h i).mpr m)
section
variable {A:Around} {w:World} {mg mb:Str->Option Value} {os:OsState} {σ:am}
set_option genInjectivity false in
structure AS where
 S:Addr
 P:Addr
 N:Addr
 sc:Addr
 be:Addr
instance iPo:Nonempty AS:=⟨by constructor <;> first | exact (0:Nat) | exact .none | exact [] | exact false | exact fun _=> .none | exact fun _=>False⟩
structure jI (σ₀:am) (a:AS) (po:List Int) (st:List (Int×Bool)) (xs:List Int) (ρ:aX) (σ:am):Prop where
 hS:σ a.S=some (.list (st.reverse.map yu))
 hP:σ a.P=some (.list (aB po))
 hN:∃ ob,σ a.N=some (.iset xs ob)
 ke:Ex [] σ₀ σ
 rS:ρ "stack" = some (.ref a.S)
 rP:ρ "postorder" = some (.ref a.P)
 rN:ρ "seen" = some (.ref a.N)
 rs:ρ "succs" = some (.ref a.sc)
 rb:ρ "back_edges" = some (.ref a.be)
 nd:a.S≠a.P/\a.S≠a.N/\a.P≠a.N
 fr:σ₀ a.S=none/\σ₀ a.P=none/\σ₀ a.N=none
inductive Db (σ₀:am) (a:AS) (l:List (Int×Addr×List Int)) (be:List (Int×Int)) (e:Int) (n:Nat) (ρ:aX) (σ:am):Prop
 | mk (po:List Int) (st:List (Int×Bool)) (xs:List Int) (at_: jI σ₀ a po st xs ρ σ) (h:u7 l be e po st xs n):Db σ₀ a l be e n ρ σ
inductive Dc (σ₀:am) (a:AS) (l:List (Int×Addr×List Int)) (be:List (Int×Int)) (e u:Int) (n:Nat) (ys:List V) (ρ:aX) (σ:am):Prop
 | mk (zs:List Int) (ey:ys=aB zs) (po:List Int) (st:List (Int×Bool)) (xs:List Int) (at_: jI σ₀ a po st xs ρ σ) (rn:ρ "node" = some (.int u)) (h:wl l be e u zs po st xs n):Dc σ₀ a l be e u n ys ρ σ
theorem jI.set {σ₀:am} {a:AS} {po:List Int} {st:List (Int×Bool)} {xs:List Int} {ρ:aX} {x:Str} {v:V} (h:jI σ₀ a po st xs ρ σ) (n: "stack" ≠x/\ "postorder" ≠x/\ "seen" ≠x/\ "succs" ≠x/\ "back_edges" ≠x):jI σ₀ a po st xs (ρ.set x v) σ:=
 ⟨h.hS,h.hP,h.hN,h.ke,aw h.rS n.1,aw h.rP n.2.1,aw h.rN n.2.2.1,aw h.rs n.2.2.2.1,aw h.rb n.2.2.2.2,h.nd,h.fr⟩
theorem jI.stk {σ₀ σ':am} {a:AS} {po:List Int} {st st':List (Int×Bool)} {xs:List Int} {ρ:aX} (h:jI σ₀ a po st xs ρ σ) (f:σ' a.S=some (.list (st'.reverse.map yu))) (e:Ex [a.S] σ σ'):jI σ₀ a po st' xs ρ σ':=
 ⟨f,e.but h.hP h.nd.1.symm,h.hN.imp fun _ q=>e.but q h.nd.2.1.symm,fun b y _ q=>e.but (h.ke.at q) (aW q h.fr.1),h.rS,h.rP,h.rN,h.rs,h.rb,h.nd,h.fr⟩
theorem jI.out {σ₀ σ':am} {a:AS} {po po':List Int} {st:List (Int×Bool)} {xs:List Int} {ρ:aX} (h:jI σ₀ a po st xs ρ σ) (f:σ' a.P=some (.list (aB po'))) (e:Ex [a.P] σ σ'):jI σ₀ a po' st xs ρ σ':=
 ⟨e.but h.hS h.nd.1,f,h.hN.imp fun _ q=>e.but q h.nd.2.2.symm,fun b y _ q=>e.but (h.ke.at q) (aW q h.fr.2.1),h.rS,h.rP,h.rN,h.rs,h.rb,h.nd,h.fr⟩
theorem jI.see {σ₀ σ':am} {a:AS} {po:List Int} {st:List (Int×Bool)} {xs xs':List Int} {ρ:aX} {ob:Obj} (h:jI σ₀ a po st xs ρ σ) (f:σ' a.N=some (.iset xs' ob)) (e:Ex [a.N] σ σ'):jI σ₀ a po st xs' ρ σ':=
 ⟨e.but h.hS h.nd.2.1,e.but h.hP h.nd.2.2,⟨_,f⟩,fun b y _ q=>e.but (h.ke.at q) (aW q h.fr.2.2),h.rS,h.rP,h.rN,h.rs,h.rb,h.nd,h.fr⟩
theorem n9 (st:List (Int×Bool)) (t:Int×Bool):(t::st).reverse.map yu=st.reverse.map yu++[yu t]:=by rw [List.reverse_cons,I2];rfl
abbrev lE:FuncData:=cR yD Co 7 (some 38) 3 [] (.ref 402) .none .none (.str eu 357) .none (.ref 408) .none 0
theorem FE {x S be:Addr} {e:Int} {l:List (Int×Addr×List Int)} {bl:List (Int×Int)} {nb:Nat} {Q:V->am->Prop} (r:Rm 12 A) (hA:g7 σ S l) (hb:σ be=some (.tset bl nb)) (nk:(l.map (·.1)).Nodup) (cl:∀ u v,Ed l u v->v∈l.map (·.1)) (me:e∈l.map (·.1)) (hl:l.length<30)
  (q:∀ σ' P po,Ex [] σ σ'->σ P=none->σ' P=some (.list (aB po))->wD l bl e po->Q (.ref P) σ'):eS (G8 w mg mb os) A (.ref 409) [.ref x] [("succs", .ref S),("back_edges", .ref be),("entry_point", .int e)] σ Q:=by
 intros A w mg mb os σ x S be e l bl nb Q
 intro r hA hb nk cl me hl q;refine dB (fd:=lE) (bv:=[(gK, .ref x),("succs", .ref S),("back_edges", .ref be),("entry_point", .int e)]) r.room (⋯) rfl (⋯) (vn fun _ _ _ _ _=>by kernel_rfl) ?_
 injections L
 intro hL;show WL _ _ _ (_::_) _ _ _;refine al (bO (aI (ah (ak (v:= .ref S) rfl (bV (bI (aV (aE ?_))))))));refine al (bO (aI (ah (ak (v:= .ref be) rfl (bV (bI (aV (aE ?_))))))));refine al (bO (aI (ah (ak (v:= .int e) rfl (bV (bI (aV (aE ?_))))))));refine al (ar (aF (ah (aQ dm (aJ (ao (dG (aA ⟨IU rfl,fun lx hlx=>bj (P:=fun s=>p7 _ _ _ _ _ s _) hlx fun σ1 f1 e1=>aA ⟨ba.ty,?_⟩⟩))))))));refine iQ (xs:=[]) (r.deeper (n:=11)).hh (.inl f1) (IU rfl) fun N zs oN hN nz lz hz=>bj (P:=fun s=>WB _ _ _ _ _ _ s _) hN fun σ2 f2 e2=>az ?_;refine al (ar (dG (aA ⟨IU rfl,fun P hP=>bj (P:=fun s=>WB _ _ _ _ _ _ s _) hP fun σ3 f3 e3=>az ?_⟩)));have fN:=e3.at f2;refine al (bh (ay (ah (ak (v:= .ref N) rfl (b9 fN (aJ (ao (ah (ak (v:= .int e) rfl (aA ⟨ba.bi,b7 fN nz (Je lz (IU rfl)) fun ws oN' nw lw hw=>aZ (P:=fun s=>WL _ _ _ _ _ s _) fun σ4 f4 e4=>?_⟩))))))))));refine al (ar (dG (ao (dH (ao (ah (ak (v:= .int e) rfl (ao (g8 (aA ⟨IU rfl,aA ⟨IU rfl,fun S' hS=>bj (P:=fun s=>WB _ _ _ _ _ _ s _) hS fun σ5 f5 e5=>az ?_⟩⟩))))))))));have hN0:σ N=none:=e1.none hN (fun m=>nomatch m);have hP0:σ P=none:=e1.none (e2.none hP (fun m=>nomatch m)) (fun m=>nomatch m);have NP:N≠P:=aW f2 hP;have fP4:=e4.but f3 (Ne.symm NP);have NS:N≠S':=aW f4 hS;have PS:P≠S':=aW fP4 hS;have k3:Ex [] σ σ3:=e1.trans (e2.trans e3);have k5:Ex [] σ σ5:=fun a y _ h=>e5.at (e4.but (k3.at h) (aW h hN0))
 have hS0:σ S'=none:=by
  cases c:σ S' with
  | none=>rfl
  | some y=>have:=e4.but (k3.at c) (aW c hN0);rw [hS] at this;injection this
 have hzw:∀ k,k∈ws↔k=e:=fun k=>by rw [hw k,hz k];simp
 generalize hρ:aX.set _ "stack" _=ρ1
 have at0:jI σ ⟨S',P,N,S,be⟩ [] [(e,false)] ws ρ1 σ5:=by subst hρ;exact ⟨f5,e5.at fP4,⟨_,e5.at f4⟩,k5,rfl,rfl,rfl,rfl,rfl,⟨PS.symm,NS.symm,NP.symm⟩,⟨hS0,hP0,hN0⟩⟩
 clear hρ;refine al (dJ (Db σ ⟨S',P,N,S,be⟩ l bl e) (3*l.length+2) ⟨[],_,ws,at0, .start me hzw nw⟩ fun n ρ2 σ2 iv=>?_)
 cases iv with | mk po st xs at_ h=>
 have few:=h.few;refine eK (ah (ak at_.rS (iX (.inl at_.hS) (by rw [IP,Jh];lia) ?_)))
 cases st with
 | nil=>exact aE (al (bA (ah (ak at_.rP (q σ2 P po at_.ke hP0 at_.hP h.end)))))
 | cons t st=>
  obtain ⟨u,b⟩:=t;rw [show (!((((u,b)::st).reverse.map yu)).isEmpty)=true by simp];refine iR fun Q' hQ=>?_;have fS:=at_.hS;rw [n9] at fS;have hh:=(r.deeper (n:=11) (env:=aR lE 409 L lE.closure)).hh
  have hu:(A.deeper (aR lE 409 L lE.closure)).units+3<cLine:=by have:=(r.deeper (n:=11) (env:=aR lE 409 L lE.closure)).hu;show _<9900;exact CG this rfl
  have ls:(st.reverse.map yu).length<2 ^ 20:=by rw [IP,Jh];simp at few;lia
  refine al (aY (ay (ah (ak at_.rS (iU (.inl fS) (aJ (aA ⟨ba.bi,iN fS ls (aZ (P:=fun s=>lV _ _ _ _ _ _ s _) fun σ3 f3 e3=>fq (vs:=[.int u, .bool b]) hh (bo (az (bo (az ?_)))))⟩)))))));have at3:=((at_.stk f3 e3).set (x:= "node") (v:= .int u) (by decide)).set (x:= "children_pushed") (v:= .bool b) (by decide);have rn:((ρ2.set "node" (.int u)).set "children_pushed" (.bool b)) "node" = some (.int u):=aw bK;have rc:((ρ2.set "node" (.int u)).set "children_pushed" (.bool b)) "children_pushed" = some (.bool b):=bK;show WL _ _ _ _ ((ρ2.set "node" (.int u)).set "children_pushed" (.bool b)) σ3 _;generalize ((ρ2.set "node" (.int u)).set "children_pushed" (.bool b))=ρ3 at at3 rn rc ⊢;clear at_ fS;refine al (bO (eK (ah (ak rc (aV ?_)))))
  cases b with
  | true=>
   refine al (bh (ay (ah (ak at3.rP (cz (.inl at3.hP) (aJ (ao (ah (ak rn (aA ⟨ba.bi,co at3.hP (by unfold aB;rw [IP];lia) (aZ (P:=fun s=>WL _ _ _ _ _ s _) fun σ4 f4 e4=>al (rE (hQ .cont _ _ ?_)))⟩))))))))));ac_rfl;obtain ⟨m,hm,h'⟩:=h.out;right;rw [show aB po++[V.int u]=aB (po++[u]) from (bt po [u]).symm] at f4;exact ⟨m,hm,⟨_,_,_,at3.out f4 e4,h'⟩⟩
  | false=>
   refine aE ?_;refine al (bh (ay (ah (ak at3.rS (cz (.inl at3.hS) (aJ (ao (dH (ao (ah (ak rn (ao (g8 (aA ⟨IU rfl,aA ⟨ba.bi,co at3.hS ls (aZ (P:=fun s=>WL _ _ _ _ _ s _) fun σ4 f4 e4=>?_)⟩⟩))))))))))))));rw [show st.reverse.map yu++[V.tup [.int u, .bool true]]=((u,true)::st).reverse.map yu from (n9 st (u,true)).symm] at f4;have at4:=at3.stk f4 e4;ac_rfl;obtain ⟨⟨u',au,xu⟩,mu',hu'⟩:=I0.mp (h.pp.sub u (IT _ (.head _)));have mu:(u,au,xu)∈l:=hu'▸mu';ac_rfl;obtain ⟨op,hp,aa⟩:=hA;have gg:=bQ nk mu;obtain ⟨ou,hau⟩:=aa _ mu;right;right;refine al (d6 (aG (ah (ak at4.rs (ah (ak rn ⟨PG.dict (at4.ke.at hp),bb (at4.ke.at hp) gg ?_⟩))))));refine mI hh (at4.ke.at hau) fun ys hys=>?_;have hy:∀ c,c∈ys↔Ed l u c:=fun c=>(hys.mem_iff).trans ⟨fun m=>⟨au,xu,mu,m⟩,fun hE=>by obtain ⟨a',x',m',hx⟩:=hE;have:=dO (f:=fun e:Int×Addr×List Int=>e.1) nk mu m' rfl;cases this;exact hx⟩;refine cD (Dc σ ⟨S',P,N,S,be⟩ l bl e u n) ?_ ?_ _ ⟨ys,rfl,_,_,_,at4,rn,h.turn hy fun c m=>cl u c ((hy c).mp m)⟩
   ·intro y ys' ρ4 σ5 jv
    cases jv with | mk zs ey po2 st2 xs2 at5 rn5 hj=>
    cases zs with
    | nil=>injection ey
    | cons c zs=>
     cases ey;refine bo (az (iR fun Q2 hQ2=>?_));have at6:=at5.set (x:= "child") (v:= .int c) (by decide);have rn6:(ρ4.set "child" (.int c)) "node" = some (.int u):=aw rn5;have rc6:(ρ4.set "child" (.int c)) "child" = some (.int c):=bK;generalize (ρ4.set "child" (.int c))=ρ5 at at6 rn6 rc6 ⊢;have few2:=hj.few;refine al (bO (dv (fA (aI (dH (ao (ah (ak rn6 (ao (ah (ak rc6 (aA ⟨IU rfl,ah (ak at6.rb ?_)⟩))))))))))));refine oW (p:=(u,c)) hu (at6.ke.at hb) fun c1 hc1=>aV ?_
     cases c1 with
     | false=>exact aE (aE (hQ2 _ _ _ ⟨at6.ke.at hau,⟨zs,rfl,_,_,_,at6,rn6,hj.skip (.inl (hc1 rfl))⟩⟩))
     | true=>
      obtain ⟨oN6,hN6⟩:=at6.hN;refine fA (aI (ah (ak rc6 (ah (ak at6.rN (dI hN6 (aV ?_)))))))
      by_cases hcx:c∈xs2
      ·rw [I5 hcx];exact aE (aE (hQ2 _ _ _ ⟨at6.ke.at hau,⟨zs,rfl,_,_,_,at6,rn6,hj.skip (.inr hcx)⟩⟩))
      ·rw [decide_eq_false hcx];refine fC ?_;refine al (bh (ay (ah (ak at6.rN (b9 hN6 (aJ (ao (ah (ak rc6 (aA ⟨ba.bi,b7 hN6 hj.nx (sY few2.2 hl rfl) fun ws2 oN7 nw2 lw2 hw2=>aZ (P:=fun s=>WL _ _ _ _ _ s _) fun σ7 f7 e7=>?_⟩))))))))));have at7:=at6.see f7 e7;refine al (bh (ay (ah (ak at7.rS (cz (.inl at7.hS) (aJ (ao (dH (ao (ah (ak rc6 (ao (g8 (aA ⟨IU rfl,aA ⟨ba.bi,co at7.hS (by rw [IP,Jh];lia) (aZ (P:=fun s=>WL _ _ _ _ _ s _) fun σ8 f8 e8=>?_)⟩⟩))))))))))))));rw [show st2.reverse.map yu++[V.tup [.int c, .bool false]]=((c,false)::st2).reverse.map yu from (n9 st2 (c,false)).symm] at f8;have at8:=at7.stk f8 e8;exact aE (aE (hQ2 _ _ _ ⟨at8.ke.at hau,⟨zs,rfl,_,_,_,at8,rn6,hj.push hcx nw2 hw2⟩⟩))
   ·intro ρ4 σ5 jv
    cases jv with | mk zs ey po2 st2 xs2 at5 rn5 hj=>
    cases zs with
    | cons _ _=>injection ey
    | nil=>
     ac_rfl;obtain ⟨m,hm,h'⟩:=hj.fin;right;exact aE (aE (hQ _ _ _ ⟨m,hm,⟨_,_,_,at5,h'⟩⟩))
end
@[reducible] noncomputable def cU:=List (Int×Addr×List Int)
noncomputable abbrev aM (T:cU):List Int:=T.map (·.1)
inductive RT (R:List (Int×Int)) (e:Int):Int->Prop
 | refl:RT R e e
 | step {p c:Int}:RT R e p->(p,c)∈R->RT R e c
theorem RT.mono {R R':List (Int×Int)} {e k:Int} (h:RT R e k) (s:∀ p∈R,p∈R'):RT R' e k:=by
 induction h with
 | refl=>exact .refl
 | step _ m ih=>exact .step ih (s _ m)
abbrev im (T:cU):Nat:=(T.map fun x=>x.2.2.length).sum
theorem fy (T:cU) (k:Int) (ys:List Int):aM (cN T k ys)=aM T:=by
 unfold cN aM;rw [Jk]
 exact List.map_congr_left fun e _=>by dsimp only [Function.comp];split <;> rfl
theorem gX {T:cU} {k:Int} {ys:List Int} {x:Int×Addr×List Int} (m:x∈cN T k ys):(x.1≠k/\x∈T)\/(x.1=k/\x.2.2=ys):=by
 unfold cN at m;obtain ⟨y,my,rfl⟩:=I0.mp m
 by_cases c:y.1=k
 ·rw [if_pos c];exact .inr ⟨c,rfl⟩
 ·rw [if_neg c];exact .inl ⟨c,my⟩
theorem vW {T:cU} {k:Int} {ys:List Int} (h:k∉aM T):cN T k ys=T:=by
 refine (List.map_congr_left fun e m=>?_).trans (List.map_id _);have c:e.1≠k:=fun c=>h (by rw [<- c];exact IR (f:=fun x:Int×Addr×List Int=>x.1) m);rw [if_neg c]
 rfl
theorem sS {T:cU} {k:Int} {a:Addr} {xs ys:List Int} (nk:(aM T).Nodup) (m:(k,a,xs)∈T):im (cN T k ys)+xs.length=im T+ys.length:=by
 induction T with
 | nil=>cases m
 | cons x T ih=>
  have nk':=I6.mp nk
  have e:cN (x::T) k ys=(if x.1=k then (x.1,x.2.1,ys) else x)::cN T k ys:=rfl
  have s:∀ y,im (y::T)=y.2.2.length+im T:=fun _=>rfl;rcases IZ.mp m with rfl | m
  ·rw [e,if_pos rfl,vW nk'.1,s,s];dsimp only;lia
  ·have c:x.1≠k:=fun c=>nk'.1 (by show x.1∈_;rw [c];exact IR (f:=fun x:Int×Addr×List Int=>x.1) m)
   have:=ih nk'.2 m
   rw [e,if_neg c,s];show x.2.2.length+im (cN T k ys)+_=_;lia
structure qO (l:cU) (e:Int) (T:cU) (st os ck:List Int) (be R:List (Int×Int)) (pd:Int->Int->Prop) (n:Nat):Prop where
 nk:(aM T).Nodup
 sub:∀ k∈aM T,k∈aM l
 ns:st.Nodup
 mo:∀ k,k∈os↔k∈st
 no:os.Nodup
 nc:ck.Nodup
 mt:∀ k,k∈aM T↔k∈st\/k∈ck
 dj:∀ k∈ck,k∉st
 dn:∀ x∈T,x.1∈ck->x.2.2=[]
 rm:∀ x∈T,x.2.2.Nodup/\(∀ c∈x.2.2,Ed l x.1 c)/\∀ c,Ed l x.1 c->c∈x.2.2\/c∈aM T\/pd x.1 c
 tr:∀ k∈aM T,RT R e k
 rk:∀ p∈R,Ed l p.1 p.2/\p∉be/\(∀ x∈T,x.1=p.1->p.2∉x.2.2)/\p.1∈aM T
 bk:∀ p∈be,(∀ x∈T,x.1=p.1->p.2∉x.2.2)/\p.1∈aM T
 pn:∀ k c,pd k c->k∈aM T/\(∀ x∈T,x.1=k->c∉x.2.2)/\(k,c)∉R/\(k,c)∉be/\Ed l k c
 n:im T+st.length+(l.length - T.length)*(l.length+1)<=n
abbrev zc (_ _: Int):Prop:=False
abbrev Bl (u c:Int) (k x:Int):Prop:=k=u/\x=c
variable {l T:cU} {e u c:Int} {a:Addr} {st os ck ys zs:List Int} {be R:List (Int×Int)} {pd:Int->Int->Prop} {n:Nat}
theorem qO.child (h:qO l e T (u::st) os ck be R zc n) (m:(u,a,ys++[c])∈T):∃ k,k<n/\qO l e (cN T u ys) (u::st) os ck be R (Bl u c) k:=by
 intros l T e u c a st os ck ys be R n
 intro h m;have hs:=sS (ys:=ys) h.nk m;have hr:=h.rm _ m;have nd:=Jb.mp hr.1;have hk:=fy T u ys;have hu:u∉ck:=fun q=>h.dj u q (.head _);have mu:u∈aM T:=(h.mt u).mpr (.inl (.head _));have hc:c∉ys:=fun q=>nd.2.2 c q c (.head _) rfl;have mc:c∈ys++[c]:=IT _ (.head _)
 have sub:∀ x∈cN T u ys,∀ v∈x.2.2,∃ y∈T,y.1=x.1/\v∈y.2.2:=fun x mx v mv=>by
  rcases gX mx with ⟨_,q⟩ | ⟨q1,q2⟩
  ·exact ⟨x,q,rfl,mv⟩
  ·exact ⟨_,m,q1.symm,IS _ (q2▸mv)⟩
 have hn:=h.n
 have hl:(cN T u ys).length=T.length:=by unfold cN;rw [IP]
 rw [IV,List.length_singleton] at hs;refine ⟨n - 1,by omega,⟨by rw [hk];exact h.nk,by rw [hk];exact h.sub,h.ns,h.mo,h.no,h.nc,by rw [hk];exact h.mt,h.dj,fun x mx q=>?_,fun x mx=>?_,by rw [hk];exact h.tr,fun p mp=>?_,fun p mp=>?_,fun k x=>?_,by rw [hl];omega⟩⟩
 ·rcases gX mx with ⟨_,q'⟩ | ⟨q1,q2⟩
  ·exact h.dn x q' q
  ·exact absurd (q1▸q) hu
 ·rw [hk];rcases gX mx with ⟨_,q'⟩ | ⟨q1,q2⟩
  ·have:=h.rm x q'
   exact ⟨this.1,this.2.1,fun v hv=>(this.2.2 v hv).imp id fun q=>q.imp id False.elim⟩
  ·rw [q1,q2];refine ⟨nd.1,fun v mv=>hr.2.1 v (IS _ mv),fun v hv=>?_⟩;rcases hr.2.2 v hv with q | q | q
   ·rcases I1.mp q with q | q
    ·exact .inl q
    ·exact .inr (.inr ⟨rfl,IN.mp q⟩)
   ·exact .inr (.inl q)
   ·exact q.elim
 ·have:=h.rk p mp
  rw [hk];exact ⟨this.1,this.2.1,fun x mx q v=>(by obtain ⟨y,my,e1,hy⟩:=sub x mx _ v;exact this.2.2.1 y my (e1.trans q) hy),this.2.2.2⟩
 ·have:=h.bk p mp
  rw [hk];exact ⟨fun x mx q v=>(by obtain ⟨y,my,e1,hy⟩:=sub x mx _ v;exact this.1 y my (e1.trans q) hy),this.2⟩
 ·rintro ⟨rfl,rfl⟩;rw [hk];refine ⟨mu,fun y mx q v=>?_,fun q=>(h.rk _ q).2.2.1 _ m rfl mc,fun q=>(h.bk _ q).1 _ m rfl mc,hr.2.1 _ mc⟩;rcases gX mx with ⟨q',_⟩ | ⟨_,q2⟩
  ·exact q' q
  ·rw [q2] at v;exact hc v
theorem qO.old {be':List (Int×Int)} (h:qO l e T st os ck be R (Bl u c) n) (hc:c∈os\/c∈ck) (hb:∀ r∈be',r=(u,c)\/r∈be):qO l e T st os ck be' R zc n:=by
 have pn:=h.pn u c ⟨rfl,rfl⟩;have mc:c∈aM T:=(h.mt c).mpr (hc.imp (h.mo c).mp id);refine ⟨h.nk,h.sub,h.ns,h.mo,h.no,h.nc,h.mt,h.dj,h.dn,fun x mx=>?_,h.tr,fun p mp=>?_,fun p mp=>?_,fun _ _ q=>q.elim,h.n⟩
 ·have:=h.rm x mx
  refine ⟨this.1,this.2.1,fun v hv=>(this.2.2 v hv).imp id fun q=> .inl (q.elim id fun q=>?_)⟩;rw [q.2];exact mc
 ·have:=h.rk p mp
  refine ⟨this.1,fun q=>(hb p q).elim (fun q=>pn.2.2.1 (q▸mp)) this.2.1,this.2.2⟩
 ·rcases hb p mp with rfl | q
  ·exact ⟨pn.2.1,pn.1⟩
  ·exact h.bk p q
theorem qO.push {os':List Int} (h:qO l e T st os ck be R (Bl u c) n) (hc:c∉os) (hc':c∉ck) (no:os'.Nodup) (mo:∀ k,k∈os'↔k=c\/k∈os) (nz:zs.Nodup) (hz:∀ v,v∈zs↔Ed l c v) (cl:∀ u v,Ed l u v->v∈aM l):qO l e (T++[(c,a,zs)]) (c::st) os' ck be ((u,c)::R) zc n:=by
 intros l T e u c a st os ck zs be R n os'
 intro h hc hc' no mo nz hz cl;have pn:=h.pn u c ⟨rfl,rfl⟩
 have mk:∀ k,k∈aM (T++[(c,a,zs)])↔k∈aM T\/k=c:=fun k=>by unfold aM;rw [I2,I1];exact or_congr Iff.rfl IN
 have hn:c∉aM T:=fun q=>((h.mt c).mp q).elim (fun q=>hc ((h.mo c).mpr q)) hc';have mem:∀ x∈T++[(c,a,zs)],x∈T\/x=(c,a,zs):=fun x m=>(I1.mp m).imp id IN.mp;have uc:u≠c:=fun q=>hn (q▸pn.1);have hl:=IQ (l₁:=c::aM T) (l₂:=aM l) (I6.mpr ⟨hn,h.nk⟩) fun x m=>(IZ.mp m).elim (fun q=>q▸cl _ _ pn.2.2.2.2) (h.sub x);have hz':=IQ nz (l₂:=aM l) fun x m=>cl _ _ ((hz x).mp m);rw [List.length_cons] at hl;unfold aM at hl hz';rw [IP,IP] at hl;rw [IP] at hz';refine ⟨?_,fun k m=>?_,I6.mpr ⟨fun q=>hc ((h.mo c).mpr q),h.ns⟩,fun k=>?_,no,h.nc,fun k=>?_,fun k m q=>?_,fun x mx q=>?_,fun x mx=>?_,fun k m=>?_,fun p mp=>?_,fun p mp=>?_,fun _ _ q=>q.elim,?_⟩
 ·unfold aM;rw [I2];exact Jb.mpr ⟨h.nk,I6.mpr ⟨(fun q=>nomatch q), .nil⟩,fun x mx y my q=>hn (by have:x=c:=q.trans (IN.mp my);rw [<- this];exact mx)⟩
 ·rcases (mk k).mp m with m | m
  ·exact h.sub k m
  ·rw [m];exact cl _ _ pn.2.2.2.2
 ·rw [mo k,h.mo k];exact IZ.symm
 ·rw [mk k,h.mt k,IZ];constructor
  ·rintro ((q | q) | q)
   ·exact .inl (.inr q)
   ·exact .inr q
   ·exact .inl (.inl q)
  ·rintro ((q | q) | q)
   ·exact .inr q
   ·exact .inl (.inl q)
   ·exact .inl (.inr q)
 ·exact (IZ.mp q).elim (fun q=>hc' (q▸m)) (h.dj k m)
 ·rcases mem x mx with m | m
  ·exact h.dn x m q
  ·rw [m] at q;exact absurd q hc'
 ·rcases mem x mx with m | m
  ·have:=h.rm x m
   refine ⟨this.1,this.2.1,fun v hv=>(this.2.2 v hv).imp id fun q=> .inl ((mk v).mpr (q.imp id fun q=>q.2))⟩
  ·rw [m];exact ⟨nz,fun v mv=>(hz v).mp mv,fun v hv=> .inl ((hz v).mpr hv)⟩
 ·have up:∀ k∈aM T,RT ((u,c)::R) e k:=fun k m=>(h.tr k m).mono fun _=> .tail _;rcases (mk k).mp m with m | m
  ·exact up k m
  ·rw [m];exact .step (up u pn.1) (.head _)
 ·rcases IZ.mp mp with rfl | mp
  ·refine ⟨pn.2.2.2.2,pn.2.2.2.1,fun x mx q=>?_,(mk _).mpr (.inl pn.1)⟩;rcases mem x mx with m | m
   ·exact pn.2.1 x m q
   ·rw [m] at q;exact absurd q.symm uc
  ·have:=h.rk p mp
   refine ⟨this.1,this.2.1,fun x mx q=>?_,(mk _).mpr (.inl this.2.2.2)⟩;rcases mem x mx with m | m
   ·exact this.2.2.1 x m q
   ·rw [m] at q;exact absurd ((show c=p.1 from q)▸this.2.2.2) hn
 ·have:=h.bk p mp
  refine ⟨fun x mx q=>?_,(mk _).mpr (.inl this.2)⟩;rcases mem x mx with m | m
  ·exact this.1 x m q
  ·rw [m] at q;exact absurd ((show c=p.1 from q)▸this.2) hn
 ·have q:=h.n
  have e1:im (T++[(c,a,zs)])=im T+zs.length:=by unfold im;rw [I2,List.sum_append];rfl
  have e2:l.length - T.length=(l.length - (T.length+1))+1:=by lia
  rw [e2,Nat.add_mul,Nat.one_mul] at q;rw [e1,IV,List.length_singleton,List.length_cons];lia
theorem qO.fin {os' ck':List Int} (h:qO l e T (u::st) os ck be R zc n) (m:(u,a,[])∈T) (no:os'.Nodup) (mo:∀ k,k∈os'↔k≠u/\k∈os) (nc:ck'.Nodup) (mc:∀ k,k∈ck'↔k=u\/k∈ck):∃ k,k<n/\qO l e T st os' ck' be R zc k:=by
 have ns:=I6.mp h.ns;have hn:=h.n;rw [List.length_cons] at hn;refine ⟨n - 1,by omega,⟨h.nk,h.sub,ns.2,fun k=>?_,no,nc,fun k=>?_,fun k m' q=>?_,fun x mx q=>?_,h.rm,h.tr,h.rk,h.bk,h.pn,by omega⟩⟩
 ·rw [mo k,h.mo k,IZ];constructor
  ·rintro ⟨q,q' | q'⟩
   ·exact absurd q' q
   ·exact q'
  ·exact fun q=>⟨fun c=>ns.1 (c▸q), .inr q⟩
 ·rw [h.mt k,mc k,IZ];constructor
  ·rintro ((q | q) | q)
   ·exact .inr (.inl q)
   ·exact .inl q
   ·exact .inr (.inr q)
  ·rintro (q | q | q)
   ·exact .inl (.inr q)
   ·exact .inl (.inl q)
   ·exact .inr q
 ·rcases (mc k).mp m' with rfl | m'
  ·exact ns.1 q
  ·exact h.dj k m' (.tail _ q)
 ·rcases (mc x.1).mp q with q | q
  ·rw [dO (f:=fun x:Int×Addr×List Int=>x.1) h.nk mx m q]
  ·exact h.dn x mx q
structure Ba (l:cU) (e:Int) (be:List (Int×Int)) (D:List Int):Prop where
 me:e∈D
 cl:∀ u∈D,∀ c,Ed l u c->c∈D
 all:∀ X:Int->Prop,X e->(∀ u v,X u->Ed l u v->(u,v)∉be->X v)->∀ v∈D,X v
theorem qO.end (h:qO l e T [] os ck be R zc n) (me:e∈aM T):Ba l e be (aM T):=by
 refine ⟨me,fun u mu c he=>?_,fun X h0 hs v mv=>?_⟩
 ·obtain ⟨x,mx,rfl⟩:=I0.mp mu;have dn:=h.dn x mx (((h.mt _).mp mu).resolve_left fun q=>nomatch q);rcases (h.rm x mx).2.2 c he with q | q | q
  ·rw [dn] at q;cases q
  ·exact q
  ·exact q.elim
 ·have hr:=h.tr v mv;clear mv
  induction hr with
  | refl=>exact h0
  | step _ m ih=>exact hs _ _ ih (h.rk _ m).1 (h.rk _ m).2.1
theorem qO.start (me:e∈aM l) (hos:∀ k,k∈os↔k=e) (no:os.Nodup) (nz:zs.Nodup) (hz:∀ v,v∈zs↔Ed l e v):qO l e [(e,a,zs)] [e] os [] [] [] zc (zs.length+1+l.length*(l.length+1)):=
 ⟨I6.mpr ⟨(fun q=>nomatch q), .nil⟩,fun k m=>by rw [IN.mp m];exact me,I6.mpr ⟨(fun q=>nomatch q), .nil⟩,fun k=>(hos k).trans IN.symm,no, .nil,fun k=>⟨.inl,fun m=>m.elim id fun m=>nomatch m⟩,(fun _ m=>nomatch m),(fun _ _ m=>nomatch m),fun x mx=>by
  rw [IN.mp mx]
  exact ⟨nz,fun v mv=>(hz v).mp mv,fun v hv=> .inl ((hz v).mpr hv)⟩,fun k m=>by rw [IN.mp m];exact .refl,(fun _ m=>nomatch m),(fun _ m=>nomatch m),(fun _ _ q=>q.elim),by
  show (zs.length+0)+1+(l.length - 1)*(l.length+1)<=_
  have:=Nat.mul_le_mul_right (l.length+1) (Nat.sub_le l.length 1)
  exact Nat.add_le_add_iff_left.mpr this⟩
section
variable {G:aK} {A:Around} {env:Env} {ρ:aX} {σ:am}
theorem aO {L:Addr} {n:Str} {k:NameKind} {r:List (Str×NameKind)} {cells:List (Str×Addr)} {K:List (Str×Addr)->am->Prop} (h:(k == .cell)=false) (q:cM L r cells σ K):cM L ((n,k)::r) cells σ K:=by
 unfold cM;rw [h];exact q
theorem b8 {L:Addr} {n:Str} {r:List (Str×NameKind)} {cells:List (Str×Addr)} {K:List (Str×Addr)->am->Prop} (q:∀ c σ',σ c=none->σ' c=some (.cell none)->Ex [] σ σ'->cM L r ((n,c)::cells) σ' K):cM L ((n, .cell)::r) cells σ K:=by
 unfold cM;rw [if_pos (by decide)];exact fun c hc _=>q c _ hc (am.set_self ..) fun _ _ _ e=>sk hc e
theorem qa.mono {cs:List Expr} {Q Q':Bool->am->Prop} (k:∀ b σ',Q b σ'->Q' b σ'):∀ {σ:am},qa G A env cs ρ σ Q->qa G A env cs ρ σ Q':=by
 induction cs with
 | nil=>exact fun h=>k _ _ h
 | cons c cs ih=>
  exact fun h=>WT.mono h fun b σ1 h1=>by
   cases b with
   | true=>exact ih h1
   | false=>exact k _ _ h1
abbrev mn (emit:aX->am->(am->Prop)->Prop):Prop:=∀ ρ σ K K',(∀ σ',K σ'->K' σ')->emit ρ σ K->emit ρ σ K'
theorem nh {elt:Expr} {acc:Addr}:mn (uG G A env elt acc):=fun ρ σ K K' k h=>WE.mono h fun v σ' hE=>by obtain ⟨l,h1,h2,h3⟩:=hE;exact ⟨l,h1,h2,k _ h3⟩
theorem tF {kx vx:Expr} {acc:Addr}:mn (w9 G A env kx vx acc):=fun ρ σ K K' k h=>WE.mono h fun v σ' h=>WE.mono h fun v σ' hE=>by obtain ⟨l,kvs,ver,h1,h2,h3,h4⟩:=hE;exact ⟨l,kvs,ver,h1,h2,h3,fun v=>k _ (h4 v)⟩
theorem ky {C:am->Prop} {tgt:Expr} {ifs:List Expr} {emit:aX->am->(am->Prop)->Prop} (em:mn emit) {Q:am->Prop} (Iv:List V->am->Prop)
  (turn:∀ x xs ρ σ,Iv (x::xs) σ->lV G A env tgt x ρ σ fun ρ1 σ1=>qa G A env ifs ρ1 σ1 fun b σ2=>if b then emit ρ1 σ2 fun σ3=>C σ3/\Iv xs σ3 else C σ2/\Iv xs σ2)
  (fin:∀ σ,Iv [] σ->Q σ) (xs:List V):∀ {ρ:aX} {σ:am},Iv xs σ->gO G A env C tgt ifs emit Q xs ρ σ:=by
 induction xs with
 | nil=>exact fun h=>fin _ h
 | cons x xs ih=>
  intro ρ σ h;refine (turn x xs ρ σ h).mono fun ρ1 σ1 h1=>h1.mono fun b σ2 h2=>?_
  cases b with
  | true=>exact em _ _ _ _ (fun σ' h4=>⟨h4.1,ih h4.2⟩) h2
  | false=>exact ⟨h2.1,ih h2.2⟩
end
abbrev kR (fd:FuncData) (i:Nat):Stmt:=match fd.body with
 | .stmts l=>l.getD i (.Pass ⟨0,0,0,0⟩)
 | _=> .Pass ⟨0,0,0,0⟩
abbrev ya (s:Stmt) (q:Str) (cl:List (Str×Addr)) (pm:Value) (tp c':Addr):FuncData:=match s with
 | .FunctionDef name args body _ _ _ scope _ _ _=>qx name q args body scope cl pm tp c'
 | _=>qx "" q ⟨[],[],none,[],[],none,[]⟩ [] ⟨.function,[],false,false,[]⟩ cl pm tp c'
inductive jG (σ:am) (f:Addr) (fd:FuncData):Prop
 | mk (c':Addr) (oc:Obj) (h:σ f=some (.raw (dY fd))) (e:fd.code = .ref c') (hc:σ c'=some (.raw oc)) (is:ml fd.qualname oc):jG σ f fd
theorem jG.ex {σ σ':am} {D:List Addr} {f:Addr} {fd:FuncData} (h:jG σ f fd) (e:Ex D σ σ') (n:∀ a y,σ a=some (.raw y)->a∉D):jG σ' f fd:=by
 cases h with | mk c' oc h e' hc is=>exact ⟨c',oc,e _ _ (n _ _ h) h,e',e _ _ (n _ _ hc) hc,is⟩
theorem jG.def {G:aK} {σ:am} {f:Addr} {fd:FuncData} {body:List Stmt} {vs:List V} {kv bv:List (Str×V)} (h:jG σ f fd) (hbody:fd.body = .stmts body) (hb:gL G.K fd vs kv bv) (o2:fd.scope.isCoroutine=false) (o3:fd.scope.isGenerator=false):u1 G f fd body vs kv bv σ:=by
 cases h with | mk c' oc h e hc is=>
 refine ⟨fun L B ρ s st=>?_,hbody,hb.1,o2,o3⟩;ac_rfl;obtain ⟨o,hz0⟩:=st.get h;obtain ⟨o',hz1⟩:=st.get hc
 cases is with | mk vs t d h1=>
 right;refine ⟨o,hz0.1,by rw [show o=dY fd from hz0.2];rfl,⟨c',o',vs,t,e,hz1.1,by rw [show o'=oc from hz1.2];exact d,h1⟩⟩
section
variable {A:Around} {w:World} {mg mb:Str->Option Value} {os:OsState} {σ:am}
theorem bM {σ:am} {a b:Addr} {x y:bL} (ha:σ a=some x) (hb:σ b=some y) (n:x≠y):a≠b:=fun e=>n (by rw [e,hb] at ha;obtain rfl:=Option.some.inj ha;rfl)
abbrev cS:Str:=AD ++ ".<locals>." ++ "push_state"
abbrev qC (c1 c2 c3 c4:Addr) (pm:Value) (tp c':Addr):FuncData:=ya (kR b4 8) cS [("succs_state",c4),("succs",c1),("stack",c3),("on_stack",c2)] pm tp c'
inductive qZ (σ σ':am) (K O D:Addr) (T:cU) (ks os xu:List Int) (u:Int):Prop
 | mk (a:Addr) (zs os':List Int) (oO oD:Obj) (ha:σ a=none) (fa:σ' a=some (.list (aB zs))) (nz:zs.Nodup) (hz:∀ v,v∈zs↔v∈xu) (fK:σ' K=some (.list (aB (ks++[u])))) (fO:σ' O=some (.iset os' oO)) (no:os'.Nodup) (mo:∀ k,k∈os'↔k=u\/k∈os) (fD:σ' D=some (.idict (cb (T++[(u,a,zs)])) oD)) (ex:Ex [K,O,D] σ σ'):qZ σ σ' K O D T ks os xu u
inductive CY (σ₀:am) (acc:Addr) (ys:List Int) (xs:List V) (σ:am):Prop
 | mk (d r:List Int) (e:ys=d++r) (ex:xs=aB r) (h:σ acc=some (.list (aB d))) (ke:Ex [] σ₀ σ):CY σ₀ acc ys xs σ
theorem xt {f c1 c2 c3 c4 S K O D tp c' au:Addr} {pm:Value} {l T:cU} {ks so xu:List Int} {u:Int} {oO oD:Obj} {Q:V->am->Prop} (r:Rm 8 A) (hf:jG σ f (qC c1 c2 c3 c4 pm tp c'))
  (h1:σ c1=some (.cell (some (.ref S)))) (h2:σ c2=some (.cell (some (.ref O)))) (h3:σ c3=some (.cell (some (.ref K)))) (h4:σ c4=some (.cell (some (.ref D))))
  (hS:g7 σ S l) (nkl:(aM l).Nodup) (mu:(u,au,xu)∈l) (auO:au≠O) (nxu:xu.Nodup) (lxu:xu.length<60) (hK:σ K=some (.list (aB ks))) (lK:ks.length<60) (hO:σ O=some (.iset so oO)) (nO:so.Nodup) (lO:so.length<60) (hD:σ D=some (.idict (cb T) oD)) (hT:u∉aM T) (lT:T.length<60)
  (q:∀ σ',qZ σ σ' K O D T ks so xu u->Q .none σ'):eS (G8 w mg mb os) A (.ref f) [.int u] [] σ Q:=by
 intros A w mg mb os σ f c1 c2 c3 c4 S K O D tp c' au pm l T ks so xu u oO oD Q
 intro r hf h1 h2 h3 h4 hS nkl mu auO nxu lxu hK lK hO nO lO hD hT lT q;have KO:=bM hK hO ∅;have KD:=bM hK hD ∅;have OD:=bM hO hD ∅;refine jt (bv:=[("node", .int u)]) (hf.def rfl (c8 fun _ _=>by kernel_rfl) (⋯) (⋯)) r.room fun L hL=>b6 (⋯) ?_;refine az ?_;show WL _ _ _ (_::_) _ _ _;refine al (bh (ay (ah (eA (c:=c3) (⋯) h3 (cz (.inl hK) (aJ (ao (ah (ak (v:= .int u) rfl (aA ⟨ba.bi,co hK (by unfold aB;rw [IP];exact eW lK rfl) (aZ (P:=fun s=>WL _ _ _ _ _ s _) fun σ1 f1 e1=>?_)⟩))))))))));have c2K:=bM h2 hK ∅;have O1:=e1.but hO KO.symm;refine al (bh (ay (ah (eA (c:=c2) (⋯) (e1.but h2 c2K) (b9 O1 (aJ (ao (ah (ak (v:= .int u) rfl (aA ⟨ba.bi,b7 O1 nO (eW lO rfl) fun so' oO' no lo mo=>aZ (P:=fun s=>WL _ _ _ _ _ s _) fun σ2 f2 e2=>?_⟩))))))))));have tE:Ex [K,O] σ σ2:=(e1.mono fun a m=>by simp at m;simp [m]).trans (e2.mono fun a m=>by simp at m;simp [m]);have up:∀ {a:Addr} {y:bL},σ a=some y->y≠ .list (aB ks)->y≠ .iset so oO->σ2 a=some y:=fun h n1 n2=>tE _ _ (fun m=>by simp at m;exact m.elim (bM h hK n1) (bM h hO n2)) h;ac_rfl;obtain ⟨op,hp,aa⟩:=hS;have gg:=bQ nkl mu;obtain ⟨ou,hau⟩:=aa _ mu;right;have auK:=bM hau hK ∅;have fau:σ2 au=some (.iset xu ou):=tE _ _ (fun m=>by simp at m;exact m.elim auK auO) hau;have fp:σ2 S=some (.idict (cb l) op):=up hp ∅ ∅;have fD:σ2 D=some (.idict (cb T) oD):=up hD ∅ ∅;have fK:=e2.but f1 KO;have hh:=(r.deeper (n:=7) (env:=aR (qC c1 c2 c3 c4 pm tp c') f L (qC c1 c2 c3 c4 pm tp c').closure)).hh;refine al (aY (eG (aG (ah (eA (c:=c1) (⋯) (up h1 ∅ ∅) (ah (ak (v:= .int u) rfl ⟨PG.dict fp,bb fp gg (mI hh fau fun ys hys acc hacc CL=>⟨sk hacc fau,bj (P:=fun s=>gO _ _ _ _ _ _ _ _ _ _ s) hacc fun σ3 f3 e3=>?_⟩)⟩)))))));refine ky nh (CY σ2 acc ys) ?_ ?_ _ ⟨[],ys,rfl,rfl,f3,e3⟩
 ·intro x xs ρ' σ' iv
  cases iv with | mk d r e ex h ke=>
  cases r with
  | nil=>injection ex
  | cons c r=>
   cases ex;refine bo (az ?_)
   have ld:(aB d).length<2 ^ 20:=by
    have:=hys.length_eq
    rw [e,IV] at this;unfold aB;rw [IP];exact sY (Nat.le.intro this) lxu rfl
   have k:Ex [] σ2 (σ'.set acc (.list (aB d++[.int c]))):=fun a y _ h'=>(am.set_ne _ _ (aW h' hacc)).trans (ke.at h');exact ah (ak bK ⟨_,h,ld,k.at fau,⟨d++[c],r,by rw [e];simp,rfl,by rw [am.set_self,bt];rfl,k⟩⟩)
 ·intro σ' iv
  cases iv with | mk d r e ex h ke=>
  cases r with
  | cons _ _=>injection ex
  | nil=>
   rw [List.append_nil] at e;subst e;refine bz (ah (eA (c:=c4) (⋯) (ke.at (up h4 ∅ ∅)) (ah (ak (v:= .int u) rfl ?_))));refine bZ (ke.at fD) (by unfold cb;rw [IP];exact eW lT rfl) fun oD'=>aZ (P:=fun s=>WL _ _ _ _ _ s _) fun σ4 f4 e4=>aE (q _ ?_);rw [kK hT] at f4;have aD:=(aW fD hacc).symm
   have ha0:σ acc=none:=by
    cases c:σ acc with
    | none=>rfl
    | some y=>
     by_cases m:acc∈[K,O]
     ·simp at m;rcases m with m | m
      ·rw [m,fK] at hacc;injection hacc
      ·rw [m,f2] at hacc;injection hacc
     ·rw [tE _ _ m c] at hacc;injection hacc
   exact ⟨acc,ys,so',oO',oD',ha0,e4.but h aD,hys.symm.nodup nxu,fun v=>hys.mem_iff,by rw [bt];exact e4.but (ke.at fK) KD,e4.but (ke.at f2) OD,no,mo,by rw [eM];exact f4,(tE.mono fun a m=>by simp at m ⊢;exact m.elim .inl fun m=> .inr (.inl m)).trans (fun a y n h'=>e4.but (ke.at h') fun c=>n (by simp [c]))⟩
end
theorem zH {G:aK} {σ:am} {f:Addr} {fd:FuncData} {body:List Stmt} {vs:List V} {kv bv:List (Str×V)} (hk:G.K.lookup f=some (dY fd)) (hbody:fd.body = .stmts body) (o1:qi G.K fd=true) (hb:gL G.K fd vs kv bv) (o2:fd.scope.isCoroutine=false) (o3:fd.scope.isGenerator=false):u1 G f fd body vs kv bv σ:=
 ⟨fun L B ρ s st=>⟨_,st.K _ _ hk,rfl,hJ o1 st.K⟩,hbody,hb.1,o2,o3⟩
abbrev tM:bL->Bool
 | .raw _ | .cell _=>false
 | _=>true
inductive bP (σ:am) (P:Addr) (pos:Pos) (q:Str):Prop
 | mk (ps:Array Value) (h:σ P=some (.raw (bT ps))) (tr:TriplesOk ps.toList) (pl:dF σ P ps pos q):bP σ P pos q
abbrev CC (σ₀ σ:am) (D:List Addr):Prop:=∀ a∈D,σ₀ a=none/\∃ y,σ a=some y/\tM y=true
theorem CC.nin {σ₀ σ:am} {D:List Addr} (h:CC σ₀ σ D) {a:Addr} {y:bL} (e:σ a=some y) (n:tM y=false):a∉D:=fun m=>by
 ac_rfl;obtain ⟨_,z,hz,q⟩:=h a m;right;rw [e] at hz;obtain rfl:=Option.some.inj hz;rw [n] at q;injection q
theorem bP.ex {σ₀ σ σ':am} {D:List Addr} {P:Addr} {pos:Pos} {q:Str} (h:bP σ P pos q) (e:Ex D σ σ') (d:CC σ₀ σ D):bP σ' P pos q:=by
 cases h with | mk ps h tr pl=>
 refine ⟨ps,e _ _ (d.nin h rfl) h,tr,?_⟩
 cases pl with
 | new h=>exact .new h
 | old c' oc h1 hc is cP=>exact .old c' oc h1 (e _ _ (d.nin hc rfl) hc) is cP
set_option genInjectivity false in
structure wu where
 B:Addr
 K:Addr
 O:Addr
 D:Addr
 C:Addr
 f:Addr
 c1:Addr
 c2:Addr
 c3:Addr
 c4:Addr
 S:Addr
 tp:Addr
 c':Addr
 pm:Value
abbrev bX:Pos:=⟨330,8,333,62⟩
instance iBk:Nonempty wu:=⟨by constructor <;> first | exact (0:Nat) | exact .none | exact [] | exact false | exact fun _=> .none | exact fun _=>False⟩
structure CB (a:wu) (σ₀ σ:am):Prop where
 h1:σ a.c1=some (.cell (some (.ref a.S)))
 h2:σ a.c2=some (.cell (some (.ref a.O)))
 h3:σ a.c3=some (.cell (some (.ref a.K)))
 h4:σ a.c4=some (.cell (some (.ref a.D)))
 hf:jG σ a.f (qC a.c1 a.c2 a.c3 a.c4 a.pm a.tp a.c')
 tab:bP σ 460 bX cS
 ke:Ex [460] σ₀ σ
theorem CB.step {a:wu} {σ₀ σ σ':am} {D:List Addr} (h:CB a σ₀ σ) (e:Ex D σ σ') (d:CC σ₀ σ D):CB a σ₀ σ':=
 ⟨e _ _ (d.nin h.h1 rfl) h.h1,e _ _ (d.nin h.h2 rfl) h.h2,e _ _ (d.nin h.h3 rfl) h.h3,e _ _ (d.nin h.h4 rfl) h.h4,h.hf.ex e fun _ _ q=>d.nin q rfl,h.tab.ex e d,fun b y n q=>e _ _ (fun m=>by rw [(d b m).1] at q;injection q) (h.ke b y n q)⟩
structure lQ (a:wu) (T:cU) (st os ck:List Int) (be:List (Int×Int)) (nb:Nat) (σ₀ σ:am):Prop where
 hB:σ a.B=some (.tset be nb)
 hK:σ a.K=some (.list (aB st.reverse))
 hO:∃ o,σ a.O=some (.iset os o)
 hC:∃ o,σ a.C=some (.iset ck o)
 hD:∃ o,σ a.D=some (.idict (cb T) o)
 hT:∀ x∈T,σ x.2.1=some (.list (aB x.2.2))
 nT:(bD T).Nodup
 kT:∀ b∈bD T,σ₀ b=none/\b≠a.K
 OC:a.O≠a.C
 fr:σ₀ a.B=none/\σ₀ a.K=none/\σ₀ a.O=none/\σ₀ a.C=none/\σ₀ a.D=none
variable {a:wu} {T:cU} {st os ck:List Int} {be:List (Int×Int)} {nb:Nat} {σ₀ σ σ':am}
theorem lQ.addB {be' nb'} (h:lQ a T st os ck be nb σ₀ σ) (f:σ' a.B=some (.tset be' nb')) (e:Ex [a.B] σ σ'):lQ a T st os ck be' nb' σ₀ σ':=
 ⟨f,e.but h.hK (bM h.hK h.hB ∅),h.hO.imp fun _ q=>e.but q (bM q h.hB ∅),h.hC.imp fun _ q=>e.but q (bM q h.hB ∅),h.hD.imp fun _ q=>e.but q (bM q h.hB ∅),fun x m=>e.but (h.hT x m) (bM (h.hT x m) h.hB ∅),h.nT,h.kT,h.OC,h.fr⟩
theorem lQ.setK {st'} (h:lQ a T st os ck be nb σ₀ σ) (f:σ' a.K=some (.list (aB st'.reverse))) (e:Ex [a.K] σ σ'):lQ a T st' os ck be nb σ₀ σ':=
 ⟨e.but h.hB (bM h.hB h.hK ∅),f,h.hO.imp fun _ q=>e.but q (bM q h.hK ∅),h.hC.imp fun _ q=>e.but q (bM q h.hK ∅),h.hD.imp fun _ q=>e.but q (bM q h.hK ∅),fun x m=>e.but (h.hT x m) (h.kT _ (IR (f:=fun e=>e.2.1) m)).2,h.nT,h.kT,h.OC,h.fr⟩
theorem lQ.setO {os' o} (h:lQ a T st os ck be nb σ₀ σ) (f:σ' a.O=some (.iset os' o)) (e:Ex [a.O] σ σ'):lQ a T st os' ck be nb σ₀ σ':=by
 obtain ⟨_,hO⟩:=h.hO;exact ⟨e.but h.hB (bM h.hB hO ∅),e.but h.hK (bM h.hK hO ∅),⟨_,f⟩,h.hC.imp fun _ q=>e.but q h.OC.symm,h.hD.imp fun _ q=>e.but q (bM q hO ∅),fun x m=>e.but (h.hT x m) (bM (h.hT x m) hO ∅),h.nT,h.kT,h.OC,h.fr⟩
theorem lQ.setC {ck' o} (h:lQ a T st os ck be nb σ₀ σ) (f:σ' a.C=some (.iset ck' o)) (e:Ex [a.C] σ σ'):lQ a T st os ck' be nb σ₀ σ':=by
 obtain ⟨_,hC⟩:=h.hC;exact ⟨e.but h.hB (bM h.hB hC ∅),e.but h.hK (bM h.hK hC ∅),h.hO.imp fun _ q=>e.but q h.OC,⟨_,f⟩,h.hD.imp fun _ q=>e.but q (bM q hC ∅),fun x m=>e.but (h.hT x m) (bM (h.hT x m) hC ∅),h.nT,h.kT,h.OC,h.fr⟩
theorem lQ.pop {u:Int} {b:Addr} {xs ys:List Int} (h:lQ a T st os ck be nb σ₀ σ) (nk:(aM T).Nodup) (m:(u,b,xs)∈T) (f:σ' b=some (.list (aB ys))) (e:Ex [b] σ σ'):lQ a (cN T u ys) st os ck be nb σ₀ σ':=by
 have hb:=h.hT _ m;have kb:=h.kT b (IR (f:=fun e=>e.2.1) m);refine ⟨e.but h.hB (bM h.hB hb ∅),e.but h.hK kb.2.symm,h.hO.imp fun _ q=>e.but q (bM q hb ∅),h.hC.imp fun _ q=>e.but q (bM q hb ∅),by rw [pK];exact h.hD.imp fun _ q=>e.but q (bM q hb ∅),fun x mx=>?_,by rw [cp];exact h.nT,by rw [cp];exact h.kT,h.OC,h.fr⟩;unfold cN at mx;obtain ⟨y,my,rfl⟩:=I0.mp mx
 by_cases c:y.1=u
 ·rw [if_pos c,dO (f:=fun e:Int×Addr×List Int=>e.1) nk my m c];exact f
 ·rw [if_neg c];exact e.but (h.hT y my) fun q=>c (by rw [dO (f:=fun e:Int×Addr×List Int=>e.2.1) h.nT my m q])
theorem lQ.push {u:Int} {xu:List Int} (h:lQ a T st os ck be nb σ₀ σ) (p:qZ σ σ' a.K a.O a.D T st.reverse os xu u) (ke:Ex [460] σ₀ σ) (tb:∃ y,σ 460=some y):∃ b zs os',lQ a (T++[(u,b,zs)]) (u::st) os' ck be nb σ₀ σ'/\zs.Nodup/\(∀ v,v∈zs↔v∈xu)/\os'.Nodup/\∀ k,k∈os'↔k=u\/k∈os:=by
 ac_rfl
 cases p with | mk b zs os' oO oD ha fa nz hz fK fO no mo fD ex=>
 obtain ⟨_,hO⟩:=h.hO;obtain ⟨_,hC⟩:=h.hC;obtain ⟨_,hD⟩:=h.hD;right;have out:∀ {c y},σ c=some y->c≠a.K->c≠a.O->c≠a.D->σ' c=some y:=fun q n1 n2 n3=>ex _ _ (fun m=>by simp only [IZ,I3,or_false] at m;exact m.elim n1 fun m=>m.elim n2 n3) q;refine ⟨b,zs,os',⟨out h.hB (bM h.hB h.hK ∅) (bM h.hB hO ∅) (bM h.hB hD ∅),by rw [List.reverse_cons];exact fK,⟨_,fO⟩,⟨_,out hC (bM hC h.hK ∅) h.OC.symm (bM hC hD ∅)⟩,⟨_,fD⟩,fun x m=>?_,?_,fun c m=>?_,h.OC,h.fr⟩,nz,hz,no,mo⟩
 ·rcases I1.mp m with m | m
  ·exact out (h.hT x m) (h.kT _ (IR (f:=fun e=>e.2.1) m)).2 (bM (h.hT x m) hO ∅) (bM (h.hT x m) hD ∅)
  ·rw [IN.mp m];exact fa
 ·unfold bD;rw [I2];refine Jb.mpr ⟨h.nT,I6.mpr ⟨(fun q=>nomatch q), .nil⟩,fun x mx y my q=>?_⟩;obtain ⟨z,mz,rfl⟩:=I0.mp mx
  have:=h.hT z mz
  rw [show z.2.1=b from q.trans (IN.mp my),ha] at this;injection this
 ·unfold bD at m;rw [I2] at m;rcases I1.mp m with m | m
  ·exact h.kT c m
  ·rw [show c=b from IN.mp m];refine ⟨?_,(aW h.hK ha).symm⟩
   cases q:σ₀ b with
   | none=>rfl
   | some y=>
    obtain ⟨z,hz⟩:=tb;rw [ke b y (fun m=>by rw [IN.mp m,hz] at ha;injection ha) q] at ha;injection ha
theorem lQ.dat1 (h:lQ a T st os ck be nb σ₀ σ) {b:Addr} {y:bL} (e:σ b=some y) (d:tM y=true) (z:σ₀ b=none):CC σ₀ σ [b]:=fun c m=>by rw [IN.mp m];exact ⟨z,y,e,d⟩
theorem lQ.dat3 (h:lQ a T st os ck be nb σ₀ σ):CC σ₀ σ [a.K,a.O,a.D]:=fun c m=>by
 obtain ⟨_,hO⟩:=h.hO;obtain ⟨_,hD⟩:=h.hD;simp only [IZ,I3,or_false] at m;rcases m with rfl | rfl | rfl
 ·exact ⟨h.fr.2.1,_,h.hK,rfl⟩
 ·exact ⟨h.fr.2.2.1,_,hO,rfl⟩
 ·exact ⟨h.fr.2.2.2.2,_,hD,rfl⟩
section
variable {A:Around} {w:World} {mg mb:Str->Option Value} {os:OsState} {σ:am}
theorem jG.keeps {G:aK} {f:Addr} {fd:FuncData} (h:jG σ f fd):ba G A (.ref f) σ:=by
 cases h with | mk c' oc h e hc is=>
 exact .fn fun L B ρ s st=>by
  obtain ⟨o,hz0⟩:=st.get h;exact ⟨o,fd,hz0.1,by rw [show o=dY fd from hz0.2];rfl⟩
structure y6 (a:wu) (ρ:aX):Prop where
 rB:ρ "back_edges" = some (.ref a.B)
 rC:ρ "checked" = some (.ref a.C)
 rf:ρ "push_state" = some (.ref a.f)
 rI:∃ k,ρ "iter_ct" = some (.int k)
 rs:ρ "stats" = some .none
theorem y6.set {a:wu} {ρ:aX} {x:Str} {v:V} (h:y6 a ρ) (n: "back_edges" ≠x/\ "checked" ≠x/\ "push_state" ≠x/\ "iter_ct" ≠x/\ "stats" ≠x):y6 a (ρ.set x v):=
 ⟨aw h.rB n.1,aw h.rC n.2.1,aw h.rf n.2.2.1,h.rI.imp fun _ q=>aw q n.2.2.2.1,aw h.rs n.2.2.2.2⟩
theorem y6.iter {a:wu} {ρ:aX} {k:Int} (h:y6 a ρ):y6 a (ρ.set "iter_ct" (.int k)):=
 ⟨aw h.rB,aw h.rC,aw h.rf,⟨k,bK⟩,aw h.rs⟩
inductive Bb (a:wu) (σ₀:am) (l:cU) (e:Int) (n0 n:Nat) (ρ:aX) (σ:am):Prop
 | mk (T:cU) (st os ck:List Int) (be R:List (Int×Int)) (nb:Nat) (F:CB a σ₀ σ) (D:lQ a T st os ck be nb σ₀ σ) (h:qO l e T st os ck be R zc n) (me:e∈aM T) (ln:nb+n<=n0) (L:y6 a ρ):Bb a σ₀ l e n0 n ρ σ
structure kW (σ:am) (x d S:Addr) (m:Str->Option V) (n:Nat) (b:Bool) (ob:Obj) (l:cU) (e:Int):Prop where
 hx:σ x=some (.inst 510 d)
 hd:σ d=some (.ns m n b ob)
 hS:m wo=some (.ref S)
 he:m u0=some (.int e)
 hv:m "entry_point" = none
 hA:g7 σ S l
 nk:(aM l).Nodup
 ns:∀ x∈l,x.2.2.Nodup
 cl:∀ u v,Ed l u v->v∈aM l
 me:e∈aM l
 hl:l.length<=12
 tab:bP σ 460 bX cS
theorem qZ.exs {σ':am} {K O D:Addr} {T:cU} {ks so xu:List Int} {u:Int} (p:qZ σ σ' K O D T ks so xu u):Ex [K,O,D] σ σ':=by cases p with | mk _ _ _ _ _ _ _ _ _ _ _ _ _ _ ex=>exact ex
theorem Dr {σ₀ σ σ':am} {c:Addr} (k:Ex [] σ₀ σ) (e:Ex [c] σ σ') (h:σ₀ c=none):Ex [] σ₀ σ':=fun b y _ q=>e.but (k.at q) (aW q h)
theorem bP.nil {σ σ':am} {P:Addr} {pos:Pos} {q:Str} (h:bP σ P pos q) (e:Ex [] σ σ'):bP σ' P pos q:=h.ex (σ₀:=fun _=>none) e fun _ m=>nomatch m
theorem zG {w:World}:fe (K8 w.params) 464 460:=⟨_,_,_,_,_,_,_,_,_,_,(rfl:(K8 w.params).lookup 464=_),rfl,rfl,rfl,rfl,rfl⟩
theorem kW.row {x d S:Addr} {m n b ob} {l:cU} {e:Int} (H:kW σ x d S m n b ob l e) {c:Int} (mc:c∈aM l):∃ ac xc oc,(c,ac,xc)∈l/\σ ac=some (.iset xc oc)/\xc.Nodup/\xc.length<=l.length/\∀ v,v∈xc↔Ed l c v:=by
 ac_rfl;obtain ⟨op,hp,aa⟩:=H.hA;obtain ⟨⟨c0,ac,xc⟩,mm,hc0⟩:=I0.mp mc;have mm:(c,ac,xc)∈l:=hc0▸mm;obtain ⟨o,ho⟩:=aa _ mm;right
 have:=IQ (H.ns _ mm) (l₂:=aM l) fun v mv=>H.cl c v ⟨ac,xc,mm,mv⟩
 unfold aM at this;rw [IP] at this;exact ⟨ac,xc,o,mm,ho,H.ns _ mm,this,fun v=>⟨fun m=>⟨ac,xc,mm,m⟩,fun hE=>by obtain ⟨a',x',m',hx⟩:=hE;have:=dO (f:=fun e:Int×Addr×List Int=>e.1) H.nk mm m' rfl;cases this;exact hx⟩⟩
theorem kW.adj {x d S:Addr} {m n b ob} {l:cU} {e:Int} (H:kW σ x d S m n b ob l e) {τ:am} (k:Ex [460] σ τ):g7 τ S l:=by
 ac_rfl;obtain ⟨op,hp,aa⟩:=id H.hA
 obtain ⟨v0,h460⟩: ∃ v0,σ 460=some (.raw v0):=by cases H.tab with | mk ps h _ _=>exact ⟨_,h⟩
 right
 exact H.hA.ex k (fun m=>bM hp h460 ∅ (IN.mp m)) (fun b mb m=>by
  obtain ⟨x,mx,rfl⟩:=I0.mp mb;obtain ⟨o,ho⟩:=aa x mx
  exact bM ho h460 ∅ (IN.mp m))
noncomputable abbrev ju (s:Stmt):List Stmt:=kD s
abbrev zE (a:wu) (L:Addr):Env:=aR b4 465 L [("succs_state",a.c4),("stack",a.c3),("on_stack",a.c2),("succs",a.c1)]
theorem vm {a:wu} {σ₀:am} {x d L:Addr} {m n0 b ob} {l T:cU} {e u:Int} {n nb n00:Nat} {st so ck:List Int} {be R:List (Int×Int)} {ρ:aX} {Q:F->aX->am->Prop} (r:Rm 17 A) (H:kW σ₀ x d a.S m n0 b ob l e) (F:CB a σ₀ σ) (D:lQ a T (u::st) so ck be nb σ₀ σ) (h:qO l e T (u::st) so ck be R zc n) (me:e∈aM T) (ln:nb+n<=n00) (l199:n00<199) (Lo:y6 a ρ)
  (q:∀ k ρ' σ',k<n->Bb a σ₀ l e n00 k ρ' σ'->Q .next ρ' σ'):WL (G8 w mg mb os) A (zE a L) (ju (kR b4 11)) ρ σ Q:=by
 intros A w mg mb os σ a σ₀ x d L m n0 b ob l T e u n nb n00 st so ck be R ρ Q
 intro r H F D h me ln l199 Lo q;show WL _ _ _ (_::_) _ _ _;obtain ⟨k,rI⟩:=Lo.rI;have lT:=IQ h.nk (l₂:=aM l) fun k m=>h.sub k m;unfold aM at lT;rw [IP,IP] at lT;have lS:=IQ h.ns (l₂:=aM T) fun k m=>(h.mt k).mpr (.inl m);unfold aM at lS;rw [IP] at lS;have lO:=IQ h.no (l₂:=u::st) fun k m=>(h.mo k).mp m;have lC:=IQ h.nc (l₂:=aM T) fun k m=>(h.mt k).mpr (.inr m);unfold aM at lC;rw [IP] at lC;have hl:=H.hl;refine al (gf (ak rI (bp (uw (az ?_)))));have Lo:=Lo.iter (k:=k+1);generalize ρ.set "iter_ct" (.int (k+1))=ρ1 at Lo ⊢;have fK:=D.hK;rw [List.reverse_cons,bt] at fK
 have ls:(aB st.reverse).length<2 ^ 20:=by unfold aB;rw [IP,Jh];simp at lS;lia
 refine al (ar (aG (ah (bJ (c:=a.c3) (⋯) F.h3 (fF (bp (mK ⟨PG.list (.inl fK),eI (v:= .int u) (.inl fK) (eW ls rfl) (az ?_)⟩)))))));have rt:(ρ1.set "tos" (.int u)) "tos" = some (.int u):=bK;have Lo:=Lo.set (x:= "tos") (v:= .int u) (by decide);generalize ρ1.set "tos" (.int u)=ρ1 at Lo rt ⊢;ac_rfl;obtain ⟨⟨u',bu,xu⟩,mu',hu'⟩:=I0.mp ((h.mt u).mpr (.inl (.head _)));have mu:(u,bu,xu)∈T:=hu'▸mu';obtain ⟨oD,hD⟩:=D.hD;right;refine al (ar (aG (ah (bJ (c:=a.c4) (⋯) F.h4 (ah (ak rt ⟨PG.dict hD,bb hD (bQ h.nk mu) (az ?_)⟩))))));have rs:(ρ1.set "tos_succs" (.ref bu)) "tos_succs" = some (.ref bu):=bK;have rt:(ρ1.set "tos_succs" (.ref bu)) "tos" = some (.int u):=aw rt;have Lo:=Lo.set (x:= "tos_succs") (v:= .ref bu) (by decide);generalize ρ1.set "tos_succs" (.ref bu)=ρ1 at Lo rt rs ⊢;have hb:=D.hT _ mu;have lx:=IQ (h.rm _ mu).1 (l₂:=aM l) fun v mv=>H.cl _ _ ((h.rm _ mu).2.1 v mv);unfold aM at lx;rw [IP] at lx;refine al (bO (eK (ah (ak rs (iX (.inl hb) (by unfold aB;rw [IP];exact jR lx hl rfl) ?_)))));rcases List.eq_nil_or_concat xu with rfl | ⟨ys,c,rfl⟩
 ·refine al (bh (ay (ah (bJ (c:=a.c3) (⋯) F.h3 (iU (.inl fK) (aJ (aA ⟨ba.bi,iN (v:= .int u) fK ls (aZ (P:=fun s=>WL _ _ _ _ _ s _) fun σ2 f2 e2=>?_)⟩)))))));have F2:=F.step e2 (D.dat1 D.hK rfl D.fr.2.1);have D2:=D.setK f2 e2;obtain ⟨_,hO⟩:=D2.hO;refine al (bh (ay (ah (bJ (c:=a.c2) (⋯) F2.h2 (oQ hO (aJ (ao (ah (ak rt (aA ⟨ba.bi,oK hO ((h.mo u).mpr (.head _)) fun so' oO no _ mo=>aZ (P:=fun s=>WL _ _ _ _ _ s _) fun σ3 f3 e3=>?_⟩))))))))));have F3:=F2.step e3 (D2.dat1 hO rfl D.fr.2.2.1);have D3:=D2.setO f3 e3;obtain ⟨_,hC⟩:=D3.hC;refine al (bh (ay (ah (ak Lo.rC (b9 hC (aJ (ao (ah (ak rt (aA ⟨ba.bi,b7 hC h.nc (jR (Nat.le_trans lC lT) hl rfl) fun ck' oC nc _ mc=>aZ (P:=fun s=>WL _ _ _ _ _ s _) fun σ4 f4 e4=>?_⟩))))))))));have F4:=F3.step e4 (D3.dat1 hC rfl D.fr.2.2.2.1);have D4:=D3.setC f4 e4;obtain ⟨k',hk,h'⟩:=h.fin mu no mo nc mc;exact aE (aE (q k' _ _ hk ⟨_,_,_,_,_,_,_,F4,D4,h',me,by lia,Lo⟩))
 ·rw [List.concat_eq_append] at mu hb lx;rw [List.concat_eq_append,show (!(aB (ys++[c])).isEmpty)=true by rw [bt];simp [aB]];rw [bt] at hb;obtain ⟨k',hk,h'⟩:=h.child mu;refine al (ar (ay (ah (ak rs (iU (.inl hb) (aJ (aA ⟨ba.bi,iN (v:= .int c) hb (by unfold aB;rw [IP];simp at lx;exact eW (Nat.le_trans lx hl) rfl) (aZ (P:=fun s=>WB _ _ _ _ _ _ s _) fun σ2 f2 e2=>az ?_)⟩)))))));have rc:(ρ1.set "cur_node" (.int c)) "cur_node" = some (.int c):=bK;have rt:(ρ1.set "cur_node" (.int c)) "tos" = some (.int u):=aw rt;have Lo:=Lo.set (x:= "cur_node") (v:= .int c) (by decide);show WL _ _ _ _ (ρ1.set "cur_node" (.int c)) σ2 _;generalize ρ1.set "cur_node" (.int c)=ρ1 at Lo rt rc ⊢;have kb:=D.kT bu (IR (f:=fun e=>e.2.1) mu);have F2:=F.step e2 (D.dat1 hb rfl kb.1);have D2:=D.pop h.nk mu f2 e2;obtain ⟨_,hO⟩:=D2.hO;refine iR fun Q' hQ=>al (bO (aI (ah (ak rc (ah (bJ (c:=a.c2) (⋯) F2.h2 (pq hO (aV ?_))))))))
  by_cases hco:c∈so
  ·rw [I5 hco];refine al (bh (ay (ah (ak Lo.rB (rq D2.hB (aJ (ao (dH (ao (ah (ak rt (ao (ah (ak rc (aA ⟨IU rfl,aA ⟨ba.bi,?_⟩⟩)))))))))))))));refine q8 (p:=(u,c)) (by have:=r.hu;show _<9900;exact CG this rfl) D2.hB (by lia) fun ys' n' hn' hr=>aZ (P:=fun s=>WL _ _ _ _ _ s _) fun σ3 f3 e3=>?_;have F3:=F2.step e3 (D2.dat1 D2.hB rfl D.fr.1);exact aE (aE (hQ _ _ _ (aE (q k' _ _ hk ⟨_,_,_,_,_,_,_,F3,D2.addB f3 e3,h'.old (.inl hco) hr,by rw [fy];exact me,by lia,Lo⟩))))
  ·rw [decide_eq_false hco];obtain ⟨_,hC⟩:=D2.hC;refine al (bO (aI (ah (ak rc (ah (ak Lo.rC (dI hC (aV ?_))))))))
   by_cases hcc:c∈ck
   ·rw [I5 hcc];exact aE (aE (aE (hQ _ _ _ (aE (q k' _ _ hk ⟨_,_,_,_,_,_,_,F2,D2,h'.old (.inr hcc) fun r m=> .inr m,by rw [fy];exact me,by lia,Lo⟩)))))
   ·rw [decide_eq_false hcc];ac_rfl;obtain ⟨_,hD2⟩:=D2.hD;have edc:=((h.rm _ mu).2.1 c (IT _ (.head _)));have mc:c∈aM l:=H.cl _ _ edc;obtain ⟨ac,xc,oc,mm,hac,nxc,lxc,edx⟩:=H.row mc;right;have hcT:c∉aM (cN T u ys):=fun m=>((h'.mt c).mp m).elim (fun m=>hco ((h.mo c).mpr m)) hcc;refine al (bh (aF (ah (ak Lo.rf (aJ (ao (ah (ak rc (aA ⟨F2.hf.keeps,?_⟩)))))))));refine (xt (r.le (by decide)) F2.hf F2.h1 F2.h2 F2.h3 F2.h4 (H.adj F2.ke) H.nk mm (aW hac D.fr.2.2.1) nxc (jR lxc hl rfl) D2.hK (by rw [Jh];exact jR (Nat.le_trans lS lT) hl rfl) hO h.no (by lia) hD2 hcT (by unfold cN;rw [IP];exact jR lT hl rfl) fun σ3 p3=>?_).wc;ac_rfl;obtain ⟨b3,zs,os',D3,nz,hz,no,mo⟩:=D2.push p3 F2.ke (by cases F2.tab with | mk _ h _ _=>exact ⟨_,h⟩);right;have F3:=F2.step p3.exs D2.dat3;exact aE (aE (aE (hQ _ _ _ (aE (q k' _ _ hk ⟨_,_,_,_,_,_,_,F3,D3,h'.push hco hcc no mo nz (fun v=>(hz v).trans (edx v)) H.cl,by unfold aM;rw [I2];exact IS _ (by rw [show List.map _ (cN T u ys)=aM T from fy T u ys];exact me),by lia,Lo⟩)))))
theorem Bx {x d S:Addr} {m n b ob} {l:cU} {e:Int} {Q:V->am->Prop} (r:Rm 18 A) (H:kW σ x d S m n b ob l e)
  (q:∀ σ' B be nb D,Ex [460] σ σ'->σ B=none->σ' B=some (.tset be nb)->Ba l e be D->bP σ' 460 bX cS->Q (.ref B) σ'):eS (G8 w mg mb os) A (.ref 465) [.ref x] [] σ Q:=by
 intros A w mg mb os σ x d S m n b ob l e Q
 intro r H q;refine jt (fd:=b4) (bv:=[(gK, .ref x),("stats", .none),("entry_point", .none),("succs", .none)]) (zH (⋯) rfl (⋯) (mX (ds:=["stats", "entry_point", "succs"]) fun _ _=>by kernel_rfl) (⋯) (⋯)) r.room ?_
 injections L
 intro hL;refine aO rfl (aO rfl (aO rfl (b8 fun c1 σ1 hc1 f1 e1=>aO rfl (aO rfl (aO rfl (aO rfl (aO rfl (aO rfl (aO rfl (b8 fun c2 σ2 hc2 f2 e2=>b8 fun c3 σ3 hc3 f3 e3=>b8 fun c4 σ4 hc4 f4 e4=>b6 (⋯) ?_))))))))));have k4:Ex [] σ σ4:=e1.trans (e2.trans (e3.trans e4));refine az (az (az (cO (c:=c1) (⋯) (e4.at (e3.at (e2.at f1))) (aZ (P:=fun s=>WL _ _ _ _ _ s _) fun σ5 f5 e5=>?_))));show WL _ _ _ (_::_) _ _ _;have n12:c1≠c2:=aW f1 hc2;have n13:c1≠c3:=aW (e2.at f1) hc3;have n14:c1≠c4:=aW (e3.at (e2.at f1)) hc4;have n23:c2≠c3:=aW f2 hc3;have n24:c2≠c4:=aW (e3.at f2) hc4;have n34:c3≠c4:=aW f3 hc4;have z2:σ c2=none:=e1.none hc2 (fun m=>nomatch m);have z3:σ c3=none:=(e1.trans e2).none hc3 (fun m=>nomatch m);have z4:σ c4=none:=(e1.trans (e2.trans e3)).none hc4 (fun m=>nomatch m);have k5:Ex [] σ σ5:=Dr k4 e5 hc1;refine al (bO (aI (ah (ak (v:= .none) rfl (bV (gC (aV (aE ?_))))))));refine al (bO (aI (ah (ak (v:= .none) rfl (bV (bI (aV ?_)))))));show WL _ _ _ (_::_) _ _ _;refine al (ar (ay (ah (ak (v:= .ref x) rfl (fZ (f:=307) (k5.at H.hx) (k5.at H.hd) H.hv (⋯) (⋯) (⋯) (⋯) (aJ (aA ⟨br (fd:=i8) (⋯),(o7 ((r.deeper (n:=17)).le (by decide)) (k5.at H.hx) (k5.at H.hd) H.he (az (aE ?_))).wc⟩)))))));refine al (bO (aI (ah (bJ (c:=c1) (⋯) f5 (bV (bI (aV ?_)))))));show WL _ _ _ (_::_) _ _ _;refine al (ar (aH (ah (ak (v:= .ref x) rfl (bG (k5.at H.hx) (k5.at H.hd) H.hS (cO (c:=c1) (⋯) f5 (aZ (P:=fun s=>WL _ _ _ _ _ s _) fun σ6 f6 e6=>aE ?_)) (fun B v h=>bB h) (⋯) (fun v=>by kernel_rfl))))));have k6:=Dr k5 e6 hc1;have p2:σ6 c2=some (.cell none):=e6.but (e5.but (e4.at (e3.at f2)) n12.symm) n12.symm;have p3:σ6 c3=some (.cell none):=e6.but (e5.but (e4.at f3) n13.symm) n13.symm;have p4:σ6 c4=some (.cell none):=e6.but (e5.but f4 n14.symm) n14.symm;refine al (ar (aF (ah (aQ dm (aJ (aA ⟨ba.ty,u8 fun B hB=>bj (P:=fun s=>WB _ _ _ _ _ _ s _) hB fun σ7 f7 e7=>az ?_⟩))))));refine al (ar (dG (aA ⟨IU rfl,fun K hK=>bj (P:=fun s=>WB _ _ _ _ _ _ s _) hK fun σ8 f8 e8=>cO (c:=c3) (⋯) (e8.at (e7.at p3)) (aZ (P:=fun s=>WL _ _ _ _ _ s _) fun σ9 f9 e9=>?_)⟩)));have k9:Ex [] σ σ9:=Dr (k6.trans (e7.trans e8)) e9 z3;have m9:Ex [c3] σ6 σ9:=e7.nil.trans (e8.nil.trans e9);have fK9:=e9.but f8 (aW (e7.at p3) hK).symm;refine al (ar (aF (ah (aQ dm (aJ (aA ⟨ba.ty,cL fun O oO hO=>bj (P:=fun s=>WB _ _ _ _ _ _ s _) hO fun σ10 f10 Do=>cO (c:=c2) (⋯) (Do.at (m9.but p2 n23)) (aZ (P:=fun s=>WL _ _ _ _ _ s _) fun σ11 f11 uF=>?_)⟩))))));have k11:Ex [] σ σ11:=Dr (k9.trans Do) uF z2;have m11:Ex [c2] σ9 σ11:=Do.nil.trans uF;have fO11:=uF.but f10 (aW (m9.but p2 n23) hO).symm;refine al (ar (cu fun D hD=>bj (P:=fun s=>WB _ _ _ _ _ _ s _) hD fun σ12 f12 tE=>cO (c:=c4) (⋯) (tE.at (m11.but (m9.but p4 n34.symm) n24.symm)) (aZ (P:=fun s=>WL _ _ _ _ _ s _) fun σ13 f13 yV=>?_)));have k13:Ex [] σ σ13:=Dr (k11.trans tE) yV z4;have m13:Ex [c4] σ11 σ13:=tE.nil.trans yV;have fD13:=yV.but f12 (aW (m11.but (m9.but p4 n34.symm) n24.symm) hD).symm;refine al (ar (aF (ah (aQ dm (aJ (aA ⟨ba.ty,cL fun C oC hC=>bj (P:=fun s=>WB _ _ _ _ _ _ s _) hC fun σ14 f14 qR=>az ?_⟩))))));have k14:Ex [] σ σ14:=k13.trans qR;have q1:σ14 c1=some (.cell (some (.ref S))):=qR.at (m13.but (m11.but (m9.but f6 n13) n12) n14);have q2:σ14 c2=some (.cell (some (.ref O))):=qR.at (m13.but f11 n24);have q3:σ14 c3=some (.cell (some (.ref K))):=qR.at (m13.but (m11.but f9 n23.symm) n34);have q4:σ14 c4=some (.cell (some (.ref D))):=qR.at f13;have tab14:=H.tab.nil k14
 cases tab14 with | mk ps hP tr pl=>
 refine al (iY (q:=cS) x7 zG hP tr (by decide) pl (cl:=[("succs_state",c4),("succs",c1),("stack",c3),("on_stack",c2)]) (⋯) rfl (fun f c' tp pm σ15 hcd hf=>bj (P:=fun s=>WB _ _ _ _ _ _ s _) hf fun σ16 f16 zQ=>az ?_) rfl rfl rfl rfl rfl rfl);ac_rfl
 cases hcd with | mk ps' oc hP' tr' here hcc is cP ext other=>
 have up:∀ {b y},σ14 b=some y->y≠ .raw (bT ps)->σ16 b=some y:=fun h n=>zQ.at (ext _ _ (bM h hP n) h);have k16:Ex [460] σ σ16:=fun b y n h=>zQ.at (ext _ _ (fun c=>n (by simp [c])) (k14.at h));have F0:CB ⟨B,K,O,D,C,f,c1,c2,c3,c4,S,tp,c',pm⟩ σ σ16:=⟨up q1 ∅,up q2 ∅,up q3 ∅,up q4 ∅,⟨c',oc,f16,rfl,zQ.at hcc,is⟩,⟨ps',zQ.at hP',tr', .old c' oc here (zQ.at hcc) is cP⟩,k16⟩;have fB:σ14 B=some (.tset [] 0):=qR.at (m13.but (m11.but (e9.but (e8.at f7) (aW p3 hB).symm) (aW p2 hB).symm) (aW p4 hB).symm);have fK:σ14 K=some (.list []):=qR.at (m13.but (m11.but fK9 (aW (e7.at p2) hK).symm) (aW (e7.at p4) hK).symm);have fO13:=m13.but fO11 (aW (m9.but p4 n34.symm) hO).symm;have D0:lQ ⟨B,K,O,D,C,f,c1,c2,c3,c4,S,tp,c',pm⟩ [] [] [] [] [] 0 σ σ16:=⟨up fB ∅,up fK ∅,⟨_,up (qR.at fO13) ∅⟩,⟨_,up f14 ∅⟩,⟨_,up (qR.at fD13) ∅⟩,(fun _ m=>nomatch m), .nil,(fun _ m=>nomatch m),aW fO13 hC,⟨k6.none hB (fun m=>nomatch m),(k6.trans e7).none hK (fun m=>nomatch m),k9.none hO (fun m=>nomatch m),k13.none hC (fun m=>nomatch m),k11.none hD (fun m=>nomatch m)⟩⟩
 have hu:(A.deeper (aR b4 465 L [("succs_state",c4),("stack",c3),("on_stack",c2),("succs",c1)])).units+4<cLine:=by have:=(r.deeper (n:=17) (env:=aR b4 465 L [("succs_state",c4),("stack",c3),("on_stack",c2),("succs",c1)])).hu;show _<9900;exact CG this rfl
 have rm:=((r.deeper (n:=17) (env:=aR b4 465 L [("succs_state",c4),("stack",c3),("on_stack",c2),("succs",c1)])).le (m:=8) (by decide));have hl:=H.hl;obtain ⟨ae,xe,oe,hz16⟩:=H.row H.me;obtain ⟨_,hD0⟩:=D0.hD;obtain ⟨_,hO0⟩:=D0.hO;right;refine al (bh (aF (ah (ak (v:= .ref f) rfl (aJ (ao (ah (ak (v:= .int e) rfl (aA ⟨F0.hf.keeps,?_⟩)))))))));refine (xt (T:=[]) (ks:=[]) (so:=[]) rm F0.hf F0.h1 F0.h2 F0.h3 F0.h4 (H.adj k16) H.nk hz16.1 (aW hz16.2.1 D0.fr.2.2.1) hz16.2.2.1 (jR hz16.2.2.2.1 hl rfl) D0.hK (by decide) hO0 .nil (by decide) hD0 (fun m=>nomatch m) (by decide) fun σ17 p17=>?_).wc;ac_rfl;obtain ⟨b,zs,os',D1,nz,hz,no,mo⟩:=D0.push p17 F0.ke (by cases F0.tab with | mk _ h _ _=>exact ⟨_,h⟩);right;have F1:=F0.step p17.exs D0.dat3;refine al (ar (bp (az ?_)));have lz:zs.length<=l.length:=Nat.le_trans (IQ nz fun v m=>(hz v).mp m) hz16.2.2.2.1;have l2:l.length*(l.length+1)<=12*13:=Nat.mul_le_mul hl (lr hl rfl);generalize hρ:aX.set _ "iter_ct" _=ρ1
 have L0:y6 ⟨B,K,O,D,C,f,c1,c2,c3,c4,S,tp,c',pm⟩ ρ1:=by subst hρ;exact ⟨rfl,rfl,rfl,⟨0,rfl⟩,rfl⟩
 clear hρ;refine al (dJ (Bb ⟨B,K,O,D,C,f,c1,c2,c3,c4,S,tp,c',pm⟩ σ l e 170) (zs.length+1+l.length*(l.length+1)) ⟨_,_,_,_,_,_,_,F1,D1, .start H.me (fun k=>by rw [mo k];simp) no nz (fun v=>(hz v).trans (hz16.2.2.2.2 v)), .head _,by lia,L0⟩ fun n ρ2 σ2 iv=>?_)
 cases iv with | mk T st so ck be R nb F D h me ln Lo=>
 refine eK (ah (bJ (c:=c3) (⋯) F.h3 (iX (.inl D.hK) (by
  have lS:=IQ h.ns (l₂:=aM l) fun k m=>h.sub k ((h.mt k).mpr (.inl m));unfold aM at lS;rw [IP] at lS
  unfold aB;rw [IP,Jh];exact jR lS hl rfl) ?_)))
 cases st with
 | nil=>
  refine aE (al (bO (aI (ah (ak Lo.rs (bV (gC (aV (aE ?_)))))))));exact al (bA (ah (ak Lo.rB (q _ _ _ _ _ F.ke D.fr.1 D.hB (h.end me) F.tab))))
 | cons u st=>
  rw [show (!(aB (u::st).reverse).isEmpty)=true by unfold aB;simp];exact iR fun Q' hQ=>Eq.mp (⋯) (vm (w:=w) (mg:=mg) (mb:=mb) (os:=os) (L:=L) (Q:=Q') (r.deeper (env:=aR b4 465 L [("succs_state",c4),("stack",c3),("on_stack",c2),("succs",c1)])) H F D h me ln (by decide) Lo fun k ρ' σ' hk iv=>hQ _ _ _ ⟨k,hk,iv⟩)
end
section
variable {G:aK} {A:Around} {L:Addr} {B:PB} {ρ:aX} {σ:am} {s:Shared}
inductive ww (G:aK) (L:Addr) (ρ:aX) (Q:V->am->Prop) (B:PB) (s:Shared) (r:Result) (s':Shared):Prop
 | mk (p:mh G L ρ Q B r s') (k:∀ oL,s.heap.get? L=some oL->s'.heap.get? L=some oL):ww G L ρ Q B s r s'
abbrev E1 (G:aK) (A:Around) (f:V) (vs:List V) (kv:List (Str×V)) (σ:am) (Q:V->am->Prop):Prop:=
 ∀ L B ρ s fv xs kx,St G L B ρ σ s->VR B f fv->VRs B vs xs->oF B kv kx->codeAny (model G.prog G.w) A (.call fv ⟨xs,kx⟩) (ww G L ρ Q B s) s
theorem Av {f:Addr} {fd:FuncData} {body:List Stmt} {vs:List V} {kv:List (Str×V)} {Q:V->am->Prop} {bv:List (Str×V)} (D:u1 G f fd body vs kv bv σ) (hroom:A.depth<recursionLimit)
  (h:∀ L,σ L=none->cM L fd.scope.names fd.closure σ fun cells σ1=>
   iM G A.in1 (aR fd f L cells) bv (fun _=>none) σ1 fun ρ2 σ2=>WL G (A.deeper (aR fd f L cells)) (aR fd f L cells) body ρ2 σ2 fun fl _ σ'=>Q (jF fl) σ'):E1 G A (.ref f) vs kv σ Q:=fun L B ρ s fv xs kx st r1 r2 r3=>by
 obtain rfl:=r1.refE
 cases D with | mk hf hbody hb hco hgen=>
 cases hf L B ρ s st with | intro o z=>
 cases hb B s xs kx st.K r2 r3 with | intro bx w=>
 exact codeAny_call_function hroom z.1 z.2.1 hco hgen hbody z.2.2 (w.1 _ _ _ _ (wpAny_mono (qN st w.2 (h _ (st.fresh (I4 _))) (Q:=fun env s2=>s2.heap.NoLimit/\codeAny (model G.prog G.w) A (.func body env) (ww G L ρ Q B s) s2) fun oL cells B3 ρ3 σ3 s3 hq hoL l3 st3 h3=>
  ⟨st3.lim,codeAny_func ((h3 B3 s3 st3).to fun B4 s4 fl fl' ρ4 σ4 l4 st4 r4 q=>⟨yz st hq hoL (l3.trans l4) st4 r4 q,fun oL' e=>by
   rw [hoL] at e;obtain rfl:=Option.some.inj e
   exact st4.keep _ _ ((l3.trans l4).1 _ _ (PB.set_self ..))⟩)⟩) (fun _ _ q=>q) fun _ _ e=>False.elim e))
abbrev PB.all (s:Shared) (L:Addr) (σ₀:am):PB:=⟨fun a=>if a=L then none else match σ₀ a with | some _=>none | none=>s.heap.get? a,fun g=>s.gens[g]?⟩
theorem PB.all_some {σ₀:am} {a:Addr} {o:Obj} (h:(PB.all s L σ₀).o a=some o):a≠L/\σ₀ a=none/\s.heap.get? a=some o:=by
 unfold PB.all at h;dsimp only at h
 by_cases c:a=L
 ·rw [if_pos c] at h;injection h
 ·rw [if_neg c] at h
  cases e:σ₀ a with
  | some x=>rw [e] at h;injection h
  | none=>rw [e] at h;exact ⟨c,rfl,h⟩
theorem PB.all_of {σ₀:am} {a:Addr} (h1:a≠L) (h2:σ₀ a=none):(PB.all s L σ₀).o a=s.heap.get? a:=by
 unfold PB.all;dsimp only;rw [if_neg h1,h2]
theorem PB.all_own {σ₀:am} {a:Addr} {x:bL} (h:σ₀ a=some x):(PB.all s L σ₀).o a=none:=by
 unfold PB.all;dsimp only;rw [h]
 split <;> rfl
theorem St.frzall (st:St G L B ρ σ s) {σ₀:am} (h0:∀ a x,σ₀ a=some x->σ a=some x/\x.mut=true):St G L (PB.all s L σ₀) ρ σ₀ s/\B.le (PB.all s L σ₀):=by
 have n:∀ a o,B.o a=some o->a≠L/\σ₀ a=none:=fun a o e=>⟨(fun q=>by rw [q,st.LB] at e;injection e),by
  cases q:σ₀ a with
  | none=>rfl
  | some x=>rw [(l6.get (h0 a x q).2 (st.own a x (h0 a x q).1)).1] at e;injection e⟩
 have l:B.le (PB.all s L σ₀):=⟨fun a o e=>by rw [PB.all_of (n a o e).1 (n a o e).2];exact st.keep a o e,st.keepG⟩;refine ⟨⟨fun h k=>st.base h fun a o e=>k a o (l.1 a o e),fun a o e=>(PB.all_some e).2.2,fun g x e=>e,fun a x e=>?_,?_,?_,?_,st.os,st.bare,fun a x e=>st.two a x (h0 a x e).1⟩,l⟩
 ·have:=h0 a x e
  exact l6.mono l ((PB.all_own e).trans (l6.get this.2 (st.own a x this.1)).1.symm) rfl (st.own a x this.1)
 ·obtain ⟨m,hz0⟩:=st.loc;exact ⟨m,hz0.1,fun x=>(hz0.2 x).mono l⟩
 ·unfold PB.all;exact if_pos rfl
 ·cases q:σ₀ L with
  | none=>rfl
  | some x=>have:=(h0 L x q).1;rw [st.Lσ] at this;injection this
abbrev cV (x:bL):Prop:=∀ G B B' o o',OV G B x o->OV G B' x o'->o=o'
theorem cV.idict {kvs:List (Int×V)} {ob:Obj}:cV (.idict kvs ob):=fun G B B' o o' h h'=>by
 cases h with | mk e _ _ _ _ _ _ _ _=>cases h' with | mk e' _ _ _ _ _ _ _ _=>rw [e,e']
theorem cV.cell {a:Addr}:cV (.cell (some (.ref a))):=fun G B B' o o' h h'=>by
 cases h with | mk x e r=>cases h' with | mk x' e' r'=>
 cases r with | some r=>cases r' with | some r'=>
 cases r;cases r';rw [e,e']
theorem cV.raw {o:Obj}:cV (.raw o):=fun G B B' o1 o2 h h'=>Eq.trans (show o1=o from h) (show o2=o from h').symm
theorem St.stayed {σ₀:am} {B':PB} {ρ':aX} {s':Shared} (st:St G L (PB.all s L σ₀) ρ σ₀ s) (l:(PB.all s L σ₀).le B') (st':St G L B' ρ' σ₀ s') (hL:∀ oL,s.heap.get? L=some oL->s'.heap.get? L=some oL) (rg:∀ a x,σ₀ a=some x->cV x):
  (∀ b o,s.heap.get? b=some o->s'.heap.get? b=some o)/\∀ (g:Nat) (x:GenState),s.gens[g]?=some x->s'.gens[g]?=some x:=by
 refine ⟨fun b o e=>?_,fun g x e=>st'.keepG g x (l.2 g x e)⟩
 by_cases c:b=L
 ·subst c;exact hL o e
 ·cases q:σ₀ b with
  | none=>exact st'.keep b o (l.1 b o ((PB.all_of c q).trans e))
  | some x=>
   obtain ⟨o1,e1,v1⟩:=st.get q;obtain ⟨o2,hz2⟩:=st'.get q;rw [e] at e1;obtain rfl:=Option.some.inj e1;rw [hz2.1,rg b x q _ _ _ _ _ v1 hz2.2]
theorem St.moved (st:St G L B ρ σ s) {s':Shared} (wr:List Addr) (hw:∀ b∈wr,B.o b=none/\σ b=none/\b≠L) (hk:∀ b o,b∉wr->s.heap.get? b=some o->s'.heap.get? b=some o) (hg:∀ g x,B.g g=some x->s'.gens[g]?=some x) (ho:s'.os=s.os) (hb:AllBare s'.gens):St G L B ρ σ s' where
 base:=st.base
 keep:=fun b o e=>hk b o (fun m=>by rw [(hw b m).1] at e;injection e) (st.keep b o e)
 keepG:=hg
 own:=fun b x e=>(by obtain ⟨o,e',v,hb⟩:=st.own b x e;exact ⟨o,hk _ _ (fun m=>by rw [(hw b m).2.1] at e;injection e) e',v,hb⟩)
 loc:=(by obtain ⟨m,n,r⟩:=st.loc;exact ⟨m,n.at' fun o e=>hk _ _ (fun m=>(hw _ m).2.2 rfl) e,r⟩)
 LB:=st.LB
 Lσ:=st.Lσ
 os:=ho.trans st.os
 bare:=hb
 two:=st.two
end
section
variable {G:aK} {A:Around} {L:Addr} {B:PB} {ρ:aX} {σ:am} {s:Shared} {a it:Addr} {xs:List Int} {ob:Obj} {es:Array (Int×Value)} {ver:Nat} {t:SetTable}
abbrev kn (ys:List Int) (i:Nat) (v:Value):Prop:=∃ k tk,ys[i]?=some k/\v = .int k tk
inductive wG (G:aK) (a it:Addr) (ob:Obj) (n ver:Nat) (t:SetTable) (i:Nat) (h:Heap):Prop
 | mk (slot:Nat) (ha:h.get? a=some ob) (hi:h.get? it=some (gZ a slot i n ver)) (ok:jJ G t slot i):wG G a it ob n ver t i h
theorem qM (x:cw G xs ob es ver t) {i:Nat} (hi:i<(bN G a ver es).size):kn (cF G a ver es) i (bN G a ver es)[i].2:=by
 have hm:(bN G a ver es)[i]∈es.toList:=(eQ G a ver es).mem_iff.mp (by simp);obtain ⟨k,tk,e⟩:=x.els _ hm;refine ⟨k,tk,?_,by rw [e]⟩;unfold cF;rw [List.getElem?_map,Array.getElem?_toList,IY hi,e]
 rfl
theorem v8 (x:cw G xs ob es ver t) (hne:it≠a) {A:Around} (hh:A.handled=none):Walks G.prog G.w A it [it,a] [it] (bN G a ver es).size (kn (cF G a ver es)) (wG G a it ob es.size ver t) where
 sub:=fun b m=>by rw [IN.mp m];exact .head _
 frame:=fun i h h' z k=>by cases z with | mk slot ha hi ok=>exact ⟨slot,k _ (.tail _ (.head _)) _ ha,k _ (.head _) _ hi,ok⟩
 item:=fun i s Q E hi z q=>by
  cases z with | mk slot ha hit ok=>
  exact wpAny_mono (fo hh hit ha x hne ok (fun hle=>absurd hi (Nat.not_lt.mpr hle)) fun hi' next h' ok' hs hit'=>q _ h' s.toks (qM x hi) ⟨next,(hs.2 _ (Ne.symm hne)).trans ha,hit',ok'⟩ fun b o nb e=>(hs.2 _ fun q=>nb (q▸ .head _)).trans e) (fun _ _ q=>q) fun _ _ e=>False.elim e
 done:=fun s Q E z q=>by
  cases z with | mk slot ha hit ok=>
  exact wpAny_mono (fo hh hit ha x hne ok (fun _ h' he=>q h' s.toks fun b o nb e=>he b o (fun q=>nb (q▸ .head _)) e) fun hi=>absurd hi (Ji _)) (fun _ _ q=>q) fun _ _ e=>False.elim e
 self:=fun i s Q E z q=>by
  cases z with | mk slot ha hit ok=>
  have hT:s.TypeIs (.ref it) "set_iterator" :=⟨_,hit,rfl⟩;refine wpAny_pyIter_slot hT F2.slot_set_iterator_iter (wpAny_call_entry F2.slot_set_iterator_iter hT F2.entry_set_iterator_iter ?_ (F2.args_set_iterator_iter_1 _));show wpAny _ _ (ret _) _ _ s;exact wpAny_pure ⟨_,rfl, "set_iterator",_,hT,F2.slot_set_iterator_next.lookup,q⟩
theorem BW {M:Model} {A:Around} {t:Sem Value} {vs:List Value} {Q:Value->Shared->Prop} {E:Value->Shared->Prop} (h:wpAny M A t Q E s):wpAny M A (operate vs t) Q E s:=fun Γ p hΓ=>by rw [Sem.wp_operate];exact h Γ p hΓ
theorem yk {cenv:Env} {x y:Str} {p1 p2 p3 p4:Pos} {cy d:Addr} {kvs:List (Int×V)} {od:Obj} {ys:List Int} {fp wr:List Addr} {href:Heap}
  (hk:cenv.scope.kind = .function) (hx:cenv.kindOf x=some .local) (hy:cenv.kindOf y=some .free) (hc:cenv.cells.lookup y=some cy)
  (nx:(x==("__debug__" :Str))=false) (ny:(y==("__debug__" :Str))=false) (ny':(y==("__classdict__" :Str))=false) (hm:behindInMarks .In (.Name y p3)=false)
  (hcy:href.IsCell cy (some (.ref d))) (hd:uo G B kvs od href d) (nd:(d==sysModules)=false) (mc:cy∈fp/\cy∉wr) (md:d∈fp/\d∉wr):
  QuietGen G.prog G.w cenv x [.Compare (.Name x p1) [.In] [.Name y p3] p2] (.Name x p4) fp wr (kn ys) (fun i=>(bS kvs (ys.getD i 0)).isSome) (kn ys) href where
 tests:=fun A' E' i v s2 m2 hh hP hn hmx hfp=>by
  obtain ⟨k,tk,hk',rfl⟩:=hP
  have hcy2:s2.heap.IsCell cy (some (.ref d)):=by obtain ⟨o,ho,e⟩:=hcy;exact ⟨o,hfp _ mc.1 mc.2 _ ho,e⟩
  have hd2:uo G B kvs od s2.heap d:=by cases hd with | mk kxs h rk=>obtain ⟨o,es,ho,r⟩:=h;exact ⟨kxs,⟨o,es,hfp _ md.1 md.2 _ ho,r⟩,rk⟩
  cases hd2 with | mk kxs h rk=>
  rw [List.forIn_cons,if_pos rfl,isTrue_Compare1,markedBehindIn_of_false hm]
  have e:(ys.getD i 0)=k:=by rw [List.getD_eq_getElem?_getD,hk'];rfl
  rw [e];exists (wpAny_bind (wpAny_bind (wpAny_Name (wpAny_loadName_local hk hx hn hmx ?_) nx)));exists (wpAny_holding (wpAny_Name (wpAny_loadName_free hk hy hc hcy2 ?_ ny') ny));exists (wpAny_standAt (wpAny_bind (BW (wpAny_in_of (bC k tk) nd h.dictOf.mapOf ?_))));refine wpAny_holding (wpAny_truthy_bool (wpAny_pure ?_));dsimp only;rw [List.forIn_nil,(rk.val k).isSome];exact wpAny_pure ⟨rfl,s2.heap,_,rfl,fun _ _ e=>e⟩
 elt:=fun A' E' i v s2 m2 hh hP _ hn hmx hfp=>by
  obtain ⟨k,tk,hk',rfl⟩:=hP;exact wpAny_Name (wpAny_loadName_local hk hx hn hmx ⟨⟨k,tk,hk',rfl⟩,s2.heap,s2.toks,rfl,fun _ _ e=>e⟩) nx
end
theorem qk:entryFor table "_functools.reduce" = some Builtin.«_functools.reduce»:=entryFor_of_tree (⋯)
theorem dL:entryFor table "_functools.reduce.loop" = some Builtin.«_functools.reduce.loop»:=entryFor_of_tree (⋯)
theorem qA:plainId "_functools.reduce" = true:=by decide +kernel
theorem bW:plainId "_functools.reduce.loop" = true:=by decide +kernel
theorem sf:builtinKind "_functools.reduce" = none:=by decide +kernel
theorem rG (a b:Value):argsOk "_functools.reduce" ⟨[a,b],[]⟩:=by unfold argsOk;kernel_rfl
theorem GenAt.keep {prog:Program} {w:World} {A:Around} {a g C:Nat} {fp wr:List Addr} {pz:Nat->Bool} {n₀:Nat} {F:Nat->Value->Prop} {j:Nat} {s s':Shared} (h:GenAt prog w A a g C fp wr pz n₀ F j s) (hk:∀ b∈a::C::fp,∀ o,s.heap.get? b=some o->s'.heap.get? b=some o) (hl:s'.heap.NoLimit) (hg:∀ x:GenState,s.gens[g]?=some x->s'.gens[g]?=some x):GenAt prog w A a g C fp wr pz n₀ F j s':=by
 intros prog w A a g C fp wr pz n₀ F j s s'
 intro h hk hl hg;ac_rfl;obtain ⟨⟨o,nm,qn,ho,r⟩,_,gs,hgs,hgo⟩:=h;right;exact ⟨⟨o,nm,qn,hk _ (.head _) _ ho,r⟩,hl,gs,hg _ hgs,fun s'' hal=>hgo s'' fun b mb o e=>hal b mb o (hk b (.tail _ mb) o e)⟩
section
variable {G:aK} {A:Around} {L:Addr} {B:PB} {ρ:aX} {σ σ₀:am} {s:Shared} {a g C f p o:Nat} {fp wr:List Addr} {pz:Nat->Bool} {n₀:Nat} {ys:List Int} {op:Int->Int->Int} {S:Int->Prop}
abbrev cK (pz:Nat->Bool) (n₀:Nat) (ys:List Int):List Int:=(passing pz n₀ 0).map fun i=>ys.getD i 0
structure zf (G:aK) (A:Around) (L:Addr) (B:PB) (σ σ₀:am) (a g C f:Nat) (fp wr:List Addr) (pz:Nat->Bool) (n₀:Nat) (ys:List Int) (op:Int->Int->Int) (S:Int->Prop):Prop where
 hh:A.handled=none
 W:WalksS G.prog G.w A.in1 a (a::C::fp) (C::wr) (GenOnlyQ g) (passing pz n₀ 0).length (fun j y=>∃ i,(passing pz n₀ 0)[j]?=some i/\kn ys i y) (GenAt G.prog G.w A.in4 a g C fp wr pz n₀ (kn ys))
 hw:∀ b∈C::wr,B.o b=none/\σ b=none/\b≠L
 hg:B.g g=none
 h0:∀ a x,σ₀ a=some x->σ a=some x/\x.mut=true/\cV x
 hI:∀ i j,S i->S j->S (op i j)/\E1 G A.in1 (.ref f) [.int i, .int j] [] σ₀ (fun v σ'=>v = .int (op i j)/\σ'=σ₀)
 hS:∀ i∈cK pz n₀ ys,S i
structure wF (L:Addr) (B:PB) (σ:am) (a C f p o:Nat) (fp wr:List Addr) (s:Shared):Prop where
 hp:∃ x y,IsPair s.heap p x y
 ho:IsPair s.heap o (.ref f) (.ref a)
 np:B.o p=none/\σ p=none/\p≠L
 pf:p∉a::C::fp
 pw:p∉C::wr
 ow:o∉C::wr
 po:p≠o
theorem r9 {j:Nat} {v:Value} {i:Nat} (h:(passing pz n₀ 0)[j]?=some i) (hi:kn ys i v):∃ k tk,v = .int k tk/\(cK pz n₀ ys)[j]?=some k:=by
 obtain ⟨k,tk,e,rfl⟩:=hi;exact ⟨k,tk,rfl,by unfold cK;rw [List.getElem?_map,h];simp [List.getD_eq_getElem?_getD,e]⟩
theorem jd (P:zf G A L B σ σ₀ a g C f fp wr pz n₀ ys op S) {s s':Shared} (st:St G L B ρ σ s) (mv:Moved (C::wr) (GenOnlyQ g) s s'):St G L B ρ σ s':=
 st.moved (C::wr) P.hw mv.heap (fun k x e=>by
  have:=st.keepG k x e
  rcases mv.gens with q | q
  ·rw [q];exact this
  ·rw [q.1.2 k fun c=>by rw [c,P.hg] at e;injection e];exact this) mv.os (mv.gens.bare st.bare)
theorem wF.next {s s':Shared} (T:wF L B σ a C f p o fp wr s) (mv:Moved (C::wr) (GenOnlyQ g) s s'):wF L B σ a C f p o fp wr s':=
 ⟨(by obtain ⟨x,y,h⟩:=T.hp;exact ⟨x,y,mv.heap _ _ T.pw h⟩),mv.heap _ _ T.ow T.ho,T.np,T.pf,T.pw,T.ow,T.po⟩
theorem sE (P:zf G A L B σ σ₀ a g C f fp wr pz n₀ ys op S):∀ (rest:List Int) (j:Nat) (acc:Int) (tk:Tok) (s:Shared),(cK pz n₀ ys).drop j=rest->j<=(passing pz n₀ 0).length->St G L B ρ σ s->GenAt G.prog G.w A.in4 a g C fp wr pz n₀ (kn ys) j s->wF L B σ a C f p o fp wr s->S acc->
  codeAny (model G.prog G.w) A (.builtin "_functools.reduce.loop" ⟨[.ref p, .ref a, .ref o, .int acc tk],[]⟩) (fun r s'=>∃ t,r = .ok (.ret (.int (rest.foldl op acc) t))/\St G L B ρ σ s') s:=by
 intros G A L B ρ σ σ₀ a g C f p o fp wr pz n₀ ys op S
 intro P rest
 induction rest with
 | nil=>
  intro j acc tk s hd hj st ga T hacc;refine codeAny_builtin dL ?_;rw [Around.under_plainId bW _]
  show wpAny _ A.in1 (do
   let f:=((<- seqItems? (.ref o)).getD #[]).getD 0 .none
   match <- pyNext (.ref a),[Value.int acc tk] with
   | some x,[]=>rule "_functools.reduce.first-item";again (.builtin "_functools.reduce.loop" ⟨[.ref p, .ref a, .ref o,x],[]⟩)
   | some x,r::_=>
    let last:=(<- seqItems? (.ref p)).getD #[]
    updateSeq p (·.setIfInBounds 0 r)
    letGo [last.getD 0 .none] [x]
    updateSeq p (·.setIfInBounds 1 x)
    letGo [last.getD 1 .none]
    again (.builtin "_functools.reduce.loop" ⟨[.ref p, .ref a, .ref o,<- call f [r,x]],[]⟩)
   | none,r::_=>ret r
   | none,[]=>rule "_functools.reduce.empty";raiseError "TypeError" "reduce() of empty iterable with no initial value") _ _ s
  exists (wpAny_seqItems T.ho rfl ?_)
  have hN:j=(passing pz n₀ 0).length:=by
   have:=List.drop_eq_nil_iff.mp hd
   unfold cK at this;rw [IP] at this;exact Nat.le_antisymm hj this
  subst hN;exact wpAny_bind (P.W.done s _ _ ga fun s' mv=>wpAny_pure ⟨tk,rfl,jd P st mv⟩)
 | cons k rest ih=>
  intros k rest
  intro ih
  injections j acc tk s
  intro hd hj st ga T hacc;refine codeAny_builtin dL ?_;rw [Around.under_plainId bW _]
  show wpAny _ A.in1 (do
   let f:=((<- seqItems? (.ref o)).getD #[]).getD 0 .none
   match <- pyNext (.ref a),[Value.int acc tk] with
   | some x,[]=>rule "_functools.reduce.first-item";again (.builtin "_functools.reduce.loop" ⟨[.ref p, .ref a, .ref o,x],[]⟩)
   | some x,r::_=>
    let last:=(<- seqItems? (.ref p)).getD #[]
    updateSeq p (·.setIfInBounds 0 r)
    letGo [last.getD 0 .none] [x]
    updateSeq p (·.setIfInBounds 1 x)
    letGo [last.getD 1 .none]
    again (.builtin "_functools.reduce.loop" ⟨[.ref p, .ref a, .ref o,<- call f [r,x]],[]⟩)
   | none,r::_=>ret r
   | none,[]=>rule "_functools.reduce.empty";raiseError "TypeError" "reduce() of empty iterable with no initial value") _ _ s
  exists (wpAny_seqItems T.ho rfl ?_)
  have hk:(cK pz n₀ ys)[j]?=some k:=by rw [<- List.head?_drop,hd];rfl
  have hlt:j<(passing pz n₀ 0).length:=by
   have:=(List.getElem?_eq_some_iff.mp hk).1
   unfold cK at this;rwa [IP] at this
  exists (P.W.item j s _ _ hlt ga ?_)
  injections v s1
  intro hP ga1 mv;ac_rfl;obtain ⟨i,hz0⟩:=hP;obtain ⟨k',tk',rfl,hk'⟩:=r9 hz0.1 hz0.2;right;rw [hk] at hk';obtain rfl:=Option.some.inj hk';have st1:=jd P st mv;have T1:=T.next mv;ac_rfl;obtain ⟨x,y,hp⟩:=T1.hp;right;exists (wpAny_seqItems hp rfl ?_);exists (wpAny_updateSeq_pair hp fun h2 hp2 hs2=>?_);exists (wpAny_letGo ?_);exists (wpAny_updateSeq_pair (a:= .int acc tk) (b:=y) (s:={ s1 with heap:=h2 }) hp2 fun h3 hp3 hs3=>?_);exists (wpAny_letGo ?_);have hs:=hs2.trans hs3;have st3:St G L B ρ σ { s1 with heap:=h3 }:=st1.extBut (t:=s1.toks) T.np.1 T.np.2.1 T.np.2.2 hs.extBut;have ga3:GenAt G.prog G.w A.in4 a g C fp wr pz n₀ (kn ys) (j+1) { s1 with heap:=h3 }:=GenAt.keep ga1 (fun b mb o e=>(hs.2 _ fun q=>T.pf (q▸mb)).trans e) st3.lim fun _ e=>e;have fz:=st3.frzall fun a x e=>⟨(P.h0 a x e).1,(P.h0 a x e).2.1⟩;have hkS:S k:=P.hS k (List.mem_of_getElem? hk);have hz2:=P.hI acc k hacc hkS;exists (wpAny_call (codeAny_mono (hz2.2 L _ ρ _ (.ref f) [.int acc tk, .int k tk'] [] fz.1 (.ref f) (.cons (.int _ _) (.cons (.int _ _) .nil)) .nil) fun r s4 z=>?_));ac_rfl
  cases z with | mk z kL=>
  cases z with | mk val v B' σ' e l st' rv q=>
  right;subst e;rw [q.2] at st';rw [q.1] at rv;obtain ⟨tk4,rfl⟩:=rv.intE;have sy:=fz.1.stayed l st' kL fun a x e=>(P.h0 a x e).2.2;have st4:St G L B ρ σ s4:=st3.moved [] (fun _ m=>nomatch m) (fun b o _ e=>sy.1 b o e) (fun k x e=>sy.2 k x (st3.keepG k x e)) (st'.os.trans st3.os.symm) st'.bare;refine wpAny_pure ⟨plainId_quiet bW _,?_⟩;exact ih (j+1) (op acc k) tk4 s4 (by rw [<- List.drop_drop,hd];rfl) hlt st4 (GenAt.keep ga3 (fun b _ o e=>sy.1 b o e) st4.lim (sy.2 g)) ⟨⟨_,_,sy.1 _ _ hp3⟩,sy.1 _ _ ((hs.2 _ (Ne.symm T.po)).trans T1.ho),T.np,T.pf,T.pw,T.ow,T.po⟩ hz2.1
theorem qF (P:zf G A L B σ σ₀ a g C f fp wr pz n₀ ys op S) {k:Int} {rest:List Int} {s:Shared} (hd:cK pz n₀ ys=k::rest) (st:St G L B ρ σ s) (ga:GenAt G.prog G.w A.in4 a g C fp wr pz n₀ (kn ys) 0 s) (T:wF L B σ a C f p o fp wr s):
  codeAny (model G.prog G.w) A (.builtin "_functools.reduce.loop" ⟨[.ref p, .ref a, .ref o],[]⟩) (fun r s'=>∃ t,r = .ok (.ret (.int (rest.foldl op k) t))/\St G L B ρ σ s') s:=by
 revert G A L B ρ σ σ₀ a g C f p o fp wr pz n₀ ys op S k rest s
 injections G A L B ρ σ σ₀ a g C f p o fp wr pz
 injections n₀ ys op S
 intro P
 injections k rest
 injections s
 intro hd st ga T;refine codeAny_builtin dL ?_;rw [Around.under_plainId bW _]
 show wpAny _ A.in1 (do
   let f:=((<- seqItems? (.ref o)).getD #[]).getD 0 .none
   match <- pyNext (.ref a),([]:List Value) with
   | some x,[]=>rule "_functools.reduce.first-item";again (.builtin "_functools.reduce.loop" ⟨[.ref p, .ref a, .ref o,x],[]⟩)
   | some x,r::_=>
    let last:=(<- seqItems? (.ref p)).getD #[]
    updateSeq p (·.setIfInBounds 0 r)
    letGo [last.getD 0 .none] [x]
    updateSeq p (·.setIfInBounds 1 x)
    letGo [last.getD 1 .none]
    again (.builtin "_functools.reduce.loop" ⟨[.ref p, .ref a, .ref o,<- call f [r,x]],[]⟩)
   | none,r::_=>ret r
   | none,[]=>rule "_functools.reduce.empty";raiseError "TypeError" "reduce() of empty iterable with no initial value") _ _ s
 exists (wpAny_seqItems T.ho rfl ?_)
 have hk:(cK pz n₀ ys)[0]?=some k:=by rw [hd];rfl
 have hlt:0<(passing pz n₀ 0).length:=by
  have:=(List.getElem?_eq_some_iff.mp hk).1
  unfold cK at this;rwa [IP] at this
 exists (P.W.item 0 s _ _ hlt ga fun v s1 hP ga1 mv=>?_);ac_rfl;obtain ⟨i,hz3⟩:=hP;obtain ⟨k',tk',rfl,hk'⟩:=r9 hz3.1 hz3.2;right;rw [hk] at hk';obtain rfl:=Option.some.inj hk';exact wpAny_bind (wpAny_rule (wpAny_pure ⟨plainId_quiet bW _,sE P rest 1 k tk' s1 (by rw [hd];rfl) hlt (jd P st mv) ga1 (T.next mv) (P.hS k (by rw [hd];exact .head _))⟩))
theorem sD (P:zf G A L B σ σ₀ a g C f fp wr pz n₀ ys op S) {k:Int} {rest:List Int} {s:Shared} (hd:cK pz n₀ ys=k::rest) (st:St G L B ρ σ s) (ga:GenAt G.prog G.w A.in4 a g C fp wr pz n₀ (kn ys) 0 s) (lt:∀ b∈a::C::(fp++wr),b<s.heap.objs.size) {Q:Value->Shared->Prop} {E:Value->Shared->Prop}
  (q:∀ t s',St G L B ρ σ s'->Q (.int (rest.foldl op k) t) s'):wpAny (model G.prog G.w) A (call (.builtin "_functools.reduce") [.ref f, .ref a]) Q E s:=by
 refine call_function_tree sf qA qk (rG _ _) ?_
 show wpAny _ A.in1 (do
  let it <- (pyIter (.ref a)).tryCatch fun e=>do
   if <- isInstance e (.type "TypeError") then rule "_functools.reduce.not-iterable";raiseError "TypeError" "reduce() arg 2 must support iteration"
   throw e
  let pair <- holding [it] (newTuple [rawInt 0,rawInt 0])
  again (.builtin "_functools.reduce.loop" ⟨[pair,it,<- holding [it,pair] (newTuple [.ref f, .ref a])]++[],[]⟩)) _ _ s
 exists (wpAny_tryCatch (P.W.self 0 s _ _ ga ?_));exists (wpAny_holding (wpAny_newTuple ?_));exists (wpAny_holding (wpAny_newTuple ?_));refine wpAny_pure ⟨plainId_quiet bW _,?_⟩;have k2:∀ {b:Addr} {x:Obj} {t1 t2:Obj},s.heap.get? b=some x->((s.heap.push t1).push t2).get? b=some x:=fun e=>I8 _ (I8 _ e);have nin:∀ b∈a::C::(fp++wr),b≠s.heap.objs.size/\b≠s.heap.objs.size+1:=fun b m=>⟨Nat.ne_of_lt (lt b m),Nat.ne_of_lt (Nat.lt_succ_of_lt (lt b m))⟩;show codeAny _ A (.builtin "_functools.reduce.loop" ⟨[.ref s.heap.objs.size, .ref a, .ref (s.heap.push { cls:= .type "tuple",data:= .seq [rawInt 0,rawInt 0].toArray }).objs.size],[]⟩) _ { s with heap:=(s.heap.push { cls:= .type "tuple",data:= .seq [rawInt 0,rawInt 0].toArray }).push { cls:= .type "tuple",data:= .seq [Value.ref f, .ref a].toArray } };rw [Heap.size_push];refine codeAny_mono (qF (s:={ s with heap:=(s.heap.push { cls:= .type "tuple",data:= .seq [rawInt 0,rawInt 0].toArray }).push { cls:= .type "tuple",data:= .seq [Value.ref f, .ref a].toArray } }) (p:=s.heap.objs.size) (o:=s.heap.objs.size+1) P hd ((st.push _).push _) (GenAt.keep ga (fun _ _ _ e=>k2 e) ((st.push _).push _).lim fun _ e=>e) ⟨⟨_,_,I8 _ (I7 _ rfl)⟩,?_,⟨st.freshB (I4 _),st.fresh (I4 _),Nat.ne_of_gt st.Llt⟩,fun m=>?_,fun m=>?_,fun m=>?_,Nat.ne_of_lt (Nat.lt_succ_self _)⟩) fun r s' z=>?_
 ·have:=I7 (s.heap.push { cls:= .type "tuple",data:= .seq [rawInt 0,rawInt 0].toArray }) (o:={ cls:= .type "tuple",data:= .seq [Value.ref f, .ref a].toArray }) rfl
  rw [Heap.size_push] at this;exact this
 ·exact (nin s.heap.objs.size (by
   rcases IZ.mp m with e | m
   ·rw [e];exact .head _
   ·rcases IZ.mp m with e | m
    ·rw [e];exact .tail _ (.head _)
    ·exact .tail _ (.tail _ (IS _ m)))).1 rfl
 ·exact (nin s.heap.objs.size (by
   rcases IZ.mp m with e | m
   ·rw [e];exact .tail _ (.head _)
   ·exact .tail _ (.tail _ (IT _ m)))).1 rfl
 ·exact (nin (s.heap.objs.size+1) (by
   rcases IZ.mp m with e | m
   ·rw [e];exact .tail _ (.head _)
   ·exact .tail _ (.tail _ (IT _ m)))).2 rfl
 ·obtain ⟨t,rfl,st'⟩:=z;exact q t s' st'
end
theorem oA (p:Int->Bool) (ys:List Int):cK (fun i=>p (ys.getD i 0)) ys.length ys=ys.filter p:=by
 unfold cK passing;rw [List.drop_zero]
 have e:(List.range ys.length).map (fun i=>ys.getD i 0)=ys:=by
  refine List.ext_getElem (by simp) fun i h1 h2=>?_;rw [List.getElem_map,List.getElem_range,List.getD_eq_getElem?_getD,IX h2]
  rfl
 conv=>rhs;rw [<- e,List.filter_map]
 rfl
section
variable {G:aK} {A:Around} {env:Env} {ρ:aX} {σ:am} {L:Addr} {B:PB} {s:Shared} {c P:Addr} {ps:Array Value}
theorem B6 {pos:Pos} {q:Str} {scope:Scope} {E:Value->Shared->Prop} (st:St G L B ρ σ s) (hcode:env.code = .ref c) (hc:fe G.K c P) (hP:σ P=some (.raw (bT ps))) (tr:TriplesOk ps.toList) (hcP:c≠P) (pl:dF σ P ps pos q)
  {Q:Value->Shared->Prop} (k:∀ c' σ' s',St G L B ρ σ' s'->jw σ σ' P ps pos q c'->Q (.ref c') s'):wpAny (model G.prog G.w) A (genexprCode env pos q scope) Q E s:=by
 have ic:=st.isCode hc hP tr hcP
 cases pl with
 | old c' oc h hc' is cP=>exact wpAny_genexprCode_hit hcode ic.1 h (k _ _ _ st ⟨ps,oc,hP,tr,h,hc',is,cP,fun _ _ _ e=>e,fun _ _=>rfl⟩)
 | new h=>
  refine wpAny_genexprCodeX hcode ic.1 ic.2 h fun c' h' tk he hge hlt ic' rec' tab' _=>?_;ac_rfl;obtain ⟨c1,oc,vs,t,e,hoc,d,h1⟩:=rec';right
  (injection e with zz;subst zz)
  have nP:c'≠P:=fun e=>by
   have:=st.lt hP
   rw [e] at hge;exact Ji _ (Jd this hge)
  have s1:=(st.drop P).extBut (t:=tk) (by cases st.own _ _ hP with | mk _ _ _ b=>exact b) (am.del_self ..) (st.ne hP) he;have s2:=s1.adopt (x:= .raw (bT (ps++#[rawInt pos.line,rawInt pos.col, .ref c']))) rfl (by cases st.own _ _ hP with | mk _ _ _ b=>exact b) (st.ne hP) (st.two _ _ hP) tab'.2 rfl;have s3:=s2.adopt (a:=c') (x:= .raw oc) rfl (st.freshB hge) (st.bigL hge) (st.big hge) hoc rfl
  have hl:(ps++#[rawInt pos.line,rawInt pos.col,Value.ref c']).toList=ps.toList++[rawInt pos.line,rawInt pos.col, .ref c']:=by simp
  refine k c' _ _ s3 ⟨_,oc,by rw [am.set_ne _ _ (Ne.symm nP),am.set_self],?_,?_,am.set_self ..,⟨vs,t,d,h1⟩,nP,fun a x ha e=>?_,fun pos' hne=>?_⟩
  ·rw [hl];exact TriplesOk_snoc _ _ _ _ tr
  ·rw [hl];exact codeAmong_snoc _ tr h
  ·have hne:a≠c':=fun q=>by rw [q,st.fresh hge] at e;injection e
   rw [am.set_ne _ _ hne,am.set_ne _ _ ha,am.del_ne _ ha];exact e
  ·rw [hl];exact ir hne _ tr
theorem WE.one {e:Expr} {V₀:V} {X:Value} {Q E:Value->Shared->Prop} (h:WE G A env e ρ σ fun v σ'=>v=V₀/\σ'=σ) (st:St G env.locals B ρ σ s) (hX:∀ {B x},VR B V₀ x->x=X) (k:∀ B' s',B.le B'->St G env.locals B' ρ σ s'->Q X s'):wpAny (model G.prog G.w) A (eval e env) Q E s:=
 (h B s st).to fun B' s' x y σ' l st' r q=>by
  rw [q.1] at r;rw [hX r];exact k B' s' l (q.2▸st')
theorem WM.one {x f:Addr} {nm:Str} {pl} {Q:Value×List Value->Shared->Prop} {E:Value->Shared->Prop} (h:WM G A L (.ref x) nm ρ σ fun g first σ'=>g = .ref f/\first=[.ref x]/\σ'=σ) (st:St G L B ρ σ s) (k:∀ B' s',B.le B'->St G L B' ρ σ s'->Q (.ref f,[.ref x]) s'):wpAny (model G.prog G.w) A (getMethod (.ref x) nm pl) Q E s:=
 (h B s (.ref x) pl st (.ref x)).to fun B' s' y v σ' l st' r q=>by
  ac_rfl;obtain ⟨y1,y2⟩:=y;obtain ⟨ra,rb⟩:=r;right;rw [q.1] at ra;rw [q.2.1] at rb;obtain ⟨z,e1,e2⟩:=rb.one;have e0:=ra.refE;have e3:=e2.refE;dsimp only at e0 e1;subst e0 e3 e1;exact k B' s' l (q.2.2▸st')
structure De (G:aK) (A:Around) (env:Env) (ρ:aX) (σ σ₀:am) (f t d cy c P:Addr) (ps:Array Value) (xs:List Int) (ob:Obj) (kvs:List (Int×V)) (od:Obj) (gpos:Pos) (op:Int->Int->Int) (S:Int->Prop):Prop where
 hh:A.handled=none
 hroom:A.depth<recursionLimit
 hmods:∀ h,G.P h->wB G h
 hg:env.globals=mainGlobals
 ht:σ t=some (.iset xs ob)
 hcy:σ cy=some (.cell (some (.ref d)))
 hd:σ d=some (.idict kvs od)
 hcode:env.code = .ref c
 hc:fe G.K c P
 hP:σ P=some (.raw (bT ps))
 tr:TriplesOk ps.toList
 hcP:c≠P
 pl:dF σ P ps gpos (env.qual ++ "<genexpr>")
 h0:∀ a x,σ₀ a=some x->σ a=some x/\x.mut=true/\cV x
 h0P:σ₀ P=none
 hI:∀ i j,S i->S j->S (op i j)/\E1 G A.in1 (.ref f) [.int i, .int j] [] σ₀ (fun v σ'=>v = .int (op i j)/\σ'=σ₀)
 hS:∀ i∈xs,(bS kvs i).isSome->S i
 ne:∃ i∈xs,(bS kvs i).isSome=true
theorem vf {σ₀:am} {f t d cy:Addr} {xs:List Int} {ob:Obj} {kvs:List (Int×V)} {od:Obj} {gpos p pf p1 p2 p3 p4 px pos:Pos} {op:Int->Int->Int} {S:Int->Prop} {red fn x y:Str} {iter:Expr} {scope:Scope} {cl:List (Str×Addr)} {Q:V->am->Prop}
  (H:De G A env ρ σ σ₀ f t d cy c P ps xs ob kvs od gpos op S)
  (hred:WE G A env (.Name red p) ρ σ fun v σ'=>v = .bi "_functools.reduce" /\σ'=σ) (hfn:WE G A env (.Name fn pf) ρ σ fun v σ'=>v = .ref f/\σ'=σ) (hiter:WE G A env iter ρ σ fun v σ'=>v = .ref t/\σ'=σ)
  (hco:scope.isCoroutine=false) (hclos:closureFor scope env=pure cl) (hcell:∀ y∈scope.names,y.2≠ .cell) (h00:scope.names.lookup (".0" :Str)=some NameKind.local)
  (hx:scope.names.lookup x=some .local) (hy:scope.names.lookup y=some .free) (hkind:scope.kind = .function) (hcl:cl.lookup y=some cy)
  (nx:(x==("__debug__" :Str))=false) (ny:(y==("__debug__" :Str))=false) (ny':(y==("__classdict__" :Str))=false) (hm:behindInMarks .In (.Name y p3)=false)
  (hsf:∀ x,genFold iter env x=pure x)
  (q:∀ σ' c' (ys:List Int) k rest,ys.Perm xs->ys.filter (fun i=>(bS kvs i).isSome)=k::rest->jw σ σ' P ps gpos (env.qual ++ "<genexpr>") c'->Q (.int (rest.foldl op k)) σ'):
  WE G A env (.Call (.Name red p) [.Name fn pf, .GeneratorExp (.Name x p4) [⟨.Name x px,iter,[.Compare (.Name x p1) [.In] [.Name y p3] p2],0⟩] scope gpos] [] pos) ρ σ Q:=fun B s st=>by
 revert G A env ρ σ c P ps σ₀ f t d cy xs ob kvs od gpos p pf p1 p2 p3 p4 px pos op S red fn x y iter scope cl Q B s
 injections G A env ρ σ c P ps σ₀ f t d cy xs ob kvs
 injections od gpos p pf p1 p2 p3 p4 px pos op S red fn x y
 injections iter scope cl Q
 intro H hred hfn hiter hco hclos hcell h00 hx hy hkind hcl nx ny ny' hm hsf q
 injections B s
 intro st;dsimp only [arm_eval_Call_Name'];exists (hred.one st VR.biE fun B1 s1 l₁ st1=>?_);refine callWith_method1 (first:=[]) (wpAny_items_cons (hfn.one st1 VR.refE fun B2 s2 l₂ st2=>?_));refine wpAny_items_cons (wpAny_GeneratorExp_walksQ H.hh hco hclos hcell h00 hx hkind H.hroom (hiter.one st2 VR.refE fun B3 s3 l3 st3=>?_) hsf);ac_rfl;obtain ⟨es,ver,tt,ho,X⟩:=st3.iset H.ht;right;refine nR ho X ⟨(st3.push _).lim,?_⟩;have hI:(s3.heap.push (gZ t 0 0 es.size ver)).get? s3.heap.objs.size=some (gZ t 0 0 es.size ver):=I7 _ rfl;have nB:B3.o s3.heap.objs.size=none:=st3.freshB (I4 _);have nL:s3.heap.objs.size≠env.locals:=Nat.ne_of_gt st3.Llt;have st3':=(st3.push (gZ t 0 0 es.size ver)).frost nB (st3.fresh (I4 _)) nL hI;refine B6 st3' H.hcode H.hc H.hP H.tr H.hcP H.pl fun c' σ4 s4 st4 cd=>?_;have lB:=PB.le_set (B:=B3) (some (gZ t 0 0 es.size ver)) nB;have hI4:=st4.keep _ _ (PB.set_self B3 s3.heap.objs.size (some (gZ t 0 0 es.size ver)));have sI:σ4 s3.heap.objs.size=none:=st4.unowned (PB.set_self ..) rfl;ac_rfl;obtain ⟨st5,l5,_⟩:=st4.thaw st3.base lB nB (PB.set_self ..) rfl;right;generalize hI0:s3.heap.objs.size=I at *;generalize hB5:(B3.set I (some (gZ t 0 0 es.size ver))).set I none=B5 at *
 have nB5:B5.o I=none:=by rw [<- hB5];exact PB.set_self ..
 ac_rfl
 cases id cd with | mk ps' oc hP' tr' here hc' is cP ext other=>
 have ht₄:σ4 t=some (.iset xs ob):=ext _ _ (bM H.ht H.hP ∅) H.ht;have hcy4:σ4 cy=some (.cell (some (.ref d))):=ext _ _ (bM H.hcy H.hP ∅) H.hcy;have hd4:σ4 d=some (.idict kvs od):=ext _ _ (bM H.hd H.hP ∅) H.hd;have hIt:I≠t:=(aW ht₄ sI).symm;ac_rfl;obtain ⟨_,_,_,ht4,_⟩:=st5.iset ht₄;obtain ⟨xc,hxc,rxc⟩:=st5.cell hcy4;right;right
 cases rxc with | some rxc=>
 cases rxc;have hdd:=st5.dict hd4;have hcyI:cy≠I:=aW hcy4 sI;have hdI:d≠I:=aW hd4 sI
 have clt:cStatics∉[I]:=fun m=>by
  ac_rfl;obtain ⟨_,n,_⟩:=st3.lim;right
  have:=n.lt
  rw [IN.mp m,<- hI0] at this;exact Ji _ this
 have hz:(bN G t ver es).size=(cF G t ver es).length:=by unfold cF;simp
 cases H.hmods _ (st5.base _ st5.keep) with | mk mg bm ob' n hbm nbm ho' hcm hd' hp'=>
 rw [H.hg];refine wpAny_builtinsFor n hbm nbm ho' hcm hd' hp' ?_;refine ⟨I,[I,t],[I],(bN G t ver es).size,kn (cF G t ver es),wG G t I ob es.size ver tt,fun i=>(bS kvs ((cF G t ver es).getD i 0)).isSome,kn (cF G t ver es),rfl,fun A' hA=>v8 X hIt hA,⟨0,ht4,hI4,sJ G X.good⟩,fun b m=>?_,st5.lim,clt,fun href hk=>?_,fun a h5 tk gs hgs ha hsz hk W ga=>?_⟩
 ·simp only [IZ,I3,or_false] at m;rcases m with rfl | rfl
  ·exact I9 hI4
  ·exact I9 ht4
 ·refine yk (B:=B5) (od:=od) (cy:=cy) (d:=d) (kvs:=kvs) hkind hx hy hcl nx ny ny' hm ?_ ?_ (st5.notMods hd4) ⟨List.mem_range.mpr (st5.lt hcy4),fun m=>hcyI (IN.mp m)⟩ ⟨List.mem_range.mpr (st5.lt hd4),fun m=>hdI (IN.mp m)⟩
  ·obtain ⟨o,hz9⟩:=hxc;exact ⟨o,hk _ _ hz9.1,hz9.2⟩
  ·cases hdd with | mk kxs h rk=>
   ac_rfl;obtain ⟨o,es,ho,r⟩:=h;right;exact ⟨kxs,⟨o,es,hk _ _ ho,r⟩,rk⟩
 ·refine spliced_nil ?_;have st6:St G env.locals B5 ρ σ4 { s4 with gens:=s4.gens.push gs,toks:=tk,heap:=h5 }:=st5.moved [] (fun _ m=>nomatch m) (fun b o _ e=>hk b o e) (fun k x e=>?_) rfl ?_
  ·have perm:=gH (a:=t) X
   cases hf:(cF G t ver es).filter (fun i=>(bS kvs i).isSome) with
   | nil=>
    ac_rfl;obtain ⟨i,mi,hi⟩:=H.ne;right
    have:=(List.mem_filter (p:=fun i=>(bS kvs i).isSome)).mpr ⟨perm.mem_iff.mpr mi,hi⟩
    rw [hf] at this;cases this
   | cons k rest=>
    have hy':cK (fun i=>(bS kvs ((cF G t ver es).getD i 0)).isSome) (bN G t ver es).size (cF G t ver es)=k::rest:=by rw [hz,oA (fun i=>(bS kvs i).isSome),hf]
    refine sD (σ₀:=σ₀) (S:=S) (op:=op) ⟨H.hh,W.in4_1,fun b m=>?_,?_,fun a x e=>⟨ext a x (fun c=>by rw [c,H.h0P] at e;injection e) (H.h0 a x e).1,(H.h0 a x e).2⟩,H.hI,fun i mi=>?_⟩ hy' st6 ga (fun b m=>?_) fun tt s' st'=>⟨B5,_,σ4,((l₁.trans l₂).trans l3).trans l5,st', .int _ _,q σ4 c' _ k rest perm hf cd⟩
    ·rcases IZ.mp m with rfl | m
     ·exact ⟨st5.freshB (I4 _),st5.fresh (I4 _),Nat.ne_of_gt st5.Llt⟩
     ·rw [IN.mp m];exact ⟨nB5,sI,nL⟩
    ·cases e:B5.g s4.gens.size with
     | none=>rfl
     | some x=>have:=(Array.getElem?_eq_some_iff.mp (st5.keepG _ _ e)).1;exact absurd this (Ji _)
    ·rw [hy',<- hf] at mi
     have:=List.mem_filter.mp mi
     exact H.hS i (perm.mem_iff.mp this.1) this.2
    ·show b<h5.objs.size;rw [hsz];rcases IZ.mp m with rfl | m
     ·exact Nat.lt_succ_self _
     ·rcases IZ.mp m with rfl | m
      ·exact Nat.lt_succ_of_lt ha
      ·rcases I1.mp m with m | m
       ·exact Nat.lt_succ_of_lt (Nat.lt_trans (List.mem_range.mp m) ha)
       ·rw [IN.mp m];exact Nat.lt_succ_of_lt (Nat.lt_trans (I9 hI4) ha)
  ·have:=st5.keepG k x e
   have hlt:=(Array.getElem?_eq_some_iff.mp this).1;show (s4.gens.push gs)[k]?=some x;rw [Array.getElem?_push_lt hlt];exact (IY hlt).symm.trans this
  ·intro y my;rcases Array.mem_push.mp my with m | rfl
   ·exact st5.bare y m
   ·exact hgs
end
inductive fV (E:Int->Int->Prop) (e:Int):Int->List Int->Prop
 | nil:fV E e e [e]
 | snoc {p u:Int} {π:List Int}:fV E e p π->E p u->fV E e u (u::π)
abbrev dW (E:Int->Int->Prop) (e d u:Int):Prop:=∀ π,fV E e u π->d∈π
section
variable {E:Int->Int->Prop} {e u v p d c:Int} {π:List Int}
theorem fV.end_mem (h:fV E e u π):u∈π:=by cases h with | nil=>exact .head _ | snoc _ _=>exact .head _
theorem fV.upto (h:fV E e u π):∀ {x},x∈π->∃ π',fV E e x π'/\(∀ y∈π',y∈π)/\π'.length<=π.length/\(π.Nodup->π'.Nodup):=by
 induction h with
 | nil=>intro x m;rw [IN.mp m];exact ⟨_, .nil,fun _ m=>m,I4 _,id⟩
 | snoc q hE ih=>
  intro x m;rcases IZ.mp m with rfl | m
  ·exact ⟨_, .snoc q hE,fun _ m=>m,I4 _,id⟩
  ·obtain ⟨π',hz0⟩:=ih m;exact ⟨π',hz0.1,fun y m=> .tail _ (hz0.2.1 y m),Nat.le_succ_of_le hz0.2.2.1,fun n=>hz0.2.2.2 (I6.mp n).2⟩
theorem fV.simple (h:fV E e u π):∃ π',fV E e u π'/\(∀ y∈π',y∈π)/\π'.Nodup:=by
 induction h with
 | nil=>exact ⟨_, .nil,fun _ m=>m,by simp⟩
 | @snoc p u π q hE ih=>
  ac_rfl;obtain ⟨π',hz1⟩:=ih;right
  by_cases c:u∈π'
  ·obtain ⟨π'',hz2⟩:=hz1.1.upto c;exact ⟨π'',hz2.1,fun y m=> .tail _ (hz1.2.1 y (hz2.2.1 y m)),hz2.2.2.2 hz1.2.2⟩
  ·exact ⟨u::π', .snoc hz1.1 hE,fun y m=>(IZ.mp m).elim (fun q=>q▸ .head _) fun m=> .tail _ (hz1.2.1 y m),I6.mpr ⟨c,hz1.2.2⟩⟩
theorem dW.self:dW E e u u:=fun _ h=>h.end_mem
theorem dW.root (h:dW E e d e):d=e:=IN.mp (h _ .nil)
theorem dW.pred (h:dW E e d u) (n:d≠u) (he:E p u):dW E e d p:=fun π q=>(IZ.mp (h _ (.snoc q he))).resolve_left n
end
structure Tb (ix:Int->Nat) (e:Int) (ps:List (Int×Int)):Prop where
 np:(ps.map (·.1)).Nodup
 me:(e,e)∈ps
 up:∀ q∈ps,q.1≠e->q.2∈ps.map (·.1)/\ix q.1<ix q.2
section
variable {ix:Int->Nat} {e u v w d c N:Int} {ps:List (Int×Int)}
theorem Tb.key (h:Tb ix e ps):e∈ps.map (·.1):=IR (f:=fun p:Int×Int=>p.1) h.me
theorem Tb.one (h:Tb ix e ps) (m:(u,v)∈ps) (m':(u,w)∈ps):v=w:=congrArg Prod.snd (dO (f:=fun p:Int×Int=>p.1) h.np m m' rfl)
theorem Tb.rv (h:Tb ix e ps) (m:(u,v)∈ps) (q:u=e):v=e:=h.one (u:=e) (by rw [<- q];exact m) h.me
theorem Tb.cl (h:Tb ix e ps) (m:(u,v)∈ps):v∈ps.map (·.1):=by
 by_cases c:u=e
 ·rw [h.rv m c];exact h.key
 ·exact (h.up _ m c).1
theorem Tb.chn {n:Nat} (h:Tb ix e ps) (hb:∀ k∈ps.map (·.1),ix k<=n):jg ps:=⟨h.np,fun p m=>h.cl m,fun k=>n - ix k,fun p m=>by
 by_cases c:p.1=e
 ·exact .inl (c.trans (h.rv m c).symm)
 ·have h1:=(h.up p m c).2;have h2:=hb _ (h.cl m)
  exact .inr (by dsimp only;lia)⟩
theorem Tb.le (h:Tb ix e ps) (hu:Up ps u c):ix u<=ix c:=by
 induction hu with
 | refl=>exact I4 _
 | @step k v j m _ ih=>
  by_cases q:k=e
  ·rw [h.rv m q] at ih;rw [q];exact ih
  ·exact Nat.le_trans (Nat.le_of_lt (h.up _ m q).2) ih
theorem Tb.root (h:Tb ix e ps) (hu:Up ps w c):w=e->c=e:=by
 induction hu with
 | refl=>exact id
 | step m _ ih=>exact fun q=>ih (h.rv m q)
theorem Tb.ukey (h:Tb ix e ps) (hu:Up ps u c) (m:u∈ps.map (·.1)):c∈ps.map (·.1):=by
 induction hu with
 | refl=>exact m
 | step q _ ih=>exact ih (h.cl q)
theorem Tb.split (h:Tb ix e ps) (m:(u,v)∈ps):Up ps u c↔c=u\/Up ps v c:=
 ⟨fun hu=>by cases hu with | refl=>exact .inl rfl | step q r=>rw [h.one m q];exact .inr r,fun o=>o.elim (fun q=>q▸ .refl _) (.step m)⟩
theorem Up.trans (h:Up ps u v) (h':Up ps v c):Up ps u c:=by
 induction h with
 | refl=>exact h'
 | step m _ ih=>exact .step m (ih h')
theorem Tb.up_eq (h:Tb ix e ps) (hu:Up ps u c) (e':ix u=ix c):u=c:=by
 cases hu with
 | refl=>rfl
 | step m r=>
  by_cases q:u=e
  ·have:=h.rv m q
   exact q.trans (h.root r this).symm
  ·have h1:=(h.up _ m q).2;have h2:=h.le r;dsimp only at h1;lia
theorem Tb.antisymm (h:Tb ix e ps) (hu:Up ps u c) (hc:Up ps c u):u=c:=h.up_eq hu (Nat.le_antisymm (h.le hu) (h.le hc))
theorem Tb.top (h:Tb ix e ps) {n:Nat} (hb:∀ k∈ps.map (·.1),ix k<=n):∀ (f:Nat) (u:Int),u∈ps.map (·.1)->n - ix u<=f->Up ps u e:=by
 intro f
 induction f with
 | zero=>
  intro u mu hf;ac_rfl;obtain ⟨⟨u',v⟩,m,hu⟩:=I0.mp mu;right;replace m:(u,v)∈ps:=hu▸m
  by_cases q:u=e
  ·rw [q];exact .refl _
  ·have h1:=(h.up _ m q);have h2:=hb _ h1.1;have h1:=h1.2;dsimp only at h1 h2;lia
 | succ f ih=>
  intro u mu hf;ac_rfl;obtain ⟨⟨u',v⟩,m,hu⟩:=I0.mp mu;right;replace m:(u,v)∈ps:=hu▸m
  by_cases q:u=e
  ·rw [q];exact .refl _
  ·have h1:=h.up _ m q;have h2:=hb _ h1.1;have h3:=h1.2;dsimp only at h1 h2 h3;exact .step m (ih v h1.1 (by lia))
structure oG (ps:List (Int×Int)) (u v r:Int):Prop where
 hl:Up ps u r
 hr:Up ps v r
 hg:∀ d,Up ps u d->Up ps v d->Up ps r d
theorem oG.one (h:Tb ix e ps) {r r':Int} (x:oG ps u v r) (y:oG ps u v r'):r=r':=h.antisymm (x.hg _ y.hl y.hr) (y.hg _ x.hl x.hr)
open Classical in
abbrev AX (ps:List (Int×Int)) (u v:Int):Int:=if h:∃ r,oG ps u v r then Classical.choose h else 0
theorem oG.eq (h:Tb ix e ps) {r:Int} (x:oG ps u v r):AX ps u v=r:=by
 unfold AX;rw [dif_pos ⟨r,x⟩];exact oG.one h (Classical.choose_spec (⟨r,x⟩: ∃ r,oG ps u v r)) x
theorem kP (h:Tb ix e ps) (m:(u,v)∈ps) (lt:ix u<ix w) {r:Int}:oG ps v w r->oG ps u w r:=fun x=>
 ⟨.step m x.hl,x.hr,fun d h1 h2=>by
  rcases (h.split m).mp h1 with q | q
  ·have:=h.le h2;rw [q] at this;exact (wX lt this).elim
  ·exact x.hg d q h2⟩
theorem oG.symm {r:Int} (x:oG ps u v r):oG ps v u r:=⟨x.hr,x.hl,fun d h1 h2=>x.hg d h2 h1⟩
theorem x9 (h:Tb ix e ps) (ex:∀ u v,u∈ps.map (·.1)->v∈ps.map (·.1)->∃ r,oG ps u v r):∀ (rest:List Int) (k:Int),k∈ps.map (·.1)->(∀ y∈rest,y∈ps.map (·.1))->
  (∀ y∈k::rest,Up ps y (rest.foldl (AX ps) k))/\∀ d,(∀ y∈k::rest,Up ps y d)->Up ps (rest.foldl (AX ps) k) d:=by
 intro rest
 induction rest with
 | nil=>exact fun k mk _=>⟨fun y m=>by rw [IN.mp m];exact .refl _,fun d hd=>hd k (.head _)⟩
 | cons x rest ih=>
  intro k mk hr;ac_rfl;obtain ⟨r,hn⟩:=ex k x mk (hr x (.head _));have mr:=h.ukey hn.hl mk;have hz4:=ih r mr fun y m=>hr y (.tail _ m);right;rw [List.foldl_cons,hn.eq h];refine ⟨fun y m=>?_,fun d hd=>hz4.2 d fun y m=>?_⟩
  ·rcases IZ.mp m with rfl | m
   ·exact hn.hl.trans (hz4.1 r (.head _))
   ·rcases IZ.mp m with rfl | m
    ·exact hn.hr.trans (hz4.1 r (.head _))
    ·exact hz4.1 y (.tail _ m)
  ·rcases IZ.mp m with rfl | m
   ·exact hn.hg d (hd k (.head _)) (hd x (.tail _ (.head _)))
   ·exact hd y (.tail _ (.tail _ m))
end
structure Gr (E:Int->Int->Prop) (e:Int) (po:List Int) (ix:Int->Nat):Prop where
 me:e∈po
 par:∀ u∈po,u≠e->∃ p∈po,E p u/\ix u<ix p
 top:∀ u∈po,ix u<=po.length
 prd:∀ p u,u∈po->E p u->p∈po
 cls:∀ p u,p∈po->E p u->u∈po
section
variable {E:Int->Int->Prop} {e u v w d c N p:Int} {po done:List Int} {ix:Int->Nat} {ps ps':List (Int×Int)} {π:List Int} {j n:Nat} {ch:Bool}
theorem fV.start (h:fV E e u π):e∈π:=by
 induction h with
 | nil=>exact .head _
 | snoc _ _ ih=>exact .tail _ ih
theorem Gr.way (g:Gr E e po ix) (h:fV E e u π):∀ x∈π,x∈po:=by
 induction h with
 | nil=>exact fun x m=>by rw [IN.mp m];exact g.me
 | snoc q hE ih=>exact fun x m=>(IZ.mp m).elim (fun q'=>by rw [q'];exact g.cls _ _ (ih _ q.end_mem) hE) (ih x)
abbrev Sd (E:Int->Int->Prop) (e:Int) (ps:List (Int×Int)):Prop:=∀ q∈ps,q.1≠e->∀ d,dW E e d q.1->d≠q.1->dW E e d q.2
theorem qj (T:Tb ix e ps) (sd:Sd E e ps) (hb:∀ k∈ps.map (·.1),ix k<=n):∀ (f:Nat) (u:Int),u∈ps.map (·.1)->n - ix u<=f->dW E e d u->Up ps u d:=by
 intro f
 induction f with
 | zero=>
  intro u mu hf hd;obtain ⟨⟨u',v⟩,m,hu⟩:=I0.mp mu;replace m:(u,v)∈ps:=hu▸m
  by_cases q:d=u
  ·rw [q];exact .refl _
  ·have ne:u≠e:=fun c=>q (by rw [c] at hd ⊢;exact hd.root);have h1:=T.up _ m ne;have h2:=hb _ h1.1;have h3:=h1.2;dsimp only at h2 h3;lia
 | succ f ih=>
  intro u mu hf hd;obtain ⟨⟨u',v⟩,m,hu⟩:=I0.mp mu;replace m:(u,v)∈ps:=hu▸m
  by_cases q:d=u
  ·rw [q];exact .refl _
  ·have ne:u≠e:=fun c=>q (by rw [c] at hd ⊢;exact hd.root);have h1:=T.up _ m ne;have h2:=hb _ h1.1;have h3:=h1.2;dsimp only at h2 h3;exact .step m (ih v h1.1 (by lia) (sd _ m ne d hd q))
theorem zL (T:Tb ix e ps) (sd:Sd E e ps) (h:Up ps p w):dW E e d p->Up ps w d->dW E e d w:=by
 induction h with
 | refl=>exact fun h _=>h
 | @step k v x m r ih=>
  intro hd hx
  by_cases q:d=k
  ·have:=T.antisymm (Up.step m r) (q▸hx)
   rw [<- this];exact hd
  ·have ne:k≠e:=fun c=>q (by rw [c] at hd ⊢;exact hd.root);exact ih (sd _ m ne d hd q) hx
structure It (E:Int->Int->Prop) (e:Int) (po:List Int) (ix:Int->Nat) (j:Nat) (done:List Int) (ps:List (Int×Int)) (ch:Bool):Prop where
 T:Tb ix e ps
 sub:∀ k∈ps.map (·.1),k∈po
 dk:∀ k∈done,k∈ps.map (·.1)
 all:1<=j->∀ k∈po,k∈ps.map (·.1)
 zero:j=0->∀ k∈ps.map (·.1),k=e\/k∈done
 sd:Sd E e ps
 cj:∀ u∈ps.map (·.1),∀ π,fV E e u π->π.length<=j+1->∀ c,Up ps u c->c∈π
 cd:∀ u∈done,∀ π,fV E e u π->π.length<=j+2->∀ c,Up ps u c->c∈π
 fx:ch=false->∀ u∈done,∃ v,(u,v)∈ps/\∀ p,E p u->Up ps p v
 lj:po.length<=j->ch=false
structure CE (E:Int->Int->Prop) (ps:List (Int×Int)) (u N:Int):Prop where
 up:∀ y,E y u->y∈ps.map (·.1)->Up ps y N
 gt:∀ d,(∀ y,E y u->y∈ps.map (·.1)->Up ps y d)->Up ps N d
structure pY (po:List Int) (ix:Int->Nat) (e:Int) (done:List Int) (u:Int):Prop where
 mu:u∈po
 ne:u≠e
 nd:u∉done
 aft:∀ w∈po,w≠e->ix u<ix w->w∈done
theorem It.parent (g:Gr E e po ix) (h:It E e po ix j done ps ch) (t:pY po ix e done u) (nw:CE E ps u N):N∈ps.map (·.1)/\ix u<ix N:=by
 obtain ⟨p,hz0⟩:=g.par u t.mu t.ne
 have kp:p∈ps.map (·.1):=by
  by_cases q:p=e
  ·rw [q];exact h.T.key
  ·exact h.dk p (t.aft p hz0.1 q hz0.2.2)
 have hu:=nw.up p hz0.2.1 kp;exact ⟨h.T.ukey hu kp,Jd hz0.2.2 (h.T.le hu)⟩
theorem It.near (g:Gr E e po ix) (h:It E e po ix j done ps ch) (hE:E p u) (q:fV E e p π) (l:π.length<=j+1):p∈ps.map (·.1):=by
 by_cases z:1<=j
 ·exact h.all z p (g.way q p q.end_mem)
 ·cases q with
  | nil=>exact h.T.key
  | snoc q _=>
   rw [List.length_cons] at l
   cases q with
   | nil=>simp at l;lia
   | snoc _ _=>simp at l;lia
theorem It.chain (g:Gr E e po ix) (h:It E e po ix j done ps ch) (nw:CE E ps u N) (ne:u≠e) (q:fV E e u π) (l:π.length<=j+2) (hc:Up ps N c):c∈π:=by
 cases q with
 | nil=>exact absurd rfl ne
 | snoc q hE=>
  rw [List.length_cons] at l;have kp:=h.near g hE q (Nat.le_of_lt_succ l);exact .tail _ (h.cj _ kp _ q (Nat.le_of_lt_succ l) c ((nw.up _ hE kp).trans hc))
theorem It.same (g:Gr E e po ix) (h:It E e po ix j done ps ch) (t:pY po ix e done u) (nw:CE E ps u N) (m:(u,N)∈ps):It E e po ix j (u::done) ps ch:=by
 have mu:u∈ps.map (·.1):=IR (f:=fun q:Int×Int=>q.1) m
 have j1:1<=j:=by
  rcases Nat.eq_zero_or_pos j with z | z
  ·exact absurd ((h.zero z u mu).resolve_left t.ne) t.nd
  ·exact z
 refine ⟨h.T,h.sub,fun k mk=>(IZ.mp mk).elim (fun q=>q▸mu) (h.dk k),h.all,fun z=>(wX j1 (Nat.le_of_eq z)).elim,h.sd,h.cj,fun w mw π q l c hc=>?_,fun f w mw=>?_,h.lj⟩
 ·rcases IZ.mp mw with rfl | mw
  ·rcases (h.T.split m).mp hc with r | r
   ·rw [r];exact q.end_mem
   ·exact h.chain g nw t.ne q l r
  ·exact h.cd w mw π q l c hc
 ·rcases IZ.mp mw with rfl | mw
  ·exact ⟨N,m,fun p hE=>nw.up p hE (h.all j1 p (g.prd p w t.mu hE))⟩
  ·exact h.fx f w mw
theorem It.last (g:Gr E e po ix) (h:It E e po ix j done ps ch) (t:pY po ix e done u) (nw:CE E ps u N) (l:po.length<=j):(u,N)∈ps:=by
 have j1:1<=j:=Nat.le_trans (List.length_pos_of_mem g.me) l;have hb:∀ k∈ps.map (·.1),ix k<=po.length:=fun k m=>g.top k (h.sub k m)
 have dom:∀ {w c},w∈ps.map (·.1)->Up ps w c->dW E e c w:=fun {w c} mw hc π q=>by
  obtain ⟨π',hz1⟩:=q.simple
  have:=IQ hz1.2.2 (l₂:=po) fun x m=>g.way hz1.1 x m
  exact hz1.2.1 c (h.cj w mw π' hz1.1 (GH (Nat.le_trans this l)) c hc)
 obtain ⟨⟨u',v⟩,m,hu⟩:=I0.mp (h.all j1 u t.mu);replace m:(u,v)∈ps:=hu▸m;have mu:=h.all j1 u t.mu;have uv:=h.T.up _ m t.ne;have hN:=h.parent g t nw;have key:∀ y,E y u->y∈ps.map (·.1):=fun y hE=>h.all j1 y (g.prd y u t.mu hE)
 have h1:Up ps N v:=nw.gt v fun y hE my=>by
  have d1:=dom mu (.step m (.refl v));have d2:=d1.pred (fun c=>by have:=uv.2;rw [c] at this;exact Ji _ this) hE;exact qj h.T h.sd hb _ y my (I4 _) d2
 have h2:Up ps v N:=by
  have d1:dW E e N u:=fun π q=>by
   cases q with
   | nil=>exact absurd rfl t.ne
   | snoc q hE=>exact .tail _ (dom (key _ hE) (nw.up _ hE (key _ hE)) _ q)
  have d2:=qj h.T h.sd hb _ u mu (I4 _) d1;rcases (h.T.split m).mp d2 with r | r
  ·have:=hN.2;rw [r] at this;exact absurd this (Ji _)
  ·exact r
 rw [h.T.antisymm h1 h2];exact m
theorem B4 (T:Tb ix e ps) (hm:∀ q,q∈ps'->(q.1≠u/\q∈ps)\/q=(u,N)) (lt:ix u<ix N) (h:Up ps' w c):Up ps w c\/(Up ps w u/\Up ps N c):=by
 induction h with
 | refl=>exact .inl (.refl _)
 | @step k v x m _ ih=>
  rcases hm _ m with ⟨n,m'⟩ | q
  ·exact ih.imp (.step m') fun ⟨a,b⟩=>⟨.step m' a,b⟩
  ·cases q;refine .inr ⟨.refl _,ih.elim id fun ⟨a,_⟩=>?_⟩
   have:=T.le a
   omega
theorem It.set (g:Gr E e po ix) (h:It E e po ix j done ps ch) (t:pY po ix e done u) (nw:CE E ps u N) (hno:(u,N)∉ps) (np:(ps'.map (·.1)).Nodup) (hm:∀ q,q∈ps'↔(q.1≠u/\q∈ps)\/q=(u,N)):It E e po ix j (u::done) ps' true:=by
 intros E e u N po done ix ps ps' j ch
 intro g h t nw hno np hm;have hN:=h.parent g t nw
 have hk:∀ k,k∈ps'.map (·.1)↔k=u\/k∈ps.map (·.1):=fun k=>by
  constructor
  ·intro m;obtain ⟨q,mq,rfl⟩:=I0.mp m;rcases (hm q).mp mq with ⟨_,m⟩ | r
   ·exact .inr (IR (f:=fun q:Int×Int=>q.1) m)
   ·rw [r];exact .inl rfl
  ·intro o
   by_cases c:k=u
   ·rw [c];exact IR (f:=fun q:Int×Int=>q.1) ((hm (u,N)).mpr (.inr rfl))
   ·obtain ⟨q,mq,rfl⟩:=I0.mp (o.resolve_left c);exact IR (f:=fun q:Int×Int=>q.1) ((hm q).mpr (.inl ⟨c,mq⟩))
 have us:∀ {w c},Up ps' w c->Up ps w c\/(Up ps w u/\Up ps N c):=fun hu=>B4 h.T (fun q m=>(hm q).mp m) hN.2 hu
 have usu:∀ {c},Up ps' u c->c=u\/Up ps N c:=fun {c} hu=>by
  cases hu with
  | refl=>exact .inl rfl
  | step m r=>
   rcases (hm _).mp m with ⟨n,_⟩ | q
   ·exact absurd rfl n
   ·cases q;exact .inr ((us r).elim id fun x=>x.2)
 have part:∀ {w c π},fV E e w π->u∈π->π.length<=j+2->Up ps N c->c∈π:=fun {w c π} q mu l hc=>by
  obtain ⟨π',hz2⟩:=q.upto mu;exact hz2.2.1 c (h.chain g nw t.ne hz2.1 (Nat.le_trans hz2.2.2.1 l) hc)
 refine ⟨⟨np,(hm _).mpr (.inl ⟨fun c=>t.ne c.symm,h.T.me⟩),fun q mq ne=>?_⟩,fun k m=>?_,fun k m=>(hk k).mpr ((IZ.mp m).imp id (h.dk k)),fun j1 k m=>(hk k).mpr (.inr (h.all j1 k m)),fun z k m=>?_,fun q mq ne d hd nd=>?_,fun w mw π q l c hc=>?_,fun w mw π q l c hc=>?_,(fun f=>nomatch f),fun l=>absurd (h.last g t nw l) hno⟩
 ·rcases (hm q).mp mq with ⟨_,m⟩ | r
  ·have:=h.T.up q m ne;exact ⟨(hk _).mpr (.inr this.1),this.2⟩
  ·rw [r];exact ⟨(hk _).mpr (.inr hN.1),hN.2⟩
 ·exact ((hk k).mp m).elim (fun c=>c▸t.mu) (h.sub k)
 ·exact ((hk k).mp m).elim (fun c=> .inr (c▸ .head _)) fun m=>(h.zero z k m).imp id (.tail _)
 ·rcases (hm q).mp mq with ⟨_,m⟩ | r
  ·exact h.sd q m ne d hd nd
  ·subst r;obtain ⟨p,hz3⟩:=g.par u t.mu t.ne
   have kp:p∈ps.map (·.1):=by
    by_cases q:p=e
    ·rw [q];exact h.T.key
    ·exact h.dk p (t.aft p hz3.1 q hz3.2.2)
   have hb:∀ k∈ps.map (·.1),ix k<=po.length:=fun k m=>g.top k (h.sub k m);exact zL h.T h.sd (nw.up p hz3.2.1 kp) (hd.pred nd hz3.2.1) (nw.gt d fun y hy my=>qj h.T h.sd hb _ y my (I4 _) (hd.pred nd hy))
 ·rcases (hk w).mp mw with rfl | mw'
  ·by_cases hw:w∈ps.map (·.1)
   ·rcases us hc with r | ⟨_,r⟩
    ·exact h.cj w hw π q l c r
    ·exact part q q.end_mem (E7 l rfl) r
   ·rcases us hc with r | ⟨_,r⟩
    ·cases r with
     | refl=>exact q.end_mem
     | step m _=>exact absurd (IR (f:=fun q:Int×Int=>q.1) m) hw
    ·exact part q q.end_mem (E7 l rfl) r
  ·rcases us hc with r | ⟨r1,r⟩
   ·exact h.cj w mw' π q l c r
   ·exact part q (h.cj w mw' π q l u r1) (E7 l rfl) r
 ·rcases IZ.mp mw with rfl | mw
  ·rcases usu hc with r | r
   ·rw [r];exact q.end_mem
   ·exact part q q.end_mem l r
  ·rcases us hc with r | ⟨r1,r⟩
   ·exact h.cd w mw π q l c r
   ·exact part q (h.cd w mw π q l u r1) l r
theorem It.next (g:Gr E e po ix) (h:It E e po ix j done ps true) (all:∀ u∈po,u≠e->u∈done):j<po.length/\It E e po ix (j+1) [] ps false:=by
 have mk:∀ k∈po,k∈ps.map (·.1):=fun k m=>by
  by_cases c:k=e
  ·rw [c];exact h.T.key
  ·exact h.dk k (all k m c)
 have lt:j<po.length:=Nat.lt_of_not_le fun c=>nomatch h.lj c;refine ⟨lt,⟨h.T,h.sub,(fun _ m=>nomatch m),fun _=>mk,(fun z=>nomatch z),h.sd,fun u mu π q l c hc=>?_,(fun _ m=>nomatch m),(fun _ _ m=>nomatch m),fun _=>rfl⟩⟩
 by_cases z:u=e
 ·rw [h.T.root hc z];exact q.start
 ·exact h.cd u (all u (h.sub u mu) z) π q l c hc
theorem It.first (g:Gr E e po ix):It E e po ix 0 [] [(e,e)] false:=by
 refine ⟨⟨by simp, .head _,fun q m ne=>absurd (by rw [IN.mp m]) ne⟩,fun k m=>by rw [IN.mp m];exact g.me,(fun _ m=>nomatch m),fun z=>(Ji _ z).elim,fun _ k m=> .inl (IN.mp m),fun q m ne=>absurd (by rw [IN.mp m]) ne,fun u mu π q l c hc=>?_,(fun _ m=>nomatch m),(fun _ _ m=>nomatch m),fun _=>rfl⟩
 have:∀ {w c},Up [(e,e)] w c->w=e->c=e:=fun {w c} hu=>by
  induction hu with
  | refl=>exact id
  | step m _ ih=>exact fun _=>ih (by have:=IN.mp m;exact (Prod.mk.inj this).2)
 rw [this hc (IN.mp mu)];exact q.start
structure eE (E:Int->Int->Prop) (e:Int) (po:List Int) (ps:List (Int×Int)):Prop where
 np:(ps.map (·.1)).Nodup
 keys:∀ k,k∈ps.map (·.1)↔k∈po
 me:(e,e)∈ps
 chn:jg ps
 dom:∀ u∈po,∀ c,Up ps u c↔dW E e c u
theorem It.end (g:Gr E e po ix) (h:It E e po ix j done ps false) (all:∀ u∈po,u≠e->u∈done):eE E e po ps:=by
 have mk:∀ k∈po,k∈ps.map (·.1):=fun k m=>by
  by_cases c:k=e
  ·rw [c];exact h.T.key
  ·exact h.dk k (all k m c)
 have hb:∀ k∈ps.map (·.1),ix k<=po.length:=fun k m=>g.top k (h.sub k m);refine ⟨h.T.np,fun k=>⟨h.sub k,mk k⟩,h.T.me,h.T.chn hb,fun u mu c=>⟨fun hc π q=>?_,fun hd=>qj h.T h.sd hb _ u (mk u mu) (I4 _) hd⟩⟩;clear mu
 induction q generalizing c with
 | nil=>rw [h.T.root hc rfl];exact .head _
 | @snoc p u π q hE ih=>
  by_cases z:u=e
  ·rw [h.T.root hc z,<- z];exact .head _
  ·have mu:=g.cls p u (g.way q p q.end_mem) hE;obtain ⟨v,m,hv⟩:=h.fx rfl u (all u mu z);rcases (h.T.split m).mp hc with r | r
   ·rw [r];exact .head _
   ·exact .tail _ (ih c ((hv p hE).trans r))
end
theorem BS {ix:Int->Nat} {e:Int} {ps:List (Int×Int)} {n:Nat} (T:Tb ix e ps) (hb:∀ k∈ps.map (·.1),ix k<=n) (inj:∀ u v,u∈ps.map (·.1)->v∈ps.map (·.1)->ix u=ix v->u=v):∀ (f:Nat) (u v:Int),u∈ps.map (·.1)->v∈ps.map (·.1)->2*n<=f+ix u+ix v->∃ r,oG ps u v r:=by
 intro f
 induction f with
 | zero=>
  intro u v mu mv hf
  have:=hb u mu
  have:=hb v mv
  rw [inj u v mu mv (by lia)];exact ⟨v, .refl _, .refl _,fun d h _=>h⟩
 | succ f ih=>
  have st:∀ u v,u∈ps.map (·.1)->v∈ps.map (·.1)->2*n<=f+1+ix u+ix v->ix u<ix v->∃ r,oG ps u v r:=fun u v mu mv hf lt=>by
   ac_rfl;obtain ⟨⟨u',w⟩,m,hu⟩:=I0.mp mu;right;replace m:(u,w)∈ps:=hu▸m
   have ne:u≠e:=fun c=>by
    have:=T.top hb _ v mv (I4 _)
    have:=T.le this
    rw [<- c] at this;exact wX lt this
   have h1:=T.up _ m ne;have h2:=h1.2;dsimp only at h2;obtain ⟨r,hr⟩:=ih w v h1.1 mv (by lia);exact ⟨r,kP T m lt hr⟩
  intro u v mu mv hf;rcases Nat.lt_trichotomy (ix u) (ix v) with lt | e' | lt
  ·exact st u v mu mv hf lt
  ·rw [inj u v mu mv e'];exact ⟨v, .refl _, .refl _,fun d h _=>h⟩
  ·obtain ⟨r,hr⟩:=st v u mv mu (by lia) lt;exact ⟨r,hr.symm⟩
abbrev xO (po:List Int):List (Int×V):=(po.zipIdx).map fun p=>(p.1, .int p.2)
theorem Ak {po:List Int} (nd:po.Nodup) {u:Int} (m:u∈po):bS (xO po) u=some (.int (po.idxOf u)):=by
 have key:∀ (l:List Int) (k:Nat),u∈l->l.Nodup->bS ((l.zipIdx k).map fun p=>(p.1,V.int p.2)) u=some (.int ((k+l.idxOf u:Nat):Int)):=by
  intro l
  induction l with
  | nil=>intro k m;cases m
  | cons x l ih=>
   intro k m nd;rw [List.zipIdx_cons,List.map_cons];unfold bS
   by_cases c:x=u
   ·rw [List.find?_cons_of_pos (by simp [c]),List.idxOf_cons,show (x==u)=true by simp [c]];rfl
   ·rw [List.find?_cons_of_neg (by simp [c]),List.idxOf_cons,show (x==u)=false by simp [c]]
    have:=ih (k+1) ((IZ.mp m).resolve_left (Ne.symm c)) (I6.mp nd).2
    unfold bS at this;rw [this,Nat.add_assoc,Nat.add_comm 1]
    rfl
 have:=key po 0 m nd
 rw [Nat.zero_add] at this;exact this
section
variable {A:Around} {w:World} {mg mb:Str->Option Value} {os:OsState} {σ:am}
abbrev BL:Str:=yF ++ ".<locals>." ++ "intersect"
abbrev AW (cd cx:Addr) (pm:Value) (tp c':Addr):FuncData:=ya (kR cr 0) BL [("idx",cx),("idom",cd)] pm tp c'
structure u5 (σ₀:am) (f cd cx dd dx tp c':Addr) (pm:Value) (od ox:Obj) (e:Int) (po:List Int) (ps:List (Int×Int)):Prop where
 hf:jG σ₀ f (AW cd cx pm tp c')
 hcd:σ₀ cd=some (.cell (some (.ref dd)))
 hcx:σ₀ cx=some (.cell (some (.ref dx)))
 hdd:σ₀ dd=some (.idict (dC ps) od)
 hdx:σ₀ dx=some (.idict (xO po) ox)
 T:Tb po.idxOf e ps
 sub:∀ k∈ps.map (·.1),k∈po
 nd:po.Nodup
theorem u5.inj {σ₀ f cd cx dd dx tp c' pm od ox e po ps} (H:u5 σ₀ f cd cx dd dx tp c' pm od ox e po ps):∀ u v,u∈ps.map (·.1)->v∈ps.map (·.1)->po.idxOf u=po.idxOf v->u=v:=fun u v mu mv e'=>by
 have h1:=List.getElem_idxOf (List.idxOf_lt_length_of_mem (H.sub u mu));have h2:=List.getElem_idxOf (List.idxOf_lt_length_of_mem (H.sub v mv));rw [<- h1,<- h2]
 congr 1
theorem u5.hb {σ₀ f cd cx dd dx tp c' pm od ox e po ps} (H:u5 σ₀ f cd cx dd dx tp c' pm od ox e po ps):∀ k∈ps.map (·.1),po.idxOf k<=po.length:=fun k m=>Nat.le_of_lt (List.idxOf_lt_length_of_mem (H.sub k m))
inductive za (σ₀:am) (po:List Int) (ps:List (Int×Int)) (u₀ v₀:Int) (P:Int->Int->Nat->Prop) (n:Nat) (ρ:aX) (σ:am):Prop
 | mk (u v:Int) (hσ:σ=σ₀) (ru:ρ "u" = some (.int u)) (rv:ρ "v" = some (.int v)) (mu:u∈ps.map (·.1)) (mv:v∈ps.map (·.1)) (k:∀ r,oG ps u v r->oG ps u₀ v₀ r) (hn:n+po.idxOf u+po.idxOf v=2*po.length) (p:P u v n):za σ₀ po ps u₀ v₀ P n ρ σ
theorem Gd {m U V X L:Nat} (h:m+U+V=2*L) (a:U<X) (b:X<=L) (c:V<=L):m - (X - U)<m/\m - (X - U)+X+V=2*L:=by omega
theorem rV {σ₀:am} {f cd cx dd dx tp c':Addr} {pm:Value} {od ox:Obj} {e:Int} {po:List Int} {ps:List (Int×Int)} {u0 v0:Int} (r:Rm 2 A) (H:u5 σ₀ f cd cx dd dx tp c' pm od ox e po ps) (mu:u0∈ps.map (·.1)) (mv:v0∈ps.map (·.1)):
  E1 (G8 w mg mb os) A (.ref f) [.int u0, .int v0] [] σ₀ (fun v σ'=>v = .int (AX ps u0 v0)/\σ'=σ₀):=by
 intros A w mg mb os σ₀ f cd cx dd dx tp c' pm od ox e po ps u0 v0
 intro r H mu mv;refine Av (bv:=[("u", .int u0),("v", .int v0)]) (H.hf.def rfl (hH fun _ _ _=>by kernel_rfl) (⋯) (⋯)) r.room fun L hL=>b6 (⋯) ?_;refine az (az ?_);show WL _ _ _ (_::_) _ _ _;have bu:=H.hb u0 mu;have bv:=H.hb v0 mv;refine al (dJ (za σ₀ po ps u0 v0 fun _ _ _=>True) (2*po.length - po.idxOf u0 - po.idxOf v0) ⟨u0,v0,rfl,rfl,rfl,mu,mv,fun _ h=>h,by lia,trivial⟩ fun n ρ σ iv=>?_)
 cases iv with | mk u v hσ ru rv mu mv k hn _=>
 subst hσ;refine aI (ah (ak ru (ah (ak rv (pv (aV ?_))))))
 by_cases c:u=v
 ·rw [show (u != v)=false by simp [c]];have hr:=k u (by rw [<- c];exact ⟨.refl _, .refl _,fun d h _=>h⟩);exact aE (al (bA (ah (ak ru ⟨by rw [hr.eq H.T];rfl,rfl⟩))))
 rw [show (u != v)=true by simp [c]];refine iR fun Q' hQ=>?_;have rd:∀ {x:Int},x∈ps.map (·.1)->bS (xO po) x=some (.int (po.idxOf x)):=fun m=>Ak H.nd (H.sub _ m);refine al (dJ (za σ po ps u0 v0 fun u' v' m=>m<=n/\(m<n\/(u'≠v'/\m=n))) n ⟨u,v,rfl,ru,rv,mu,mv,k,hn,I4 _, .inr ⟨c,rfl⟩⟩ fun m ρ1 τ iv=>?_)
 cases iv with | mk u v hσ ru rv mu mv k hn hm=>
 subst hσ;refine aI (aG (ah (eA (c:=cx) (⋯) H.hcx (ah (ak ru ⟨PG.dict H.hdx,bb H.hdx (rd mu) (aG (ah (eA (c:=cx) (⋯) H.hcx (ah (ak rv ⟨PG.dict H.hdx,bb H.hdx (rd mv) (ux (aV ?_))⟩)))))⟩)))))
 by_cases lt:po.idxOf u<po.idxOf v
 ·rw [I5 (Int.ofNat_lt.mpr lt)];ac_rfl;obtain ⟨⟨u',x⟩,mm,hu⟩:=I0.mp mu;right;replace mm:(u,x)∈ps:=hu▸mm
  have ne:u≠e:=fun c=>by
   have:=H.T.le (H.T.top H.hb _ v mv (I4 _))
   rw [<- c] at this;exact wX lt this
  have h1:=H.T.up _ mm ne;have h2:=h1.2;have bx:=H.hb x h1.1;have bv:=H.hb v mv;dsimp only at h2;refine al (ar (aG (ah (eA (c:=cd) (⋯) H.hcd (ah (ak ru ⟨PG.dict H.hdd,bb H.hdd (c9 H.T.np mm) (az (aE ?_))⟩))))));have sp:=Gd hn h2 bx bv;have sl:=Jd sp.1 hm.1;exact ⟨m - (po.idxOf x - po.idxOf u),sp.1,⟨x,v,rfl,bK,aw rv,h1.1,mv,fun r hr=>k r (kP H.T mm lt hr),sp.2,Nat.le_of_lt sl, .inl sl⟩⟩
 rw [decide_eq_false fun c=>lt (Int.ofNat_lt.mp c)];refine aE ?_
 have hgt:m<n\/(po.idxOf v<po.idxOf u/\m=n):=hm.2.imp id fun hE=>by obtain ⟨a,b⟩:=hE;exact ⟨by
  rcases Nat.lt_trichotomy (po.idxOf u) (po.idxOf v) with q | q | q
  ·exact absurd q lt
  ·exact absurd (H.inj u v mu mv q) a
  ·exact q,b⟩
 refine al (dJ (za τ po ps u0 v0 fun u' v' m'=>m'<=n/\(m'<n\/po.idxOf v'<po.idxOf u')) m ⟨u,v,rfl,ru,rv,mu,mv,k,hn,hm.1,hgt.imp id fun q=>q.1⟩ fun m' ρ2 τ' iv=>?_);clear hgt hm rv ru mu mv lt hn k
 cases iv with | mk u v hσ ru rv mu mv k hn hm=>
 subst hσ;refine aI (aG (ah (eA (c:=cx) (⋯) H.hcx (ah (ak ru ⟨PG.dict H.hdx,bb H.hdx (rd mu) (aG (ah (eA (c:=cx) (⋯) H.hcx (ah (ak rv ⟨PG.dict H.hdx,bb H.hdx (rd mv) (uu (aV ?_))⟩)))))⟩)))))
 by_cases lt:po.idxOf v<po.idxOf u
 ·rw [I5 (show (po.idxOf u:Int) > po.idxOf v from Int.ofNat_lt.mpr lt)];ac_rfl;obtain ⟨⟨v',x⟩,mm,hv⟩:=I0.mp mv;right;replace mm:(v,x)∈ps:=hv▸mm
  have ne:v≠e:=fun c=>by
   have:=H.T.le (H.T.top H.hb _ u mu (I4 _))
   rw [<- c] at this;exact wX lt this
  have h1:=H.T.up _ mm ne;have h2:=h1.2;have bx:=H.hb x h1.1;have bu:=H.hb u mu;dsimp only at h2;refine al (ar (aG (ah (eA (c:=cd) (⋯) H.hcd (ah (ak rv ⟨PG.dict H.hdd,bb H.hdd (c9 H.T.np mm) (az (aE ?_))⟩))))));have sp:=Gd ((Nat.add_right_comm ..).trans hn) h2 bx bu;have sl:=Jd sp.1 hm.1;exact ⟨m' - (po.idxOf x - po.idxOf v),sp.1,⟨u,x,rfl,aw ru,bK,mu,h1.1,fun r hr=>k r (kP H.T mm lt hr.symm).symm,(Nat.add_right_comm ..).trans sp.2,Nat.le_of_lt sl, .inl sl⟩⟩
 rw [decide_eq_false fun c=>lt (Int.ofNat_lt.mp c)];exact aE (aE (hQ _ _ _ ⟨m',hm.2.resolve_right lt,⟨u,v,rfl,ru,rv,mu,mv,k,hn,trivial⟩⟩))
end
theorem yT.at {E:Int->Int->Prop} {u:Int} {b:List Int}:∀ (a:List Int),yT E (a++u::b)->b=[]\/∃ p,p∈b/\E p u
 | [],h=>h.1
 | _::a,h=>yT.at a h.2
theorem pI {a b:List Int} {u:Int} (n:u∉a):(a++u::b).idxOf u=a.length:=by
 rw [List.idxOf_append,if_neg n,List.idxOf_cons,show (u==u)=true by simp];show 0+a.length=_;exact Nat.zero_add _
theorem tK {a b:List Int} {w:Int} (m:w∈a):(a++b).idxOf w<a.length:=by
 rw [List.idxOf_append,if_pos m];exact List.idxOf_lt_length_of_mem m
theorem rZ {a b:List Int} {u p:Int} (n:p∉a) (ne:p≠u):a.length<(a++u::b).idxOf p:=by
 rw [List.idxOf_append,if_neg n,List.idxOf_cons,show (u==p)=false by simp [Ne.symm ne]];show _<b.idxOf p+1+a.length;lia
theorem Gr.of {l:cU} {be:List (Int×Int)} {e:Int} {po D:List Int} (h:wD l be e po) (b:Ba l e be D) (cl:∀ u v,Ed l u v->v∈aM l) (hr:∀ k∈aM l,∃ π,fV (Ed l) e k π):Gr (Ed l) e po (po.idxOf ·)/\∀ k∈aM l,k∈po:=by
 have me:e∈po:=by obtain ⟨l',q⟩:=h.pp.last;rw [q];simp
 have hD:∀ k,∀ π,fV (Ed l) e k π->k∈D:=fun k π q=>by
  induction q with
  | nil=>exact b.me
  | snoc _ hE ih=>exact b.cl _ ih _ hE
 have all:∀ k∈aM l,k∈po:=fun k m=>by
  obtain ⟨π,q⟩:=hr k m;exact b.all (·∈po) me (fun u v hu hE hb=>h.cl u hu v hE hb) k (hD k π q)
 refine ⟨⟨me,fun u mu ne=>?_,fun u mu=>List.idxOf_le_length,fun p u _ hE=>?_,fun p u _ hE=>all u (cl p u hE)⟩,all⟩
 ·obtain ⟨a,b,rfl⟩:=List.append_of_mem mu;have nd:=Jb.mp h.pp.nd;have nb:=I6.mp nd.2.1;rcases yT.at a h.pp.par with rfl | ⟨p,mp,hE⟩
  ·obtain ⟨l',q⟩:=h.pp.last
   have:=List.append_inj' q rfl
   exact absurd (List.cons.inj this.2).1 ne
  ·refine ⟨p,IT _ (.tail _ mp),hE,?_⟩;have n1:u∉a:=fun m=>nd.2.2 u m u (.head _) rfl;have n2:p∉a:=fun m=>nd.2.2 p m p (.tail _ mp) rfl;show List.idxOf u _<List.idxOf p _;rw [pI n1];exact rZ n2 fun c=>nb.1 (c▸mp)
 ·obtain ⟨a,xs,m,_⟩:=hE;exact all p (IR (f:=fun e:Int×Addr×List Int=>e.1) m)
theorem pY.of {po l' pre rest:List Int} {e u:Int} (nd:po.Nodup) (h:po=l'++[e]) (hr:l'.reverse=pre++u::rest):pY po (po.idxOf ·) e pre u:=by
 intros po l' pre rest e u
 intro nd h hr
 have hl:l'=rest.reverse++u::pre.reverse:=by
  have:=congrArg List.reverse hr
  rw [List.reverse_reverse] at this;rw [this];simp
 subst h;have nd':=Jb.mp nd;have n1:=nd'.1;rw [hl] at n1;have n2:=Jb.mp n1
 have mu:u∈l':=by rw [hl];simp
 refine ⟨IS _ mu,fun c=>nd'.2.2 u mu e (.head _) c,fun m=>?_,fun w mw ne lt=>?_⟩
 ·exact (I6.mp n2.2.1).1 (Ja.mpr m)
 ·have mw:w∈l':=(I1.mp mw).resolve_right fun m=>ne (IN.mp m);rw [hl] at mw;rcases I1.mp mw with m | m
  ·have h1:(rest.reverse++(u::(pre.reverse++[e]))).idxOf w<rest.reverse.length:=tK m;have h2:(rest.reverse++(u::(pre.reverse++[e]))).idxOf u=rest.reverse.length:=pI fun m'=>n2.2.2 u m' u (.head _) rfl
   have e':l'++[e]=rest.reverse++(u::(pre.reverse++[e])):=by rw [hl];simp
   rw [e'] at lt;lia
  ·rcases IZ.mp m with rfl | m
   ·exact absurd lt (Ji _)
   ·exact Ja.mp m
abbrev yh (ps:List (Int×Int)) (u N:Int):List (Int×Int):=if ps.any (fun p=>decide (p.1=u)) then ps.map fun p=>if p.1=u then (p.1,N) else p else ps++[(u,N)]
theorem vU {ps:List (Int×Int)} {u N:Int} (np:(ps.map (·.1)).Nodup):((yh ps u N).map (·.1)).Nodup/\∀ q,q∈yh ps u N↔(q.1≠u/\q∈ps)\/q=(u,N):=by
 intros ps u N
 intro np;unfold yh
 by_cases c:ps.any (fun p=>decide (p.1=u))=true
 ·rw [if_pos c]
  have hk:(ps.map fun p=>if p.1=u then (p.1,N) else p).map (·.1)=ps.map (·.1):=by
   rw [Jk]
   exact List.map_congr_left fun p _=>by dsimp only [Function.comp];split <;> rfl
  refine ⟨by rw [hk];exact np,fun q=>⟨fun m=>?_,fun o=>?_⟩⟩
  ·obtain ⟨p,mp,rfl⟩:=I0.mp m
   by_cases e:p.1=u
   ·rw [if_pos e,e];exact .inr rfl
   ·rw [if_neg e];exact .inl ⟨e,mp⟩
  ·rcases o with ⟨n,m⟩ | rfl
   ·exact I0.mpr ⟨q,m,if_neg n⟩
   ·obtain ⟨p,mp,hp⟩:=List.any_eq_true.mp c;have hp:=Jf hp;exact I0.mpr ⟨p,mp,by rw [if_pos hp,hp]⟩
 ·rw [if_neg c];have nu:∀ p∈ps,p.1≠u:=fun p m q=>c (List.any_eq_true.mpr ⟨p,m,I5 q⟩);refine ⟨?_,fun q=>⟨fun m=>?_,fun o=>?_⟩⟩
  ·rw [I2];refine Jb.mpr ⟨np,I6.mpr ⟨(fun q=>nomatch q), .nil⟩,fun x mx y my q=>?_⟩;obtain ⟨p,mp,rfl⟩:=I0.mp mx;exact nu p mp (q.trans (IN.mp my))
  ·rcases I1.mp m with m | m
   ·exact .inl ⟨nu q m,m⟩
   ·exact .inr (IN.mp m)
  ·rcases o with ⟨_,m⟩ | rfl
   ·exact IS _ m
   ·exact IT _ (.head _)
abbrev BX:Pos:=⟨242,8,248,20⟩
abbrev yg:Pos:=⟨266,45,266,85⟩
abbrev FF:Str:=yF ++ ".<locals>." ++ "<genexpr>"
inductive eF (σ:am):Prop
 | mk (ps:Array Value) (h:σ 419=some (.raw (bT ps))) (tr:TriplesOk ps.toList) (p1:dF σ 419 ps BX BL) (p2:dF σ 419 ps yg FF):eF σ
theorem dF.ex {σ σ':am} {D:List Addr} {P:Addr} {ps:Array Value} {pos:Pos} {q:Str} (h:dF σ P ps pos q) (e:Ex D σ σ') (n:∀ a y,σ a=some (.raw y)->a∉D):dF σ' P ps pos q:=by
 cases h with
 | new h=>exact .new h
 | old c' oc h1 hc is cP=>exact .old c' oc h1 (e _ _ (n _ _ hc) hc) is cP
theorem eF.ex {σ σ':am} {D:List Addr} (h:eF σ) (e:Ex D σ σ') (n:∀ a y,σ a=some (.raw y)->a∉D):eF σ':=by
 cases h with | mk ps h tr p1 p2=>exact ⟨ps,e _ _ (n _ _ h) h,tr,p1.ex e n,p2.ex e n⟩
theorem jw.ex {σ σ':am} {P:Addr} {ps:Array Value} {pos:Pos} {q:Str} {c':Addr} (k:jw σ σ' P ps pos q c'):Ex [P] σ σ':=by
 cases k with | mk _ _ _ _ _ _ _ _ ext _=>exact fun a x n h=>ext a x (fun c=>n (by rw [c];exact .head _)) h
set_option genInjectivity false in
structure y9 where
 f:Addr
 c':Addr
 cd:Addr
 cx:Addr
 dd:Addr
 dx:Addr
 O:Addr
 P:Addr
 tp:Addr
 pm:Value
instance iId:Nonempty y9:=⟨by constructor <;> first | exact (0:Nat) | exact .none | exact [] | exact false | exact fun _=> .none | exact fun _=>False⟩
structure u3 (a:y9) (lp:cU) (po ro:List Int) (ps:List (Int×Int)) (σ:am):Prop where
 hf:jG σ a.f (AW a.cd a.cx a.pm a.tp a.c')
 hcd:σ a.cd=some (.cell (some (.ref a.dd)))
 hcx:σ a.cx=some (.cell (some (.ref a.dx)))
 hdx:∃ ox,σ a.dx=some (.idict (xO po) ox)
 hO:σ a.O=some (.list (aB ro))
 hd:∃ od,σ a.dd=some (.idict (dC ps) od)
 hP:g7 σ a.P lp
 tab:eF σ
 nd:a.dx≠a.dd/\a.P≠a.dd/\a.f≠419/\a.c'≠419
theorem jG.but {σ σ':am} {x f c:Addr} {fd:FuncData} (h:jG σ f fd) (e:Ex [x] σ σ') (hf:f≠x) (ec:fd.code = .ref c) (hc:c≠x):jG σ' f fd:=by
 cases h with | mk c' oc h e' hc' is=>
 have:c=c':=by rw [ec] at e';cases e';rfl
 exact ⟨c',oc,e.but h hf,e',e.but hc' (this▸hc),is⟩
variable {a:y9} {lp:cU} {po ro:List Int} {ps ps':List (Int×Int)} {σ σ':am}
theorem u3.put {od:Obj} (F:u3 a lp po ro ps σ) (e:Ex [a.dd] σ σ') (h:σ' a.dd=some (.idict (dC ps') od)):u3 a lp po ro ps' σ':=by
 obtain ⟨o,hd⟩:=F.hd;have nr:∀ b y,σ b=some (.raw y)->b∉[a.dd]:=fun b y q m=>bM q hd ∅ (IN.mp m);obtain ⟨op,hp,aa⟩:=id F.hP
 exact ⟨F.hf.ex e nr,e.but F.hcd (bM F.hcd hd ∅),e.but F.hcx (bM F.hcx hd ∅),F.hdx.imp fun _ q=>e.but q F.nd.1,e.but F.hO (bM F.hO hd ∅),⟨_,h⟩,F.hP.ex e (fun m=>F.nd.2.1 (IN.mp m)) (fun b mb m=>by
  obtain ⟨x,mx,rfl⟩:=I0.mp mb;obtain ⟨o,ho⟩:=aa x mx
  exact bM ho hd ∅ (IN.mp m)),F.tab.ex e nr,F.nd⟩
theorem u3.coded {qs:Array Value} {pos:Pos} {q:Str} {c':Addr} (F:u3 a lp po ro ps σ) (hq:σ 419=some (.raw (bT qs))) (k:jw σ σ' 419 qs pos q c') (tab:eF σ'):u3 a lp po ro ps σ':=by
 obtain ⟨o,hd⟩:=F.hd;obtain ⟨op,hp,aa⟩:=id F.hP;have e:=k.ex
 exact ⟨F.hf.but e F.nd.2.2.1 rfl F.nd.2.2.2,e.but F.hcd (bM F.hcd hq ∅),e.but F.hcx (bM F.hcx hq ∅),F.hdx.imp fun _ q=>e.but q (bM q hq ∅),e.but F.hO (bM F.hO hq ∅),⟨_,e.but hd (bM hd hq ∅)⟩,F.hP.ex e (fun m=>bM hp hq ∅ (IN.mp m)) (fun b mb m=>by
  obtain ⟨x,mx,rfl⟩:=I0.mp mb;obtain ⟨o,ho⟩:=aa x mx
  exact bM ho hq ∅ (IN.mp m)),tab,F.nd⟩
abbrev eP (l:List Addr) (σ:am):am:=fun b=>if b∈l then σ b else none
theorem cZ {l:List Addr} {b:Addr} (m:b∈l):eP l σ b=σ b:=if_pos m
theorem j8 {l:List Addr} {b:Addr} {x:bL} (h:eP l σ b=some x):b∈l/\σ b=some x:=by
 unfold eP at h
 by_cases c:b∈l
 ·rw [if_pos c] at h;exact ⟨c,h⟩
 ·rw [if_neg c] at h;injection h
structure u4 (a:y9) (ch:Bool) (ρ:aX):Prop where
 rf:ρ "intersect" = some (.ref a.f)
 rP:ρ "preds_table" = some (.ref a.P)
 rO:ρ "order" = some (.ref a.O)
 rc:ρ "changed" = some (.bool ch)
theorem u4.set {ch:Bool} {ρ:aX} {x:Str} {v:V} (h:u4 a ch ρ) (n: "intersect" ≠x/\ "preds_table" ≠x/\ "order" ≠x/\ "changed" ≠x):u4 a ch (ρ.set x v):=
 ⟨aw h.rf n.1,aw h.rP n.2.1,aw h.rO n.2.2.1,aw h.rc n.2.2.2⟩
theorem u4.chg {ch b:Bool} {ρ:aX} (h:u4 a ch ρ):u4 a b (ρ.set "changed" (.bool b)):=⟨aw h.rf,aw h.rP,aw h.rO,bK⟩
structure Fd (l lp:cU) (po:List Int) (e:Int):Prop where
 nk:(aM lp).Nodup
 row:∀ u∈po,∃ au xu,(u,au,xu)∈lp/\∀ p,p∈xu↔Ed l p u
 nd:po.Nodup
 g:Gr (Ed l) e po (po.idxOf ·)
 hl:po.length<30
abbrev xJ (a:y9) (L:Addr):Env:=aR cr 422 L [("idx",a.cx),("idom",a.cd)]
noncomputable abbrev jm (s:Stmt):List Stmt:=kD s
theorem fQ {i:Int}:(bS (dC ps) i).isSome=true↔i∈ps.map (·.1):=by
 unfold bS dC;rw [Option.isSome_map,List.find?_isSome];constructor
 ·rintro ⟨x,mx,hx⟩;obtain ⟨p,mp,rfl⟩:=I0.mp mx;exact (Jf hx:p.1=i)▸IR (f:=fun p:Int×Int=>p.1) mp
 ·intro m;obtain ⟨p,mp,rfl⟩:=I0.mp m;exact ⟨(p.1, .int p.2),I0.mpr ⟨p,mp,rfl⟩,by simp⟩
theorem Aj {u N:Int}:eY (dC ps) u (.int N)=dC (yh ps u N):=by
 intros ps u N
 unfold eY yh dC;rw [List.any_map]
 show (if ps.any (fun p=>decide (p.1=u))=true then _ else _)=List.map _ (if _ then _ else _)
 by_cases c:ps.any (fun p=>decide (p.1=u))=true
 ·rw [if_pos c,if_pos c,Jk,Jk]
  exact List.map_congr_left fun p _=>by
   dsimp only [Function.comp]
   split <;> rfl
 ·rw [if_neg c,if_neg c,I2];rfl
section
variable {A:Around} {w:World} {mg mb:Str->Option Value} {os:OsState} {σ:am}
theorem uD {w:World}:fe (K8 w.params) 421 419:=⟨_,_,_,_,_,_,_,_,_,_,(rfl:(K8 w.params).lookup 421=_),rfl,rfl,rfl,rfl,rfl⟩
theorem vH {a:y9} {l lp:cU} {po ro done:List Int} {e u:Int} {ps:List (Int×Int)} {j:Nat} {ch:Bool} {L:Addr} {ρ:aX} {Q:F->aX->am->Prop} (r:Rm 60 A) (H:Fd l lp po e) (F:u3 a lp po ro ps σ) (Lo:u4 a ch ρ) (hu:ρ "u" = some (.int u)) (h:It (Ed l) e po (po.idxOf ·) j done ps ch) (t:pY po (po.idxOf ·) e done u)
  (q:∀ ρ' σ' ps' ch',It (Ed l) e po (po.idxOf ·) j (u::done) ps' ch'->u3 a lp po ro ps' σ'->u4 a ch' ρ'->Ex [a.dd,419] σ σ'->Q .next ρ' σ'):WL (G8 w mg mb os) A (xJ a L) (jm ((ju (kR cr 9)).getD 1 (.Pass ⟨0,0,0,0⟩))) ρ σ Q:=by
 intros A w mg mb os σ a l lp po ro done e u ps j ch L ρ Q
 intro r H F Lo hu h t q;show WL _ _ _ (_::_) _ _ _;ac_rfl;obtain ⟨au,xu,mu,hxu⟩:=H.row u t.mu;obtain ⟨op,hp,aa⟩:=id F.hP;obtain ⟨ou,hau⟩:=aa _ mu;obtain ⟨od,hd⟩:=F.hd;obtain ⟨ox,hdx⟩:=F.hdx
 cases id F.tab with | mk qs h419 tr p1 p2=>
 cases id F.hf with | mk c0 oc hf ec hc is=>
 right
 have ec:a.c'=c0:=by have:Value.ref a.c' = .ref c0:=ec;cases this;rfl
 rw [<- ec] at hc;have hix:∀ k∈ps.map (·.1),po.idxOf k<=po.length:=fun k m=>H.g.top k (h.sub k m);have IH:u5 (eP [a.f,a.c',a.cd,a.cx,a.dd,a.dx] σ) a.f a.cd a.cx a.dd a.dx a.tp a.c' a.pm od ox e po ps:=⟨⟨a.c',oc,(cZ (.head _)).trans hf,rfl,(cZ (.tail _ (.head _))).trans hc,is⟩,(cZ (.tail _ (.tail _ (.head _)))).trans F.hcd,(cZ (.tail _ (.tail _ (.tail _ (.head _))))).trans F.hcx,(cZ (.tail _ (.tail _ (.tail _ (.tail _ (.head _)))))).trans hd,(cZ (.tail _ (.tail _ (.tail _ (.tail _ (.tail _ (.head _))))))).trans hdx,h.T,h.sub,H.nd⟩;have ex:∀ x y,x∈ps.map (·.1)->y∈ps.map (·.1)->∃ z,oG ps x y z:=fun x y mx my=>BS h.T hix IH.inj (2*po.length) x y mx my (by lia)
 have RH:De (G8 w mg mb os) A (xJ a L) ρ σ (eP [a.f,a.c',a.cd,a.cx,a.dd,a.dx] σ) a.f au a.dd a.cd 421 419 qs xu ou (dC ps) od yg (AX ps) (·∈ps.map (·.1)):=by
  refine ⟨r.hh,r.room,x7,rfl,hau,F.hcd,hd,rfl,uD,h419,tr,by decide,p2,fun b x e'=>?_,?_,fun i k hi hk=>?_,fun i mi hi=>fQ.mp hi,?_⟩
  ·obtain ⟨m,e'⟩:=j8 e';refine ⟨e',?_⟩;exact BR (P:=fun b=>σ b=some x->x.mut=true/\cV x) m (fun e'=>Option.some.inj (hf.symm.trans e')▸⟨rfl, .raw⟩) (fun e'=>Option.some.inj (hc.symm.trans e')▸⟨rfl, .raw⟩) (fun e'=>Option.some.inj (F.hcd.symm.trans e')▸⟨rfl, .cell⟩) (fun e'=>Option.some.inj (F.hcx.symm.trans e')▸⟨rfl, .cell⟩) (fun e'=>Option.some.inj (hd.symm.trans e')▸⟨rfl, .idict⟩) (fun e'=>Option.some.inj (hdx.symm.trans e')▸⟨rfl, .idict⟩) e'
  ·refine if_neg fun m=>?_;exact BR (P:=fun y=>419=y->False) m (fun m=>F.nd.2.2.1 m.symm) (fun m=>F.nd.2.2.2 m.symm) (fun m=>bM h419 F.hcd (by intro c;cases c) m) (fun m=>bM h419 F.hcx (by intro c;cases c) m) (fun m=>bM h419 hd (by intro c;cases c) m) (fun m=>bM h419 hdx (by intro c;cases c) m) rfl
  ·obtain ⟨z,hz⟩:=ex i k hi hk;exact ⟨by rw [hz.eq h.T];exact h.T.ukey hz.hl hi,rV ((r.in1 (n:=59)).le (by decide)) IH hi hk⟩
  ·obtain ⟨p,mp,hE,lt⟩:=H.g.par u t.mu t.ne;refine ⟨p,(hxu p).mpr hE,fQ.mpr ?_⟩
   by_cases q:p=e
   ·rw [q];exact h.T.key
   ·exact h.dk p (t.aft p mp q lt)
 refine al (ar (vf RH (ah (aQ vD ⟨rfl,rfl⟩)) (ah (ak Lo.rf ⟨rfl,rfl⟩)) (aG (ah (ak Lo.rP (ah (ak hu ⟨PG.dict hp,bb hp (bQ H.nk mu) ⟨rfl,rfl⟩⟩))))) rfl (cl:=[("idom",a.cd)]) (⋯) (by decide) rfl rfl rfl rfl (⋯) (by decide) (by decide) (by decide) rfl (fun _=>rfl) fun σ' c1 ys k rest perm hfl cd=>az ?_))
 have tab':eF σ':=by
  cases id cd with | mk qs' oc' hP' tr' here hcc is' cP ext other=>exact ⟨qs',hP',tr',p1.step cd (by decide) hP', .old c1 oc' here hcc is' cP⟩
 have F':=F.coded h419 cd tab';obtain ⟨od',hd'⟩:=F'.hd
 have mem:∀ y,y∈k::rest↔Ed l y u/\y∈ps.map (·.1):=fun y=>by
  rw [<- hfl,List.mem_filter,perm.mem_iff,hxu y];exact and_congr Iff.rfl fQ
 have fold:=x9 h.T ex rest k ((mem k).mp (.head _)).2 fun y m=>((mem y).mp (.tail _ m)).2;have nw:CE (Ed l) ps u (rest.foldl (AX ps) k):=⟨fun y hE my=>fold.1 y ((mem y).mpr ⟨hE,my⟩),fun d hd=>fold.2 d fun y m=>hd y ((mem y).mp m).1 ((mem y).mp m).2⟩;generalize rest.foldl (AX ps) k=N at nw ⊢;have hu:(ρ.set "new_idom" (.int N)) "u" = some (.int u):=aw hu;have hn:(ρ.set "new_idom" (.int N)) "new_idom" = some (.int N):=bK;have Lo:=Lo.set (x:= "new_idom") (v:= .int N) (by decide);generalize ρ.set "new_idom" (.int N)=ρ1 at hu hn Lo ⊢
 have lk:ps.length<=po.length:=by
  have:=IQ h.T.np (l₂:=po) fun k m=>h.sub k m
  rwa [IP] at this
 have hl:=H.hl;refine al (bO (WT.mono (Q:=fun b τ=>τ=σ'/\(b=true↔(u,N)∉ps)) (dv (mF (aI (ah (ak hu (ah (bJ (c:=a.cd) (⋯) F'.hcd (gE hd' (aV ?_))))))))) fun b τ hb=>?_))
 ·by_cases mk:u∈ps.map (·.1)
  ·rw [fQ.mpr mk];ac_rfl;obtain ⟨⟨u',v0⟩,mm,hu0⟩:=I0.mp mk;right;replace mm:(u,v0)∈ps:=hu0▸mm;refine mF (aI (aG (ah (bJ (c:=a.cd) (⋯) F'.hcd (ah (ak hu ⟨PG.dict hd',bb hd' (c9 h.T.np mm) (ah (ak hn (pv (aV ?_))))⟩))))))
   by_cases c:v0=N
   ·rw [show (v0 != N)=false by simp [c]];exact kq ⟨rfl,⟨(fun q=>nomatch q),fun q=>absurd (c▸mm) q⟩⟩
   ·rw [show (v0 != N)=true by simp [c]];exact ⟨rfl,⟨fun _ m=>c (h.T.one mm m),fun _=>rfl⟩⟩
  ·rw [show (bS (dC ps) u).isSome=false from Bool.eq_false_iff.mpr fun q=>mk (fQ.mp q)];exact ⟨rfl,⟨fun _ m=>mk (IR (f:=fun p:Int×Int=>p.1) m),fun _=>rfl⟩⟩
 ·rw [hb.1]
  cases b with
  | true=>
   have hno:=hb.2.mp rfl;refine al (aY (ah (ak hn (bz (ah (bJ (c:=a.cd) (⋯) F'.hcd (ah (ak hu ?_))))))));refine bZ hd' (by unfold dC;rw [IP];exact sY lk hl rfl) fun oq=>aZ (P:=fun s=>WL _ _ _ _ _ s _) fun σ2 f2 e2=>?_;refine al (ar (g8 (az (aE (aE ?_)))));rw [Aj] at f2;obtain ⟨np,hm⟩:=vU (ps:=ps) (u:=u) (N:=N) h.T.np;exact q _ _ _ true (h.set H.g t nw hno np hm) (F'.put e2 f2) Lo.chg ((cd.ex.mono fun b m=> .tail _ m).trans (e2.mono fun b m=>by rw [IN.mp m];exact .head _))
  | false=>
   have hin:(u,N)∈ps:=IW fun c=>nomatch hb.2.mpr c;exact aE (aE (q _ _ _ ch (h.same H.g t nw hin) F' Lo (cd.ex.mono fun b m=> .tail _ m)))
inductive Bi (a:y9) (d:Addr) (vd:bL) (σ₀:am) (l lp:cU) (e:Int) (po ro:List Int) (n:Nat) (ρ:aX) (σ:am):Prop
 | run (j:Nat) (ps:List (Int×Int)) (h:It (Ed l) e po (po.idxOf ·) j [] ps false) (F:u3 a lp po ro ps σ) (Lo:u4 a true ρ) (tb:bP σ 460 bX cS) (hd:σ d=some vd) (ke:Ex [d,419,460] σ₀ σ) (hn:n+j=po.length+1) (hj:j<=po.length):Bi a d vd σ₀ l lp e po ro n ρ σ
 | stop (ps:List (Int×Int)) (D:eE (Ed l) e po ps) (F:u3 a lp po ro ps σ) (Lo:u4 a false ρ) (tb:bP σ 460 bX cS) (hd:σ d=some vd) (ke:Ex [d,419,460] σ₀ σ):Bi a d vd σ₀ l lp e po ro n ρ σ
inductive C6 (a:y9) (d:Addr) (vd:bL) (σ₀:am) (l lp:cU) (e:Int) (po ro:List Int) (j:Nat) (xs:List V) (ρ:aX) (σ:am):Prop
 | mk (pre post:List Int) (ps:List (Int×Int)) (ch:Bool) (er:ro=pre++post) (ex:xs=aB post) (h:It (Ed l) e po (po.idxOf ·) j pre.reverse ps ch) (F:u3 a lp po ro ps σ) (Lo:u4 a ch ρ) (tb:bP σ 460 bX cS) (hd:σ d=some vd) (ke:Ex [d,419,460] σ₀ σ):C6 a d vd σ₀ l lp e po ro j xs ρ σ
structure C7 (σ:am) (x d S P:Addr) (m:Str->Option V) (n:Nat) (ob:Obj) (l lp:cU) (e:Int):Prop where
 B:kW σ x d S m n true ob l e
 hn:n<800
 mP:m Cu=some (.ref P)
 mB:m jP=none
 mD:m qS=none
 m1:m "_find_postorder" = none
 m2:m "_find_back_edges" = none
 hP:g7 σ P lp
 nkp:(aM lp).Nodup
 row:∀ u∈aM l,∃ au xu,(u,au,xu)∈lp/\∀ p,p∈xu↔Ed l p u
 reach:∀ k∈aM l,∃ π,fV (Ed l) e k π
 tab:eF σ
inductive Bc (σ₀:am) (acc:Addr) (po:List Int) (xs:List V) (σ:am):Prop
 | mk (pre post:List Int) (e:po=pre++post) (ex:xs=rR pre.length (aB post)) (h:∃ o,σ acc=some (.idict (xO pre) o)) (ke:Ex [] σ₀ σ):Bc σ₀ acc po xs σ
theorem xQ {pre:List Int} {c:Int} (h:c∉pre):eY (xO pre) c (.int pre.length)=xO (pre++[c]):=by
 unfold eY;rw [if_neg]
 ·unfold xO;rw [List.zipIdx_append,I2]
  simp
 ·intro q;ac_rfl;obtain ⟨x,mx,hx⟩:=List.any_eq_true.mp q;right;unfold xO at mx;obtain ⟨p,mp,rfl⟩:=I0.mp mx
  have:=List.fst_mem_of_mem_zipIdx mp
  exact h ((Jf hx:p.1=c)▸this)
theorem hZ {q:Str} {ps:Array Value} (h:ml q (bT ps)) (tr:TriplesOk ps.toList):False:=by
 intros q ps
 intro h tr
 cases h with | mk vs t d h=>
 obtain rfl:=(show ps=vs from by cases d;rfl);rw [<- Array.getElem?_toList] at h
 match hl:ps.toList with
 | []=>rw [hl] at h;injection h
 | [_]=>rw [hl] at h;injection h
 | a::b::r=>
  rw [hl] at h tr
  (injection h with zz;subst zz)
  cases a <;> first | exact tr.elim | (cases r <;> exact tr.elim)
theorem dF.tab {σ σ':am} {P P':Addr} {ps qs:Array Value} {pos:Pos} {q:Str} (h:dF σ P ps pos q) (e:Ex [P'] σ σ') (hP:σ P'=some (.raw (bT qs))) (tr:TriplesOk qs.toList):dF σ' P ps pos q:=by
 cases h with
 | new h=>exact .new h
 | old c' oc h1 hc is cP=>exact .old c' oc h1 (e.but hc fun c=>by rw [c,hP] at hc;cases hc;exact hZ is tr) is cP
theorem bP.tab {σ σ':am} {P P':Addr} {qs:Array Value} {pos:Pos} {q:Str} (h:bP σ P pos q) (e:Ex [P'] σ σ') (ne:P≠P') (hP:σ P'=some (.raw (bT qs))) (tr:TriplesOk qs.toList):bP σ' P pos q:=by
 cases h with | mk ps h tr' pl=>exact ⟨ps,e.but h ne,tr',pl.tab e hP tr⟩
theorem eF.tab {σ σ':am} {P':Addr} {qs:Array Value} (h:eF σ) (e:Ex [P'] σ σ') (ne:419≠P') (hP:σ P'=some (.raw (bT qs))) (tr:TriplesOk qs.toList):eF σ':=by
 cases h with | mk ps h tr' p1 p2=>exact ⟨ps,e.but h ne,tr',p1.tab e hP tr,p2.tab e hP tr⟩
theorem bP.exr {σ σ':am} {D:List Addr} {P:Addr} {pos:Pos} {q:Str} (h:bP σ P pos q) (e:Ex D σ σ') (n:∀ a y,σ a=some (.raw y)->a∉D):bP σ' P pos q:=by
 cases h with | mk ps h tr pl=>exact ⟨ps,e _ _ (n _ _ h) h,tr,pl.ex e n⟩
theorem eF.at (h:eF σ):∃ qs,σ 419=some (.raw (bT qs))/\TriplesOk qs.toList:=by cases h with | mk ps h tr _ _=>exact ⟨ps,h,tr⟩
theorem bP.at {P:Addr} {pos:Pos} {q:Str} (h:bP σ P pos q):∃ qs,σ P=some (.raw (bT qs))/\TriplesOk qs.toList:=by cases h with | mk ps h tr _=>exact ⟨ps,h,tr⟩
theorem sP {τ:am} {P:Addr} {o:Obj} (h:τ P=some (.raw o)):∀ (a:Addr) (y:bL),τ a=some y->(∀ kvs o,y≠ .idict kvs o)/\(∀ xs o,y≠ .iset xs o)\/a∉[P]:=fun a y q=>by
 by_cases c:a=P
 ·rw [c,h] at q; (injection q with zz;subst zz);exact .inl ⟨(fun _ _ c=>by injection c),fun _ _ c=>by injection c⟩
 ·exact .inr fun m=>c (IN.mp m)
theorem jq {τ:am} {P:Addr} {m n b o} (h:τ P=some (.ns m n b o)):∀ (a:Addr) (y:bL),τ a=some y->(∀ kvs o,y≠ .idict kvs o)/\(∀ xs o,y≠ .iset xs o)\/a∉[P]:=fun a y q=>by
 by_cases c:a=P
 ·rw [c,h] at q; (injection q with zz;subst zz);exact .inl ⟨(fun _ _ c=>by injection c),fun _ _ c=>by injection c⟩
 ·exact .inr fun m=>c (IN.mp m)
theorem jr {τ:am} {P:Addr} {z:bL} (h:τ P=some z) (h1:∀ kvs o,z≠ .idict kvs o) (h2:∀ xs o,z≠ .iset xs o):∀ (a:Addr) (y:bL),τ a=some y->(∀ kvs o,y≠ .idict kvs o)/\(∀ xs o,y≠ .iset xs o)\/a∉[P]:=fun a y q=>by
 by_cases c:a=P
 ·rw [c,h] at q; (injection q with zz;subst zz);exact .inl ⟨h1,h2⟩
 ·exact .inr fun m=>c (IN.mp m)
theorem dT {τ:am} {P:Addr} {z:bL} (h:τ P=some z) (h1:∀ o,z≠ .raw o):∀ a y,τ a=some (.raw y)->a∉[P]:=fun a y q m=>bM q h (fun c=>h1 _ c.symm) (IN.mp m)
theorem g7.stay {σ σ':am} {D:List Addr} {p:Addr} {l:cU} (h:g7 σ p l) (e:Ex D σ σ') (n:∀ a y,σ a=some y->(∀ kvs o,y≠ .idict kvs o)/\(∀ xs o,y≠ .iset xs o)\/a∉D):g7 σ' p l:=by
 ac_rfl;obtain ⟨op,hp,aa⟩:=id h;right;refine h.ex e ((n _ _ hp).resolve_left fun c=>c.1 _ _ rfl) fun b mb=>?_;obtain ⟨x,mx,rfl⟩:=I0.mp mb;obtain ⟨o,ho⟩:=aa x mx;exact (n _ _ ho).resolve_left fun c=>c.2 _ _ rfl
abbrev ie (fd:FuncData):List Stmt:=match fd.body with
 | .stmts l=>l
 | _=>[]
theorem bP.two {σ':am} {dd:Addr} {ps:List (Int×V)} {od:Obj} {qs:Array Value} (h:bP σ 460 bX cS) (e:Ex [dd,419] σ σ') (hd:σ dd=some (.idict ps od)) (h9:σ 419=some (.raw (bT qs))) (t9:TriplesOk qs.toList):bP σ' 460 bX cS:=by
 have nin:∀ {b o},σ b=some (.raw o)->b≠419->b∉[dd,419]:=fun h1 h2 m=>by
  simp only [IZ,I3,or_false] at m;exact m.elim (bM h1 hd ∅) h2
 cases h with | mk ps h tr pl=>
 refine ⟨ps,e _ _ (nin h (by decide)) h,tr,?_⟩
 cases pl with
 | new h=>exact .new h
 | old c' oc h1 hc is cP=>exact .old c' oc h1 (e _ _ (nin hc fun c=>by rw [c,h9] at hc;cases hc;exact hZ is t9) hc) is cP
theorem vG {a:y9} {d:Addr} {vd:bL} {σ₀:am} {l lp:cU} {e:Int} {po l':List Int} {L:Addr} {ρ:aX} {Q:F->aX->am->Prop} (r:Rm 78 A) (H:Fd l lp po e) (hl':po=l'++[e]) (F:u3 a lp po l'.reverse [(e,e)] σ) (Lo:u4 a true ρ) (tb:bP σ 460 bX cS) (hd:σ d=some vd) (nvd:(∀ k o,vd≠ .idict k o)/\∀ o,vd≠ .raw o) (ke:Ex [d,419,460] σ₀ σ) (zdd:σ₀ a.dd=none)
  (q:∀ ρ' σ' ps od,eE (Ed l) e po ps->σ' a.dd=some (.idict (dC ps) od)->σ' d=some vd->Ex [d,419,460] σ₀ σ'->bP σ' 460 bX cS->eF σ'->Q (.ret (.ref a.dd)) ρ' σ'):WL (G8 w mg mb os) A (xJ a L) ((ie cr).drop 9) ρ σ Q:=by
 intros A w mg mb os σ a d vd σ₀ l lp e po l' L ρ Q
 intro r H hl' F Lo tb hd nvd ke zdd q;show WL _ _ _ (_::_) _ _ _;have nd:=H.nd
 have all:∀ u∈po,u≠e->u∈l'.reverse:=fun u mu ne=>Ja.mpr (by
  rw [hl'] at mu
  exact (I1.mp mu).resolve_right fun m=>ne (IN.mp m))
 refine al (dJ (Bi a d vd σ₀ l lp e po l'.reverse) (po.length+1) (.run 0 _ (.first H.g) F Lo tb hd ke rfl (Nat.zero_le _)) fun n ρ1 σ1 iv=>?_)
 cases iv with
 | stop ps D F Lo tb hd ke=>
  obtain ⟨od,hdd⟩:=F.hd;refine eK (ah (ak Lo.rc (aV (aE ?_))));exact al (bA (ah (bJ (c:=a.cd) (⋯) F.hcd (q _ _ _ _ D hdd hd ke tb F.tab))))
 | run j ps h F Lo tb hd ke hn hj=>
  refine eK (ah (ak Lo.rc (aV ?_)));refine iR fun Q' hQ=>?_;refine al (ar (g8 (az ?_)));have Lo:=Lo.chg (b:=false);generalize ρ1.set "changed" (.bool false)=ρ1 at Lo ⊢;refine al (d6 (ah (ak Lo.rO (fY r.hh (.inl F.hO) ?_))));refine cD (C6 a d vd σ₀ l lp e po l'.reverse j) ?_ ?_ _ ⟨[],l'.reverse,ps,false,rfl,rfl,h,F,Lo,tb,hd,ke⟩
  ·intro y xs ρ2 σ2 fv
   cases fv with | mk pre post ps ch er ex h F Lo tb hd ke=>
   cases post with
   | nil=>injection ex
   | cons u post=>
    cases ex;refine bo (az ?_);have hu:(ρ2.set "u" (.int u)) "u" = some (.int u):=bK;have Lo:=Lo.set (x:= "u") (v:= .int u) (by decide);generalize ρ2.set "u" (.int u)=ρ2 at hu Lo ⊢;have t:=pY.of nd hl' er;have t':pY po (po.idxOf ·) e pre.reverse u:=⟨t.mu,t.ne,fun m=>t.nd (Ja.mp m),fun w mw ne lt=>Ja.mpr (t.aft w mw ne lt)⟩;ac_rfl
    obtain ⟨q9,h9,t9⟩:=F.tab.at
    obtain ⟨od,hdd⟩:=F.hd;right;refine iR fun Q2 hQ2=>Eq.mp (⋯) (vH (w:=w) (mg:=mg) (mb:=mb) (os:=os) (L:=L) (Q:=Q2) (r.le (by decide)) H F Lo hu h t' fun ρ' σ' ps' ch' h' F' Lo' ee=>hQ2 _ _ _ ⟨.inl F'.hO,⟨pre++[u],post,ps',ch',by rw [er];simp,rfl,by rw [List.reverse_append];exact h',F',Lo',tb.two ee hdd h9 t9,ee _ _ (fun m=>?_) hd,fun b y n hb=>ee _ _ (fun m=>?_) (ke b y n hb)⟩⟩)
    ·simp only [IZ,I3,or_false] at m;rcases m with m | m
     ·exact nvd.1 (dC ps) od (Option.some.inj (hd.symm.trans (m▸hdd)))
     ·exact nvd.2 (bT q9) (Option.some.inj (hd.symm.trans (m▸h9)))
    ·simp only [IZ,I3,or_false] at m n;rcases m with m | m
     ·rw [m,zdd] at hb;cases hb
     ·exact n (.inr (.inl m))
  ·intro ρ2 σ2 fv
   cases fv with | mk pre post ps ch er ex h F Lo tb hd ke=>
   cases post with
   | cons _ _=>injection ex
   | nil=>
    rw [List.append_nil] at er;have all':∀ u∈po,u≠e->u∈pre.reverse:=fun u mu ne=>Ja.mpr (er▸all u mu ne)
    cases ch with
    | true=>
     obtain ⟨lt,h'⟩:=h.next H.g all';exact aE (aE (hQ _ _ _ ⟨n - 1,by lia, .run (j+1) ps h' F Lo tb hd ke (by lia) lt⟩))
    | false=>exact aE (aE (hQ _ _ _ ⟨0,by lia, .stop ps (h.end H.g all') F Lo tb hd ke⟩))
theorem BA {x d S P:Addr} {m n ob} {l lp:cU} {e:Int} {Q:V->am->Prop} (r:Rm 79 A) (H:C7 σ x d S P m n ob l lp e)
  (q:∀ σ' dd od ps po B ob',σ dd=none->σ' dd=some (.idict (dC ps) od)->eE (Ed l) e po ps->(∀ k,k∈po↔k∈aM l)->σ' d=some (.ns (js m jP (.ref B)) (n+1) true ob')->Ex [d,419,460] σ σ'->bP σ' 460 bX cS->eF σ'->Q (.ref dd) σ'):eS (G8 w mg mb os) A (.ref 422) [.ref x] [] σ Q:=by
 intros A w mg mb os σ x d S P m n ob l lp e Q
 intro r H q;refine jt (fd:=cr) (bv:=[(gK, .ref x),("preds", .none),("entry_point", .none),("succs", .none),("back_edges", .none)]) (zH (⋯) rfl (⋯) (mX (ds:=["preds", "entry_point", "succs", "back_edges"]) fun _ _=>by kernel_rfl) (⋯) (⋯)) r.room ?_
 injections L
 intro hL;refine aO rfl (aO rfl (aO rfl (aO rfl (aO rfl (aO rfl (aO rfl (aO rfl (aO rfl (aO rfl (aO rfl (aO rfl (b8 fun cd σ1 hc1 f1 e1=>b8 fun cx σ2 hc2 f2 e2=>b6 (⋯) ?_))))))))))));refine az (az (az (az (az ?_))));show WL _ _ _ (_::_) _ _ _;have k2:Ex [] σ σ2:=e1.trans e2;have zx:σ cx=none:=e1.none hc2 (fun m=>nomatch m);have cdx:cd≠cx:=aW f1 hc2;have nr:∀ {τ τ':am},∀ a y,τ a=some (.raw y)->a∉([]:List Addr):=fun _ _ _ m=>nomatch m
 cases H.tab.ex k2 (fun _ _ _ m=>nomatch m) with | mk qs h419 tr p1 p2=>
 refine al (iY (q:=BL) x7 uD h419 tr (by decide) p1 (cl:=[("idx",cx),("idom",cd)]) (⋯) rfl (fun f c' tp pm σ3 hcd hf=>bj (P:=fun s=>WB _ _ _ _ _ _ s _) hf fun σ4 f4 e4=>az ?_) rfl rfl rfl rfl rfl rfl)
 cases id hcd with | mk qs' oc hP' tr' here hcc is cP ext other=>
 have k4:Ex [419] σ σ4:=fun b y n h=>e4.at (ext _ _ (fun c=>n (by simp [c])) (k2.at h))
 have n419:∀ {b y},σ b=some y->(∀ o,y≠ .raw o)->b∉[419]:=fun h n m=>by
  cases H.tab with | mk q0 h0 _ _=>exact bM h h0 (n _) (IN.mp m)
 have tab4:eF σ4:=⟨qs',e4.at hP',tr', .old c' oc here (e4.at hcc) is cP,(p2.step hcd (by decide) hP').ex e4 fun _ _ _ m=>nomatch m⟩;have g4:σ4 cd=some (.cell none):=e4.at (ext _ _ (bM (e2.at f1) h419 ∅) (e2.at f1));have g4':σ4 cx=some (.cell none):=e4.at (ext _ _ (bM f2 h419 ∅) f2);have hx4:=k4 _ _ (n419 H.B.hx (fun o c=>by injection c)) H.B.hx;have hd4:=k4 _ _ (n419 H.B.hd (fun o c=>by injection c)) H.B.hd;refine al (bO (aI (ah (ak (v:= .none) rfl (bV (bI (aV ?_)))))));show WL _ _ _ (_::_) _ _ _;refine al (ar (aH (ah (ak (v:= .ref x) rfl (bG hx4 hd4 H.mP (az (aE ?_)) (fun B v h=>bB h) (⋯) (fun v=>by kernel_rfl))))));refine al (bO (aI (ah (ak (v:= .none) rfl (bV (bI (aV ?_)))))));show WL _ _ _ (_::_) _ _ _;refine al (ar (aH (ah (ak (v:= .ref x) rfl (bG hx4 hd4 H.B.he (az (aE ?_)) (fun B v h=>fM h) (⋯) (fun v=>by kernel_rfl))))))
 have n4:∀ (a:Addr) (y:bL),σ a=some y->(∀ kvs o,y≠ .idict kvs o)/\(∀ xs o,y≠ .iset xs o)\/a∉[419]:=fun a y h=>by
  by_cases c:∃ o,y = .raw o
  ·obtain ⟨o,rfl⟩:=c;exact .inl ⟨(fun _ _ c=>by injection c),fun _ _ c=>by injection c⟩
  ·exact .inr (n419 h fun o q=>c ⟨o,q⟩)
 have H4:kW σ4 x d S m n true ob l e:=by
  cases H.tab with | mk q0 h0 t0 _ _=>exact { H.B with hx:=hx4,hd:=hd4,hA:=H.B.hA.stay k4 n4,tab:=H.B.tab.tab k4 (by decide) h0 t0 }
 refine al (ar (ay (ah (ak (v:= .ref x) rfl (fZ (f:=409) hx4 hd4 H.m1 (⋯) (⋯) (⋯) (⋯) (aJ (aA ?_)))))));refine ri (aI (ah (ak (v:= .none) rfl (bV (bI (aV ?_))))));show WE _ _ _ _ _ _ _;refine aH (ah (ak (v:= .ref x) rfl (bG hx4 hd4 H.B.hS ?_ (fun B v h=>bB h) (⋯) (fun v=>by kernel_rfl))));refine ri (aI (ah (ak (v:= .none) rfl (bV (bI (aV ?_))))));show WE _ _ _ _ _ _ _;refine aH (ah (ak (v:= .ref x) rfl (nE (fdf:=pE) ((r.deeper (n:=78)).le (by decide)) vR (⋯) hx4 hd4 H.mD H.mB (⋯) fun A' r'=>xn r' hx4 hd4 H.m2 fun A'' r''=>Bx (r''.le (by decide)) H4 fun σ5 B be nb D k5 zB fB ok tab5=>?_)))
 have hd5:σ5 d=some (.ns m n true ob):=by
  cases H4.tab with | mk q0 h0 _ _=>exact k5.but hd4 (bM hd4 h0 ∅)
 refine ⟨B,m,n,ob,rfl,hd5,by have:=H.hn;exact eW this rfl,fun ob'=>aZ (P:=fun s=>WE _ _ _ _ _ s _) fun σ6 f6 e6=>?_⟩;ac_rfl
 obtain ⟨q60,h60,t60⟩:=H4.tab.at
 right;have nrd:∀ a y,σ5 a=some (.raw y)->a∉[d]:=fun a y q m=>bM q hd5 ∅ (IN.mp m);have tab6:bP σ6 460 bX cS:=tab5.exr e6 nrd;have tb6:eF σ6:=(tab4.tab k5 (by decide) h60 t60).ex e6 nrd;have hS6:=(H4.hA.stay k5 (sP h60)).stay e6 (jq hd5);have hP6:=((H.hP.stay k4 n4).stay k5 (sP h60)).stay e6 (jq hd5);have fB6:=e6.but fB (bM fB hd5 ∅);have hl:=H.B.hl;refine ah (ak (v:= .int e) rfl ⟨br (fd:=lE) (⋯),(FE ((r.deeper (n:=78)).le (by decide)) hS6 fB6 H.B.nk H.B.cl H.B.me (lr hl rfl) fun σ7 O po k7 zO fO ord=>az ?_).wc⟩);obtain ⟨g,hall⟩:=Gr.of ord ok H.B.cl H.reach;have nd:=ord.pp.nd;have lpo:=ord.pp.len;have hh:=(r.deeper (n:=78) (env:=aR cr 422 L [("idx",cx),("idom",cd)])).hh;refine al (ar (rh (aF (ah (aQ qp (aJ (ao (ah (ak (v:= .ref O) rfl (aA ⟨ba.ty,p0 (.inl fO) fun en it oi hen hit hne hli=>?_⟩))))))))));have On:O≠en:=aW fO hen;have Oi:O≠it:=aW fO hit;refine zq hh (am.set_self ..) ((am.set_ne _ _ (Ne.symm hne)).trans (am.set_self ..)) hne hli (.inl ((am.set_ne _ _ On).trans ((am.set_ne _ _ Oi).trans fO))) On Oi ?_
 have k8:Ex [] σ7 ((((σ7.set it (.raw oi)).set en (.raw (gh it 0 .none))).del en).del it):=fun b y _ h=>by
  have b1:b≠en:=aW h hen;have b2:b≠it:=aW h hit;rw [am.del_ne _ b2,am.del_ne _ b1,am.set_ne _ _ b1,am.set_ne _ _ b2];exact h
 generalize (((σ7.set it (.raw oi)).set en (.raw (gh it 0 .none))).del en).del it=σ8 at k8 ⊢;intro dx hdx CL;refine ⟨.inl (sk hdx (k8.at fO)),bj (P:=fun s=>gO _ _ _ _ _ _ _ _ _ _ s) hdx fun σ9 f9 e9=>ky tF (Bc σ8 dx po) ?_ ?_ _ ⟨[],po,rfl,rfl,⟨_,f9⟩,e9⟩⟩
 ·intro y xs ρ' σ' iv
  cases iv with | mk pre post ep ey hy ke=>
  cases post with
  | nil=>injection ey
  | cons c post=>
   cases ey;obtain ⟨oy,hy⟩:=hy
   have nc:c∉pre:=by
    rw [ep] at nd;exact fun m=>(Jb.mp nd).2.2 c m c (.head _) rfl
   have lpre:pre.length<1000:=by rw [ep,IV] at lpo;lia
   refine fq hh (bo (az (bo (az ?_))));refine ah (ak (v:= .int c) bK (ah (ak (v:= .int pre.length) (aw bK) ⟨c,xO pre,oy,rfl,hy,by unfold xO;rw [IP,List.length_zipIdx];exact lpre,fun ver'=>aZ (P:=fun s=>bE s O (aB po)/\Bc σ8 dx po (rR (pre.length+1) (aB post)) s) fun τ ft et=>?_⟩)));rw [xQ nc] at ft;have kt:Ex [] σ8 τ:=fun b y _ h=>et.but (ke.at h) (aW h hdx);exact ⟨.inl (kt.at (k8.at fO)),⟨pre++[c],post,by rw [ep];simp,by simp,⟨_,ft⟩,kt⟩⟩
 ·intro σ10 iv
  cases iv with | mk pre post ep ey hy ke=>
  cases post with
  | cons _ _=>injection ey
  | nil=>
   rw [List.append_nil] at ep;rw [<- ep] at hy;obtain ⟨ox,hx10⟩:=hy;have k10:Ex [] σ7 σ10:=k8.trans ke;have up:∀ {b y},σ4 b=some y->(∀ o,y≠ .raw o)->(∀ m n b o,y≠ .ns m n b o)->σ10 b=some y:=fun h n1 n2=>k10.at (k7.at (e6.but (k5.but h (bM h h60 (n1 _))) (bM (k5.but h (bM h h60 (n1 _))) hd5 (n2 _ _ _ _))));have fx10:=up g4' (fun _ c=>by injection c) (fun _ _ _ _ c=>by injection c);refine cO (c:=cx) (⋯) fx10 (aZ (P:=fun s=>WL _ _ _ _ _ s _) fun σ11 f11 uF=>?_);have fd11:=uF.but (up g4 (fun _ c=>by injection c) (fun _ _ _ _ c=>by injection c)) cdx;refine al (ar (lh fun dd hdd=>bj (P:=fun s=>WE _ _ _ _ _ s _) hdd fun σ12 f12 tE=>ah (ak (v:= .int e) rfl (ah (ak (v:= .int e) rfl ⟨e,rfl,f12,fun ver=>aZ (P:=fun s=>WB _ _ _ _ _ _ s _) fun σ13 f13 yV=>?_⟩)))));have cddd:cd≠dd:=aW fd11 hdd;have fd13:=yV.but (tE.at fd11) cddd;refine cO (c:=cd) (⋯) fd13 (aZ (P:=fun s=>WL _ _ _ _ _ s _) fun σ14 f14 qR=>?_)
   have up14:∀ {b y},σ10 b=some y->(∀ v,y≠ .cell v)->σ14 b=some y:=fun {b y} h n=>by
    have h11:=uF.but h (bM h fx10 (n _));have h13:=yV.but (tE.at h11) (aW h11 hdd);exact qR.but h13 (bM h13 fd13 (n _))
   have fO14:=up14 (k10.at fO) (fun _ c=>by injection c);obtain ⟨l',hl'⟩:=ord.pp.last
   have hv:aB po=aB l'++[.int e]:=by rw [hl',bt];rfl
   rw [hv] at fO14
   have ll:l'.length<30:=by rw [hl',IV] at lpo;lia
   refine al (bh (ay (ah (ak (v:= .ref O) rfl (iU (.inl fO14) (aJ (aA ⟨ba.bi,iN (v:= .int e) fO14 (by unfold aB;rw [IP];exact eW ll rfl) (aZ (P:=fun s=>WL _ _ _ _ _ s _) fun σ15 f15 FD=>?_)⟩)))))));refine al (bh (ay (ah (ak (v:= .ref O) rfl (tj (.inl f15) (aJ (aA ⟨ba.bi,td f15 (by unfold aB;rw [IP];exact eW ll rfl) (aZ (P:=fun s=>WL _ _ _ _ _ s _) fun σ16 f16 zQ=>?_)⟩)))))));rw [show (aB l').reverse=aB l'.reverse by unfold aB;rw [List.map_reverse]] at f16;refine al (ar (g8 (az ?_)));have k13:Ex [] σ11 σ13:=fun b y _ h=>yV.but (tE.at h) (aW h hdd);have fO14':=up14 (k10.at fO) (fun _ c=>by injection c);have e16':Ex [O] σ14 σ16:=FD.trans zQ;have up16:∀ {b y},σ14 b=some y->(∀ v,y≠ .list v)->σ16 b=some y:=fun h n=>e16'.but h (bM h fO14' (n _));have fx11:=yV.but (tE.at f11) (aW f11 hdd);have hd7:=k7.at f6;have hd16:σ16 d=_:=up16 (up14 (k10.at hd7) (fun _ c=>by injection c)) (fun _ c=>by injection c);have nf:f≠460:=bM f4 h60 (fun c=>by cases (bL.raw.inj c))
   have nc':c'≠460:=fun c=>by
    have:=e4.at hcc
    rw [c,h60] at this;cases this;exact hZ is t60
   have rup:∀ {b o},σ6 b=some (.raw o)->σ16 b=some (.raw o):=fun h=>up16 (up14 (k10.at (k7.at h)) (fun _ c=>by injection c)) (fun _ c=>by injection c);have rup4:∀ {b o},σ4 b=some (.raw o)->b≠460->σ16 b=some (.raw o):=fun {b o} h n=>rup (e6.but (k5.but h n) (bM (k5.but h n) hd5 ∅));have tbs:∀ {D:List Addr} {τ τ':am},Ex D τ τ'->(∀ a y,τ a=some (.raw y)->a∉D)->bP τ 460 bX cS/\eF τ->bP τ' 460 bX cS/\eF τ':=fun e n h=>⟨h.1.exr e n,h.2.ex e n⟩;have tb16:=tbs e16' (dT fO14' (fun _ c=>by injection c)) (tbs qR (dT fd13 (fun _ c=>by injection c)) (tbs k13 (fun _ _ _ m=>nomatch m) (tbs uF (dT fx10 (fun _ c=>by injection c)) (tbs (k7.trans k10) (fun _ _ _ m=>nomatch m) ⟨tab6,tb6⟩))));have hP16:g7 σ16 P lp:=((((hP6.stay (k7.trans k10) (fun _ _ _=> .inr fun m=>nomatch m)).stay uF (jr fx10 (fun _ _ c=>by injection c) (fun _ _ c=>by injection c))).stay k13 (fun _ _ _=> .inr fun m=>nomatch m)).stay qR (jr fd13 (fun _ _ c=>by injection c) (fun _ _ c=>by injection c))).stay e16' (jr fO14' (fun _ _ c=>by injection c) (fun _ _ c=>by injection c))
   obtain ⟨oP,hPP⟩: ∃ oP,σ11 P=some (.idict (cb lp) oP):=by
    cases (hP6.stay (k7.trans k10) (fun _ _ _=> .inr fun m=>nomatch m)).stay uF (jr fx10 (fun _ _ c=>by injection c) (fun _ _ c=>by injection c)) with | mk o h _=>exact ⟨o,h⟩
   have F16:u3 ⟨f,c',cd,cx,dd,dx,O,P,tp,pm⟩ lp po l'.reverse [(e,e)] σ16:=⟨⟨c',oc,rup4 f4 nf,rfl,rup4 (e4.at hcc) nc',is⟩,up16 f14 (fun _ c=>by injection c),up16 (qR.but fx11 cdx.symm) (fun _ c=>by injection c),⟨ox,up16 (up14 hx10 (fun _ c=>by injection c)) (fun _ c=>by injection c)⟩,f16,⟨ver,up16 (qR.but f13 cddd.symm) (fun _ c=>by injection c)⟩,hP16,tb16.2,
    ⟨aW (uF.but hx10 (bM hx10 fx10 ∅)) hdd,aW hPP hdd,bM f4 (e4.at hP') (fun c=>by cases (bL.raw.inj c)),cP⟩⟩
   have ke16:Ex [d,419,460] σ σ16:=fun b y n h=>by
    have nd1:b≠d:=fun c=>n (by simp [c]);have n1:b∉[419]:=fun c=>n (by simp at c;simp [c]);have n2:b≠460:=fun c=>n (by simp [c]);have h6:=e6.but (k5.but (k4 b y n1 h) n2) nd1;have h11:=uF.but (k10.at (k7.at h6)) (aW h zx);exact e16'.but (qR.but (k13.at h11) (aW h hc1)) (aW h6 zO)
   generalize hρ:aX.set _ "changed" _=ρ1
   have L16:u4 ⟨f,c',cd,cx,dd,dx,O,P,tp,pm⟩ true ρ1:=by subst hρ;exact ⟨rfl,rfl,rfl,rfl⟩
   clear hρ;have IH:Fd l lp po e:=⟨H.nkp,fun u mu=>H.row u (ord.pp.sub u mu),nd,g,(jR lpo hl rfl)⟩
   have zdd:σ dd=none:=by
    cases c:σ dd with
    | none=>rfl
    | some y=>
     ac_rfl;obtain ⟨oq,hdq⟩:=F16.hd;ac_rfl
     obtain ⟨q9,h9,_⟩:=tb16.2.at
     obtain ⟨q6,h6,_⟩:=tb16.1.at
     right;right;have h6:=e6.but (k5.but (k4 dd y (fun m=>bM hdq h9 ∅ (IN.mp m)) c) (bM hdq h6 ∅)) (bM hdq hd16 ∅);have h11:=uF.but (k10.at (k7.at h6)) (aW c zx);rw [hdd] at h11;injection h11
   exact Eq.mp (⋯) (vG (w:=w) (mg:=mg) (mb:=mb) (os:=os) (L:=L) (Q:=fun fl _ σ'=>Q (jF fl) σ') (r.deeper (n:=78) (env:=aR cr 422 L [("idx",cx),("idom",cd)])) IH hl' F16 L16 tb16.1 hd16 ⟨(fun _ _ c=>by injection c),fun _ c=>by injection c⟩ ke16 zdd fun _ σ' ps od D hdd' hd' ke' tb tb2=>q σ' dd od ps po B ob' zdd hdd' D (fun k=>⟨ord.pp.sub k,hall k⟩) hd' ke' tb tb2)
end
theorem Rm.gen {n:Nat} {A:Around} {body:List Stmt} {env:Env} (r:Rm (n+1) A):Rm n (A.over (.func body env) []):=⟨r.hh,by have:=r.hd;show A.depth+0+1+n<=1000;exact Ga this rfl,by have:=r.hu;show A.units+0+3+10*n<=9800;exact Gb this rfl⟩
theorem Rm.genW {n:Nat} {A:Around} {body b o:List Stmt} {t:Expr} {env:Env} {k:Result->Sem Fin} {l:List Value} {p:Pos} (r:Rm (n+1) A):Rm n (A.over (.whileLoop t b o env) [.ret k none false l (.func body env) p []]):=⟨r.hh,by have:=r.hd;show A.depth+1+0+n<=1000;lia,by have:=r.hu;show A.units+3+0+10*n<=9800;exact Gb this rfl⟩
section
variable {prog:Program} {w:World} {A:Around} {E:Value->Shared->Prop} {s:Shared}
theorem tZ {a:Addr} {g n:Nat} {gs:GenState} {P:Nat->Shared->Shared->Prop} {Y:Protocol} {Q:Option Value->Shared->Prop} (hh:A.handled=none) (hl:s.heap.NoLimit) (hroom:A.depth<recursionLimit) (hg:s.heap.IsGen a g) (hgs:s.gens[g]?=some gs)
  (hgo:gs.Goes (model prog w) A.in1 (fun n s0 r s1=>r = .ok (.ret .none)/\P n s0 s1) Y n (.send .none) (s.setGen g .running))
  (hY:∀ v s1 gs',gs'.bare=true->Y (n - 1) (s.setGen g .running) v s1 (fun r' s''=>match n with
    | 0=>False
    | m+1=>gs'.Goes (model prog w) A.in1 (fun n s0 r s1=>r = .ok (.ret .none)/\P n s0 s1) Y m r' s'')->Q (some v) (s1.setGen g gs'))
  (hP:∀ s1,P n (s.setGen g .running) s1->∀ h',(∀ b o,s1.heap.get? b=some o->h'.get? b=some o)->Q none { s1.setGen g .finished with heap:=h' }):
  wpAny (model prog w) A (pyNext (.ref a)) Q E s:=by
 exists (wpAny_attempt (wpAny_callSpecial?_slot (name:=Str.ofString "__next__") hg.typeIs slot_gen_next (wpAny_call_entry slot_gen_next hg.typeIs entry_gen_next ?_ (args_gen_next _))));show wpAny _ A.in1 (Builtin.Generator.genWake (.ref a) (.send .none)) _ _ s;exists (wpAny_holding (wpAny_genNumber hg (wpAny_bind (wpAny_genState hgs ?_))))
 cases gs with
 | running=>exact hgo.elim
 | finished=>exact hgo.elim
 | _=>
  exists (wpAny_roomToWake hl hroom ?_);show wpAny _ A.in1 (.resume g (.send .none) [] _) _ _ s;refine wpAny_resumeQ hgs hgo (fun x s1 hx=>?_) fun v s1 gs' hb hv=>wpAny_pure ⟨v,rfl,wpAny_pure (hY v s1 gs' hb hv)⟩;obtain ⟨rfl,hp⟩:=hx;show wpAny _ A.in1 (newExc (.type "StopIteration") []>>=_) _ _ _;refine wpAny_bind ?_;dsimp only [newExc,newTuple];exists (wpAny_newObj_type ?_ (by size_fits));refine wpAny_bind (m:=firstArgMember _ _) (wpAny_of_eq (a:=Value.none) (by first | rfl | (dsimp only [firstArgMember];rfl)) ?_);refine wpAny_newObj_type ?_ (by size_fits);dsimp only [raiseNew];exists (wpAny_bind (wpAny_handled ?_))
  first | rw [show A.in1.handled=none from hh] | rw [hh]
  refine wpAny_throw ?_;exists (wpAny_isInstance (T:= "StopIteration") (b:=true) ⟨_,I7 _ rfl,rfl⟩ isSubtype_stop ?_);exact wpAny_pure (hP s1 hp _ fun b o hb=>I8 _ (I8 _ hb))
end
section
variable {G:aK} {A:Around} {L:Addr} {B:PB} {ρ:aX} {σ:am} {s:Shared}
theorem St.resume {B₀:PB} (st:St G L B ρ σ s) {σ':am} {s':Shared} (base:∀ h:Heap,(∀ a o,B₀.o a=some o->h.get? a=some o)->G.P h) (hB:∀ a o,B₀.o a=some o->s'.heap.get? a=some o/\a≠L/\σ' a=none)
  (hk:∀ a o,s.heap.get? a=some o->(cA o=true\/a=L)->s'.heap.get? a=some o) (hσ:∀ a x,σ' a=some x->x.mut=true/\a≠1/\B.o a=none/\∃ o,s'.heap.get? a=some o/\(OV G B x o\/∀ B',OV G B' x o)) (hL:σ' L=none) (os:s'.os=G.os) (bare:AllBare s'.gens):St G L (PB.all s' L σ') ρ σ' s':=by
 have lt:B.lt (PB.all s' L σ'):=fun a o e hs=>by
  have n1:a≠L:=fun c=>by rw [c,st.LB] at e;injection e
  have n2:σ' a=none:=by
   cases c:σ' a with
   | none=>rfl
   | some x=>rw [(hσ a x c).2.2.1] at e;injection e
  rw [PB.all_of n1 n2];exact hk a o (st.keep a o e) (.inl hs)
 refine ⟨fun h k=>base h fun a o e=>k a o ?_,fun a o e=>(PB.all_some e).2.2,fun g x e=>e,fun a x e=>?_,?_,?_,hL,os,bare,fun a x e=>(hσ a x e).2.1⟩
 ·have:=hB a o e
  rw [PB.all_of this.2.1 this.2.2];exact this.1
 ·obtain ⟨h1,_,_,o,ho,v⟩:=hσ a x e;exact .of h1 (PB.all_own e) ho (v.elim (fun v=>v.mono' lt) fun v=>v _)
 ·obtain ⟨m,hz1⟩:=st.loc;ac_rfl;obtain ⟨o,es,ep,hz2⟩:=hz1.1;right;exact ⟨m,⟨o,es,ep,hk _ _ hz2.1 (.inr rfl),hz2.2⟩,fun x=>(hz1.2 x).mono' lt⟩
 ·unfold PB.all;exact if_pos rfl
end
theorem cV.iset {xs:List Int} {ob:Obj}:cV (.iset xs ob):=fun G B B' o o' h h'=>by
 cases h with | mk e=>cases h' with | mk e'=>rw [e,e']
theorem cV.inst {c d:Addr}:cV (.inst c d):=fun G B B' o1 o2 h h'=>Eq.trans (show o1=_ from h) (show o2=_ from h').symm
theorem cV.ns {m n b ob}:cV (.ns m n b ob):=fun G B B' o o' h h'=>by
 cases h with | mk e=>cases h' with | mk e'=>rw [e,e']
abbrev jy (G:aK) (zs:List Int) (ol:Obj):Prop:=∀ B,OV G B (.iset zs ol) ol
theorem St.isSet {G:aK} {L:Addr} {B:PB} {ρ:aX} {σ:am} {s:Shared} {la:Addr} {zs:List Int} {ol:Obj} (st:St G L B ρ σ s) (h:σ la=some (.iset zs ol)):s.heap.get? la=some ol/\jy G zs ol:=by
 ac_rfl;obtain ⟨o,ho,v⟩:=st.get h
 cases v with | mk e ex es ver t d els nd fits plain ld good few=>
 right;subst e;exact ⟨ho,fun B'=>⟨rfl,ex,es,ver,t,d,els.any,nd,fits,plain,ld,good,few⟩⟩
theorem jy.uniq {G:aK} {zs zs':List Int} {ol:Obj} (h:jy G zs ol) (h':jy G zs' ol):zs=zs':=by
 ac_rfl
 cases h ⟨fun _=>none,fun _=>none⟩ with | mk e ex es ver t d els nd fits plain ld good few=>
 cases h' ⟨fun _=>none,fun _=>none⟩ with | mk e' ex' es' ver' t' d' els' nd' fits' plain' ld' good' few'=>
 right;rw [d] at d'
 (injection d' with zz;subst zz)
 exact (kF.mp els).2.symm.trans (kF.mp els').2
theorem jy.nodup {G:aK} {zs:List Int} {ol:Obj} (h:jy G zs ol):zs.Nodup:=by
 cases h ⟨fun _=>none,fun _=>none⟩ with | mk e ex es ver t d els nd=>exact nd
structure wH (old:Addr->Prop) (s₀ s:Shared):Prop where
 old:∀ b o,old b->s₀.heap.get? b=some o->s.heap.get? b=some o
 gens:∀ (k:Nat) (x:GenState),s₀.gens[k]?=some x->s.gens[k]?=some x
structure Ag (la L:Addr) (s s':Shared):Prop where
 h:∀ b o,b≠la->b≠L->s.heap.get? b=some o->s'.heap.get? b=some o
 hL:∀ o,s.heap.get? L=some o->cA o=false
 hE:s'.heap.get? L≠none
structure EZ (C N K:Addr) (s₀ s:Shared):Prop where
 h:∀ b o,b≠C->b≠N->b≠K->s₀.heap.get? b=some o->s.heap.get? b=some o
 g:∀ (k:Nat) (x:GenState),s₀.gens[k]?=some x->s.gens[k]?=some x
set_option genInjectivity false in
structure qW where
 x:Addr
 d:Addr
 S:Addr
 N:Addr
 K:Addr
 la:Addr
 L:Addr
 C:Addr
 old:Addr->Prop
instance iDf:Nonempty qW:=⟨by constructor <;> first | exact (0:Nat) | exact .none | exact [] | exact false | exact fun _=> .none | exact fun _=>False⟩
abbrev Bw (G:aK) (old:Addr->Prop) (la L:Addr) (l:cU):Protocol:=fun _ s₀ v s₁ kap=>∃ i tk zs ol,v = .int i tk/\i∈aM l/\i∉zs/\s₁.heap.get? la=some ol/\jy G zs ol/\wH old s₀ s₁/\s₁.os=G.os/\AllBare s₁.gens/\
 ∀ s'' zs' ol',Ag la L s₁ s''->s''.os=G.os->AllBare s''.gens->s''.heap.get? la=some ol'->jy G zs' ol'->(∀ k,k∈zs'↔k=i\/k∈zs)->kap (.send .none) s''
abbrev Fu (G:aK) (old:Addr->Prop) (la:Addr) (l:cU) (e:Int) (_: Nat) (s₀ s₁:Shared):Prop:=wH old s₀ s₁/\s₁.os=G.os/\AllBare s₁.gens/\∃ zs ol,s₁.heap.get? la=some ol/\jy G zs ol/\e∈zs/\∀ k∈zs,∀ c,Ed l k c->c∈zs
abbrev Bv (G:aK) (old:Addr->Prop) (la:Addr) (l:cU) (e:Int):GenEnd:=fun n s₀ r s₁=>r = .ok (.ret .none)/\Fu G old la l e n s₀ s₁
structure Be (a:qW) (l:cU) (e:Int) (xs zs st:List Int) (ρ:aX) (σ:am):Prop where
 hx:σ a.x=some (.inst 510 a.d)
 hd:∃ m n b ob,σ a.d=some (.ns m n b ob)/\m wo=some (.ref a.S)
 hS:g7 σ a.S l
 hN:∃ o,σ a.N=some (.iset xs o)
 hK:σ a.K=some (.list (aB st.reverse))
 hl:∃ o,σ a.la=some (.iset zs o)
 dom:∀ b y,σ b=some y->y.mut=true
 rg:∀ b y,σ b=some y->b≠a.N->b≠a.K->cV y
 nN:a.N≠a.la
 nL:σ a.L=none
 nS:a.N∉bD l/\a.la∉bD l
 same:∀ k,k∈xs↔k∈zs
 nx:xs.Nodup
 vx:∀ k∈xs,k∈aM l
 vs:∀ k∈st,k∈aM l
 cl:∀ k∈xs,∀ c,Ed l k c->c∈xs\/c∈st
 me:e∈xs\/e∈st
 r1:ρ gK=some (.ref a.x)
 r2:ρ "seen" = some (.ref a.N)
 r3:ρ "stack" = some (.ref a.K)
structure Bd (G:aK) (a:qW) (B₀:PB) (l:cU):Prop where
 base:∀ h:Heap,(∀ b o,B₀.o b=some o->h.get? b=some o)->G.P h
 nC:a.C≠a.la/\a.C≠a.L/\¬ a.old a.C
 nN:¬ a.old a.N
 nK:¬ a.old a.K
 nk:(aM l).Nodup
 ns:∀ x∈l,x.2.2.Nodup
 cl:∀ u v,Ed l u v->v∈aM l
 hl:l.length<=12
 nB:B₀.o a.C=none/\B₀.o a.la=none/\B₀.o a.L=none
theorem EZ.since {a:qW} {G:aK} {B₀:PB} {l:cU} {s0 s:Shared} (H:Bd G a B₀ l) (r:EZ a.C a.N a.K s0 s):wH a.old s0 s:=⟨fun b o h e=>r.h b o (fun c=>H.nC.2.2 (c▸h)) (fun c=>H.nN (c▸h)) (fun c=>H.nK (c▸h)) e,r.g⟩
theorem yl {G:aK} {C N K:Addr} {ρ:aX} {σ:am} {s:Shared} (st:St G C (PB.all s C σ) ρ σ s) (rg:∀ b y,σ b=some y->b≠N->b≠K->cV y) {B':PB} {ρ':aX} {σ':am} {s':Shared} (l:(PB.all s C σ).le B') (st':St G C B' ρ' σ' s') (hσ:∀ b,b≠N->b≠K->σ' b=σ b):EZ C N K s s':=by
 refine ⟨fun b o n1 n2 n3 e=>?_,fun g x e=>st'.keepG g x (l.2 g x e)⟩
 cases q:σ b with
 | none=>exact st'.keep b o (l.1 b o ((PB.all_of n1 q).trans e))
 | some x=>
  ac_rfl;obtain ⟨o1,e1,v1⟩:=st.get q;ac_rfl;obtain ⟨o2,hz2⟩:=st'.get ((hσ b n2 n3).trans q);right;right;rw [e] at e1;obtain rfl:=Option.some.inj e1;rw [hz2.1,rg b x q n2 n3 _ _ _ _ _ v1 hz2.2]
section
variable {A:Around} {w:World} {mg mb:Str->Option Value} {os:OsState} {σ:am}
abbrev dl:FuncData:=cR yC Cm 7 (some 35) 3 [] (.ref 380) .none .none (.str eu 357) .none (.ref 386) .none 0
abbrev cJ (C:Addr):Env:=aR dl 387 C []
noncomputable abbrev BJ (s:Stmt):List Stmt:=kD s
structure Bg (a:qW) (l:cU) (e u:Int) (xs zs st:List Int) (ρ:aX) (σ:am):Prop where
 hx:σ a.x=some (.inst 510 a.d)
 hd:∃ m n b ob,σ a.d=some (.ns m n b ob)/\m wo=some (.ref a.S)
 hS:g7 σ a.S l
 hN:∃ o,σ a.N=some (.iset xs o)
 hK:σ a.K=some (.list (aB st.reverse))
 hl:∃ o,σ a.la=some (.iset zs o)
 dom:∀ b y,σ b=some y->y.mut=true
 rg:∀ b y,σ b=some y->b≠a.N->b≠a.K->cV y
 nN:a.N≠a.la
 nL:σ a.L=none
 nS:a.N∉bD l/\a.la∉bD l
 nx:xs.Nodup
 vx:∀ k∈xs,k∈aM l
 vs:∀ k∈st,k∈aM l
 mu:u∈aM l
 cl:∀ k∈xs,∀ c,Ed l k c->c∈xs\/c∈st\/c=u
 me:e∈xs\/e∈st\/e=u
 r1:ρ gK=some (.ref a.x)
 r2:ρ "seen" = some (.ref a.N)
 r3:ρ "stack" = some (.ref a.K)
 rn:ρ "node" = some (.int u)
variable {a:qW} {B₀:PB} {l:cU} {e u:Int} {xs zs st:List Int} {ρ:aX} {L:Addr}
theorem w3 {P:am->Prop} {b:Addr} {x:bL} (h:∀ σ1,σ1 b=some x->(∀ c,c≠b->σ1 c=σ c)->P σ1):P (σ.set b x):=h _ (am.set_self ..) fun _ n=>am.set_ne _ _ n
theorem Ex.ofEq {σ':am} {b:Addr} (h:∀ c,c≠b->σ' c=σ c):Ex [b] σ σ':=fun c y n q=>(h c fun e=>n (by rw [e];exact .head _)).trans q
theorem zJ (r:Rm 8 A) (I:Be a l e xs zs (u::st) ρ σ) (ls:st.length<1000):WS (G8 w mg mb os) A (cJ L) ((ju (kR dl 3)).getD 0 (.Pass ⟨0,0,0,0⟩)) ρ σ fun f ρ' σ'=>f = .next/\Bg a l e u xs zs st ρ' σ'/\∀ b,b≠a.N->b≠a.K->σ' b=σ b:=by
 show WS _ _ _ (.Assign _ _ _) _ _ _;have fK:=I.hK;rw [List.reverse_cons,bt] at fK;refine ar (ay (ah (ak I.r3 (iU (.inl fK) (aJ (aA ⟨ba.bi,iN (v:= .int u) fK (by unfold aB;rw [IP,Jh];exact eW ls rfl) (w3 (P:=fun s=>WB _ _ _ _ _ _ s _) fun σ2 f2 h2=>az ?_)⟩))))));ac_rfl;obtain ⟨m,n,b,ob,hd,hm⟩:=I.hd;obtain ⟨_,hN⟩:=I.hN;obtain ⟨_,hl⟩:=I.hl;right;have e2:=Ex.ofEq h2;have back:∀ {c y},σ2 c=some y->c≠a.K->σ c=some y:=fun q n=>(h2 _ n).symm.trans q;refine ⟨rfl,⟨e2.but I.hx (bM I.hx fK ∅),⟨m,n,b,ob,e2.but hd (bM hd fK ∅),hm⟩,I.hS.stay e2 (jr fK (fun _ _ c=>by injection c) (fun _ _ c=>by injection c)),⟨_,e2.but hN (bM hN fK ∅)⟩,f2,⟨_,e2.but hl (bM hl fK ∅)⟩,fun c y q=>?_,fun c y q n1 n2=>I.rg c y (back q n2) n1 n2,I.nN,?_,I.nS,I.nx,I.vx,fun k m=>I.vs k (.tail _ m),I.vs u (.head _),fun k mk c hc=>(I.cl k mk c hc).imp id fun m=>(IZ.mp m).symm,I.me.imp id fun m=>(IZ.mp m).symm,aw I.r1 nofun,aw I.r2,aw I.r3,bK⟩,fun c n1 n2=>h2 c n2⟩
 ·by_cases n:c=a.K
  ·rw [n,f2] at q;obtain rfl:=Option.some.inj q;rfl
  ·exact I.dom c y (back q n)
 ·rw [h2 _ (fun c=>by have:=I.nL;rw [c,fK] at this;injection this)];exact I.nL
inductive CZ (a:qW) (st ys:List Int) (σ₀:am) (u:Int) (xs:List V) (ρ:aX) (σ:am):Prop
 | mk (d r:List Int) (e:ys=d++r) (ex:xs=aB r) (hK:σ a.K=some (.list (aB (st.reverse++d)))) (same:∀ c,c≠a.K->σ c=σ₀ c) (r1:ρ gK=some (.ref a.x)) (r2:ρ "seen" = some (.ref a.N)) (r3:ρ "stack" = some (.ref a.K)):CZ a st ys σ₀ u xs ρ σ
theorem w7 {G0:aK} (r:Rm 8 A) (H:Bd G0 a B₀ l) (M:Bg a l e u xs zs st ρ σ) (hu:u∉xs) (hz:∀ k,k∈zs↔k=u\/k∈xs) (ls:st.length<1000):WL (G8 w mg mb os) A (cJ L) ((BJ ((ju (kR dl 3)).getD 1 (.Pass ⟨0,0,0,0⟩))).drop 1) ρ σ fun f ρ' σ'=>f = .next/\(∃ xs' st',Be a l e xs' zs st' ρ' σ'/\xs'.length=xs.length+1/\st'.length<=st.length+l.length)/\∀ b,b≠a.N->b≠a.K->σ' b=σ b:=by
 intros A w mg mb os σ a B₀ l e u xs zs st ρ L G0
 intro r H M hu hz ls;show WL _ _ _ (_::_) _ _ _;ac_rfl;obtain ⟨oN,hN⟩:=M.hN;have fK:=M.hK;obtain ⟨m,n,b,ob,hd,hm⟩:=M.hd;obtain ⟨ol,hl⟩:=M.hl;right;have lx:=IQ M.nx (l₂:=aM l) fun k m=>M.vx k m;unfold aM at lx;rw [IP] at lx;have h12:=H.hl;refine al (bh (ay (ah (ak M.r2 (b9 hN (aJ (ao (ah (ak M.rn (aA ⟨ba.bi,b7 hN M.nx (jR lx h12 rfl) fun xs' o' nx' lx' hx'=>w3 (P:=fun s=>WL _ _ _ _ _ s _) fun σ1 f1 h1=>?_⟩))))))))));have e1:=Ex.ofEq h1;have hx1:=e1.but M.hx (bM M.hx hN ∅);have hd1:=e1.but hd (bM hd hN ∅);have fK1:=e1.but fK (bM fK hN ∅);have hl1:=e1.but hl (fun c=>M.nN c.symm)
 have hS1:g7 σ1 a.S l:=by
  cases id M.hS with | mk oS hS0 _=>exact M.hS.ex e1 (fun m=>bM hS0 hN ∅ (IN.mp m)) fun b mb m=>M.nS.1 (IN.mp m▸mb)
 ac_rfl;obtain ⟨op,hp,aa⟩:=id hS1;obtain ⟨⟨u',au,xu⟩,mu',hu'⟩:=I0.mp M.mu;have mu:(u,au,xu)∈l:=hu'▸mu';obtain ⟨ou,hau⟩:=aa _ mu;right
 have ek:xu.length<=l.length:=by
  have:=IQ (H.ns _ mu) (l₂:=aM l) fun v mv=>H.cl u v ⟨au,xu,mu,mv⟩
  unfold aM at this;rwa [IP] at this
 refine al (d6 (aG (aH (ah (ak M.r1 (bG hx1 hd1 hm (ah (ak M.rn ⟨PG.dict hp,bb hp (bQ H.nk mu) (mI r.hh hau fun ys hys=>?_)⟩)) (fun B v h=>bB h) (⋯) (fun v=>by kernel_rfl)))))));have ly:ys.length=xu.length:=hys.length_eq;refine cD (CZ a st ys σ1 u) ?_ ?_ _ ⟨[],ys,rfl,rfl,by rw [List.append_nil];exact fK1,fun _ _=>rfl,M.r1,M.r2,M.r3⟩
 ·intro y xs2 ρ2 σ2 fv
  cases fv with | mk d r2' ey ex hK2 same q1 q2 q3=>
  cases r2' with
  | nil=>injection ex
  | cons c r2'=>
   cases ex;refine bo (az ?_);have rc:(ρ2.set "succ" (.int c)) "succ" = some (.int c):=bK;have q1:(ρ2.set "succ" (.int c)) gK=some (.ref a.x):=aw q1 nofun;have q2:(ρ2.set "succ" (.int c)) "seen" = some (.ref a.N):=aw q2;have q3:(ρ2.set "succ" (.int c)) "stack" = some (.ref a.K):=aw q3;generalize ρ2.set "succ" (.int c)=ρ2 at q1 q2 q3 rc ⊢
   have ld:d.length<=ys.length:=by rw [ey,IV];exact Nat.le_add_right _ _
   refine al (bh (ay (ah (ak q3 (cz (.inl hK2) (aJ (ao (ah (ak rc (aA ⟨ba.bi,co hK2 (by unfold aB;rw [IP,IV,Jh];lia) (w3 (P:=fun s=>WL _ _ _ _ _ s _) fun σ3 f3 h3=>aE ?_)⟩))))))))));have ne:au≠a.K:=bM hau fK1 ∅;exact ⟨(h3 _ ne).trans ((same _ ne).trans hau),⟨d++[c],r2',by rw [ey];simp,rfl,by rw [f3,<- List.append_assoc,bt (st.reverse++d)];rfl,fun b n=>(h3 b n).trans (same b n),q1,q2,q3⟩⟩
 ·intro ρ2 σ2 fv
  cases fv with | mk d r2' ey ex hK2 same q1 q2 q3=>
  cases r2' with
  | cons _ _=>injection ex
  | nil=>
   rw [List.append_nil] at ey;rw [<- ey] at hK2;have all:∀ c,c≠a.N->c≠a.K->σ2 c=σ c:=fun c n1 n2=>(same c n2).trans (h1 c n1);have NK:a.N≠a.K:=bM hN fK ∅;have up:∀ {c y},σ1 c=some y->(∀ v,y≠ .list v)->σ2 c=some y:=fun q n=>(same _ (bM q fK1 (n _))).trans q;refine aE (aE ⟨rfl,⟨xs',ys.reverse++st,⟨up hx1 (fun _ c=>by injection c),⟨m,n,b,ob,up hd1 (fun _ c=>by injection c),hm⟩,hS1.stay (Ex.ofEq same) (jr fK1 (fun _ _ c=>by injection c) (fun _ _ c=>by injection c)),⟨_,up f1 (fun _ c=>by injection c)⟩,by rw [List.reverse_append,List.reverse_reverse];exact hK2,⟨_,up hl1 (fun _ c=>by injection c)⟩,fun c y q=>?_,fun c y q n1 n2=>M.rg c y ((all c n1 n2).symm.trans q) n1 n2,M.nN,?_,M.nS,fun k=>by rw [hx' k,hz k],nx',fun k mk=>?_,fun k mk=>?_,fun k mk c hc=>?_,?_,q1,q2,q3⟩,?_,by rw [IV,Jh];lia⟩,all⟩)
   ·by_cases n2:c=a.K
    ·rw [n2,hK2] at q;cases q;rfl
    ·by_cases n1:c=a.N
     ·rw [n1,up f1 (fun _ c=>by injection c)] at q;cases q;rfl
     ·exact M.dom c y ((all c n1 n2).symm.trans q)
   ·rw [all _ (fun c=>by have:=M.nL;rw [c,hN] at this;injection this) (fun c=>by have:=M.nL;rw [c,fK] at this;injection this)];exact M.nL
   ·exact ((hx' k).mp mk).elim (fun c=>c▸M.mu) (M.vx k)
   ·rcases I1.mp mk with mk | mk
    ·exact H.cl u k ⟨au,xu,mu,hys.mem_iff.mp (Ja.mp mk)⟩
    ·exact M.vs k mk
   ·rcases (hx' k).mp mk with rfl | mk
    ·refine .inr (IS _ (Ja.mpr (hys.mem_iff.mpr ?_)));ac_rfl;obtain ⟨a',x',m',hx⟩:=hc;right
     have:=dO (f:=fun e:Int×Addr×List Int=>e.1) H.nk mu m' rfl
     cases this;exact hx
    ·rcases M.cl k mk c hc with q | q | q
     ·exact .inl ((hx' c).mpr (.inr q))
     ·exact .inr (IT _ q)
     ·exact .inl ((hx' c).mpr (.inl q))
   ·rcases M.me with q | q | q
    ·exact .inl ((hx' e).mpr (.inr q))
    ·exact .inr (IT _ q)
    ·exact .inl ((hx' e).mpr (.inl q))
   ·have h1:=IQ (l₁:=u::xs) (l₂:=xs') (I6.mpr ⟨hu,M.nx⟩) fun k mk=>(hx' k).mpr (IZ.mp mk);rw [List.length_cons] at h1;exact Nat.le_antisymm lx' h1
abbrev w5 (C:Addr):Code:=match kR dl 3 with
 | .While t b o _=> .whileLoop t b o (cJ C)
 | _=> .block [] (cJ C)
variable {a:qW} {B₀:PB} {l:cU} {e u:Int} {xs zs st:List Int} {ρ:aX}
theorem zK {kf:Result->Sem Fin} {lv:List Value} {fb:List Stmt} {p:Pos} (r:Rm 20 A) (H:Bd (G8 w mg mb os) a B₀ l) (hkf:kf (.ok .next) = .pure (.done (.ret .none))):∀ (μ n:Nat) (s0 s:Shared) (B:PB) (ρ:aX) (σ:am) (xs zs st:List Int),
  (l.length - xs.length)*(l.length+1)+st.length<=μ->μ<900->l.length<=n+xs.length->St (G8 w mg mb os) a.C B ρ σ s->(∀ b o,B₀.o b=some o->B.o b=some o)->Be a l e xs zs st ρ σ->
  (∀ B' ρ' σ' s',B.le B'->St (G8 w mg mb os) a.C B' ρ' σ' s'->(∀ b,b≠a.N->b≠a.K->σ' b=σ b)->EZ a.C a.N a.K s0 s')->
  Seg (model qD w) A (Bv (G8 w mg mb os) a.old a.la l e) (Bw (G8 w mg mb os) a.old a.la a.L l) n s0 (w5 a.C) ((model qD w).den (w5 a.C)) [.ret kf none false lv (.func fb (cJ a.C)) p []] s:=by
 intros A w mg mb os a B₀ l e kf lv fb p
 intro r H hkf;intro μ
 induction μ using Nat.strongRecOn with
 | ind μ ih=>
 intro n s0 s B ρ σ xs zs st hμ h900 hn st0 hB I rel;have rA:Rm 19 (A.over (w5 a.C) [.ret kf none false lv (.func fb (cJ a.C)) p []]):=r.genW;have lx:=IQ I.nx (l₂:=aM l) fun k m=>I.vx k m;unfold aM at lx;rw [IP] at lx;obtain ⟨ol,hol⟩:=I.hl;refine seg_whileLoop (((eK (ah (ak I.r3 (iX (.inl I.hK) (by unfold aB;rw [IP,Jh];lia) (Q:=fun b σ'=>σ'=σ/\b = !(aB st.reverse).isEmpty) ⟨rfl,rfl⟩)))):WT (G8 w mg mb os) _ (cJ a.C) _ ρ σ _) B s st0 |>.to fun B1 s1 b b' σ1 l₁ st1 r₁ h1=>?_);subst r₁;obtain ⟨hσ,hb⟩:=h1;rw [hσ] at st1;subst hb;have hB1:∀ b o,B₀.o b=some o->B1.o b=some o:=fun b o q=>l₁.1 b o (hB b o q)
 cases st with
 | nil=>
  refine (show (if (!(aB ([]:List Int).reverse).isEmpty)=true then _ else _) from ?_)
  rw [if_neg (by simp [aB])];refine seg_execs_nil (seg_leaf (.ok .next) ?_);rw [hkf];have hs:=st1.isSet hol;exact seg_end (.ok (.ret .none)) ⟨rfl,(rel B1 ρ σ s1 l₁ st1 fun _ _ _=>rfl).since H,st1.os,st1.bare,zs,ol,hs.1,hs.2,(I.same e).mp (I.me.resolve_right fun m=>nomatch m),fun k mk c hc=>(I.same c).mp ((I.cl k ((I.same k).mpr mk) c hc).resolve_right fun m=>nomatch m)⟩
 | cons u st=>
  rw [if_pos (by simp [aB])];rw [List.length_cons] at hμ;refine seg_execs_cons (seg_wrap ((zJ (rA.le (by decide)) I (by lia) B1 s1 st1).to fun B2 s2 f f' ρ2 σ2 l₂ st2 r₂ h2=>?_));obtain ⟨rfl,M,all⟩:=h2;cases r₂;refine seg_execs_cons ?_;dsimp only [exec_If];refine seg_bind_wrap (wpAny_standAt ?_);obtain ⟨oN,hN⟩:=M.hN;refine seg_bind_wrap (((aI (ah (ak M.rn (ah (ak M.r2 (dI hN (aV (Q:=fun b σ'=>σ'=σ2/\b = !decide (u∈xs)) ⟨rfl,rfl⟩)))))):WT (G8 w mg mb os) _ (cJ a.C) _ ρ2 σ2 _) B2 s2 st2 |>.to fun B3 s3 b b' σ3 l3 st3 r₃ h3=>?_));subst r₃;obtain ⟨hσ3,hb⟩:=h3;rw [hσ3] at st3;have l13:B.le B3:=(l₁.trans l₂).trans l3;have hB3:∀ b o,B₀.o b=some o->B3.o b=some o:=fun b o q=>l13.1 b o (hB b o q)
  by_cases hu:u∈xs
  ·rw [I5 hu] at hb;subst hb;rw [if_neg (by decide)];refine seg_execs_nil (seg_execs_nil (seg_again rfl ?_));refine ih ((l.length - xs.length)*(l.length+1)+st.length) hμ n s0 s3 B3 ρ2 σ2 xs zs st (I4 _) (E4 hμ h900 rfl) hn st3 hB3 ⟨M.hx,M.hd,M.hS,M.hN,M.hK,M.hl,M.dom,M.rg,M.nN,M.nL,M.nS,I.same,M.nx,M.vx,M.vs,fun k mk c hc=>?_,?_,M.r1,M.r2,M.r3⟩ fun B' ρ' σ' s' lB st' hσ'=>rel B' ρ' σ' s' (l13.trans lB) st' fun b n1 n2=>(hσ' b n1 n2).trans (all b n1 n2)
   ·rcases M.cl k mk c hc with q | q | q
    ·exact .inl q
    ·exact .inr q
    ·exact .inl (q▸hu)
   ·rcases M.me with q | q | q
    ·exact .inl q
    ·exact .inr q
    ·exact .inl (q▸hu)
  ·rw [decide_eq_false hu] at hb;subst hb;rw [if_pos (by decide)];have lux:=IQ (l₁:=u::xs) (l₂:=aM l) (I6.mpr ⟨hu,I.nx⟩) fun k m=>(IZ.mp m).elim (fun c=>c▸M.mu) (I.vx k);unfold aM at lux;rw [IP,List.length_cons] at lux;obtain ⟨n',rfl⟩: ∃ n',n=n'+1:=⟨n - 1,by lia⟩;refine seg_execs_cons (seg_Expr_Yield rfl rfl rfl (((ah (ak M.rn (Q:=fun v σ'=>v = .int u/\σ'=σ2) ⟨rfl,rfl⟩)):WE (G8 w mg mb os) _ (cJ a.C) _ ρ2 σ2 _) B3 s3 st3 |>.to fun B4 s4 v v' σ4 l4 st4 r4 h4 kap hk=>?_));obtain ⟨rfl,hσ4⟩:=h4;rw [hσ4] at st4;obtain ⟨tk,rfl⟩:=r4.intE;obtain ⟨ol2,hol2⟩:=M.hl;have hs:=st4.isSet hol2
   have seqF:cA ol2=false:=by
    cases hs.2 B4 with | mk _ _ es ver t d=>unfold cA;rw [d]
   have own:∀ {b y},σ2 b=some y->B4.o b=none:=fun q=>(l6.get (M.dom _ _ q) (st4.own _ _ q)).1;refine ⟨u,tk,zs,ol2,rfl,M.mu,fun m=>hu ((I.same u).mpr m),hs.1,hs.2,(rel B4 ρ2 σ2 s4 (l13.trans l4) st4 all).since H,st4.os,st4.bare,fun s'' zs' ol' ag os'' bare'' hla hset hmem=>hk .none s'' ?_⟩;show Seg _ _ _ _ _ s'' _ _ _ s''
   have st'':St (G8 w mg mb os) a.C (PB.all s'' a.C (σ2.set a.la (.iset zs' ol'))) ρ2 (σ2.set a.la (.iset zs' ol')) s'':=by
    refine st4.resume (B₀:=B₀) H.base (fun b o q=>?_) (fun b o q o1=>?_) (fun b y q=>?_) ?_ os'' bare''
    ·have q4:=l4.1 b o (hB3 b o q)
     have n1:b≠a.la:=fun c=>by rw [c,H.nB.2.1] at q;injection q
     have n2:b≠a.L:=fun c=>by rw [c,H.nB.2.2] at q;injection q
     refine ⟨ag.h b o n1 n2 (st4.keep b o q4),(fun c=>by rw [show b=a.C from c,H.nB.1] at q;injection q),?_⟩;rw [am.set_ne _ _ n1]
     cases c:σ2 b with
     | none=>rfl
     | some y=>rw [own c] at q4;injection q4
    ·refine ag.h b o (fun c=>?_) (fun c=>?_) q
     ·rcases o1 with o1 | o1
      ·rw [c,hs.1] at q;obtain rfl:=Option.some.inj q;rw [seqF] at o1;injection o1
      ·exact H.nC.1 (o1.symm.trans c)
     ·rcases o1 with o1 | o1
      ·rw [ag.hL o (c▸q)] at o1;injection o1
      ·exact H.nC.2.1 (o1.symm.trans c)
    ·by_cases n1:b=a.la
     ·rw [n1,am.set_self] at q;obtain rfl:=Option.some.inj q;rw [n1];exact ⟨rfl,st4.two _ _ hol2,own hol2,ol',hla, .inr hset⟩
     ·rw [am.set_ne _ _ n1] at q;ac_rfl;obtain ⟨o,hz5⟩:=st4.get q;right;exact ⟨M.dom b y q,st4.two b y q,own q,o,ag.h b o n1 (fun c=>by rw [c,M.nL] at q;injection q) hz5.1, .inl hz5.2⟩
    ·exact (am.set_ne _ _ H.nC.1).trans st4.Lσ
   have up:∀ {b y},σ2 b=some y->b≠a.la->(σ2.set a.la (.iset zs' ol')) b=some y:=fun q n=>(am.set_ne _ _ n).trans q;have bk:∀ {b y},(σ2.set a.la (.iset zs' ol')) b=some y->b≠a.la->σ2 b=some y:=fun q n=>(am.set_ne _ _ n).symm.trans q;ac_rfl;obtain ⟨m0,n0,b0,ob0,hd,hm⟩:=M.hd;obtain ⟨oN2,hN2⟩:=M.hN;right
   have M'':Bg a l e u xs zs' st ρ2 (σ2.set a.la (.iset zs' ol')):=⟨up M.hx (bM M.hx hol2 ∅),⟨m0,n0,b0,ob0,up hd (bM hd hol2 ∅),hm⟩,by
     cases id M.hS with | mk oS hS0 _=>exact M.hS.ex (D:=[a.la]) (fun b y n q=>up q fun c=>n (by rw [c];exact .head _)) (fun m=>bM hS0 hol2 ∅ (IN.mp m)) fun b mb m=>M.nS.2 (IN.mp m▸mb),
    ⟨_,up hN2 M.nN⟩,up M.hK (bM M.hK hol2 ∅),⟨_,am.set_self ..⟩,fun b y q=>?_,fun b y q n1 n2=>?_,M.nN,(am.set_ne _ _ fun c=>by have:=M.nL;rw [c,hol2] at this;injection this).trans M.nL,M.nS,M.nx,M.vx,M.vs,M.mu,M.cl,M.me,M.r1,M.r2,M.r3,M.rn⟩
   ·refine seg_wrap ((w7 (rA.le (by decide)) H M'' hu (fun k=>(hmem k).trans (or_congr Iff.rfl (I.same k).symm)) (by lia) _ s'' st'').to fun B5 s5 f f' ρ5 σ5 l5 st5 r5 h5=>?_);obtain ⟨rfl,⟨xs',st',I',lx',ls'⟩,all'⟩:=h5;cases r5;refine seg_execs_nil (seg_again rfl ?_)
    have e2:l.length - xs.length=(l.length - xs'.length)+1:=by lia
    rw [e2,Nat.add_mul,Nat.one_mul] at hμ;refine ih ((l.length - xs'.length)*(l.length+1)+st'.length) (by lia) n' s'' s5 B5 ρ5 σ5 xs' zs' st' (I4 _) (by lia) (by lia) st5 (fun b o q=>?_) I' fun B' ρ' σ' s' lB st' hσ'=>yl st'' M''.rg (l5.trans lB) st' fun b n1 n2=>(hσ' b n1 n2).trans (all' b n1 n2);have q4:=l4.1 b o (hB3 b o q)
    have n1:b≠a.la:=fun c=>by rw [c,H.nB.2.1] at q;injection q
    have n2:b≠a.L:=fun c=>by rw [c,H.nB.2.2] at q;injection q
    refine l5.1 b o ((PB.all_of (fun c=>by rw [c,H.nB.1] at q;injection q) ?_).trans (ag.h b o n1 n2 (st4.keep b o q4)));rw [am.set_ne _ _ n1]
    cases c:σ2 b with
    | none=>rfl
    | some y=>rw [own c] at q4;injection q4
   ·by_cases n1:b=a.la
    ·rw [n1,am.set_self] at q;obtain rfl:=Option.some.inj q;rfl
    ·exact M.dom b y (bk q n1)
   ·by_cases n3:b=a.la
    ·rw [n3,am.set_self] at q;obtain rfl:=Option.some.inj q;exact .iset
    ·exact M.rg b y (bk q n3) n1 n2
end
section
variable {G:aK} {A:Around} {L:Addr} {B:PB} {ρ:aX} {σ:am} {s:Shared}
theorem St.kept (st:St G L B ρ σ s) {s':Shared} (hk:∀ b o,(B.o b=some o\/(∃ y,σ b=some y)\/b=L)->s.heap.get? b=some o->s'.heap.get? b=some o) (hg:∀ g x,B.g g=some x->s'.gens[g]?=some x) (ho:s'.os=G.os) (hb:AllBare s'.gens):St G L B ρ σ s' where
 base:=st.base
 keep:=fun b o e=>hk b o (.inl e) (st.keep b o e)
 keepG:=hg
 own:=fun b x e=>(by obtain ⟨o,e',v,hb⟩:=st.own b x e;exact ⟨o,hk _ _ (.inr (.inl ⟨x,e⟩)) e',v,hb⟩)
 loc:=(by obtain ⟨m,n,r⟩:=st.loc;exact ⟨m,n.at' fun o e=>hk _ _ (.inr (.inr rfl)) e,r⟩)
 LB:=st.LB
 Lσ:=st.Lσ
 os:=ho
 bare:=hb
 two:=st.two
theorem St.notSeq (st:St G L B ρ σ s):∀ o,s.heap.get? L=some o->cA o=false:=fun o e=>by
 ac_rfl;obtain ⟨m,hz0⟩:=st.loc;obtain ⟨oL,es,ep,hz1⟩:=hz0.1;right;rw [hz1.1] at e;obtain rfl:=Option.some.inj e;unfold cA;rw [hz1.2.1]
theorem St.hasL (st:St G L B ρ σ s):s.heap.get? L≠none:=fun e=>by
 ac_rfl;obtain ⟨m,hz2⟩:=st.loc;obtain ⟨oL,es,ep,hz3⟩:=hz2.1;right;rw [hz3.1] at e;injection e
abbrev kC:V->Bool
 | .tup _=>false
 | _=>true
theorem VR.atom {B':PB} {v:V} {x:Value} (h:VR B v x) (a:kC v=true):VR B' v x:=by
 cases h with
 | tup _ _=>injection a
 | none=>exact .none
 | bool=>exact .bool _
 | int=>exact .int _ _
 | str=>exact .str _ _
 | ref=>exact .ref _
 | ty=>exact .ty _
 | bi=>exact .bi _
theorem St.body (st:St G L B ρ σ s) {la:Addr} {x x':bL} {B2:PB} {ρ2:aX} {σ2:am} {s2:Shared} (hx:σ la=some x) (hm:x.mut=true) (l:(PB.all s L (eP [la] σ)).le B2) (st2:St G L B2 ρ2 σ2 s2) (h2:σ2 la=some x') (hm':x'.mut=true) (hov:∀ o,OV G B2 x' o->OV G B x' o) (hat:∀ y v,ρ2 y=some v->kC v=true):
  St G L B ρ2 (σ.set la x') s2/\Ag la L s s2/\∀ (k:Nat) (y:GenState),s.gens[k]?=some y->s2.gens[k]?=some y:=by
 have kp:∀ b o,b≠la->b≠L->s.heap.get? b=some o->s2.heap.get? b=some o:=fun b o n1 n2 e=>st2.keep b o (l.1 b o ((PB.all_of n2 (if_neg fun m=>n1 (IN.mp m))).trans e));have kg:∀ (k:Nat) (y:GenState),s.gens[k]?=some y->s2.gens[k]?=some y:=fun k y e=>st2.keepG k y (l.2 k y e);have nB:=(l6.get hm (st.own la x hx)).1;refine ⟨⟨st.base,fun b o e=>kp b o (fun c=>by rw [c,nB] at e;injection e) (fun c=>by rw [c,st.LB] at e;injection e) (st.keep b o e),fun g y e=>kg g y (st.keepG g y e),fun b y e=>?_,?_,st.LB,?_,st2.os,st2.bare,fun b y e=>?_⟩,⟨kp,st.notSeq,st2.hasL⟩,kg⟩
 ·by_cases c:b=la
  ·rw [c,am.set_self] at e;obtain rfl:=Option.some.inj e;rw [c];obtain ⟨o,ho,v⟩:=st2.get h2;exact .of hm' nB ho (hov o v)
  ·rw [am.set_ne _ _ c] at e;ac_rfl;obtain ⟨o,ho,v,hb⟩:=st.own b y e;right;exact ⟨o,kp b o c (st.ne e) ho,v,hb⟩
 ·obtain ⟨m,n,r⟩:=st2.loc;refine ⟨m,n,fun y=>?_⟩
  have:=r y
  cases hv:ρ2 y with
  | none=>
   rw [hv] at this
   cases hq:m y with
   | none=>exact .none
   | some val=>rw [hq] at this;cases this
  | some v=>
   rw [hv] at this
   cases hm:m y with
   | none=>rw [hm] at this;cases this
   | some val=>rw [hm] at this;cases this with | some q=>exact .some (q.atom (hat y v hv))
 ·rw [am.set_ne _ _ (Ne.symm (st.ne hx))];exact st.Lσ
 ·by_cases c:b=la
  ·rw [c];exact st.two la x hx
  ·rw [am.set_ne _ _ c] at e;exact st.two b y e
end
section
variable {A:Around} {w:World} {mg mb:Str->Option Value} {os:OsState}
structure Fc (σ:am) (x d S la L C:Addr) (old:Addr->Prop) (B₀:PB) (l:cU) (e:Int) (s:Shared) (G:aK):Prop where
 hx:σ x=some (.inst 510 d)
 hd:∃ m n b ob,σ d=some (.ns m n b ob)/\m wo=some (.ref S)/\m u0=some (.int e)
 hS:g7 σ S l
 hl:∃ o,σ la=some (.iset [] o)
 dom:∀ b y,σ b=some y->y.mut=true/\cV y
 nL:σ L=none
 nla:la∉bD l
 me:e∈aM l
 base:∀ h:Heap,(∀ b o,B₀.o b=some o->h.get? b=some o)->G.P h
 nC:C≠la/\C≠L/\¬ old C
 nk:(aM l).Nodup
 ns:∀ x∈l,x.2.2.Nodup
 cl:∀ u v,Ed l u v->v∈aM l
 h12:l.length<=12
 nB:B₀.o C=none/\B₀.o la=none/\B₀.o L=none
 hB:∀ b o,B₀.o b=some o->s.heap.get? b=some o/\σ b=none
 hold:∀ b,old b->s.heap.get? b≠none
 hL:s.heap.get? L≠none
theorem vr {σ:am} {s:Shared} {ρ:aX} {x d S la L C:Addr} {old:Addr->Prop} {B₀:PB} {l:cU} {e:Int} (r:Rm 21 A) (H:Fc σ x d S la L C old B₀ l e s (G8 w mg mb os)) (st:St (G8 w mg mb os) C (PB.all s C σ) ρ σ s) (r1:ρ gK=some (.ref x)) (r2:ρ "entries" = some .none):
  Seg (model qD w) A (Bv (G8 w mg mb os) old la l e) (Bw (G8 w mg mb os) old la L l) l.length s (.func (ie dl) (cJ C)) ((model qD w).den (.func (ie dl) (cJ C))) [] s:=by
 intros A w mg mb os σ s ρ x d S la L C old B₀ l e
 intro r H st r1 r2;have rA:Rm 20 (A.over (.func (ie dl) (cJ C)) []):=r.gen;ac_rfl;obtain ⟨m,n,b,ob,hz7⟩:=H.hd;right;refine seg_func ?_;refine seg_execs_cons (seg_wrap (((bO (aI (ah (ak r2 (bV (bI (aV ?_)))))):WS (G8 w mg mb os) _ (cJ C) _ ρ σ fun f ρ' σ'=>f = .next/\ρ'=ρ.set "entries" (.tup [.int e])/\σ'=σ) _ s st).to fun B1 s1 f f' ρ1 σ1 l₁ st1 q1 h1=>?_))
 ·show WL _ _ _ (_::_) _ _ _;exact al (ar (dH (ao (aH (ah (ak r1 (bG H.hx hz7.1 hz7.2.2 (aA ⟨IU rfl,az (aE ⟨rfl,rfl,rfl⟩)⟩) (fun B v h=>fM h) (⋯) (fun v=>by kernel_rfl))))))))
 obtain ⟨rfl,hρ,hσ⟩:=h1;rw [hρ,hσ] at st1;cases q1;have r1:(ρ.set "entries" (.tup [.int e])) gK=some (.ref x):=aw r1 nofun;have r2:(ρ.set "entries" (.tup [.int e])) "entries" = some (.tup [.int e]):=bK;generalize ρ.set "entries" (.tup [.int e])=ρ at st1 r1 r2;refine seg_execs_cons (seg_wrap (((?_: WS (G8 w mg mb os) _ (cJ C) _ ρ σ fun f ρ' σ'=>f = .next/\∃ N oN,σ N=none/\σ'=σ.set N (.iset [] oN)/\ρ'=ρ.set "seen" (.ref N)) _ s1 st1).to fun B2 s2 f f' ρ2 σ2 l₂ st2 q2 h2=>?_))
 ·exact ar (aF (ah (aQ dm (aJ (aA ⟨ba.ty,cL fun N oN hN=>az ⟨rfl,N,oN,hN,rfl,rfl⟩⟩)))))
 obtain ⟨rfl,N,oN,hN,hσ,hρ⟩:=h2;rw [hρ,hσ] at st2;cases q2;have r1:(ρ.set "seen" (.ref N)) gK=some (.ref x):=aw r1 nofun;have r2:(ρ.set "seen" (.ref N)) "entries" = some (.tup [.int e]):=aw r2;have r3:(ρ.set "seen" (.ref N)) "seen" = some (.ref N):=bK;generalize ρ.set "seen" (.ref N)=ρ at st2 r1 r2 r3;refine seg_execs_cons (seg_wrap (((?_: WS (G8 w mg mb os) _ (cJ C) _ ρ (σ.set N (.iset [] oN)) fun f ρ' σ'=>f = .next/\∃ K,(σ.set N (.iset [] oN)) K=none/\σ'=(σ.set N (.iset [] oN)).set K (.list (aB [e]))/\ρ'=ρ.set "stack" (.ref K)) _ s2 st2).to fun B3 s3 f f' ρ3 σ3 l3 st3 q3 h3=>?_))
 ·exact ar (aF (ah (aQ uO (aJ (ao (ah (ak r2 (aA ⟨ba.ty,oJ (IU rfl) fun K hK=>az ⟨rfl,K,hK,rfl,rfl⟩⟩))))))))
 obtain ⟨rfl,K,hK,hσ,hρ⟩:=h3;rw [hρ,hσ] at st3;cases q3;have r1:(ρ.set "stack" (.ref K)) gK=some (.ref x):=aw r1 nofun;have r3:(ρ.set "stack" (.ref K)) "seen" = some (.ref N):=aw r3;have r4:(ρ.set "stack" (.ref K)) "stack" = some (.ref K):=bK;generalize ρ.set "stack" (.ref K)=ρ at st3 r1 r3 r4
 have NK:N≠K:=fun c=>by rw [<- c,am.set_self] at hK;injection hK
 have hK0:σ K=none:=(am.set_ne _ _ (Ne.symm NK)).symm.trans hK;have sN:((σ.set N (.iset [] oN)).set K (.list (aB [e]))) N=some (.iset [] oN):=(am.set_ne _ _ NK).trans (am.set_self ..);have sK:((σ.set N (.iset [] oN)).set K (.list (aB [e]))) K=some (.list (aB [e])):=am.set_self ..;have up:∀ {b y},σ b=some y->((σ.set N (.iset [] oN)).set K (.list (aB [e]))) b=some y:=fun q=>(am.set_ne _ _ (aW q hK0)).trans ((am.set_ne _ _ (aW q hN)).trans q);have all:∀ b,b≠N->b≠K->((σ.set N (.iset [] oN)).set K (.list (aB [e]))) b=σ b:=fun b n1 n2=>(am.set_ne _ _ n2).trans (am.set_ne _ _ n1);generalize (σ.set N (.iset [] oN)).set K (.list (aB [e]))=σ' at st3 sN sK up all;have l03:(PB.all s C σ).le B3:=(l₁.trans l₂).trans l3
 have nobj:∀ {b y},σ' b=some y->σ b=none->y.mut=true->s.heap.get? b=none:=fun {b y} q z hm=>by
  have nC:b≠C:=st3.ne q;have h0:=(l6.get hm (st3.own b y q)).1
  cases c:s.heap.get? b with
  | none=>rfl
  | some o=>have:=l03.1 b o ((PB.all_of nC z).trans c);rw [h0] at this;injection this
 have fresh:∀ {b y},σ' b=some y->σ b=none->y.mut=true->¬ old b:=fun q z hm ho=>H.hold _ ho (nobj q z hm);obtain ⟨ol,hol⟩:=H.hl;have nN:N≠la:=(aW hol hN).symm;refine seg_execs_cons (seg_While fun p=>?_);show Seg _ _ _ _ _ _ (w5 C) ((model qD w).den (w5 C)) [.ret _ none false [] (.func _ (cJ C)) p []] _;refine zK (a:=⟨x,d,S,N,K,la,L,C,old⟩) (r.le (by decide)) ⟨H.base,H.nC,fresh sN hN rfl,fresh sK hK0 rfl,H.nk,H.ns,H.cl,H.h12,H.nB⟩ ?_ (l.length*(l.length+1)+1) l.length s s3 B3 ρ σ' [] [] [e] (by simp) ?_ (by simp) st3 (fun b o q=>?_) ⟨up H.hx,⟨m,n,b,ob,up hz7.1,hz7.2.1⟩,H.hS.ex (D:=[]) (fun b y _ q=>up q) (fun m=>nomatch m) (fun _ _ m=>nomatch m),⟨oN,sN⟩,sK,⟨ol,up hol⟩,fun b y q=>?_,fun b y q n1 n2=>(H.dom b y ((all b n1 n2).symm.trans q)).2,nN,?_,⟨fun m=>?_,H.nla⟩,fun _=>Iff.rfl, .nil,(fun _ m=>nomatch m),fun k mk=>by rw [IN.mp mk];exact H.me,(fun _ m=>nomatch m), .inr (.head _),r1,r3,r4⟩ fun B' ρ' σ'' s' lB st' hσ''=>yl st (fun b y q _ _=>(H.dom b y q).2) (l03.trans lB) st' fun b n1 n2=>(hσ'' b n1 n2).trans (all b n1 n2)
 ·rfl
 ·have:=Nat.mul_le_mul H.h12 (Nat.succ_le_succ H.h12)
  have:l.length*(l.length+1)<=12*13:=this
  exact GF this rfl
 ·have:=H.hB b o q
  exact l03.1 b o ((PB.all_of (fun c=>by rw [c,H.nB.1] at q;injection q) this.2).trans this.1)
 ·by_cases n1:b=N
  ·rw [n1,sN] at q;obtain rfl:=Option.some.inj q;rfl
  ·by_cases n2:b=K
   ·rw [n2,sK] at q;obtain rfl:=Option.some.inj q;rfl
   ·exact (H.dom b y ((all b n1 n2).symm.trans q)).1
 ·exact (all L (fun c=>H.hL (c▸nobj sN hN rfl)) fun c=>H.hL (c▸nobj sK hK0 rfl)).trans H.nL
 ·obtain ⟨y,hz9⟩:=I0.mp m
  cases H.hS with | mk _ _ aa=>
  obtain ⟨o,ho⟩:=aa y hz9.1;rw [hz9.2,hN] at ho;injection ho
end
section
variable {A:Around} {w:World} {mg mb:Str->Option Value} {os:OsState} {σ:am}
abbrev cC:FuncData:=fnEE wh Cn 7 (some 36) 393
structure Bh (σ:am) (x d S la:Addr) (m:Str->Option V) (n:Nat) (b:Bool) (ob ol:Obj) (l:cU) (e:Int) (ρ:aX):Prop where
 hx:σ x=some (.inst 510 d)
 hd:σ d=some (.ns m n b ob)
 mS:m wo=some (.ref S)
 me:m u0=some (.int e)
 mf:m "_dfs" = none
 hS:g7 σ S l
 hl:σ la=some (.iset [] ol)
 nla:la∉bD l
 nk:(aM l).Nodup
 ns:∀ x∈l,x.2.2.Nodup
 cl:∀ u v,Ed l u v->v∈aM l
 ke:e∈aM l
 h12:l.length<=12
 r1:ρ gK=some (.ref x)
 r2:ρ "live" = some (.ref la)
 at_: ∀ y v,ρ y=some v->kC v=true
abbrev AT (G:aK) (A:Around) (old:Addr->Prop) (la L:Addr) (l:cU) (e:Int) (n:Nat) (gs:GenState) (s:Shared) (zs:List Int):Prop:=∀ s'' zs' ol',Ag la L s s''->s''.os=G.os->AllBare s''.gens->s''.heap.get? la=some ol'->jy G zs' ol'->(∀ k,k∈zs'↔k∈zs)->
 gs.Goes (model G.prog G.w) A.in1 (Bv G old la l e) (Bw G old la L l) n (.send .none) s''
inductive y8 (G:aK) (A:Around) (L:Addr) (B:PB) (ρ₀:aX) (σ:am) (old:Addr->Prop) (la a g:Nat) (l:cU) (e:Int) (n:Nat) (s:Shared):Prop
 | mk (ρ:aX) (zs:List Int) (ol:Obj) (gs:GenState) (st:St G L B ρ (σ.set la (.iset zs ol)) s) (hρ:∀ y:Str,y≠ "node" ->ρ y=ρ₀ y) (hat:∀ y v,ρ y=some v->kC v=true) (hg:s.heap.IsGen a g) (hgs:s.gens[g]?=some gs) (vz:∀ k∈zs,k∈aM l) (rd:AT G A old la L l e n gs s zs):y8 G A L B ρ₀ σ old la a g l e n s
theorem w8 {G:aK} {L:Addr} {B:PB} {ρ0:aX} {old:Addr->Prop} {la a g:Nat} {l:cU} {e:Int} {n:Nat} {s:Shared} {x:bL} (hh:A.handled=none) (hroom:A.depth<recursionLimit) (hx:σ la=some x) (hm:x.mut=true) (ho:∀ b,((∃ o,B.o b=some o)\/(∃ y,σ b=some y)\/b=L\/b=a)->old b) (nBg:B.g g=none) (nla:a≠la) (nL:a≠L) (h12:l.length<=12) (J:y8 G A L B ρ0 σ old la a g l e n s) {Q:Option Value->Shared->Prop}
  (hnext:∀ i tk ρ zs ol s',St G L B ρ (σ.set la (.iset zs ol)) s'->(∀ y:Str,y≠ "node" ->ρ y=ρ0 y)->(∀ y v,ρ y=some v->kC v=true)->i∉zs->zs.Nodup->zs.length<13->
   (∀ B' ρ' σ' s'' zs' ol',(PB.all s' L (eP [la] (σ.set la (.iset zs ol)))).le B'->St G L B' ρ' σ' s''->σ' la=some (.iset zs' ol')->(∀ k,k∈zs'↔k=i\/k∈zs)->(∀ y:Str,y≠ "node" ->ρ' y=ρ0 y)->(∀ y v,ρ' y=some v->kC v=true)->∃ m,m<n/\y8 G A L B ρ0 σ old la a g l e m s'')->Q (some (.int i tk)) s')
  (hend:∀ ρ zs ol s',St G L B ρ (σ.set la (.iset zs ol)) s'->(∀ y:Str,y≠ "node" ->ρ y=ρ0 y)->zs.Nodup->(∀ k∈zs,k∈aM l)->e∈zs->(∀ k∈zs,∀ c,Ed l k c->c∈zs)->Q none s'):
  wpAny (model G.prog G.w) A (pyNext (.ref a)) Q jH s:=by
 revert A σ G L B ρ0 old la a g l e n s x Q
 injections A σ G L B ρ0 old la
 injections a g l e
 injections n s
 injections x
 intro hh hroom hx hm ho nBg nla nL h12 J
 injections Q
 intro hnext hend
 cases J with | mk ρ zs ol gs st hρ hat hg hgs vz rd=>
 have hla:(σ.set la (.iset zs ol)) la=some (.iset zs ol):=am.set_self ..;have hs:=st.isSet hla
 have ho':∀ b,((∃ o,B.o b=some o)\/(∃ y,(σ.set la (.iset zs ol)) b=some y)\/b=L)->old b:=fun b h=>by
  rcases h with h | ⟨y,h⟩ | h
  ·exact ho b (.inl h)
  ·by_cases c:b=la
   ·exact ho b (.inr (.inl ⟨x,c▸hx⟩))
   ·rw [am.set_ne _ _ c] at h;exact ho b (.inr (.inl ⟨y,h⟩))
  ·exact ho b (.inr (.inr (.inl h)))
 have lz:zs.length<13:=by
  have:=IQ hs.2.nodup (l₂:=aM l) fun k m=>vz k m
  unfold aM at this;rw [IP] at this;exact jR this h12 rfl
 have bset:∀ {t:Shared} {y z:GenState},t.gens[g]?=some z->AllBare t.gens->y.bare=true->AllBare (t.setGen g y).gens:=fun h hb hy=>(GenOnlyQ.of (GenOnly.setGen _ g _) (setGen_self h) hy).bare hb;have bareR:AllBare (s.setGen g .running).gens:=bset hgs st.bare rfl;refine tZ hh st.lim hroom hg hgs (rd (s.setGen g .running) zs ol ⟨fun _ _ _ _ e=>e,st.notSeq,st.hasL⟩ st.os bareR hs.1 hs.2 fun _=>Iff.rfl) (fun v s1 gs' hb hv=>?_) fun s1 hp h' hk=>?_
 ·obtain ⟨i,tk,zs1,ol1,rfl,mi,hi,hla1,hset1,since,os1,bare1,kap⟩:=hv;have e1:=since.old la ol (ho' la (.inr (.inl ⟨_,hla⟩))) hs.1;rw [hla1] at e1;cases e1;have ez:=hset1.uniq hs.2;subst ez;have g1:s1.gens[g]?=some .running:=since.gens g _ (setGen_self hgs)
  have st1:St G L B ρ (σ.set la (.iset zs1 ol)) (s1.setGen g gs'):=st.kept (s':=s1.setGen g gs') (fun b o h e=>since.old b o (ho' b (h.imp (fun h=>⟨o,h⟩) id)) e) (fun k y e=>by
   have nk:k≠g:=fun c=>by rw [c,nBg] at e;injection e
   exact ((GenOnly.setGen s1 g gs').2 k nk).trans (since.gens k y (((GenOnly.setGen s g .running).2 k nk).trans (st.keepG k y e)))) os1 (bset g1 bare1 hb)
  refine hnext i tk ρ zs1 ol _ st1 hρ hat hi hset1.nodup lz fun B' ρ' σ' s'' zs' ol' lB st' hla' hmem hρ' hat'=>?_;have set':=st'.isSet hla'
  have bd:=st1.body hla rfl lB st' hla' rfl (fun o v=>by
   have:o=ol':=by cases v with | mk e=>exact e
   rw [this];exact set'.2 B) hat'
  have e2:(σ.set la (.iset zs1 ol)).set la (.iset zs' ol')=σ.set la (.iset zs' ol'):=by
   funext b
   by_cases c:b=la
   ·rw [c,am.set_self,am.set_self]
   ·rw [am.set_ne _ _ c,am.set_ne _ _ c,am.set_ne _ _ c]
  rw [e2] at bd;have ag:Ag la L s1 s'':=⟨bd.2.1.h,bd.2.1.hL,bd.2.1.hE⟩
  cases n with
  | zero=>exact (kap s'' zs' ol' ag bd.1.os bd.1.bare set'.1 set'.2 hmem).elim
  | succ m=>
   ac_rfl;obtain ⟨og,nm,qn,hz0⟩:=hg;right;refine ⟨m,Nat.lt_succ_self _,⟨ρ',zs',ol',gs',bd.1,hρ',hat',⟨og,nm,qn,ag.h a og nla nL (since.old a og (ho a (.inr (.inr (.inr rfl)))) hz0.1),hz0.2⟩,bd.2.2 g gs' (setGen_self g1),fun k mk=>((hmem k).mp mk).elim (fun c=>c▸mi) (vz k),fun s3 zs3 ol3 ag3 os3 b3 h3 set3 An=>kap s3 zs3 ol3 ⟨fun b o n1 n2 e=>ag3.h b o n1 n2 (ag.h b o n1 n2 e),ag.hL,ag3.hE⟩ os3 b3 h3 set3 fun k=>(An k).trans (hmem k)⟩⟩
 ·obtain ⟨since,os1,bare1,zs1,ol1,hz1⟩:=hp;have e1:=since.old la ol (ho' la (.inr (.inl ⟨_,hla⟩))) hs.1;rw [hz1.1] at e1;cases e1;have ez:=hz1.2.1.uniq hs.2;subst ez;have g1:s1.gens[g]?=some .running:=since.gens g _ (setGen_self hgs)
  exact hend ρ zs1 ol _ (st.kept (s':={ s1.setGen g .finished with heap:=h' }) (fun b o h e=>hk b o (since.old b o (ho' b (h.imp (fun h=>⟨o,h⟩) id)) e)) (fun k y e=>by
   have nk:k≠g:=fun c=>by rw [c,nBg] at e;injection e
   exact ((GenOnly.setGen s1 g .finished).2 k nk).trans (since.gens k y (((GenOnly.setGen s g .running).2 k nk).trans (st.keepG k y e)))) os1 (bset g1 bare1 rfl)) hρ hz1.2.1.nodup vz hz1.2.2.1 hz1.2.2.2
theorem lY {M:Model} {env:Env} {s:Shared} {E:Value->Shared->Prop} {Q:Value->Shared->Prop} {o:Expr} {name:Str} {apos pos:Pos} {es:List Expr} {kws:List Keyword} (h:wpAny M A (eval o env) (fun ov s1=>∀ pl,wpAny M A (getMethod ov name pl) (fun y s2=>wpAny M A (callWith pos y.1 y.2 (backTo pos (starEach es env)) (backToKw pos (keywordEach kws env))) Q E s2) E s1) E s)
  (hbase:autoParam (attributeBase o name env (eval o env)=eval o env) TaR) (hform:autoParam (methodCallForm (es.length+kws.length) (backTo pos (starEach es env)) (backToKw pos (keywordEach kws env))=true) TaR)
  (hline:autoParam ((apos.endLine==pos.line)=true) TaR):wpAny M A (eval (.Call (.Attribute o name apos) es kws pos) env) Q E s:=by
 rw [arm_eval_Call,hbase];exists (wpAny_mono h (fun ov s1 h1=>?_) fun _ _ e=>e);exists (wpAny_standAt ?_);unfold methodCall calleeOf methodCallPos;rw [if_pos hform,if_pos (by rw [hform,hline];rfl)];exact wpAny_bind (wpAny_holding (wpAny_mono (h1 _) (fun y s2 h2=>wpAny_bind (wpAny_pure h2)) fun _ _ e=>e))
theorem set_same {σ:am} {b:Addr} {x:bL} (h:σ b=some x):σ.set b x=σ:=by
 funext c
 by_cases e:c=b
 ·rw [e,am.set_self,h]
 ·exact am.set_ne _ _ e
theorem vq {x d S la C:Addr} {m n b ob ol oL} {l:cU} {e:Int} {L:Addr} {ρ:aX} {B2 B3:PB} {s2 s3 s4:Shared} (r:Rm 40 A) (H:Bh σ x d S la m n b ob ol l e ρ) (hC:C=s2.heap.objs.size) (st2:St (G8 w mg mb os) L B2 ρ σ s2) (hoL:s2.heap.get? L=some oL) (l3:(B2.set L (some oL)).le B3)
  (st3:St (G8 w mg mb os) C B3 (j9 [(gK, .ref x),("entries", .none)]) σ s3) (h34:∀ c o,s3.heap.get? c=some o->s4.heap.get? c=some o):
  AT (G8 w mg mb os) A (fun c=>c≠C/\s4.heap.get? c≠none) la L l e l.length (.fresh (.func (ie dl) (cJ C))) s4 []:=by
 intros A w mg mb os σ x d S la C m n b ob ol oL l e L ρ B2 B3 s2 s3 s4
 intro r H hC st2 hoL l3 st3 h34;intro s'' zs' ol' ag os'' bare'' hla'' hset'' hmem
 have ez:zs'=[]:=by
  cases zs' with
  | nil=>rfl
  | cons k zs=>exact nomatch (hmem k).mp (.head _)
 subst ez
 obtain ⟨oS,hSS,aa⟩: ∃ oS,σ S=some (.idict (cb l) oS)/\∀ y∈l,∃ o,σ y.2.1=some (.iset y.2.2 o):=by cases H.hS with | mk o h a=>exact ⟨o,h,a⟩
 have dom:∀ c y,eP (x::d::S::la::bD l) (σ.set la (.iset [] ol')) c=some y->(c=la/\y = .iset [] ol')\/(c≠la/\σ c=some y/\y.mut=true/\cV y):=fun c y q=>by
  obtain ⟨mm,p⟩:=j8 q
  by_cases cl:c=la
  ·rw [cl,am.set_self] at p;obtain rfl:=Option.some.inj p;exact .inl ⟨cl,rfl⟩
  ·rw [am.set_ne _ _ cl] at p;refine .inr ⟨cl,p,?_⟩;simp only [IZ] at mm;rcases mm with rfl | rfl | rfl | rfl | mm
   ·rw [H.hx] at p;obtain rfl:=Option.some.inj p;exact ⟨rfl, .inst⟩
   ·rw [H.hd] at p;obtain rfl:=Option.some.inj p;exact ⟨rfl, .ns⟩
   ·rw [hSS] at p;obtain rfl:=Option.some.inj p;exact ⟨rfl, .idict⟩
   ·exact absurd rfl cl
   ·obtain ⟨z,mz,rfl⟩:=I0.mp mm;obtain ⟨o,ho⟩:=aa z mz;rw [ho] at p;obtain rfl:=Option.some.inj p;exact ⟨rfl, .iset⟩
 have CL:C≠L:=by rw [hC];exact Nat.ne_of_gt st2.Llt
 have Cla:C≠la:=fun c=>by have:=st3.Lσ;rw [c,H.hl] at this;injection this
 have own2:∀ {c y},σ c=some y->y.mut=true->B2.o c=none:=fun q hm=>(l6.get hm (st2.own _ _ q)).1;have own3:∀ {c y},σ c=some y->y.mut=true->B3.o c=none:=fun q hm=>(l6.get hm (st3.own _ _ q)).1
 have b2:∀ c o,B2.o c=some o->s''.heap.get? c=some o/\c≠C/\c≠la/\c≠L:=fun c o q=>by
  have n1:c≠la:=fun e=>by rw [e,own2 H.hl rfl] at q;injection q
  have n2:c≠L:=fun e=>by rw [e,st2.LB] at q;injection q
  exact ⟨ag.h c o n1 n2 (h34 c o (st3.keep c o (l3.1 c o ((PB.set_ne _ _ n2).trans q)))),(fun e=>by rw [e,hC,st2.freshB (I4 _)] at q;injection q),n1,n2⟩
 have none2:∀ c o,B2.o c=some o->eP (x::d::S::la::bD l) (σ.set la (.iset [] ol')) c=none:=fun c o q=>by
  cases z:eP (x::d::S::la::bD l) (σ.set la (.iset [] ol')) c with
  | none=>rfl
  | some y=>
   rcases dom c y z with ⟨e,_⟩ | ⟨_,e,hm,_⟩
   ·exact absurd e (b2 c o q).2.2.1
   ·rw [own2 e hm] at q;injection q
 have hs:=st3.isSet H.hl
 have sq:cA ol=false:=by cases hs.2 B3 with | mk _ _ es ver t d=>unfold cA;rw [d]
 have kL:s3.heap.get? L=some oL:=st3.keep _ _ (l3.1 _ _ (PB.set_self ..))
 have stg:St (G8 w mg mb os) C (PB.all s'' C (eP (x::d::S::la::bD l) (σ.set la (.iset [] ol')))) (j9 [(gK, .ref x),("entries", .none)]) (eP (x::d::S::la::bD l) (σ.set la (.iset [] ol'))) s'':=by
  refine st3.resume (B₀:=B2) st2.base (fun c o q=>⟨(b2 c o q).1,(b2 c o q).2.1,none2 c o q⟩) (fun c o q o1=>?_) (fun c y q=>?_) ?_ os'' bare''
  ·refine ag.h c o (fun e=>?_) (fun e=>?_) (h34 c o q)
   ·rcases o1 with o1 | o1
    ·rw [e,hs.1] at q;obtain rfl:=Option.some.inj q;rw [sq] at o1;injection o1
    ·exact Cla (o1.symm.trans e)
   ·rcases o1 with o1 | o1
    ·rw [ag.hL o (e▸h34 c o q)] at o1;injection o1
    ·exact CL (o1.symm.trans e)
  ·rcases dom c y q with ⟨e,rfl⟩ | ⟨n1,e,hm,_⟩
   ·rw [e];exact ⟨rfl,st3.two _ _ H.hl,own3 H.hl rfl,ol',hla'', .inr hset''⟩
   ·obtain ⟨o,hz4⟩:=st3.get e;exact ⟨hm,st3.two _ _ e,own3 e hm,o,ag.h c o n1 (fun c=>by rw [c,st2.Lσ] at e;injection e) (h34 _ _ hz4.1), .inl hz4.2⟩
  ·cases z:eP (x::d::S::la::bD l) (σ.set la (.iset [] ol')) C with
   | none=>rfl
   | some y=>
    rcases dom C y z with ⟨e,_⟩ | ⟨_,e,_⟩
    ·exact absurd e Cla
    ·rw [st3.Lσ] at e;injection e
 have at_: ∀ {c y},c∈x::d::S::la::bD l->c≠la->σ c=some y->eP (x::d::S::la::bD l) (σ.set la (.iset [] ol')) c=some y:=fun m n q=>(cZ m).trans ((am.set_ne _ _ n).trans q);refine ⟨rfl,vr (B₀:=B2) ((r.in1 (n:=39)).le (by decide)) ⟨at_ (.head _) (bM H.hx H.hl ∅) H.hx,⟨m,n,b,ob,at_ (.tail _ (.head _)) (bM H.hd H.hl ∅) H.hd,H.mS,H.me⟩,⟨oS,at_ (.tail _ (.tail _ (.head _))) (bM hSS H.hl ∅) hSS,fun y my=>(aa y my).imp fun o q=>at_ (.tail _ (.tail _ (.tail _ (.tail _ (IR (f:=fun e=>e.2.1) my))))) (fun c=>H.nla (c▸IR (f:=fun e=>e.2.1) my)) q⟩,⟨ol',(cZ (by simp)).trans (am.set_self ..)⟩,fun c y q=>?_,?_,H.nla,H.ke,st2.base,⟨Cla,CL,fun h=>h.1 rfl⟩,H.nk,H.ns,H.cl,H.h12,⟨by rw [hC];exact st2.freshB (I4 _),own2 H.hl rfl,st2.LB⟩,fun c o q=>⟨(b2 c o q).1,none2 c o q⟩,fun c h=>?_,ag.hE⟩ stg rfl rfl⟩
 ·rcases dom c y q with ⟨_,rfl⟩ | ⟨_,_,hm,rg⟩
  ·exact ⟨rfl, .iset⟩
  ·exact ⟨hm,rg⟩
 ·cases z:eP (x::d::S::la::bD l) (σ.set la (.iset [] ol')) L with
  | none=>rfl
  | some y=>
   rcases dom L y z with ⟨e,_⟩ | ⟨_,e,_⟩
   ·have:=st2.Lσ;rw [e,H.hl] at this;injection this
   ·rw [st2.Lσ] at e;injection e
 ·by_cases n1:c=la
  ·rw [n1,hla''];exact fun c=>nomatch c
  ·by_cases n2:c=L
   ·rw [n2];exact ag.hE
   ·cases z:s4.heap.get? c with
    | none=>exact absurd z h.2
    | some o=>rw [ag.h c o n1 n2 z];exact fun c=>nomatch c
abbrev xy (s:Stmt):Expr:=(DH s).2.2.2
theorem w6 {x d S la C:Addr} {m n b ob ol oL} {l:cU} {e:Int} {L:Addr} {ρ:aX} {Q:F->aX->am->Prop} {B₀ B2 B3:PB} {s2 s3 s4:Shared} {a g:Nat} (r:Rm 40 A) (H:Bh σ x d S la m n b ob ol l e ρ)
  (q:∀ ρ' zs ol',(∀ y:Str,y≠ "node" ->ρ' y=ρ y)->zs.Nodup->(∀ k∈zs,k∈aM l)->e∈zs->(∀ k∈zs,∀ c,Ed l k c->c∈zs)->Q .next ρ' (σ.set la (.iset zs ol')))
  (hC:C=s2.heap.objs.size) (l0:B₀.le B2) (st2:St (G8 w mg mb os) L B2 ρ σ s2) (hq:cA oL=false) (hoL:s2.heap.get? L=some oL) (l3:(B2.set L (some oL)).le B3) (st3:St (G8 w mg mb os) C B3 (j9 [(gK, .ref x),("entries", .none)]) σ s3)
  (h34:∀ c o,s3.heap.get? c=some o->s4.heap.get? c=some o) (g34:∀ (k:Nat) (y:GenState),s3.gens[k]?=some y->s4.gens[k]?=some y) (os4:s4.os=os) (bare4:AllBare s4.gens) (ha:a=s3.heap.objs.size) (hg:g=s3.gens.size) (isg:s4.heap.IsGen a g) (hgs:s4.gens[g]?=some (.fresh (.func (ie dl) (cJ C)))):
  codeAny (model qD w) A (.forLoop (xy (kR cC 1)) (.ref a) (jm (kR cC 1)) [] (aR cC 394 L [])) (fun r s'=>match r with
   | .ok f=>qY (G8 w mg mb os) L FR Q B₀ f s'
   | .error e=>cameBackBy (model qD w) A (aR cC 394 L []) jH e s') s4:=by
 intros A w mg mb os σ x d S la C m n b ob ol oL l e L ρ Q B₀ B2 B3 s2 s3 s4 a g
 intro r H q hC l0 st2 hq hoL l3 st3 h34 g34 os4 bare4 ha hg isg hgs
 have CL:C≠L:=by rw [hC];exact Nat.ne_of_gt st2.Llt
 ac_rfl;have hz0:=st2.leave hq hoL l3 st3;right;have st4:St (G8 w mg mb os) L (B3.set L none) ρ σ s4:=hz0.1.kept (fun b o _ e=>h34 b o e) (fun k y e=>g34 k y (hz0.1.keepG k y e)) os4 bare4;have nCB:(B3.set L none).o C=none:=(PB.set_ne _ _ CL).trans st3.LB;have nCσ:σ C=none:=st3.Lσ
 have aC:a≠C:=by rw [ha];exact Nat.ne_of_gt st3.Llt
 have aL:a≠L:=by rw [ha];exact Nat.ne_of_gt hz0.1.Llt
 have ala:a≠la:=fun c=>by have:=hz0.1.fresh (a:=a) (ha▸I4 _);rw [c,H.hl] at this;injection this
 have gN:(B3.set L none).g g=none:=by
  cases c:(B3.set L none).g g with
  | none=>rfl
  | some y=>
   have:=hz0.1.keepG g y c
   rw [hg] at this;exact absurd this (by simp)
 refine gP (y8 (G8 w mg mb os) A L (B3.set L none) ρ σ (fun c=>c≠C/\s4.heap.get? c≠none) la a g l e) (fun n s J=>?_) l.length ⟨ρ,[],ol,_,by rw [set_same H.hl];exact st4,fun _ _=>rfl,H.at_,isg,hgs,(fun k m=>nomatch m),vq r H hC st2 hoL l3 st3 h34⟩;refine w8 r.hh r.room H.hl rfl (fun b h=>?_) gN ala aL H.h12 J (fun i tk ρ' zs ol' s' st' hρ' hat' ni nz lz back=>?_) fun ρ' zs ol' s' st' hρ' nz vz me cl=>?_
 ·rcases h with ⟨o,h⟩ | ⟨y,h⟩ | h | h
  ·exact ⟨(fun c=>by rw [c,nCB] at h;injection h),(fun c=>by rw [st4.keep b o h] at c;injection c)⟩
  ·exact ⟨(fun c=>by rw [c,nCσ] at h;injection h),(fun c=>by obtain ⟨o,e,_⟩:=st4.own b y h;rw [e] at c;injection c)⟩
  ·exact ⟨(fun c=>CL (c.symm.trans h)),(fun c=>st4.hasL (h▸c))⟩
  ·obtain ⟨o,_,_,hz1⟩:=isg;exact ⟨(fun c=>aC (h.symm.trans c)),(fun c=>by rw [h,hz1.1] at c;injection c)⟩
 ·refine wpAny_of_eq (a:=()) (by rfl) ?_;have hla:(σ.set la (.iset zs ol')) la=some (.iset zs ol'):=am.set_self ..
  obtain ⟨stf,_⟩:=st'.frzall (σ₀:=eP [la] (σ.set la (.iset zs ol'))) fun b y h=>⟨(j8 h).2,by
   obtain ⟨mm,h⟩:=j8 h
   rw [IN.mp mm,hla] at h;obtain rfl:=Option.some.inj h;rfl⟩
  refine ((?_: lV (G8 w mg mb os) A (aR cC 394 L []) (xy (kR cC 1)) (.int i) ρ' (eP [la] (σ.set la (.iset zs ol'))) fun ρ1 σ1=>WL (G8 w mg mb os) A (aR cC 394 L []) (jm (kR cC 1)) ρ1 σ1 fun f ρ2 σ2=>f = .next/\ρ2=ρ'.set "node" (.int i)/\∃ zs' ol'',σ2 la=some (.iset zs' ol'')/\∀ k,k∈zs'↔k=i\/k∈zs) _ _ (.int i tk) stf (.int ..)).to fun B1 s1 _ _ ρ1 σ1 l₁ st1 _ h1=>(h1 B1 s1 st1).to fun B5 s5 f f' ρ5 σ5 l5 st5 r5 h5=>?_
  ·refine bo (az ?_);exact al (bh (ay (ah (ak (v:= .ref la) ((hρ' "live" nofun).trans H.r2) (b9 ((cZ (.head _)).trans hla) (aJ (ao (ah (ak (v:= .int i) rfl (aA ⟨ba.bi,b7 ((cZ (.head _)).trans hla) nz (eW lz rfl) fun zs' ol'' _ _ mz=>aE ⟨rfl,rfl,zs',ol'',am.set_self ..,mz⟩⟩))))))))))
  ·obtain ⟨rfl,hρ5,zs',ol'',hla5,mz⟩:=h5;cases r5
   exact back B5 ρ5 σ5 s5 zs' ol'' (l₁.trans l5) st5 hla5 mz (fun y hy=>by rw [hρ5];exact (if_neg hy).trans (hρ' y hy)) fun y v h=>by
    rw [hρ5] at h
    by_cases c:y = "node"
    ·rw [c,bK] at h;obtain rfl:=Option.some.inj h;rfl
    ·exact hat' y v ((if_neg c).symm.trans h)
 ·rw [show execs [] (aR cC 394 L [])=pure Flow.next from rfl];exact wpAny_pure ⟨_, .next,ρ',_,l0.trans hz0.2.1,st', .next,q ρ' zs ol' hρ' nz vz me cl⟩
theorem zI {x d S la:Addr} {m n b ob ol} {l:cU} {e:Int} {L:Addr} {ρ:aX} {Q:F->aX->am->Prop} (r:Rm 40 A) (H:Bh σ x d S la m n b ob ol l e ρ)
  (q:∀ ρ' zs ol',(∀ y:Str,y≠ "node" ->ρ' y=ρ y)->zs.Nodup->(∀ k∈zs,k∈aM l)->e∈zs->(∀ k∈zs,∀ c,Ed l k c->c∈zs)->Q .next ρ' (σ.set la (.iset zs ol'))):WS (G8 w mg mb os) A (aR cC 394 L []) (kR cC 1) ρ σ Q:=fun B s st=>by
 revert A w mg mb os σ x d S la m n b ob ol l e L ρ Q B s
 injections A w mg mb os σ x d S la m n b ob ol l
 injections e L ρ Q
 intro r H q
 injections B s
 intro st;show wpAny _ _ (exec (.For _ _ (_::_) _ _) _) _ _ s;refine wpAny_For ?_ (fun _=>rfl);refine lY (WE.one (V₀:= .ref x) (ah (ak H.r1 ⟨rfl,rfl⟩)) st VR.refE fun B1 s1 l₁ st1=>?_);intro pl;refine WM.one (f:=387) (fZ (f:=387) H.hx H.hd H.mf (⋯) (⋯) (⋯) (⋯) ⟨rfl,rfl,rfl⟩) st1 fun B2 s2 l₂ st2=>?_;have ho:s2.heap.get? 387=some (dY dl):=st2.K 387 _ (⋯);refine callWith_meth0 (o:=dY dl) rfl ho ?_
 have bd:gL (K8 w.params) dl [.ref x] [] [(gK, .ref x),("entries", .none)]:=mX (ds:=["entries"]) fun _ _=>by kernel_rfl
 cases bd.1 B2 s2 [.ref x] [] st2.K (.cons (.ref x) .nil) .nil with | intro bx w1=>
 refine wpAny_call (codeAny_call_generator (o:=dY dl) (fd:=dl) (body:=ie dl) r.room ho rfl (⋯) (⋯) rfl (hJ (K:=K8 w.params) (⋯) st2.K) (w1.1 _ _ _ _ (wpAny_mono (qN (A:=A.in1) st2 w1.2 (Kf:=fun cells ρ' σ'=>cells=[]/\ρ'=j9 [(gK, .ref x),("entries", .none)]/\σ'=σ) (b6 (⋯) (az (az ⟨rfl,rfl,rfl⟩))) fun oL cells B3 ρ3 σ3 s3 hq hoL l3 st3 h3=>?_) (fun _ _ q=>q) fun _ _ e=>False.elim e)));ac_rfl;obtain ⟨hc,hr,hs⟩:=h3;right;subst hc hr hs
 exact ⟨st3.lim,wpAny_pyIter_gen (g:=s3.gens.size) ⟨_,_,_,I7 _ rfl,rfl,rfl,rfl⟩ (w6 r H q rfl (l₁.trans l₂) st2 hq hoL l3 st3 (fun c o e=>I8 _ e) (fun k y e=>by
  have:k<s3.gens.size:=(Array.getElem?_eq_some_iff.mp e).1
  exact (Array.getElem?_push_lt this).trans (IY this▸e)) st3.os (st3.bare.push (by rfl)) rfl rfl ⟨_,_,_,I7 _ rfl,rfl,rfl,rfl⟩ Array.getElem?_push_size)⟩
structure wx (σ:am) (x d S N:Addr) (m:Str->Option V) (n:Nat) (b:Bool) (ob oN:Obj) (l:cU) (nodes:List Int) (e:Int):Prop where
 hx:σ x=some (.inst 510 d)
 hd:σ d=some (.ns m n b ob)
 hn:n<800
 mS:m wo=some (.ref S)
 me:m u0=some (.int e)
 mN:m y3=some (.ref N)
 mf:m "_dfs" = none
 mg:m wh=none
 hS:g7 σ S l
 hN:σ N=some (.iset nodes oN)
 nn:nodes.Nodup
 mem:∀ k,k∈nodes↔k∈aM l
 nk:(aM l).Nodup
 ns:∀ x∈l,x.2.2.Nodup
 cl:∀ u v,Ed l u v->v∈aM l
 ke:e∈aM l
 h12:l.length<=12
 reach:∀ k∈aM l,∃ π,fV (Ed l) e k π
inductive wy (σ σ':am) (d:Addr) (m:Str->Option V) (n:Nat) (b:Bool) (l:cU):Prop
 | mk (D la:Addr) (zs:List Int) (od ol:Obj) (hl:σ' la=some (.iset zs ol)) (fl:σ la=none) (nz:zs.Nodup) (mem:∀ k,k∈zs↔k∈aM l) (hd:σ' d=some (.ns (js (js m CM (.ref D)) y3 (.ref la)) (n+2) b od)) (ex:Ex [d] σ σ'):wy σ σ' d m n b l
theorem By {x d S N:Addr} {m n b ob oN} {l:cU} {nodes:List Int} {e:Int} {Q:V->am->Prop} (r:Rm 41 A) (H:wx σ x d S N m n b ob oN l nodes e) (q:∀ σ',wy σ σ' d m n b l->Q .none σ'):eS (G8 w mg mb os) A (.ref 394) [.ref x] [] σ Q:=by
 intros A w mg mb os σ x d S N m n b ob oN l nodes e Q
 intro r H q;refine dB (fd:=cC) (bv:=[(gK, .ref x)]) r.room (⋯) rfl (⋯) (c8 fun _ _=>by kernel_rfl) fun L hL=>?_;show WL _ _ _ (_::_) _ _ _;have xd:x≠d:=bM H.hx H.hd ∅;have Nd:N≠d:=bM H.hN H.hd ∅;refine al (aY (aF (ah (aQ dm (aJ (aA ⟨ba.ty,cL fun la ol hla=>bj (P:=fun s=>lV _ _ _ _ _ _ s _) hla fun σ1 fl e1=>bo (az ?_)⟩))))));refine al (mO fun Q' hQ=>Eq.mp (⋯) (zI (w:=w) (mg:=mg) (mb:=mb) (os:=os) (A:=A.deeper (aR cC 394 L cC.closure)) (L:=L) (x:=x) (d:=d) (S:=S) (la:=la) (l:=l) (e:=e) (σ:=σ1) (Q:=Q') (ρ:=(j9 [(gK, .ref x)]).set "live" (.ref la)) (r.deeper (n:=40)) ⟨e1.at H.hx,e1.at H.hd,H.mS,H.me,H.mf,H.hS.ex e1 (fun m=>nomatch m) (fun _ _ m=>nomatch m),fl,(fun m=>?_),H.nk,H.ns,H.cl,H.ke,H.h12,rfl,rfl,(fun y v h=>?_)⟩ fun ρ' zs ol' hρ nz vz me closed=>hQ _ _ _ ?_))
 ·obtain ⟨z,hz0⟩:=I0.mp m
  cases H.hS with | mk o _ a=>
  obtain ⟨o,ho⟩:=a z hz0.1;rw [hz0.2,hla] at ho;injection ho
 ·by_cases c:y = "live"
  ·rw [c,bK] at h;obtain rfl:=Option.some.inj h;rfl
  ·have h:=(if_neg c).symm.trans h
   by_cases c:y=gK
   ·rw [c] at h;obtain rfl:=Option.some.inj h;rfl
   ·exact nomatch (if_neg c).symm.trans h
 have all:∀ k,k∈zs↔k∈aM l:=fun k=>⟨vz k,fun mk=>by
  obtain ⟨π,hp⟩:=H.reach k mk;clear mk
  induction hp with
  | nil=>exact me
  | snoc _ ed ih=>exact closed _ ih _ ed⟩
 have rx:ρ' gK=some (.ref x):=(hρ gK nofun).trans rfl;have rl:ρ' "live" = some (.ref la):=(hρ "live" nofun).trans rfl;refine aZ (P:=fun s=>WL _ _ _ _ _ s _) fun σ2 fl2 e2=>?_;have lne:∀ {b y},σ b=some y->b≠la:=fun h=>aW h hla;have hx2:=e2.but (e1.at H.hx) (lne H.hx);have hd2:=e2.but (e1.at H.hd) (lne H.hd);have hN2:=e2.but (e1.at H.hN) (lne H.hN);have len:nodes.length=zs.length:=sB H.nn nz fun i=>(H.mem i).trans (all i).symm
 have l63:nodes.length<63:=by
  have:=IQ H.nn (l₂:=aM l) fun k m=>(H.mem k).mp m
  unfold aM at this;rw [IP] at this
  have:=H.h12
  exact jR ‹_› this rfl
 refine al (aY (bF (aH (ah (ak rx ?_)))));refine bG hx2 hd2 H.mN (ah (ak rl ?_)) (fun B v h=>bB h) (⋯) (fun v=>by kernel_rfl);refine tx hN2 fl2 (by lia) l63 fun D ds od hD nd _ hds=>bj (P:=fun s=>lV _ _ _ _ _ _ s _) hD fun σ3 fD e3=>?_
 have en:ds=[]:=by
  cases ds with
  | nil=>rfl
  | cons k ds=>exact absurd ((all k).mpr ((H.mem k).mp ((hds k).mp (.head _)).1)) ((hds k).mp (.head _)).2
 subst en;refine b5 (ah (ak rx ?_));refine eJ (e3.at hx2) (e3.at hd2) (by have:=H.hn;exact eW this rfl) (fun o4=>aZ (P:=fun s=>WL _ _ _ _ _ s _) fun σ4 fd4 e4=>?_) (⋯) (⋯) (⋯) (⋯);refine al (aY (ah (ak rl (b5 (ah (ak rx ?_))))));have hx4:=e4.but (e3.at hx2) xd;refine eJ hx4 fd4 (by have:=H.hn;exact lr this rfl) (fun o5=>aZ (P:=fun s=>WL _ _ _ _ _ s _) fun σ5 fd5 e5=>?_) (⋯) (⋯) (⋯) (⋯);have dD:D≠d:=(aW hd2 hD).symm;have fD5:=e5.but (e4.but fD dD) dD;have hx5:=e5.but hx4 xd;have m46:(js (js m CM (.ref D)) y3 (.ref la)) CM=some (.ref D):=(if_neg nofun).trans (if_pos rfl);refine al (d6 (aH (ah (ak rx ?_))));refine bG hx5 fd5 m46 (mI (r.deeper (n:=40)).hh fD5 fun ys hys=>?_) (fun B v h=>bB h) (⋯) (fun v=>by kernel_rfl);obtain rfl:=List.Perm.eq_nil hys;have ld:la≠d:=(lne H.hd).symm
 exact aE (aE (q _ ⟨D,la,zs,_,_,e5.but (e4.but (e3.at fl2) ld) ld,hla,nz,all,fd5,fun b y n h=>by
  have n':b≠d:=fun c=>n (c▸ .head _)
  exact e5.but (e4.but (e3.at (e2.but (e1.at h) (lne h))) n') n'⟩))
abbrev nA:FuncData:=fnEE CT Cc 7 (some 6) 147
theorem vA {x d S N:Addr} {m n b ob oN} {l:cU} {nodes:List Int} {e:Int} {Q:V->am->Prop} (r:Rm 60 A) (H:wx σ x d S N m n b ob oN l nodes e) (q:∀ σ',wy σ σ' d m n b l->Q .none σ'):eS (G8 w mg mb os) A (.ref 148) [.ref x] [] σ Q:=by
 refine dB (fd:=nA) (bv:=[(gK, .ref x)]) r.room (⋯) rfl (⋯) (c8 fun _ _=>by kernel_rfl) fun L hL=>?_;show WL _ _ _ (_::_) _ _ _;refine al (bO (aI (aH (ah (ak (v:= .ref x) rfl ?_)))));refine bG H.hx H.hd H.me (bV (bI (aV ?_))) (fun B v h=>fM h) (⋯) (fun v=>by kernel_rfl);refine aE (al (bh (ay (ah (ak (v:= .ref x) rfl ?_)))));refine fZ (f:=394) H.hx H.hd H.mg (⋯) (⋯) (⋯) (⋯) ?_;refine aJ (aA ⟨br (fd:=cC) (⋯),?_⟩);exact (By ((r.deeper (n:=59)).le (by decide)) H fun σ' a=>aE (q σ' a)).wc
end
inductive Ch (ps:List (Int×Int)):Int->List Int->Prop
 | root {u:Int}:(u,u)∈ps->Ch ps u [u]
 | step {u v:Int} {C:List Int}:(u,v)∈ps->u≠v->Ch ps v C->Ch ps u (u::C)
section
variable {ps:List (Int×Int)} {u v c c':Int} {C C':List Int}
theorem Ch.one (h:jg ps) (x:Ch ps u C):∀ {C'},Ch ps u C'->C=C':=by
 induction x with
 | root m=>
  intro C' y
  cases y with
  | root _=>rfl
  | step m' n _=>exact absurd (h.one m m') n
 | step m n _ ih=>
  intro C' y
  cases y with
  | root m'=>exact absurd (h.one m' m) n
  | step m' n' y=>rw [h.one m' m] at y;rw [ih y]
theorem Ch.ex (h:jg ps):∀ u∈ps.map (·.1),∃ C,Ch ps u C:=by
 obtain ⟨rk,hr⟩:=h.rk
 have:∀ n u,rk u<=n->u∈ps.map (·.1)->∃ C,Ch ps u C:=by
  intro n
  induction n with
  | zero=>
   intro u hu m;ac_rfl;obtain ⟨⟨u',v⟩,m,e⟩:=I0.mp m;right;replace m:(u,v)∈ps:=e▸m;rcases hr _ m with e' | l
   ·dsimp only at e';rw [<- e'] at m;exact ⟨_, .root m⟩
   ·dsimp only at l;lia
  | succ n ih=>
   intro u hu m;ac_rfl;obtain ⟨⟨u',v⟩,m,e⟩:=I0.mp m;right;replace m:(u,v)∈ps:=e▸m
   by_cases e':u=v
   ·rw [<- e'] at m;exact ⟨_, .root m⟩
   ·have l:=(hr _ m).resolve_left e';dsimp only at l;obtain ⟨C,hC⟩:=ih v (Nat.le_of_lt_succ (Nat.le_trans l hu)) (h.cl _ m);exact ⟨_, .step m e' hC⟩
 exact fun u m=>this _ u (I4 _) m
theorem Ch.mem (h:jg ps) (x:Ch ps u C):∀ c,c∈C↔Up ps u c:=by
 induction x with
 | root m=>exact fun c=>by rw [IN,h.up_root m]
 | step m n _ ih=>exact fun c=>by rw [IZ,h.up_step m,ih c]
open Classical in
abbrev cX (ps:List (Int×Int)) (u:Int):Nat:=if h:∃ C,Ch ps u C then (Classical.choose h).length else 0
theorem Ch.len (h:jg ps) (x:Ch ps u C):cX ps u=C.length:=by
 unfold cX;rw [dif_pos ⟨C,x⟩,Ch.one h (Classical.choose_spec (⟨C,x⟩: ∃ C,Ch ps u C)) x]
theorem Ch.nodup (h:jg ps) (x:Ch ps u C):C.Nodup:=by
 have up:∀ {a b},Up ps a b->cX ps b<=cX ps a:=fun q=>by
  induction q with
  | refl=>exact I4 _
  | @step k v j m _ ih=>
   refine Nat.le_trans ih ?_;obtain ⟨C,hC⟩:=Ch.ex h v (h.cl _ m)
   by_cases e:k=v
   ·rw [e];exact I4 _
   ·rw [hC.len h,(Ch.step m e hC).len h];exact Nat.le_succ _
 induction x with
 | root m=>simp
 | step m n y ih=>
  refine I6.mpr ⟨fun mm=>?_,ih⟩
  have:=up ((y.mem h _).mp mm)
  rw [(Ch.step m n y).len h,y.len h] at this;exact absurd this (Nat.not_succ_le_self _)
theorem ng (h:jg ps) (m:(u,u)∈ps):cX ps u=1:=(Ch.root m).len h
theorem jX (h:jg ps) (m:(u,v)∈ps) (n:u≠v):cX ps u=cX ps v+1:=by
 obtain ⟨C,hC⟩:=Ch.ex h v (h.cl _ m);rw [(Ch.step m n hC).len h,hC.len h];rfl
theorem i2 (h:jg ps) (q:Up ps u c):u=c\/cX ps c<cX ps u:=by
 induction q with
 | refl=>exact .inl rfl
 | @step k v j m _ ih=>
  by_cases e:k=v
  ·rw [e];exact ih
  ·have:=jX h m e
   rcases ih with rfl | l
   ·exact .inr (by lia)
   ·exact .inr (Nat.le_trans l (Nat.le.intro this.symm))
theorem Up.cmp (h:jg ps) (q:Up ps u c):∀ {c'},Up ps u c'->Up ps c c'\/Up ps c' c:=by
 induction q with
 | refl=>exact fun y=> .inl y
 | step m r ih=>
  intro c' y
  cases y with
  | refl=>exact .inr (.step m r)
  | step m' y=>rw [h.one m' m] at y;exact ih y
theorem Up.same (h:jg ps) (q:Up ps u c) (q':Up ps u c') (e:cX ps c=cX ps c'):c=c':=by
 rcases q.cmp h q' with r | r
 ·rcases i2 h r with r | r
  ·exact r
  ·lia
 ·rcases i2 h r with r | r
  ·exact r.symm
  ·lia
theorem Up.high (h:jg ps) (q:Up ps u c) (q':Up ps u c') (l:cX ps c<cX ps c'):Up ps c' c:=by
 rcases q.cmp h q' with r | r
 ·rcases i2 h r with r | r
  ·rw [r] at l;exact (Ji _ l).elim
  ·exact (wX r (Nat.le_of_lt l)).elim
 ·exact r
theorem Up.at (h:jg ps) {C} (x:Ch ps u C):∀ {k},0<k->k<=cX ps u->∃ a,Up ps u a/\cX ps a=k:=by
 induction x with
 | root m=>intro k h0 hk;rw [ng h m] at hk;exact ⟨_, .refl _,by rw [ng h m];exact Nat.le_antisymm h0 hk⟩
 | @step u v C m n y ih=>
  intro k h0 hk
  by_cases e:k=cX ps u
  ·exact ⟨_, .refl _,e.symm⟩
  ·rw [jX h m n] at hk e;obtain ⟨a,hz4⟩:=ih h0 (by lia);exact ⟨a, .step m hz4.1,hz4.2⟩
theorem zN (h:jg ps) (m:u∈ps.map (·.1)):0<cX ps u:=by
 obtain ⟨C,x⟩:=Ch.ex h u m;rw [x.len h]
 cases x <;> exact Nat.succ_pos _
end
inductive Wk (E:Int->Int->Prop) (c y:Int):Int->Prop
 | refl:y≠c->Wk E c y y
 | step {p q:Int}:Wk E c y p->E p q->q≠c->Wk E c y q
inductive ze (E:Int->Int->Prop) (P:Int->Prop) (y:Int):Int->Prop
 | refl:ze E P y y
 | step {p q:Int}:ze E P y p->E p q->P q->ze E P y q
abbrev iH (E:Int->Int->Prop) (x y:Int):Int->Int->Prop:=fun u v=>E u v\/(u=x/\v=y)
section
variable {E:Int->Int->Prop} {e x y u v c d i z:Int} {π:List Int}
theorem Wk.trans (h:Wk E c x y) (h':Wk E c y v):Wk E c x v:=by
 induction h' with
 | refl=>exact h
 | step _ m n ih=>exact .step ih m n
theorem dW.trans (h:dW E e c u) (h':dW E e u v):dW E e c v:=fun π q=>by
 ac_rfl;obtain ⟨π',hz6⟩:=q.upto (h' π q);right;exact hz6.2.1 c (h π' hz6.1)
theorem fV.plus (h:fV E e u π):fV (iH E x y) e u π:=by
 induction h with
 | nil=>exact .nil
 | snoc _ m ih=>exact .snoc ih (.inl m)
theorem dW.less (h:dW (iH E x y) e c v):dW E e c v:=fun π q=>h π q.plus
theorem Ao (h:¬ dW E e c v):∃ π,fV E e v π/\c∉π:=by
 apply IW;intro n;exact h fun π q=>IW fun m=>n ⟨π,q,m⟩
theorem yf (q:fV (iH E x y) e u π):c∉π->(∃ π',fV E e u π'/\c∉π')\/((∃ π',fV E e x π'/\c∉π')/\Wk E c y u):=by
 intros E e x y u c π
 intro q
 induction q with
 | nil=>exact fun n=> .inl ⟨_, .nil,n⟩
 | @snoc p u π _ m ih=>
  intro n;have nu:u≠c:=fun k=>n (k▸ .head _);have ih:=ih fun k=>n (.tail _ k);rcases m with m | ⟨rfl,rfl⟩
  ·rcases ih with ⟨π',q,k⟩ | ⟨a,k⟩
   ·exact .inl ⟨_, .snoc q m,fun k'=>(IZ.mp k').elim (fun k'=>nu k'.symm) k⟩
   ·exact .inr ⟨a, .step k m nu⟩
  ·rcases ih with a | ⟨a,_⟩
   ·exact .inr ⟨a, .refl nu⟩
   ·exact .inr ⟨a, .refl nu⟩
theorem dW.kept (h:dW E e c v) (k:dW E e c x\/¬ Wk E c y v):dW (iH E x y) e c v:=fun π q=>IW fun n=>by
 rcases yf q n with ⟨π',q',m⟩ | ⟨⟨π',q',m⟩,w⟩
 ·exact m (h π' q')
 ·exact k.elim (fun k=>m (k π' q')) fun k=>k w
theorem dW.lost (n:¬ dW E e c x) (w:Wk E c y v):¬ dW (iH E x y) e c v:=fun h=>by
 ac_rfl;obtain ⟨π,q,m⟩:=Ao n
 have:∀ {v},Wk E c y v->∃ π',fV (iH E x y) e v π'/\c∉π':=fun w=>by
  induction w with
  | refl k=>exact ⟨_, .snoc q.plus (.inr ⟨rfl,rfl⟩),fun k'=>(IZ.mp k').elim (fun k'=>k k'.symm) m⟩
  | step _ m k ih=>
   obtain ⟨π',hz8⟩:=ih;exact ⟨_, .snoc hz8.1 (.inl m),fun l=>(IZ.mp l).elim (fun l=>k l.symm) hz8.2⟩
 obtain ⟨π',q',m'⟩:=this w;right;exact m' (h π' q')
theorem fV.rest (q:fV E e u π) (hd:dW E e c i) (n:c≠i):π.Nodup->i∈π->Wk E c i u:=by
 induction q with
 | nil=>intro _ m;rw [IN] at m;rw [<- m];exact .refl n.symm
 | @snoc p u π q m ih=>
  intro nd mi;have nd:=I6.mp nd
  by_cases k:i=u
  ·rw [<- k];exact .refl n.symm
  ·have mi:=(IZ.mp mi).resolve_left k;refine .step (ih nd.2 mi) m fun l=>?_;ac_rfl;obtain ⟨π',hz10⟩:=q.upto mi;right;exact nd.1 (l▸hz10.2.1 c (hd π' hz10.1))
end
section
variable {E:Int->Int->Prop} {e x y z:Int} {V:List Int} {ps ps':List (Int×Int)}
theorem bR {u:Int} (m:u∈ps.map (·.1)):∃ v,(u,v)∈ps:=by
 ac_rfl;obtain ⟨⟨u',v⟩,m,e⟩:=I0.mp m;right;exact ⟨v,e▸m⟩
abbrev wj (E:Int->Int->Prop) (ps:List (Int×Int)) (y z i v:Int):Prop:=cX ps z<cX ps i/\cX ps i<cX ps y/\ze E (fun q=>cX ps i<cX ps q) y v
theorem grown (D:eE E e V ps) (cl:∀ u v,E u v->u∈V/\v∈V) (reach:∀ k∈V,∃ π,fV E e k π) (hx:x∈V) (hy:y∈V) (hz:oG ps x y z) (hk:ps'.map (·.1)=ps.map (·.1))
  (hg:∀ v i j,(v,i)∈ps->(v,j)∈ps'->(wj E ps y z i v->j=z)/\(¬ wj E ps y z i v->j=i)):eE (iH E x y) e V ps':=by
 intros E e x y z V ps ps'
 intro D cl reach hx hy hz hk hg;have C:=D.chn;have key:∀ {k},k∈V->k∈ps.map (·.1):=fun m=>(D.keys _).mpr m;have toD:∀ {u c},u∈V->Up ps u c->dW E e c u:=fun m q=>(D.dom _ m _).mp q;have ofD:∀ {u c},u∈V->dW E e c u->Up ps u c:=fun m q=>(D.dom _ m _).mpr q;have keyV:∀ {k},k∈ps.map (·.1)->k∈V:=fun m=>(D.keys _).mp m;have zV:z∈V:=keyV (hz.hl.key C (key hx));have pos:∀ {k},k∈V->0<cX ps k:=fun m=>zN C (key m);have d1:=ng C D.me
 have ne:∀ {u v},(u,v)∈ps->u≠e->u≠v:=fun {u v} m n k=>by
  rw [<- k] at m;have mV:u∈V:=keyV (IR (f:=fun p:Int×Int=>p.1) m);obtain ⟨π,q⟩:=reach u mV
  have:Up ps u e:=ofD mV fun π q=>q.start
  exact n ((C.up_root m).mp this).symm
 have zx:=toD hx hz.hl;have zy:=toD hy hz.hr
 have pair:∀ {v i j},(v,i)∈ps->(v,j)∈ps'->v≠e->j∈V/\cX ps j<cX ps v:=fun {v i j} m m' n=>by
  have:=jX C m (ne m n)
  by_cases a:wj E ps y z i v
  ·rw [(hg _ _ _ m m').1 a];exact ⟨zV,by have:=a.1;lia⟩
  ·rw [(hg _ _ _ m m').2 a];exact ⟨keyV (C.cl _ m),by lia⟩
 have root:∀ {j},(e,j)∈ps'->j=e:=fun {j} m'=>(hg _ _ _ D.me m').2 fun a=>by
  have:=a.1;rw [d1] at this;have:=pos zV;exact wX ‹_› this
 have hk':∀ {k},k∈ps'.map (·.1)↔k∈V:=fun {k}=>by rw [hk];exact D.keys k
 have np':(ps'.map (·.1)).Nodup:=by rw [hk];exact D.np
 have me':(e,e)∈ps':=by
  obtain ⟨j,m⟩:=bR (ps:=ps') (u:=e) (by rw [hk];exact IR (f:=fun p:Int×Int=>p.1) D.me);rw [root m] at m;exact m
 have C':jg ps':=⟨np',fun p m=>by
  obtain ⟨v,j⟩:=p
  by_cases n:v=e
  ·rw [n] at m;rw [root m];exact hk'.mpr (keyV (IR (f:=fun p:Int×Int=>p.1) D.me))
  ·obtain ⟨i,mi⟩:=bR (ps:=ps) (u:=v) (hk▸IR (f:=fun p:Int×Int=>p.1) m)
   exact hk'.mpr (pair mi m n).1,cX ps,fun p m=>by
  obtain ⟨v,j⟩:=p
  by_cases n:v=e
  ·rw [n] at m;rw [root m];exact .inl n
  ·obtain ⟨i,mi⟩:=bR (ps:=ps) (u:=v) (hk▸IR (f:=fun p:Int×Int=>p.1) m)
   exact .inr (pair mi m n).2⟩
 refine ⟨np',fun k=>hk',me',C',?_⟩
 have main:∀ n v,cX ps v<=n->v∈V->∀ c,Up ps' v c↔dW (iH E x y) e c v:=by
  intro n
  induction n with
  | zero=>intro v h m;have:=pos m;exact (wX this h).elim
  | succ n ih=>
   intro v hv mv c
   by_cases ev:v=e
   ·rw [ev,C'.up_root me'];exact ⟨fun k=>k▸dW.self,fun k=>k.root⟩
   ·obtain ⟨i,mi⟩:=bR (key mv);obtain ⟨j,mj⟩:=bR (ps:=ps') (hk'.mpr mv);have hz18:=pair mi mj ev;have iV:i∈V:=keyV (C.cl _ mi);have vi:Up ps v i:= .step mi (.refl _);have di:=jX C mi (ne mi ev);rw [C'.up_step mj,ih j (Nat.le_of_lt_succ (Nat.le_trans hz18.2 hv)) hz18.1];have low:∀ {c},dW (iH E x y) e c v->c≠v->Up ps i c:=fun h n=>((C.up_step mi).mp (ofD mv h.less)).resolve_left n
    suffices hs:dW (iH E x y) e j v/\∀ c,dW (iH E x y) e c v->c≠v->dW (iH E x y) e c j by
     constructor
     ·rintro (rfl | h)
      ·exact dW.self
      ·exact h.trans hs.1
     ·intro h
      by_cases n:c=v
      ·exact .inl n
      ·exact .inr (hs.2 c h n)
    by_cases a:wj E ps y z i v
    ·rw [(hg _ _ _ mi mj).1 a];ac_rfl;obtain ⟨a1,a2,a3⟩:=a;obtain ⟨Cy,hCy⟩:=Ch.ex C y (key hy);obtain ⟨b,hb,db⟩:=Up.at C hCy (pos iV) (Nat.le_of_lt a2);right
     have all:∀ {u},ze E (fun q=>cX ps i<cX ps q) y u->u∈V/\Up ps u b:=fun r=>by
      induction r with
      | refl=>exact ⟨hy,hb⟩
      | @step p q _ m l ih=>
       have qV:=(cl _ _ m).2;ac_rfl;obtain ⟨Cq,hCq⟩:=Ch.ex C q (key qV);obtain ⟨t,hz23⟩:=Up.at C hCq (pos iV) (Nat.le_of_lt l);right
       have tq:t≠q:=fun k=>by rw [<- k] at l;lia
       have:Up ps p t:=ofD ih.1 ((toD qV hz23.1).pred tq m)
       rw [Up.same C ih.2 this (db.trans hz23.2.symm)];exact ⟨qV,hz23.1⟩
     have bi:b=i:=Up.same C (all a3).2 vi db;rw [bi] at hb;have iz:Up ps i z:=Up.high C hz.hr hb a1;refine ⟨(toD mv (Up.trans vi iz)).kept (.inl zx),fun c h n=>?_⟩;have ic:=low h n;have first:Up ps z c->dW (iH E x y) e c z:=fun q=>(toD zV q).kept (.inl (toD hx (Up.trans hz.hl q)));rcases Up.cmp C iz ic with q | q
     ·exact first q
     ·by_cases k:dW E e c x
      ·exact first (hz.hg c (ofD hx k) (Up.trans hb ic))
      ·have lc:cX ps c<=cX ps i:=(i2 C ic).elim (fun k=>by rw [k];exact I4 _) Nat.le_of_lt
       have wk:∀ {u},ze E (fun q=>cX ps i<cX ps q) y u->Wk E c y u:=fun r=>by
        induction r with
        | refl=>exact .refl fun k=>by rw [k] at a2;exact wX a2 lc
        | step _ m l ih=>exact .step ih m fun k=>by rw [k] at l;exact wX l lc
       exact absurd h (dW.lost k (wk a3))
    ·rw [(hg _ _ _ mi mj).2 a];have iv:dW E e i v:=toD mv vi
     have hi:dW (iH E x y) e i v:=by
      apply iv.kept
      by_cases k:dW E e i x
      ·exact .inl k
      ·refine .inr fun w=>a ?_
       have wk:∀ {u:Int},Wk E i y u->u∈V->dW E e i u->(cX ps i<cX ps y/\Up ps y i)/\ze E (fun q=>cX ps i<cX ps q) y u:=fun r=>by
        induction r with
        | refl k=>exact fun m d=>⟨⟨(i2 C (ofD hy d)).resolve_left k,ofD hy d⟩, .refl⟩
        | @step p q _ m k ih=>
         intro mq d;have hz24:=ih (cl _ _ m).1 (d.pred k.symm m);exact ⟨hz24.1, .step hz24.2 m ((i2 C (ofD mq d)).resolve_left k)⟩
       obtain ⟨⟨h1,h2⟩,h3⟩:=wk w mv iv;refine ⟨?_,h1,h3⟩;rcases Nat.lt_or_ge (cX ps z) (cX ps i) with l | l
       ·exact l
       ·exfalso
        have:Up ps z i:=by
         rcases Nat.lt_or_ge (cX ps i) (cX ps z) with l' | l'
         ·exact Up.high C h2 hz.hr l'
         ·rw [Up.same C h2 hz.hr (Nat.le_antisymm l l')];exact .refl _
        exact k (toD hx (Up.trans hz.hl this))
     refine ⟨hi,fun c h n=>?_⟩;have ic:=low h n
     by_cases ci:c=i
     ·rw [ci];exact dW.self
     ·apply (toD iV ic).kept
      by_cases k:dW E e c x
      ·exact .inl k
      ·refine .inr fun w=>dW.lost k (w.trans ?_) h;ac_rfl;obtain ⟨π,q⟩:=reach v mv;obtain ⟨π',hz26⟩:=q.simple;right;exact hz26.1.rest (toD iV ic) ci hz26.2.2 (iv π' hz26.1)
 exact fun u m=>main _ u (I4 _) m
end
section
variable {E E':Int->Int->Prop} {e x y z u v w p c:Int} {V V':List Int} {ps ps':List (Int×Int)}
theorem fV.congr (h:∀ u v,E u v->E' u v) {π} (q:fV E e u π):fV E' e u π:=by
 induction q with
 | nil=>exact .nil
 | snoc _ m ih=>exact .snoc ih (h _ _ m)
theorem dW.congr (h:∀ u v,E u v↔E' u v):dW E e c u↔dW E' e c u:=⟨fun d π q=>d π (q.congr fun _ _ m=>(h _ _).mpr m),fun d π q=>d π (q.congr fun _ _ m=>(h _ _).mp m)⟩
theorem eE.congr (D:eE E e V ps) (h:∀ u v,E u v↔E' u v) (hV:∀ k,k∈V↔k∈V'):eE E' e V' ps:=
 ⟨D.np,fun k=>(D.keys k).trans (hV k),D.me,D.chn,fun u m c=>(D.dom u ((hV u).mpr m) c).trans (dW.congr h)⟩
theorem eE.up (D:eE E e V ps) (D':eE E e V ps') (m:u∈V):Up ps u c↔Up ps' u c:=(D.dom u m c).trans (D'.dom u m c).symm
theorem eE.one (D:eE E e V ps) (D':eE E e V ps') (m:(u,v)∈ps) (m':(u,w)∈ps'):v=w:=by
 have kV:∀ {a b},(a,b)∈ps->a∈V:=fun h=>(D.keys _).mp (IR (f:=fun p:Int×Int=>p.1) h);have kV':∀ {a b},(a,b)∈ps'->b∈V:=fun h=>(D'.keys _).mp (D'.chn.cl _ h);have vV:v∈V:=(D.keys _).mp (D.chn.cl _ m)
 by_cases n:u=v
 ·rw [<- n] at m ⊢;exact ((D.chn.up_root m).mp ((D.up D' (kV m)).mpr (.step m' (.refl _)))).symm
 ·by_cases n':u=w
  ·rw [<- n'] at m' ⊢;exact (D'.chn.up_root m').mp ((D.up D' (kV m)).mp (.step m (.refl _)))
  ·have h1:Up ps v w:=((D.chn.up_step m).mp ((D.up D' (kV m)).mpr (.step m' (.refl _)))).resolve_left fun k=>n' k.symm;have h2:Up ps' w v:=((D'.chn.up_step m').mp ((D.up D' (kV m)).mp (.step m (.refl _)))).resolve_left fun k=>n k.symm;have h3:Up ps w v:=(D.up D' (kV' m')).mpr h2;rcases i2 D.chn h1 with k | k
   ·exact k
   ·rcases i2 D.chn h3 with k' | k'
    ·exact k'.symm
    ·lia
theorem eE.first:eE (fun _ _=>False) e [e] [(e,e)]:=by
 have C:jg [(e,e)]:=⟨by simp,fun p m=>by rw [IN.mp m];exact .head _,fun _=>0,fun p m=>by rw [IN.mp m];exact .inl rfl⟩;refine ⟨by simp,fun k=>by simp, .head _,C,fun u m c=>?_⟩;rw [IN.mp m,C.up_root (.head _)];exact ⟨fun k=>k▸dW.self,fun k=>k.root⟩
theorem eE.leaf (D:eE E e V ps) (cl:∀ u v,E u v->u∈V/\v∈V) (hp:p∈V) (hw:w∉V):eE (iH E p w) e (V++[w]) (ps++[(w,p)]):=by
 intros E e w p V ps
 intro D cl hp hw;have C:=D.chn;have eV:e∈V:=(D.keys _).mp (IR (f:=fun p:Int×Int=>p.1) D.me);have nk:w∉ps.map (·.1):=fun m=>hw ((D.keys _).mp m)
 have keys:∀ k,k∈(ps++[(w,p)]).map (·.1)↔k∈V++[w]:=fun k=>by
  rw [I2,I1,I1,D.keys k];rfl
 have np:((ps++[(w,p)]).map (·.1)).Nodup:=by
  rw [I2];exact Jb.mpr ⟨D.np,by simp,fun a ma b mb k=>nk (by have h:a=w:=k.trans (IN.mp mb);rw [<- h];exact ma)⟩
 obtain ⟨rk,hr⟩:=C.rk
 have C':jg (ps++[(w,p)]):=⟨np,fun q m=>by
  rw [keys];rcases I1.mp m with m | m
  ·exact IS _ ((D.keys _).mp (C.cl _ m))
  ·rw [IN.mp m];exact IS _ hp,fun k=>if k=w then rk p+1 else rk k,fun q m=>by
  rcases I1.mp m with m | m
  ·have n1:q.1≠w:=fun k=>nk (k▸IR m);have n2:q.2≠w:=fun k=>nk (k▸C.cl _ m);dsimp only;rw [if_neg n1,if_neg n2];exact hr q m
  ·rw [IN.mp m];dsimp only
   have:p≠w:=fun k=>hw (k▸hp)
   rw [if_pos rfl,if_neg this]
   exact .inr (Nat.lt_succ_self _)⟩
 have upo:∀ {u c},u∈V->(Up (ps++[(w,p)]) u c↔Up ps u c):=fun {u c} m=>by
  constructor
  ·intro h
   induction h with
   | refl=>exact .refl _
   | @step k v j q _ ih=>
    rcases I1.mp q with q | q
    ·exact .step q (ih ((D.keys _).mp (C.cl _ q)))
    ·(injection IN.mp q with zz;subst zz);exact absurd m hw
  ·intro h;clear m
   induction h with
   | refl=>exact .refl _
   | step q _ ih=>exact .step (IS _ q) ih
 have old:∀ {u π},fV (iH E p w) e u π->u∈V->fV E e u π:=fun q=>by
  induction q with
  | nil=>exact fun _=> .nil
  | snoc _ m ih=>
   intro k;rcases m with m | ⟨_,m⟩
   ·exact .snoc (ih (cl _ _ m).1) m
   ·exact absurd (m▸k) hw
 refine ⟨np,keys,IS _ D.me,C',fun u m c=>?_⟩;rcases I1.mp m with m | m
 ·rw [upo m,D.dom u m];exact ⟨fun h π q=>h π (old q m),fun h=>h.less⟩
 ·rw [IN.mp m];rw [C'.up_step (IT _ (.head _)),upo hp,D.dom p hp];constructor
  ·rintro (rfl | h)
   ·exact dW.self
   ·intro π q
    cases q with
    | nil=>exact absurd eV hw
    | snoc q m=>
     rcases m with m | ⟨m,_⟩
     ·exact absurd (cl _ _ m).2 hw
     ·rw [m] at q;exact .tail _ (h _ (old q hp))
  ·intro h
   by_cases n:c=w
   ·exact .inl n
   ·exact .inr fun π q=>(IZ.mp (h _ (.snoc q.plus (.inr ⟨rfl,rfl⟩)))).resolve_left n
end
section
variable {G:aK} {A:Around} {L l:Addr} {ρ:aX} {σ:am} {xs:List V}
theorem VRs.put {B:PB} {i:Nat} {v:V} {z:Value}:∀ {xs:List V} {vs:List Value},VRs B xs vs->VR B v z->VRs B (xs.set i v) (vs.set i z):=by
 induction i with
 | zero=>intro xs vs r q;cases r with | nil=>exact .nil | cons a b=>exact .cons q b
 | succ i ih=>intro xs vs r q;cases r with | nil=>exact .nil | cons a b=>exact .cons a (ih b q)
theorem qb {k:Int} {v:V} {Q:aX->am->Prop} (h:σ l=some (.list xs)) (h0:0<=k) (hk:k.toNat<xs.length) (hz:xs.length<2 ^ 60) (q:Q ρ (σ.set l (.list (xs.set k.toNat v)))):Dk G A L sA [.ref l, .int k,v] ρ σ Q:=by
 intros G A L l ρ σ xs k v Q
 intro h h0 hk hz q
 injections B s
 intro zs st r;obtain ⟨x,y,z,rfl,r1,r2,r3⟩:=r.three;obtain rfl:=r1.refE;obtain ⟨t,rfl⟩:=r2.intE
 cases st.slist h with | mk vs ep el re=>
 have e:=dZ re;have hT:s.TypeIs (.ref l) "list" :=ig ⟨_,_,el⟩;show wpAny _ _ (setItem (.ref l) (.int k t) z) _ _ s;refine wpAny_holding ?_;exists (wpAny_sequenceKey hT (by decide) ?_);exists (wpAny_callSpecial?_slot (name:=Str.ofString "__setitem__") hT slot_list_setitem (wpAny_call_entry slot_list_setitem hT entry_list_setitem ?_ (args_list_setitem _ _ _)));show wpAny _ _ (Builtin.List.listSubscript? (.int k t)>>=_) _ _ s;exists (wpAny_listSubscript_int (fitsIndex_of h0 (by lia)) ?_);obtain ⟨j,rfl⟩:=Int.eq_ofNat_of_zero_le h0
 have hj:j<vs.size:=by rw [e];exact hk
 have hx':vs[j]?=some vs[j]:=IY hj;show wpAny _ _ ((seqItemAt l j>>=fun r=>pure (r.map (j,·)))>>=_) _ _ s;exists (wpAny_bind (wpAny_seqItemAt el rfl (wpAny_pure ?_)));rw [hx'];show wpAny _ _ (setSeqItemAt l j z>>=_) _ _ s;exists (wpAny_setSeqItemAt el rfl ?_);refine wpAny_pure ⟨.none,rfl,wpAny_pure ?_⟩;exact ⟨B,(),ρ,_, .refl B,st.updList h el _ (by rw [Array.toList_setIfInBounds];exact re.put r3) _,rfl,q⟩
end
section
variable {G:aK} {A:Around} {env:Env} {σ:am} {acc:Addr}
theorem jS {C:am->Prop} {y:Str} {p:Pos} {elt:Expr} {ifs:List Expr} {f:V->V} {g:V->Bool} {Q:am->Prop} {xs:List V} {ρ:aX} (hC:∀ l,C (σ.set acc (.list l))) (hz:xs.length<2 ^ 20)
  (hb:∀ x∈xs,∀ ρ l,ρ y=some x->qa G A env ifs ρ (σ.set acc (.list l)) fun b σ'=>b=g x/\σ'=σ.set acc (.list l))
  (he:∀ x∈xs,∀ ρ l,ρ y=some x->WE G A env elt ρ (σ.set acc (.list l)) fun v σ'=>v=f x/\σ'=σ.set acc (.list l))
  (q:Q (σ.set acc (.list ((xs.filter g).map f)))) (hk:autoParam (env.scope.kind = .function) TaR) (hl:autoParam (env.kindOf y=some .local) TaR):gO G A env C (.Name y p) ifs (uG G A env elt acc) Q xs ρ (σ.set acc (.list [])):=by
 refine ky nh (fun r σ'=>∃ d,xs=d++r/\σ'=σ.set acc (.list ((d.filter g).map f))) ?_ ?_ _ ⟨[],rfl,rfl⟩
 ·rintro x r ρ' σ' ⟨d,e,rfl⟩
  have mx:x∈xs:=by rw [e];simp
  refine bo (az ((hb x mx _ _ bK).mono ?_) hk hl);rintro b _ ⟨rfl,rfl⟩
  by_cases c:g x=true
  ·rw [if_pos c];refine WE.mono (he x mx _ _ bK) ?_;rintro v _ ⟨rfl,rfl⟩;refine ⟨_,am.set_self ..,?_,?_⟩
   ·rw [IP];refine Je (List.length_filter_le ..) ?_;rw [e,IV] at hz;exact Je (Nat.le_add_right ..) hz
   ·rw [am.set_set];refine ⟨hC _,d++[x],by rw [e];simp,?_⟩;rw [List.filter_append,I2,List.filter_cons,if_pos c];rfl
  ·rw [if_neg c];refine ⟨hC _,d++[x],by rw [e];simp,?_⟩;rw [List.filter_append,List.filter_cons,if_neg c,List.filter_nil,List.append_nil]
 ·rintro σ' ⟨d,e,rfl⟩;rw [List.append_nil] at e;rw [<- e];exact q
end
theorem vw {a b:Int} (h0:0<b) (h:b<10):Builtin.divisionGoesByPylong a b=false:=by
 intros a b
 intro h0 h
 have:b=1\/b=2\/b=3\/b=4\/b=5\/b=6\/b=7\/b=8\/b=9:=by lia
 rcases this with rfl | rfl | rfl | rfl | rfl | rfl | rfl | rfl | rfl <;> (unfold Builtin.divisionGoesByPylong;rfl)
section
variable {A:Around} {w:World} {mg mb:Str->Option Value} {os:OsState} {σ:am}
abbrev bU:FuncData:=cR yK yK 9 .none 3 [] .none .none .none (.str ul 1017) .none (.ref 531) .none 0
structure wJ (σ:am) (a sc:Addr) (p:Nat) (c:Int):Prop where
 h:σ a=some (.list [.ref sc, .int p, .int c])
 sc:∃ ns,σ sc=some (.list (aB ns))/\ns.length<100
theorem i6 {a sc:Addr} {p:Nat} {c size:Int} {Q:V->am->Prop} (r:Rm 10 A) (H:wJ σ a sc p c) (hp:p<1000) (hs:0<size)
  (q:∀ k σ',0<=k->k<size->wJ σ' a sc (p+1) c->Ex [a] σ σ'->Q (.int k) σ'):eS (G8 w mg mb os) A (.ref 532) [.ref a, .int size] [] σ Q:=by
 intros A w mg mb os σ a sc p c size Q
 intro r H hp hs q;refine dB (fd:=bU) (bv:=[(CN, .ref a),(Ge, .int size)]) r.room (⋯) rfl (⋯) (hH fun _ _ _=>by kernel_rfl) fun L hL=>?_;ac_rfl;obtain ⟨ns,hsc,ln⟩:=H.sc;right;have hh:=(r.deeper (n:=9) (env:=aR bU 532 L bU.closure)).hh
 have lv:(aB ns).length<2 ^ 60:=by unfold aB;rw [IP];exact eW ln rfl
 show WL _ _ _ (_::_) _ _ _;have sa:sc≠a:=bM hsc H.h (by intro c;cases ns with | nil=>cases c | cons n ns=>cases c);refine al (ar (aG (ah (ak (v:= .ref a) rfl (bp ⟨PG.list (.inl H.h),bq (.inl H.h) (by decide) (IU rfl) (v:= .int p) rfl (az ?_)⟩)))));refine al (aY (bF (ah (ak (v:= .int p) rfl (bp (kA (bz (ah (ak (v:= .ref a) rfl (bp (qb H.h (by decide) (IU rfl) (IU rfl) (aZ (P:=fun s=>WL _ _ _ _ _ s _) fun σ1 f1 e1=>?_))))))))))));have fs:=e1.but hsc sa;have fin:∀ {k:Int},0<=k->k<size->Q (.int k) σ1:=fun h0 h1=>q _ _ h0 h1 ⟨f1,ns,fs,ln⟩ e1;refine al (bO (aI (ah (ak (v:= .int p) rfl (aF (ah (aQ nF (aJ (ao (aG (ah (ak (v:= .ref a) rfl (bp ⟨PG.list (.inl f1),bq (.inl f1) (by decide) (IU rfl) (v:= .ref sc) rfl (aA ⟨ba.bi,mG (.inl fs) lv (ux (aV ?_))⟩)⟩)))))))))))))
 have lvn:(aB ns).length=ns.length:=by unfold aB;rw [IP]
 by_cases lt:p<ns.length
 ·refine (if_pos (by rw [lvn];exact I5 (Int.ofNat_lt.mpr lt))).mpr ?_;obtain ⟨k,hk⟩: ∃ k,ns[p]?=some k:=⟨_,IX lt⟩;refine al (bA (bF (aF (ah (aQ xC (aJ (ao (aG (aG (ah (ak (v:= .ref a) rfl (bp ⟨PG.list (.inl f1),bq (.inl f1) (by decide) (IU rfl) (v:= .ref sc) rfl ?_⟩))))))))))));refine ah (ak (v:= .int p) rfl ⟨PG.list (.inl fs),bq (.inl fs) (E5 rfl) lv (v:= .int k) ?_ (aA ⟨ba.bi,wM (ah (ak (v:= .int size) rfl (kB hh (Ne.symm (Int.ne_of_lt hs)) (fin ?_ ?_))))⟩)⟩)
  ·unfold aB;rw [List.getElem?_map,show ((p:Int)).toNat=p from rfl,hk];rfl
  ·exact Int.fmod_nonneg_of_pos _ hs
  ·exact Int.fmod_lt_of_pos _ hs
 ·refine (if_neg (by rw [lvn];intro h;exact lt (by have:=Jf h;exact Int.ofNat_lt.mp this))).mpr ?_;refine aE (al (bA (bF (bF (bF (aG (ah (ak (v:= .ref a) rfl (bp ⟨PG.list (.inl f1),bq (.inl f1) (by decide) (IU rfl) (v:= .int c) rfl ?_⟩)))))))));refine bF (ah (ak (v:= .int p) rfl (bp (wU (.of_right (by decide)) (kA ?_)))));have hm:=Int.fmod_nonneg_of_pos (p:Int) (b:=3) (by decide);have hm':=Int.fmod_lt_of_pos (p:Int) (b:=3) (by decide);refine bF (bp (bF (ah (ak (v:= .int p) rfl (bp (kB hh (by decide) (kA ?_)))))));refine zu hh (by omega) (vw (Int.lt_add_of_neg_add_lt hm) (by omega)) (ah (ak (v:= .int size) rfl (kB hh (Ne.symm (Int.ne_of_lt hs)) (fin ?_ ?_))))
  ·exact Int.fmod_nonneg_of_pos _ hs
  ·exact Int.fmod_lt_of_pos _ hs
end
theorem tW (ns:List Int) (lo hi:Option Int):∃ ms,vN (aB ns) lo hi=aB ms/\ms.length<=ns.length:=by
 unfold vN aB;refine ⟨(ns.drop (lo.elim 0 (clipAt (ns.map V.int).length))).take (hi.elim (ns.map V.int).length (clipAt (ns.map V.int).length) - lo.elim 0 (clipAt (ns.map V.int).length)),?_,?_⟩
 ·rw [List.map_take,List.map_drop]
 ·rw [List.length_take,List.length_drop];exact Nat.le_trans (Nat.min_le_right _ _) (Nat.sub_le _ _)
section
variable {A:Around} {w:World} {mg mb:Str->Option Value} {os:OsState} {σ:am}
abbrev fm:FuncData:=cR yL yL 10 .none 3 [] .none .none .none (.str ul 1017) .none (.ref 536) .none 0
abbrev ym (v:V):V:=match v with
 | .int i=> .int ((if i<0 then -i else i).fmod 991)
 | v=>v
theorem qG (ns:List Int):((aB ns).filter fun _=>true).map ym=aB (ns.map fun i=>(if i<0 then -i else i).fmod 991):=by
 rw [List.filter_eq_self.mpr fun _ _=>rfl];unfold aB;rw [Jk,Jk];rfl
theorem zX {lv:Addr} {ns:List Int} {Q:V->am->Prop} (r:Rm 10 A) (H:σ lv=some (.flist (aB ns))) (hn:ns.length<100)
  (q:∀ a sc c σ',wJ σ' a sc 0 c->Ex [] σ σ'->Q (.ref a) σ'):eS (G8 w mg mb os) A (.ref 537) [.ref lv] [] σ Q:=by
 intros A w mg mb os σ lv ns Q
 intro r H hn q;refine dB (fd:=fm) (bv:=[(ET, .ref lv)]) r.room (⋯) rfl (⋯) (c8 fun _ _=>by kernel_rfl) fun L hL=>?_;have hh:=(r.deeper (n:=9) (env:=aR fm 537 L fm.closure)).hh;show WL _ _ _ (_::_) _ _ _
 have lv':(aB ns).length<2 ^ 20:=by rw [a0];exact eW hn rfl
 ac_rfl;obtain ⟨ms,hz0⟩:=tW ns none (some 60);right;refine al (bA (dG (ao (mH (ah (ak (v:= .ref lv) rfl (bp ⟨lv,_,rfl, .inr H,lv',fun sc hsc=>?_⟩)))))));rw [hz0.1];refine bj (P:=fun s=>p7 _ _ _ _ _ s _) hsc fun σ1 f1 e1=>?_;refine ao (bp (ao (bF (aF (ah (aQ BH (aJ (ao (eG (ah (ak (v:= .ref lv) rfl (fY hh (.inr (e1.at H)) fun acc hacc CL=>⟨.inr (sk hacc (e1.at H)),?_⟩))))))))))));refine jS (f:=ym) (g:=fun _=>true) (fun l=> .inr (sk hacc (e1.at H))) lv' (fun _ _ _ _ _=>⟨rfl,rfl⟩) (fun x mx ρ l hx=>?_) ?_
 ·obtain ⟨i,_,rfl⟩:=I0.mp mx;exact bF (aF (ah (aQ xC (aJ (ao (ah (ak hx (aA ⟨ba.bi,wM (bp (kB hh (by decide) ⟨rfl,rfl⟩))⟩))))))))
 ·rw [qG];refine aA ⟨ba.bi,Br hh (.inl (am.set_self ..)) (fun n m=>?_) (by rw [IP];exact hn) (bp (kB hh (by decide) (aA ⟨IU rfl,fun a ha=>?_⟩)))⟩
  ·obtain ⟨i,_,rfl⟩:=I0.mp m
   have h1:=Int.fmod_nonneg_of_pos (if i<0 then -i else i) (b:=991) (by decide)
   have h2:=Int.fmod_lt_of_pos (if i<0 then -i else i) (b:=991) (by decide)
   exact ⟨h1,(GC h2 rfl)⟩
  ·exact q a sc _ _ ⟨am.set_self ..,ms,sk ha (sk hacc f1),(sY hz0.2 hn rfl)⟩ fun b y _ h=>sk ha (sk hacc (e1.at h))
abbrev fk:FuncData:=cR yM yM 11 .none 3 [] .none .none .none (.str ul 1017) .none (.ref 541) .none 0
abbrev kO (sh st:Int) (k:Int):Int:=(sh+k*st).fmod 101 - 30
theorem sv:∀ d:Fin 6,∀ s:Fin 101,d≠0->s≠0->(d.val*s.val) % 101≠0:=by decide +kernel
theorem tT {sh st i j:Int} (h1:0<st) (h2:st<101) (hi:0<=i) (hj:i<j) (h6:j<6):kO sh st i≠kO sh st j:=fun e=>by
 unfold kO at e;have e:(sh+i*st).fmod 101=(sh+j*st).fmod 101:=(Int.add_left_inj (-30)).mp e;rw [Int.fmod_eq_emod_of_nonneg _ (by decide),Int.fmod_eq_emod_of_nonneg _ (by decide)] at e
 have:((j - i)*st) % 101=0:=by
  rw [Int.sub_mul];generalize i*st=P at e ⊢;generalize j*st=R at e ⊢;lia
 ac_rfl;obtain ⟨a,ha⟩:=Int.eq_ofNat_of_zero_le (a:=j - i) (by lia);obtain ⟨b,hb⟩:=Int.eq_ofNat_of_zero_le (a:=st) (F8 h1 rfl);right;rw [ha,hb] at this;exact sv ⟨a,by lia⟩ ⟨b,by lia⟩ (fun c=>by have:=Fin.val_eq_of_eq c;simp at this;lia) (fun c=>by have:=Fin.val_eq_of_eq c;simp at this;lia) (by exact_mod_cast this)
theorem gr:GV (G8 w mg mb os) yK (.ref 532):=i9 (⋯)
theorem ka (n:Nat):∀ a,(∀ k∈sG n a,a<=k/\k<a+n)/\(sG n a).Pairwise (· < ·)/\(sG n a).length=n:=by
 induction n with
 | zero=>exact fun a=>⟨(fun _ m=>nomatch m), .nil,rfl⟩
 | succ n ih=>
  intro a;ac_rfl;have hz3:=ih (a+1);right;refine ⟨fun k m=>?_, .cons (fun k m=>?_) hz3.2.1,congrArg (· + 1) hz3.2.2⟩
  ·rcases IZ.mp m with rfl | m
   ·lia
   ·have:=hz3.1 k m;lia
  ·have:=hz3.1 k m;exact this.1
theorem qH {b k:Int} (h:k∈AZ 0 b):0<=k/\k<b:=by
 have:=(ka (b - 0).toNat 0).1 k h
 omega
theorem sx {sh st b:Int} (h1:0<st) (h2:st<101) (hb:b<=6):((AZ 0 b).map (kO sh st)).Nodup:=by
 refine List.nodup_iff_pairwise_ne.mpr (List.pairwise_map.mpr (List.Pairwise.imp_of_mem ?_ (ka (b - 0).toNat 0).2.1));intro i j mi mj lt
 have:=qH mj
 exact tT h1 h2 (qH mi).1 lt (Int.lt_of_lt_of_le this.2 hb)
abbrev x8 (sh st:Int) (v:V):V:=match v with
 | .int k=> .int (kO sh st k)
 | v=>v
theorem qw (sh st:Int) (ks:List Int):((aB ks).filter fun _=>true).map (x8 sh st)=aB (ks.map (kO sh st)):=by
 rw [List.filter_eq_self.mpr fun _ _=>rfl];unfold aB;rw [Jk,Jk];rfl
theorem vX {a b:Int} (h0:0<=a) (h:a<10):IntMulOk a b:=by
 intros a b
 intro h0 h
 have:a=0\/a=1\/a=2\/a=3\/a=4\/a=5\/a=6\/a=7\/a=8\/a=9:=by lia
 rcases this with rfl | rfl | rfl | rfl | rfl | rfl | rfl | rfl | rfl | rfl <;> exact .of_left (by decide)
theorem zW {st sc:Addr} {p:Nat} {c n:Int} {Q:V->am->Prop} (r:Rm 20 A) (H:wJ σ st sc p c) (hp:p<900) (h0:0<n) (h6:n<=6)
  (q:∀ a N σ',σ a=none->σ' a=some (.list (aB N))->N.Nodup->(N.length:Int)=n->wJ σ' st sc (p+2) c->Ex [st] σ σ'->Q (.ref a) σ'):eS (G8 w mg mb os) A (.ref 542) [.ref st, .int n] [] σ Q:=by
 intros A w mg mb os σ st sc p c n Q
 intro r H hp h0 h6 q;refine jt (fd:=fk) (bv:=[(CN, .ref st),(EU, .int n)]) (zH (⋯) rfl (⋯) (hH fun _ _ _=>by kernel_rfl) (⋯) (⋯)) r.room fun L hL=>?_;refine aO rfl (aO rfl (b8 fun cs σ1 hc1 f1 e1=>b8 fun ch σ2 hc2 f2 e2=>b6 (⋯) ?_));refine az (az ?_);have hh:=(r.deeper (n:=19) (env:=aR fk 542 L [(FV,ch),(CO,cs)])).hh;have H2:wJ σ2 st sc p c:=⟨e2.at (e1.at H.h),H.sc.imp fun ns h=>⟨e2.at (e1.at h.1),h.2⟩⟩;have csst:cs≠st:=(aW H.h hc1).symm;have chst:ch≠st:=(aW (e1.at H.h) hc2).symm;have cc:cs≠ch:=aW f1 hc2;show WL _ _ _ (_::_) _ _ _;have rn:Rm 10 (A.deeper (aR fk 542 L [(FV,ch),(CO,cs)])):=(r.deeper (n:=19)).le (by decide);refine al (aY (bF (bp (aF (ah (aQ gr (aJ (ao (ah (ak (v:= .ref st) rfl (ao (bp (aA ⟨br (fd:=bU) (⋯),(i6 rn H2 (eW hp rfl) (by decide) fun s1 σ3 h1 h1' H3 e3=>kA (bo ?_)).wc⟩)))))))))))));refine cO (c:=cs) (⋯) (e3.but (e2.at f1) csst) (aZ (P:=fun s=>WL _ _ _ _ _ s _) fun σ4 f4 e4=>?_);have H4:wJ σ4 st sc (p+1) c:=⟨e4.but H3.h csst.symm,H3.sc.imp fun ns h=>⟨e4.but h.1 (bM (e3.but (e2.at f1) csst) h.1 ∅).symm,h.2⟩⟩;refine al (aY (aF (ah (aQ gr (aJ (ao (ah (ak (v:= .ref st) rfl (ao (bp (aA ⟨br (fd:=bU) (⋯),(i6 rn H4 (lr hp rfl) (by decide) fun s2 σ5 h2 h2' H5 e5=>bo ?_).wc⟩)))))))))));refine cO (c:=ch) (⋯) (e5.but (e4.but (e3.but f2 chst) cc.symm) chst) (aZ (P:=fun s=>WL _ _ _ _ _ s _) fun σ6 f6 e6=>?_);have H6:wJ σ6 st sc (p+2) c:=⟨e6.but H5.h chst.symm,H5.sc.imp fun ns h=>⟨e6.but h.1 (bM (e5.but (e4.but (e3.but f2 chst) cc.symm) chst) h.1 ∅).symm,h.2⟩⟩;have g6:σ6 cs=some (.cell (some (.int (1+s1)))):=e6.but (e5.but f4 csst) cc;refine al (bA (eG (aF (ah (aQ j5 (aJ (ao (ah (ak (v:= .int n) rfl (aA ⟨ba.ty,jK fun ra t u v hra=>jT hh (am.set_self ..) (by decide) (by decide) (F8 h0 rfl) (GD h6 rfl) fun acc hacc CL=>⟨trivial,?_⟩⟩))))))))));have s6:∀ {b y l},σ6 b=some y->((σ6.set ra (.raw (eO 0 n t u v))).set acc (.list l)) b=some y:=fun h=>sk hacc (sk hra h);refine jS (f:=x8 s2 (1+s1)) (g:=fun _=>true) (fun l=>trivial) (by rw [a0,AZ,(ka _ _).2.2];lia) (fun _ _ _ _ _=>⟨rfl,rfl⟩) (fun x mx ρ l hx=>?_) ?_
 ·obtain ⟨k,mk,rfl⟩:=I0.mp mx;have hk:=qH mk;refine bF (bF (bF (ah (bJ (c:=ch) (⋯) (s6 f6) ?_))));refine bF (ah (ak hx (ah (bJ (c:=cs) (⋯) (s6 g6) (wU (vX hk.1 (by lia)) (kA (bp (kB hh (by decide) (bp (mL ⟨rfl,rfl⟩))))))))))
 ·rw [qw]
  have E6:Ex [st] σ σ6:=fun b y n h=>by
   have n:b≠st:=fun c=>n (c▸ .head _);exact e6.but (e5.but (e4.but (e3.but (e2.at (e1.at h)) n) (aW h hc1)) n) (aW (e1.at h) hc2)
  have a6:σ6 acc=none:=by
   cases c:σ6 acc with
   | none=>rfl
   | some y=>rw [sk hra c] at hacc;injection hacc
  have ast:acc≠st:=(aW H6.h a6).symm;refine q acc _ _ (E6.none a6 fun m=>ast (IN.mp m)) (am.set_self ..) (sx (Int.lt_add_of_neg_add_lt h1) (Int.add_lt_of_lt_sub_left h1') h6) (by rw [IP,AZ,(ka _ _).2.2];lia) ⟨s6 H6.h,H6.sc.imp fun ns h=>⟨s6 h.1,h.2⟩⟩ ?_;exact fun b y n h=>s6 (E6 b y n h)
abbrev dM:FuncData:=cR yO yO 13 .none 3 [] .none .none .none (.str ul 1017) .none (.ref 555) .none 0
inductive CW (σ₀:am) (a:Addr) (ps:List (Int×Int)) (C:List Int) (n:Nat) (ρ:aX) (σ:am):Prop
 | mk (D R:List Int) (t:Int) (h:Ch ps t R) (e:C=D++R) (hn:n=R.length) (ha:σ a=some (.list (aB D++[.int t]))) (ke:Ex [] σ₀ σ) (hρ:ρ Gj=some (.ref a)) (hd:ρ yP=ρ yP):CW σ₀ a ps C n ρ σ
theorem l8 {di:Addr} {ps:List (Int×Int)} {oi:Obj} {u:Int} {Q:V->am->Prop} (r:Rm 10 A) (hi:σ di=some (.idict (dC ps) oi)) (hc:jg ps) (hu:u∈ps.map (·.1)) (hl:ps.length<1000)
  (q:∀ a C σ',Ch ps u C->C.length<=ps.length->σ a=none->σ' a=some (.list (aB C))->Ex [] σ σ'->Q (.ref a) σ'):eS (G8 w mg mb os) A (.ref 556) [.ref di, .int u] [] σ Q:=by
 intros A w mg mb os σ di ps oi u Q
 intro r hi hc hu hl q;refine dB (fd:=dM) (bv:=[(yP, .ref di),(Ct, .int u)]) r.room (⋯) rfl (⋯) (hH fun _ _ _=>by kernel_rfl) fun L hL=>?_;obtain ⟨C,hC⟩:=Ch.ex hc u hu
 have lC:C.length<=ps.length:=by
  have:=IQ (hC.nodup hc) (l₂:=ps.map (·.1)) fun j m=>((hC.mem hc j).mp m).key hc hu
  rwa [IP] at this
 show WL _ _ _ (_::_) _ _ _;refine al (ar (dG (ao (ah (ak (v:= .int u) rfl (aA ⟨IU rfl,fun a ha=>bj (P:=fun s=>WB _ _ _ _ _ _ s _) ha fun σ1 f1 e1=>az ?_⟩))))));refine al (dJ (fun n ρ σ'=>CW σ a ps C n ρ σ'/\ρ yP=some (.ref di)) C.length ⟨⟨[],C,u,hC,rfl,rfl,f1,e1,bK,rfl⟩,rfl⟩ fun n ρ σ' iv=>?_);obtain ⟨iv,rd⟩:=iv
 cases iv with | mk D R t h e hn hl' ke hρ _=>
 have lD:D.length+R.length=C.length:=by rw [e,IV]
 have lv:(aB D++[V.int t]).length<2 ^ 20:=by rw [IV,a0];cases h <;> simp at lD ⊢ <;> lia
 have kt:t∈ps.map (·.1):=by
  have:t∈C:=by rw [e];exact IT _ ((h.mem hc t).mpr (.refl _))
  exact ((hC.mem hc t).mp this).key hc hu
 obtain ⟨v,mv⟩:=bR kt;have fd:=ke.at hi;refine aI (aG (ah (ak rd (aG (ah (ak hρ (fF (bp (mK ⟨PG.list (.inl hl'),eI (.inl hl') (by rw [a0];lia) ⟨PG.dict fd,bb fd (c9 hc.np mv) ?_⟩⟩)))))))));refine aG (ah (ak hρ (fF (bp (mK ⟨PG.list (.inl hl'),eI (.inl hl') (by rw [a0];lia) (pv (aV ?_))⟩)))))
 cases h with
 | root m=>
  rw [hc.one mv m];simp only [bne_self_eq_false,Bool.false_eq_true,if_false];refine aE (al (bA (ah (ak hρ (q a C _ hC lC ha ?_ ke)))));rw [hl',e,bt];rfl
 | @step _ v' R m n y=>
  obtain rfl:=hc.one mv m;rw [if_pos (by simp;exact fun k=>n k.symm)];refine al (bh (ay (ah (ak hρ (cz (.inl hl') (aJ (ao (aG (ah (ak rd (aG (ah (ak hρ (fF (bp (mK ?_))))))))))))))));refine ⟨PG.list (.inl hl'),eI (.inl hl') (by rw [a0];lia) ⟨PG.dict fd,bb fd (c9 hc.np mv) (aA ⟨ba.bi,co hl' lv (aZ (P:=fun s=>WL _ _ _ _ _ s _) fun σ2 f2 e2=>aE ?_)⟩)⟩⟩;refine ⟨R.length,by rw [hn];exact Nat.lt_succ_self _,⟨D++[t],R,v,y,by rw [e,List.append_assoc];rfl,rfl,by rw [f2,bt];rfl,fun b z _ h=>e2.but (ke.at h) (aW h ha),hρ,rfl⟩,rd⟩
end
structure u2 (g:jQ) (N:List Int) (W:List (Int×Int)):Prop where
 nn:g.nodes.Nodup
 mem:∀ k,k∈g.nodes↔k∈N
 nN:N.Nodup
 kp:aM g.preds=N
 ks:aM g.succs=N
 sp:∀ t∈g.preds,t.2.2.Nodup/\∀ u,u∈t.2.2↔(u,t.1)∈W
 ss:∀ t∈g.succs,t.2.2.Nodup/\∀ v,v∈t.2.2↔(t.1,v)∈W
 ne:g.ne=W.length
 cl:∀ p∈W,p.1∈N/\p.2∈N
theorem u2.node {g:jQ} {N:List Int} {i:Int} {zs:List Int} {a c:Addr} (h:u2 g N []) (hi:i∉N) (nz:zs.Nodup) (hz:∀ j,j∈zs↔j=i\/j∈g.nodes):
  u2 { g with nodes:=zs,preds:=g.preds++[(i,a,[])],succs:=g.succs++[(i,c,[])] } (N++[i]) [] where
 nn:=nz
 mem:=fun k=>by rw [hz,h.mem,I1,IN];exact Or.comm
 nN:=Jb.mpr ⟨h.nN,by simp,fun x mx y hy=>by simp at hy;rw [hy];intro e;exact hi (e▸mx)⟩
 kp:=by show aM (g.preds++[(i,a,[])])=_;exact I2.trans (congrArg (· ++ [i]) h.kp)
 ks:=by show aM (g.succs++[(i,c,[])])=_;exact I2.trans (congrArg (· ++ [i]) h.ks)
 sp:=fun t m=>by
  rcases I1.mp m with m | m
  ·exact h.sp t m
  ·rw [IN.mp m];exact ⟨.nil,fun u=>⟨(fun m=>nomatch m),fun m=>nomatch m⟩⟩
 ss:=fun t m=>by
  rcases I1.mp m with m | m
  ·exact h.ss t m
  ·rw [IN.mp m];exact ⟨.nil,fun u=>⟨(fun m=>nomatch m),fun m=>nomatch m⟩⟩
 ne:=h.ne
 cl:=fun p m=>nomatch m
theorem u2.edge {g:jQ} {N:List Int} {W:List (Int×Int)} {i j:Int} {ai aj:Addr} {xi xj zi zj:List Int} (h:u2 g N W) (mi:(i,ai,xi)∈g.succs) (mj:(j,aj,xj)∈g.preds) (hi:∀ k,k∈zi↔k=j\/k∈xi) (hj:∀ k,k∈zj↔k=i\/k∈xj) (ni:zi.Nodup) (nj:zj.Nodup):
  u2 { g with preds:=cN g.preds j zj,succs:=cN g.succs i zi,ne:=g.ne+1 } N (W++[(i,j)]) where
 nn:=h.nn
 mem:=h.mem
 nN:=h.nN
 kp:=(fy ..).trans h.kp
 ks:=(fy ..).trans h.ks
 sp:=fun t m=>by
  rcases gX m with ⟨n,m⟩ | ⟨n,e⟩
  ·refine ⟨(h.sp t m).1,fun u=>?_⟩;rw [(h.sp t m).2,I1,IN];exact ⟨.inl,fun k=>k.elim id fun k=>absurd (congrArg Prod.snd k) n⟩
  ·rw [e];refine ⟨nj,fun u=>?_⟩;rw [hj,(h.sp _ mj).2,I1,IN,n];exact ⟨fun k=>k.elim (fun k=> .inr (by rw [k])) .inl,fun k=>k.elim .inr fun k=> .inl (congrArg Prod.fst k)⟩
 ss:=fun t m=>by
  rcases gX m with ⟨n,m⟩ | ⟨n,e⟩
  ·refine ⟨(h.ss t m).1,fun u=>?_⟩;rw [(h.ss t m).2,I1,IN];exact ⟨.inl,fun k=>k.elim id fun k=>absurd (congrArg Prod.fst k) n⟩
  ·rw [e];refine ⟨ni,fun u=>?_⟩;rw [hi,(h.ss _ mi).2,I1,IN,n];exact ⟨fun k=>k.elim (fun k=> .inr (by rw [k])) .inl,fun k=>k.elim .inr fun k=> .inl (congrArg Prod.snd k)⟩
 ne:=by show g.ne+1=_;rw [h.ne,IV];rfl
 cl:=fun p m=>by
  rcases I1.mp m with m | m
  ·exact h.cl p m
  ·rw [IN.mp m];exact ⟨h.ks▸IR (f:=fun e:Int×Addr×List Int=>e.1) mi,h.kp▸IR (f:=fun e:Int×Addr×List Int=>e.1) mj⟩
theorem kQ {T:cU} {k:Int} (m:k∈aM T):∃ a xs,(k,a,xs)∈T:=by
 ac_rfl;obtain ⟨⟨k',a,xs⟩,m,e⟩:=I0.mp m;right;exact ⟨a,xs,e▸m⟩
theorem u2.small {g:jQ} {N:List Int} {W:List (Int×Int)} (h:u2 g N W) {t:Int×Addr×List Int} (m:t∈g.succs):t.2.2.length<=N.length:=
 IQ (h.ss t m).1 fun v mv=>(h.cl _ (((h.ss t m).2 v).mp mv)).2
theorem u2.smallP {g:jQ} {N:List Int} {W:List (Int×Int)} (h:u2 g N W) {t:Int×Addr×List Int} (m:t∈g.preds):t.2.2.length<=N.length:=
 IQ (h.sp t m).1 fun v mv=>(h.cl _ (((h.sp t m).2 v).mp mv)).1
theorem u2.ed {g:jQ} {N:List Int} {W:List (Int×Int)} (h:u2 g N W) (u v:Int):Ed g.succs u v↔(u,v)∈W:=
 ⟨fun e=>by cases e with | mk a xs m hv=>exact ((h.ss _ m).2 v).mp hv,fun m=>by
  ac_rfl;obtain ⟨a,xs,mt⟩:=kQ (T:=g.succs) (k:=u) (by rw [h.ks];exact (h.cl _ m).1);right
  exact ⟨a,xs,mt,((h.ss _ mt).2 v).mpr m⟩⟩
abbrev uL:List Str:=[CM,ER,u0,y3,Cu,wo]
abbrev iK (m:Str->Option V):Prop:=∀ k,k∉uL->m k=none
theorem iK.up {m:Str->Option V} {k:Str} {v:V} (h:iK m) (hk:k∈uL):iK (js m k v):=fun y n=>(if_neg (show ¬ y=k from fun e=>n (by rw [e];exact hk))).trans (h y n)
structure C4 (σ:am) (x d S P:Addr) (m:Str->Option V) (n:Nat) (od:Obj) (l lp:cU) (N:List Int) (W:List (Int×Int)) (e:Int):Prop where
 hx:σ x=some (.inst 510 d)
 hd:σ d=some (.ns m n false od)
 hn:n<20
 mP:m Cu=some (.ref P)
 mS:m wo=some (.ref S)
 me:m u0=some (.int e)
 om:iK m
 hP:g7 σ P lp
 hS:g7 σ S l
 kp:aM lp=N
 ks:aM l=N
 sp:∀ t∈lp,t.2.2.Nodup/\∀ u,u∈t.2.2↔(u,t.1)∈W
 ss:∀ t∈l,t.2.2.Nodup
 ed:∀ u v,Ed l u v↔(u,v)∈W
 fd:d≠P/\d≠S/\P≠S/\d∉bD l/\d∉bD lp
theorem dR {σ σ':am} {a:Addr} {xs:List V} (h:bE σ a xs) (e:Ex [] σ σ'):bE σ' a xs:=h.elim (fun h=> .inl (e.at h)) fun h=> .inr (e.at h)
section
variable {A:Around} {w:World} {mg mb:Str->Option Value} {os:OsState} {σ:am}
abbrev fh:FuncData:=cR yN yN 12 .none 3 [] .none .none .none (.str ul 1017) .none (.ref 548) .none 0
theorem Ik {σ:am} {x d b:Addr} {y z z':bL} (hx:σ x=none) (hd:σ d=none) (n:x≠d) (h:σ b=some y):((σ.set d z).set x z') b=some y:=by
 rw [am.set_ne _ _ (aW h hx),am.set_ne _ _ (aW h hd)];exact h
theorem jo {g:jQ} {x b:Addr}:b∈g.all x↔b∈[x,g.d,g.N,g.P,g.S,g.E]\/b∈bD g.preds\/b∈bD g.succs:=
 (I1 (s:=[x,g.d,g.N,g.P,g.S,g.E])).trans (or_congr Iff.rfl I1)
theorem pB {l:cU} {i:Int} {a b:Addr} (h:b∈bD (l++[(i,a,[])])):b∈bD l\/b=a:=by
 unfold bD at h;rw [I2] at h;exact (I1.mp h).imp id IN.mp
theorem wY {g:jQ} {x b a c:Addr} {zs:List Int} {i:Int} (m:b∈jQ.all { g with nodes:=zs,preds:=g.preds++[(i,a,[])],succs:=g.succs++[(i,c,[])] } x):b=a\/b=c\/b∈g.all x:=by
 rcases jo.mp m with h | h | h
 ·exact .inr (.inr (jo.mpr (.inl h)))
 ·rcases pB h with h | h
  ·exact .inr (.inr (jo.mpr (.inr (.inl h))))
  ·exact .inl h
 ·rcases pB h with h | h
  ·exact .inr (.inr (jo.mpr (.inr (.inr h))))
  ·exact .inr (.inl h)
theorem Ih {a b c d e f:Addr} (ab:a≠b) (ac:a≠c) (ad:a≠d) (ae:a≠e) (af:a≠f) (bc:b≠c) (bd:b≠d) (be:b≠e) (bf:b≠f) (cd:c≠d) (ce:c≠e) (cf:c≠f) (de:d≠e) (df:d≠f) (ef:e≠f):[a,b,c,d,e,f].Nodup:=by
 have n:∀ {a b:Addr} {l:List Addr},a≠b->a∉l->a∉b::l:=List.not_mem_cons_of_ne_of_not_mem;have z:∀ {a:Addr},a∉([]:List Addr):=I3;exact I6.mpr ⟨n ab (n ac (n ad (n ae (n af z)))),I6.mpr ⟨n bc (n bd (n be (n bf z))),I6.mpr ⟨n cd (n ce (n cf z)),I6.mpr ⟨n de (n df z),I6.mpr ⟨n ef z,I6.mpr ⟨z, .nil⟩⟩⟩⟩⟩⟩
theorem BG:GV (G8 w mg mb os) yZ (.ref 510):=i9 (⋯)
structure C3 (σ₀ σ:am) (x an wn:Addr) (N:List Int) (W:List (Int×Int)) (e:Int) (g:jQ) (ρ:aX):Prop where
 h:AN σ x g
 I:u2 g N W
 om:iK g.m
 hn:g.n=5
 hb:g.b=false
 fr:∀ a∈g.all x,σ₀ a=none
 ke:Ex [] σ₀ σ
 r1:ρ A9=some (.ref x)
 r2:ρ sZ=some (.ref wn)
 r3:ρ Fa=some (.int e)
theorem C3.ex {σ₀ σ σ':am} {x an wn:Addr} {N:List Int} {W:List (Int×Int)} {e:Int} {g:jQ} {ρ:aX} (B:C3 σ₀ σ x an wn N W e g ρ) {D:List Addr} (k:Ex D σ σ') (hD:∀ a∈D,a∈g.all x):Ex [] σ₀ σ':=fun b y _ h=>
 k b y (fun m=>by rw [B.fr b (hD b m)] at h;injection h) (B.ke.at h)
inductive C9 (σ₀:am) (x an wn:Addr) (N:List Int) (e:Int) (xs:List V) (ρ:aX) (σ:am):Prop
 | mk (pre post:List Int) (g:jQ) (hN:N=pre++post) (ex:xs=aB post) (B:C3 σ₀ σ x an wn pre [] e g ρ):C9 σ₀ x an wn N e xs ρ σ
inductive C2 (σ₀:am) (x an wn:Addr) (N:List Int) (W:List (Int×Int)) (e:Int) (xs:List V) (ρ:aX) (σ:am):Prop
 | mk (pre post:List (Int×Int)) (g:jQ) (hW:W=pre++post) (ex:xs=c6 post) (B:C3 σ₀ σ x an wn N pre e g ρ):C2 σ₀ x an wn N W e xs ρ σ
theorem zT {an wn:Addr} {N:List Int} {W:List (Int×Int)} {e:Int} {Q:V->am->Prop} (r:Rm 80 A) (hN:bE σ an (aB N)) (hW:bE σ wn (c6 W)) (nN:N.Nodup) (n6:N.length<=6) (w20:W.length<=20) (cl:∀ p∈W,p.1∈N/\p.2∈N) (me:e∈N) (reach:∀ k∈N,∃ π,fV (fun u v=>(u,v)∈W) e k π)
  (q:∀ σ' x d S P m n od l lp,C4 σ' x d S P m n od l lp N W e->Ex [] σ σ'->Q (.ref x) σ'):eS (G8 w mg mb os) A (.ref 549) [.ref an, .ref wn, .int e] [] σ Q:=by
 intros A w mg mb os σ an wn N W e Q
 intro r hN hW nN n6 w20 cl me reach q;refine dB (fd:=fh) (bv:=[(AG, .ref an),(sZ, .ref wn),(Fa, .int e)]) r.room (⋯) rfl (⋯) (qd fun _ _ _ _=>by kernel_rfl) ?_
 injections L
 intro hL;have rd:Rm 79 (A.deeper (aR fh 549 L fh.closure)):=r.deeper;show WL _ _ _ (_::_) _ _ _;refine al (ar (aF (ah (aQ BG (aJ (aA ⟨ba.peek (k:= .machine) (fun S=>by kernel_rfl),(wO (fI:=105) (⋯) (⋯) (⋯) fun A' x d h1 h2 h3 hx hd xd=>BB (m:=fun _=>none) (n:=0) (b:=false) (o:=emptyDict) (x:=x) (d:=d) ⟨h1.trans rd.hh,by have:=rd.hd;lia,by have:=rd.hu;lia⟩ (am.set_self ..) ((am.set_ne _ _ xd.symm).trans (am.set_self ..)) (by decide) fun σ1 N' P S E I=>⟨rfl,az ?_⟩).wc⟩))))));ac_rfl
 cases I with | mk ob od fd fN fP fS fE nd ex fr=>
 have two:∀ {b:Addr},((σ.set d (.ns (fun _=>none) 0 false emptyDict)).set x (.inst 510 d)) b=none->b≠x/\b≠d/\σ b=none:=fun {b} h=>by
  by_cases c:b=x
  ·rw [c,am.set_self] at h;injection h
  ·rw [am.set_ne _ _ c] at h
   by_cases c':b=d
   ·rw [c',am.set_self] at h;injection h
   ·rw [am.set_ne _ _ c'] at h;exact ⟨c,c',h⟩
 have hz2:=two fr.1;have hz3:=two fr.2.1;have hz4:=two fr.2.2.1;have hz5:=two fr.2.2.2;right;have k1:Ex [] σ σ1:=fun b y _ h=>ex.but (Ik hx hd xd h) (aW h hd)
 have B0:C3 σ σ1 x an wn [] [] e ⟨d,N',P,S,E,js (js (js (js (js (fun _=>none) y3 (.ref N')) Cu (.ref P)) wo (.ref S)) ER (.ref E)) u0 .none,5,false,[],[],[],0⟩ ((j9 [(AG, .ref an),(sZ, .ref wn),(Fa, .int e)]).set A9 (.ref x)):=by
  refine ⟨⟨ex.but (am.set_self ..) xd,⟨od,fd⟩,rfl,rfl,rfl,rfl,⟨ob,fN⟩,fE,⟨_,fP,fun _ m=>nomatch m⟩,⟨_,fS,fun _ m=>nomatch m⟩,?_⟩,⟨.nil,fun k=>Iff.rfl, .nil,rfl,rfl,(fun _ m=>nomatch m),(fun _ m=>nomatch m),rfl,fun _ m=>nomatch m⟩,?_,rfl,rfl,fun a m=>?_,k1,bK,rfl,rfl⟩
  ·show (x::d::N'::P::S::E::[]).Nodup;exact Ih xd hz2.1.symm hz3.1.symm hz4.1.symm hz5.1.symm hz2.2.1.symm hz3.2.1.symm hz4.2.1.symm hz5.2.1.symm nd.1 nd.2.1 nd.2.2.1 nd.2.2.2.1 nd.2.2.2.2.1 nd.2.2.2.2.2
  ·exact iK.up (iK.up (iK.up (iK.up (iK.up (fun _ _=>rfl) nofun) nofun) nofun) nofun) nofun
  ·exact BR (P:=fun a=>σ a=none) m hx hd hz2.2.2 hz3.2.2 hz4.2.2 hz5.2.2
 refine al (d6 (ah (ak (v:= .ref an) rfl (fY rd.hh (dR hN k1) (cD (C9 σ x an wn N e) ?_ ?_ _ ⟨[],N,_,rfl,rfl,B0⟩)))))
 ·intro y xs ρ' σ' iv
  cases iv with | mk pre post g hN' ex' B=>
  cases post with
  | nil=>injection ex'
  | cons i post=>
   cases ex';refine bo (az ?_);obtain ⟨od',hd'⟩:=B.h.hd;have ni:i∉pre:=fun m=>(Jb.mp (hN'▸nN)).2.2 i m i (.head _) rfl
   have lp:pre.length<60:=by have:=congrArg List.length hN';rw [IV] at this;exact jR (Nat.le.intro this.symm) n6 rfl
   have lk:∀ {T:cU},aM T=pre->T.length<60:=fun h=>by rw [<- IP (f:=fun e:Int×Addr×List Int=>e.1)];unfold aM at h;rw [h];exact lp
   have ln:g.nodes.length<60:=Je (IQ B.I.nn fun k m=>(B.I.mem k).mp m) lp;refine al (bh (ay (ah (ak (aw B.r1 nofun) (fZ (f:=112) B.h.hx hd' (B.om _ nofun) (⋯) (⋯) (⋯) (⋯) (aJ (ao (ah (ak bK (aA ⟨br (fd:=lA) (⋯),(tI (rd.le (by decide)) B.h B.I.nn ln (by rw [show g.preds.map (·.1)=pre from B.I.kp];exact ni) (by rw [show g.succs.map (·.1)=pre from B.I.ks];exact ni) (lk B.I.kp) (lk B.I.ks) fun σ2 a=>aE ?_).wc⟩))))))))))
   cases a with | mk zs a c hz len nz h' ex' fr'=>
   have k2:=B.ex ex' fun b m=>by
    exact An (P:=fun a=>a∈g.all x) m (.tail _ (.tail _ (.head _))) (.tail _ (.tail _ (.tail _ (.head _)))) (.tail _ (.tail _ (.tail _ (.tail _ (.head _)))))
   refine ⟨dR hN k2,⟨pre++[i],post,_,by rw [hN',List.append_assoc];rfl,rfl,⟨h',B.I.node ni nz hz,B.om,B.hn,B.hb,fun b m=>?_,k2,aw B.r1 nofun,aw B.r2 nofun,aw B.r3 nofun⟩⟩⟩;rcases wY m with rfl | rfl | m
   ·exact B.ke.none fr'.1 fun m=>nomatch m
   ·exact B.ke.none fr'.2 fun m=>nomatch m
   ·exact B.fr b m
 ·intro ρ' σ' iv
  cases iv with | mk pre post g hN' ex' B=>
  cases post with
  | cons _ _=>injection ex'
  | nil=>
  rw [List.append_nil] at hN';subst hN';refine aE (al (d6 (ah (ak B.r2 (fY rd.hh (dR hW B.ke) (cD (C2 σ x an wn N W e) ?_ ?_ _ ⟨[],W,g,rfl,rfl,B⟩))))))
  ·intro y xs ρ2 σ2 iv
   cases iv with | mk ws post g2 hW' ex2 B2=>
   cases post with
   | nil=>injection ex2
   | cons p post=>
    cases ex2;obtain ⟨i,j⟩:=p;obtain ⟨ci,cj⟩:=cl (i,j) (by rw [hW'];simp);dsimp only at ci cj;refine fq rd.hh (bo (az (bo (az ?_))));ac_rfl;obtain ⟨ai,xi,mi⟩:=kQ (T:=g2.succs) (k:=i) (by rw [B2.I.ks];exact ci);obtain ⟨aj,xj,mj⟩:=kQ (T:=g2.preds) (k:=j) (by rw [B2.I.kp];exact cj);obtain ⟨od',hd'⟩:=B2.h.hd;right
    have lk:∀ {T:cU},aM T=N->T.length<60:=fun h=>by rw [<- IP (f:=fun e:Int×Addr×List Int=>e.1)];unfold aM at h;rw [h];exact lr n6 rfl
    have li:=B2.I.small mi;have lj:=B2.I.smallP mj;dsimp only at li lj
    have lw:g2.ne<900:=by have:=congrArg List.length hW';rw [IV] at this;rw [B2.I.ne];exact jR (Nat.le.intro this.symm) w20 rfl
    refine al (bh (ay (ah (ak (aw (aw B2.r1 nofun) nofun) (fZ (f:=120) B2.h.hx hd' (B2.om _ nofun) (⋯) (⋯) (⋯) (⋯) (aJ (ao (ah (ak (aw bK nofun) (ao (ah (ak bK (aA ⟨br (fd:=lu) (⋯),(tH (rd.le (by decide)) B2.h ((B2.I.mem i).mpr ci) ((B2.I.mem j).mpr cj) (by rw [show g2.preds.map (·.1)=N from B2.I.kp];exact nN) (by rw [show g2.succs.map (·.1)=N from B2.I.ks];exact nN) mi mj (B2.I.ss _ mi).1 (B2.I.sp _ mj).1 (jR li n6 rfl) (jR lj n6 rfl) (lk B2.I.kp) (lk B2.I.ks) lw (B2.om _ nofun) fun σ3 a=>aE ?_).wc⟩)))))))))))))
    cases a with | mk zi zj hi hj ni nj h' ex'=>
    have k3:=B2.ex ex' fun b m=>by
     exact .tail _ (.tail _ (.tail _ (.tail _ (.tail _ m))))
    refine ⟨dR hW k3,⟨ws++[(i,j)],post,_,by rw [hW',List.append_assoc];rfl,rfl,⟨h',B2.I.edge mi mj hi hj ni nj,B2.om,B2.hn,B2.hb,fun b m=>?_,k3,aw (aw B2.r1 nofun) nofun,aw (aw B2.r2 nofun) nofun,aw (aw B2.r3 nofun) nofun⟩⟩⟩;apply B2.fr b;have k:=jo.mp m;rw [cp,cp] at k;exact jo.mpr k
  ·intro ρ2 σ2 iv
   cases iv with | mk ws post g2 hW' ex2 B2=>
   cases post with
   | cons _ _=>injection ex2
   | nil=>
   rw [List.append_nil] at hW';subst hW';refine aE ?_;obtain ⟨od2,hd2⟩:=B2.h.hd;obtain ⟨oN,hN2⟩:=B2.h.hN;have bd:=B2.hb;refine al (bh (ay (ah (ak B2.r1 (fZ (f:=141) B2.h.hx hd2 (B2.om _ nofun) (⋯) (⋯) (⋯) (⋯) (aJ (ao (ah (ak B2.r3 (aA ⟨br (fd:=j2) (⋯),(rX (rd.le (by decide)) B2.h.hx hd2 (by rw [B2.hn];decide) B2.h.mN hN2 ((B2.I.mem e).mpr me) fun o3=>aZ (P:=fun s=>WL _ _ _ _ _ s _) fun σ3 fd3 e3=>?_).wc⟩))))))))))
   have dall:∀ {b},b∈g2.N::g2.P::g2.S::g2.E::(bD g2.preds++bD g2.succs)->b≠g2.d:=fun m k=>by
    have nd:=(I6.mp (I6.mp B2.h.nd).2).1;exact nd (k▸m)
   have xd2:x≠g2.d:=fun k=>(I6.mp B2.h.nd).1 (k▸ .head _);have om3:iK (js g2.m u0 (.int e)):=B2.om.up nofun;have hS3:g7 σ3 g2.S g2.succs:=B2.h.hS.ex e3 (fun m=>dall (.tail _ (.tail _ (.head _))) (IN.mp m)) fun a m m'=>dall (.tail _ (.tail _ (.tail _ (.tail _ (IT _ m))))) (IN.mp m');have hP3:g7 σ3 g2.P g2.preds:=B2.h.hP.ex e3 (fun m=>dall (.tail _ (.head _)) (IN.mp m)) fun a m m'=>dall (.tail _ (.tail _ (.tail _ (.tail _ (IS _ m))))) (IN.mp m');have hN3:=e3.but hN2 (dall (.head _));have hx3:=e3.but B2.h.hx xd2;have E2:∀ u v,Ed g2.succs u v↔(u,v)∈W:=B2.I.ed
   have nk:(aM g2.succs).Nodup:=by rw [B2.I.ks];exact nN
   have H:wx σ3 x g2.d g2.S g2.N (js g2.m u0 (.int e)) (g2.n+1) g2.b o3 oN g2.succs g2.nodes e:=⟨hx3,fd3,by rw [B2.hn];decide,(if_neg nofun).trans B2.h.mS,if_pos rfl,(if_neg nofun).trans B2.h.mN,om3 _ nofun,om3 _ nofun,hS3,hN3,B2.I.nn,fun k=>by rw [B2.I.ks];exact B2.I.mem k,nk,fun t m=>(B2.I.ss t m).1,fun u v h=>by rw [B2.I.ks];exact (cl _ ((E2 u v).mp h)).2,by rw [B2.I.ks];exact me,?_,fun k m=>by
    rw [B2.I.ks] at m;obtain ⟨π,q⟩:=reach k m
    exact ⟨π,q.congr fun u v h=>(E2 u v).mpr h⟩⟩
   ·refine al (bh (ay (ah (ak B2.r1 (fZ (f:=148) hx3 fd3 (om3 _ nofun) (⋯) (⋯) (⋯) (⋯) (aJ (aA ⟨br (fd:=nA) (⋯),(vA (rd.le (by decide)) H fun σ4 a=>?_).wc⟩)))))))
    cases a with | mk D la zs od4 ol hl fl nz mem hd4 ex4=>
    refine al (bA (ah (ak B2.r1 (q σ4 x g2.d g2.S g2.P (js (js (js g2.m u0 (.int e)) CM (.ref D)) y3 (.ref la)) (g2.n+1+2) od4 g2.succs g2.preds ?_ ?_))))
    ·have hd4':∀ {b y},b≠g2.d->σ3 b=some y->σ4 b=some y:=fun n h=>ex4.but h n;refine ⟨hd4' xd2 hx3,by rw [hd4,bd],by rw [B2.hn];decide,(if_neg nofun).trans ((if_neg nofun).trans ((if_neg nofun).trans B2.h.mP)),(if_neg nofun).trans ((if_neg nofun).trans ((if_neg nofun).trans B2.h.mS)),(if_neg nofun).trans ((if_neg nofun).trans (if_pos rfl)),(om3.up nofun).up nofun,hP3.ex ex4 (fun m=>dall (by simp) (IN.mp m)) fun a m m'=>dall (by simp [m]) (IN.mp m'),hS3.ex ex4 (fun m=>dall (by simp) (IN.mp m)) fun a m m'=>dall (by simp [m]) (IN.mp m'),B2.I.kp,B2.I.ks,B2.I.sp,fun t m=>(B2.I.ss t m).1,E2,(dall (by simp)).symm,(dall (by simp)).symm,?_,fun m=>dall (by simp [m]) rfl,fun m=>dall (by simp [m]) rfl⟩;intro k
     cases CD.of B2.h.nd with | mk xd xN xP xS xE xp xs dN dP dS dE dp ds NP NS NE Np Ns PS PE Pp Ps SE Sp Ss Ep Es nps=>exact PS k
    ·exact fun b y n h=>ex4.but (e3.but (B2.ke.at h) fun k=>by rw [k,B2.fr _ (.tail _ (.head _))] at h;injection h) fun k=>by rw [k,B2.fr _ (.tail _ (.head _))] at h;injection h
   ·have:=B2.I.ks
    unfold aM at this
    have:=congrArg List.length this
    rw [IP] at this;lia
end
section
variable {ps:List (Int×Int)} {u v y z:Int} {C C':List Int}
theorem Ch.common (h:jg ps) (hy:∀ c,c∈C'↔Up ps y c) (x:Ch ps u C):(∃ e,e∈C/\e∈C')->∃ z R,C.filter (fun c=>decide (c∈C'))=z::R/\oG ps u y z:=by
 induction x with
 | @root u m=>
  rintro ⟨e,me,me'⟩;rw [IN] at me;subst me;exact ⟨e,[],by rw [List.filter_cons,if_pos (I5 me')];rfl, .refl _,(hy _).mp me',fun d h1 _=>h1⟩
 | @step u v C m n q ih=>
  rintro ⟨e,me,me'⟩
  by_cases c:u∈C'
  ·exact ⟨u,C.filter (fun c=>decide (c∈C')),by rw [List.filter_cons,if_pos (I5 c)], .refl _,(hy _).mp c,fun d h1 _=>h1⟩
  ·have me:=(IZ.mp me).resolve_left fun k=>c (k▸me');ac_rfl;obtain ⟨z,R,hz0⟩:=ih ⟨e,me,me'⟩;right;refine ⟨z,R,by rw [List.filter_cons,if_neg (by rw [decide_eq_true_eq];exact c)];exact hz0.1, .step m hz0.2.hl,hz0.2.hr,fun d h1 h2=>hz0.2.hg d (((h.up_step m).mp h1).resolve_left fun k=>c ((hy _).mpr (k▸h2))) h2⟩
end
structure wq (E:Int->Int->Prop) (P:Int->Prop) (y:Int) (K R:List Int) (k:Nat):Prop where
 nd:R.Nodup
 me:y∈R
 sub:∀ r∈R,r∈K
 sound:∀ r∈R,ze E P y r
 closed:∀ i r,i<k->R[i]?=some r->∀ s,E r s->P s->s∈R
 hk:k<=R.length
structure oH (E:Int->Int->Prop) (P:Int->Prop) (y:Int) (K R:List Int) (k:Nat) (r₀:Int) (pre:List (Int×Int)):Prop where
 b:wq E P y K R k
 at_: R[k]?=some r₀
 seen:∀ s,(r₀,s)∈pre->P s->s∈R
section
variable {E:Int->Int->Prop} {P:Int->Prop} {y r₀ f s:Int} {K R:List Int} {k:Nat} {pre W:List (Int×Int)}
theorem wq.start (h:y∈K):wq E P y K [y] 0:=⟨by simp,by simp,fun r m=>by rw [IN.mp m];exact h,fun r m=>by rw [IN.mp m];exact .refl,(fun i r l=>absurd l (Nat.not_lt_zero _)),Nat.zero_le _⟩
theorem wq.len (h:wq E P y K R k):R.length<=K.length:=IQ h.nd h.sub
theorem oH.old (h:oH E P y K R k r₀ pre) (n:f=r₀->P s->s∈R):oH E P y K R k r₀ (pre++[(f,s)]):=
 ⟨h.b,h.at_,fun t m p=>by
  rcases I1.mp m with m | m
  ·exact h.seen t m p
  ·cases IN.mp m;exact n rfl p⟩
theorem oH.add (h:oH E P y K R k r₀ pre) (e:E r₀ s) (p:P s) (n:s∉R) (hs:s∈K):oH E P y K (R++[s]) k r₀ (pre++[(r₀,s)]):=by
 have lt:k<R.length:=(List.getElem?_eq_some_iff.mp h.at_).1;have m0:r₀∈R:=List.mem_of_getElem? h.at_;refine ⟨⟨Jb.mpr ⟨h.b.nd,by simp,fun a ma b mb=>by simp at mb;rw [mb];intro c;exact n (c▸ma)⟩,IS _ h.b.me,fun r m=>?_,fun r m=>?_,fun i r l g t et pt=>?_,by rw [IV];exact Nat.le_trans h.b.hk (Nat.le_add_right ..)⟩,?_,fun t m p'=>?_⟩
 ·rcases I1.mp m with m | m
  ·exact h.b.sub r m
  ·rw [IN.mp m];exact hs
 ·rcases I1.mp m with m | m
  ·exact h.b.sound r m
  ·rw [IN.mp m];exact .step (h.b.sound r₀ m0) e p
 ·rw [List.getElem?_append_left (Nat.lt_trans l lt)] at g;exact IS _ (h.b.closed i r l g t et pt)
 ·rw [List.getElem?_append_left lt];exact h.at_
 ·rcases I1.mp m with m | m
  ·exact IS _ (h.seen t m p')
  ·cases IN.mp m;exact IT _ (.head _)
theorem wq.turn (h:wq E P y K R k) (g:R[k]?=some r₀):oH E P y K R k r₀ []:=⟨h,g,fun _ m=>nomatch m⟩
theorem oH.fin (h:oH E P y K R k r₀ W) (hE:∀ u v,E u v->(u,v)∈W):wq E P y K R (k+1):=
 ⟨h.b.nd,h.b.me,h.b.sub,h.b.sound,fun i r l g s e p=>by
  rcases Nat.lt_or_ge i k with l' | l'
  ·exact h.b.closed i r l' g s e p
  ·have:i=k:=Nat.le_antisymm (Nat.le_of_lt_succ l) l'
   rw [this,h.at_] at g;obtain rfl:=Option.some.inj g
   exact h.seen s (hE _ _ e) p,(List.getElem?_eq_some_iff.mp h.at_).1⟩
theorem wq.all (h:wq E P y K R k) (e:¬ k<R.length):∀ q,q∈R↔ze E P y q:=fun q=>⟨h.sound q,fun r=>by
 induction r with
 | refl=>exact h.me
 | step _ m p ih=>
  obtain ⟨i,g⟩:=List.getElem?_of_mem ih
  have:i<R.length:=(List.getElem?_eq_some_iff.mp g).1
  exact h.closed i _ (by lia) g _ m p⟩
end
theorem nJ {ps:List (Int×Int)} {k v:Int} (h:k∉ps.map (·.1)):eY (dC ps) k (.int v)=dC (ps++[(k,v)]):=by
 unfold eY;rw [if_neg]
 ·unfold dC;rw [I2];rfl
 ·intro q;obtain ⟨x,mx,hx⟩:=List.any_eq_true.mp q;unfold dC at mx;obtain ⟨p,mp,rfl⟩:=I0.mp mx;exact h ((Jf hx:p.1=k)▸IR mp)
theorem xM {ps:List (Int×Int)} {k i z:Int} (h:k∉ps.map (·.1)):eY (dC (ps++[(k,i)])) k (.int z)=dC (ps++[(k,z)]):=by
 have e:dC (ps++[(k,i)])=dC ps++[(k, .int i)]:=by unfold dC;rw [I2];rfl
 have e':dC (ps++[(k,z)])=dC ps++[(k, .int z)]:=by unfold dC;rw [I2];rfl
 rw [e,e'];unfold eY;rw [if_pos (by rw [List.any_append];simp),I2]
 congr 1
 ·refine (List.map_congr_left fun x m=>?_).trans (List.map_id _);unfold dC at m;obtain ⟨p,mp,rfl⟩:=I0.mp m;exact if_neg (show ¬ p.1=k from fun c=>h (by rw [<- c];exact IR (f:=fun p:Int×Int=>p.1) mp))
 ·simp
section
variable {A:Around} {w:World} {mg mb:Str->Option Value} {os:OsState} {σ:am}
abbrev cQ:FuncData:=cR yQ yQ 14 .none 3 [] .none .none .none (.str ul 1017) .none (.ref 560) .none 0
abbrev wm (ps qs:List (Int×Int)):List (Int×Int):=qs.map fun p=>(p.1,(cX ps p.1:Int))
theorem rM (ps qs:List (Int×Int)):(wm ps qs).map (·.1)=qs.map (·.1):=by unfold wm;rw [Jk];rfl
theorem zM {ps qs:List (Int×Int)} {u:Int} (m:u∈qs.map (·.1)):(u,(cX ps u:Int))∈wm ps qs:=by
 obtain ⟨v,m⟩:=bR m;exact IR (f:=fun p:Int×Int=>(p.1,(cX ps p.1:Int))) m
abbrev Ds:List Str:=[Cv,EX,ES,Cw,Cz]
abbrev Rk (ρ ρ':aX):Prop:=∀ k,k∉Ds->ρ' k=ρ k
theorem Rk.set {ρ ρ':aX} {k:Str} {v:V} (h:Rk ρ ρ') (hk:k∈Ds):Rk ρ (ρ'.set k v):=fun y n=>(if_neg (show ¬ y=k from fun e=>n (by rw [e];exact hk))).trans (h y n)
theorem Rk.refl {ρ:aX}:Rk ρ ρ:=fun _ _=>rfl
structure FY (σ:am) (a ga di wn:Addr) (ps qs W:List (Int×Int)) (oi oa:Obj) (y z u i:Int) (ρ:aX):Prop where
 hi:σ di=some (.idict (dC ps) oi)
 hd:σ a=some (.idict (dC (wm ps ps)) oa)
 hg:∃ og,σ ga=some (.idict (dC qs) og)
 hW:bE σ wn (c6 W)
 hc:jg ps
 mi:(u,i)∈ps
 nu:u∉qs.map (·.1)
 lq:qs.length<100
 lp:ps.length<100
 hy:y∈ps.map (·.1)
 hz:z∈ps.map (·.1)
 cl:∀ p∈W,p.1∈ps.map (·.1)/\p.2∈ps.map (·.1)
 r1:ρ yP=some (.ref di)
 r2:ρ sZ=some (.ref wn)
 r4:ρ CQ=some (.int y)
 r5:ρ CU=some (.ref a)
 r6:ρ EV=some (.int z)
 r7:ρ EW=some (.ref ga)
 rn:ρ Ct=some (.int u)
 na:a≠ga/\di≠ga
inductive Dd (σ₀:am) (ra:Addr) (E:Int->Int->Prop) (P:Int->Prop) (y:Int) (K:List Int) (lim:Int) (ρ₀:aX) (n:Nat) (ρ:aX) (σ:am):Prop
 | mk (R:List Int) (k:Nat) (b:wq E P y K R k) (hn:n=K.length - k) (ha:σ ra=some (.list (aB R))) (ke:Ex [] σ₀ σ) (rk:Rk ρ₀ ρ) (r1:ρ EX=some (.ref ra)) (r2:ρ ES=some (.int k)) (r3:ρ Cv=some (.int lim)):Dd σ₀ ra E P y K lim ρ₀ n ρ σ
inductive Bn (σ₀:am) (ra:Addr) (E:Int->Int->Prop) (P:Int->Prop) (y:Int) (K:List Int) (lim:Int) (ρ₀:aX) (W:List (Int×Int)) (k:Nat) (r₀:Int) (xs:List V) (ρ:aX) (σ:am):Prop
 | mk (pre post:List (Int×Int)) (R:List Int) (hp:W=pre++post) (ex:xs=c6 post) (b:oH E P y K R k r₀ pre) (ha:σ ra=some (.list (aB R))) (ke:Ex [] σ₀ σ) (rk:Rk ρ₀ ρ) (r1:ρ EX=some (.ref ra)) (r2:ρ ES=some (.int k)) (r3:ρ Cv=some (.int lim)):Bn σ₀ ra E P y K lim ρ₀ W k r₀ xs ρ σ
theorem Ac {L cv a ga di wn:Addr} {ps qs W:List (Int×Int)} {oi oa:Obj} {y z u i:Int} {ρ:aX} {Q:F->aX->am->Prop} (hh:A.handled=none) (hu:A.units+2<cLine) (H:FY σ a ga di wn ps qs W oi oa y z u i ρ)
  (q:∀ ρ' σ' j og',(wj (fun u v=>(u,v)∈W) ps y z i u->j=z)/\(¬ wj (fun u v=>(u,v)∈W) ps y z i u->j=i)->σ' ga=some (.idict (dC (qs++[(u,j)])) og')->Ex [ga] σ σ'->Rk ρ ρ'->Q .next ρ' σ'):WL (G8 w mg mb os) A (aR cQ 561 L [(Fb,cv)]) (jm (kR cQ 5)) ρ σ Q:=by
 intros A w mg mb os σ L cv a ga di wn ps qs W oi oa y z u i ρ Q
 intro hh hu H q;show WL _ _ _ (_::_) _ _ _;obtain ⟨og,hg⟩:=H.hg;have mk:u∈ps.map (·.1):=IR (f:=fun p:Int×Int=>p.1) H.mi;have ik:i∈ps.map (·.1):=H.hc.cl _ H.mi;refine al (aY (aG (ah (ak H.r1 (ah (ak H.rn ⟨PG.dict H.hi,bb H.hi (c9 H.hc.np H.mi) (bz (ah (ak H.r7 (ah (ak H.rn (bZ hg (by unfold dC;rw [IP];exact Nat.lt_trans H.lq (by decide)) fun og1=>aZ (P:=fun s=>WL _ _ _ _ _ s _) fun σ1 f1 e1=>?_))))))⟩))))));rw [nJ H.nu] at f1;have gi:=e1.but H.hi H.na.2;have gd:=e1.but H.hd H.na.1;have gW:bE σ1 wn (c6 W):=H.hW.elim (fun h=> .inl (e1.but h (bM h hg ∅))) fun h=> .inr (e1.but h (bM h hg ∅))
 have npd:((wm ps ps).map (·.1)).Nodup:=by rw [rM];exact H.hc.np
 have gt:∀ {v},v∈ps.map (·.1)->bS (dC (wm ps ps)) v=some (.int (cX ps v)):=fun m=>c9 npd (zM m);have fin:∀ {ρ':aX} {σ':am} {j:Int} {og':Obj},(wj (fun u v=>(u,v)∈W) ps y z i u->j=z)/\(¬ wj (fun u v=>(u,v)∈W) ps y z i u->j=i)->σ' ga=some (.idict (dC (qs++[(u,j)])) og')->Ex [ga] σ σ'->Rk ρ ρ'->Q .next ρ' σ':=q _ _ _ _;refine al (ar (aG (ah (ak H.r5 (aG (ah (ak H.r1 (ah (ak H.rn ⟨PG.dict gi,bb gi (c9 H.hc.np H.mi) ⟨PG.dict gd,bb gd (gt ik) (az ?_)⟩⟩)))))))));have rs:∀ {k:Str} {v:V} {o:Option V},ρ k=o->k≠Cv->(ρ.set Cv v) k=o:=fun h n=>aw h n;refine al (bO (dv (fA (aI (aG (ah (ak (aw H.r5 nofun) (ah (ak (aw H.r6 nofun) ⟨PG.dict gd,bb gd (gt H.hz) (ah (ak bK (ux (aV ?_))))⟩)))))))))
 by_cases c1:cX ps z<cX ps i
 ·refine (if_pos (I5 (Int.ofNat_lt.mpr c1))).mpr ?_;refine fA (aI (aG (ah (ak (aw H.r5 nofun) (ah (ak (aw H.r4 nofun) ⟨PG.dict gd,bb gd (gt H.hy) (ah (ak bK (uu (aV ?_))))⟩))))))
  by_cases c2:cX ps i<cX ps y
  ·refine (if_pos (I5 (Int.ofNat_lt.mpr c2))).mpr ?_;refine fC ?_;refine (if_pos rfl).mpr ?_;refine al (ar (dG (ao (ah (ak (aw H.r4 nofun) (aA ⟨IU rfl,fun ra hra=>bj (P:=fun s=>WB _ _ _ _ _ _ s _) hra fun σ2 f2 e2=>az ?_⟩))))));refine al (ar (bp (az ?_)));have k0:Rk ρ (((ρ.set Cv (.int (cX ps i))).set EX (.ref ra)).set ES (.int 0)):=((Rk.refl.set nofun).set nofun).set nofun;refine al (dJ (Dd σ1 ra (fun u v=>(u,v)∈W) (fun q=>cX ps i<cX ps q) y (ps.map (·.1)) (cX ps i) ρ) _ ⟨[y],0, .start H.hy,rfl,f2,e2,k0,aw bK nofun,bK,aw (aw bK nofun) nofun⟩ fun n ρ3 σ3 iv=>?_)
   cases iv with | mk R k b hn ha ke rk r1 r2 r3=>
   have lR:=b.len;rw [IP] at lR;have lp:=H.lp
   have lv:(aB R).length<2 ^ 60:=by rw [a0];exact sY lR lp rfl
   refine aI (ah (ak r2 (aF (ah (aQ nF (aJ (ao (ah (ak r1 (aA ⟨ba.bi,mG (.inl ha) lv (ux (aV ?_))⟩))))))))))
   by_cases c3:k<R.length
   ·refine (if_pos (by rw [a0];exact I5 (Int.ofNat_lt.mpr c3))).mpr ?_;obtain ⟨r₀,g0⟩: ∃ r₀,R[k]?=some r₀:=⟨_,IX c3⟩;refine al (d6 (ah (ak ((rk sZ nofun).trans H.r2) (fY hh (dR gW ke) (cD (Bn σ1 ra (fun u v=>(u,v)∈W) (fun q=>cX ps i<cX ps q) y (ps.map (·.1)) (cX ps i) ρ W k r₀) ?_ ?_ _ ⟨[],W,R,rfl,rfl,b.turn g0,ha,ke,rk,r1,r2,r3⟩)))))
    ·intro xv xs ρ4 σ4 iv
     cases iv with | mk pre post R hp ex b ha ke rk r1 r2 r3=>
     cases post with
     | nil=>injection ex
     | cons p post=>
      cases ex;obtain ⟨p1,p2⟩:=p
      have mW:(p1,p2)∈W:=by rw [hp];simp
      have kp2:p2∈ps.map (·.1):=(H.cl _ mW).2;have lR:=b.b.len;rw [IP] at lR
      have lv:(aB R).length<2 ^ 60:=by rw [a0];exact sY lR lp rfl
      have gk:(aB R)[k]?=some (.int r₀):=by unfold aB;rw [List.getElem?_map,b.at_];rfl
      refine fq hh (bo (az (bo (az ?_))));have k4:Rk ρ ((ρ4.set Cw (.int p1)).set Cz (.int p2)):=(rk.set nofun).set nofun;have r1':=aw (a:=Cz) (x:= .int p2) (aw (a:=Cw) (x:= .int p1) r1 nofun) nofun;have r2':=aw (a:=Cz) (x:= .int p2) (aw (a:=Cw) (x:= .int p1) r2 nofun) nofun;have r3':=aw (a:=Cz) (x:= .int p2) (aw (a:=Cw) (x:= .int p1) r3 nofun) nofun;have skip:(p1=r₀->cX ps i<cX ps p2->p2∈R)->bE σ4 wn (c6 W)/\Bn σ1 ra (fun u v=>(u,v)∈W) (fun q=>cX ps i<cX ps q) y (ps.map (·.1)) (cX ps i) ρ W k r₀ (c6 post) ((ρ4.set Cw (.int p1)).set Cz (.int p2)) σ4:=fun hs=>⟨dR gW ke,⟨pre++[(p1,p2)],post,R,by rw [hp,List.append_assoc];rfl,rfl,b.old hs,ha,ke,k4,r1',r2',r3'⟩⟩;refine al (bO (dv (fA (aI (ah (ak (v:= .int p1) (aw bK nofun) (aG (ah (ak r1' (ah (ak r2' ⟨PG.list (.inl ha),bq (.inl ha) (Int.natCast_nonneg k) lv gk (wT (aV ?_))⟩)))))))))))
      by_cases d1:p1=r₀
      ·refine (if_pos (by simp [d1])).mpr ?_;refine fA (aI (aG (ah (ak ((k4 CU nofun).trans H.r5) (ah (ak bK ⟨PG.dict (ke.at gd),bb (ke.at gd) (gt kp2) (ah (ak r3' (uu (aV ?_))))⟩))))))
       by_cases d2:cX ps i<cX ps p2
       ·refine (if_pos (I5 (Int.ofNat_lt.mpr d2))).mpr ?_;refine fA (aI (ah (ak bK (ah (ak r1' (oV (.inl ha) hu (aV ?_)))))))
        by_cases d3:p2∈R
        ·refine (if_neg (by simp [d3])).mpr ?_;exact aE (aE (skip fun _ _=>d3))
        ·refine (if_pos (by simp [d3])).mpr ?_;refine fC ?_;refine (if_pos rfl).mpr ?_;refine al (bh (ay (ah (ak r1' (cz (.inl ha) (aJ (ao (ah (ak bK (aA ⟨ba.bi,co ha (by rw [a0];exact sY lR lp rfl) (aZ (P:=fun s=>WL _ _ _ _ _ s _) fun σ5 f5 e5=>aE (aE ?_))⟩))))))))));have k5:Ex [] σ1 σ5:=fun b z _ h=>e5.but (ke.at h) (aW h hra);exact ⟨dR gW k5,⟨pre++[(p1,p2)],post,R++[p2],by rw [hp,List.append_assoc];rfl,rfl,by rw [d1] at mW ⊢;exact b.add mW d2 d3 kp2,by rw [f5,bt];rfl,k5,k4,r1',r2',r3'⟩⟩
       ·refine (if_neg fun c=>d2 (Int.ofNat_lt.mp (Jf c))).mpr ?_;exact aE (aE (skip fun _ h=>absurd h d2))
      ·refine (if_neg (by simp [d1])).mpr ?_;exact aE (aE (skip fun h=>absurd h d1))
    ·intro ρ4 σ4 iv
     cases iv with | mk pre post R' hp ex b ha ke rk r1 r2 r3=>
     cases post with
     | cons _ _=>injection ex
     | nil=>
     rw [List.append_nil] at hp;subst hp;have b':=b.fin fun _ _ h=>h
     have:=b'.hk
     have l2:=b'.len;refine aE (al (gf (ak r2 (bp (uw (az (aE ⟨(ps.map (·.1)).length - (k+1),by lia,⟨R',k+1,b',rfl,ha,ke,rk.set nofun,aw r1 nofun,bK,aw r3 nofun⟩⟩)))))))
   ·refine (if_neg (by rw [a0];simp;exact Nat.le_of_not_lt c3)).mpr ?_;have all:=b.all c3;refine aE (al (bO (aI (ah (ak ((rk Ct nofun).trans H.rn) (ah (ak r1 (mJ (.inl ha) hu (aV ?_)))))))))
    by_cases c4:u∈R
    ·refine (if_pos (I5 c4)).mpr ?_;refine al (aY (ah (ak ((rk EV nofun).trans H.r6) (bz (ah (ak ((rk EW nofun).trans H.r7) (ah (ak ((rk Ct nofun).trans H.rn) (bZ (ke.at f1) (by unfold dC;rw [IP,IV];have:=H.lq;simp;exact lr this rfl) fun og2=>aZ (P:=fun s=>WL _ _ _ _ _ s _) fun σ5 f5 e5=>aE (aE (aE (fin (j:=z) ⟨fun _=>rfl,fun n=>absurd ⟨c1,c2,(all u).mp c4⟩ n⟩ (by rw [f5,xM H.nu]) ((e1.trans ke.nil).trans e5) rk))))))))))))
    ·refine (if_neg (by simp [c4])).mpr ?_;exact aE (aE (aE (fin (j:=i) ⟨fun a=>absurd ((all u).mpr a.2.2) c4,fun _=>rfl⟩ (ke.at f1) (e1.trans ke.nil) rk)))
  ·refine (if_neg (by simp;exact Nat.le_of_not_lt c2)).mpr ?_;exact aE (aE (fin (j:=i) ⟨fun a=>absurd a.2.1 c2,fun _=>rfl⟩ f1 e1 (Rk.refl.set nofun)))
 ·refine (if_neg (by simp;exact Nat.le_of_not_lt c1)).mpr ?_;exact aE (aE (fin (j:=i) ⟨fun a=>absurd a.1 c1,fun _=>rfl⟩ f1 e1 (Rk.refl.set nofun)))
theorem j4:GV (G8 w mg mb os) yO (.ref 556):=i9 (⋯)
abbrev Dx (C:List Int) (v:V):Bool:=match v with
 | .int i=>decide (i∈C)
 | _=>false
theorem tL (C D:List Int):((aB D).filter (Dx C)).map (fun v=>v)=aB (D.filter fun c=>decide (c∈C)):=by
 unfold aB;rw [List.map_id',List.filter_map];rfl
inductive C1 (σ₀:am) (a di wn:Addr) (x y:Int) (ps:List (Int×Int)) (xs:List V) (ρ:aX) (σ:am):Prop
 | mk (pre post:List (Int×Int)) (hp:ps=pre++post) (ex:xs=aB (post.map (·.1))) (ha:∃ o,σ a=some (.idict (dC (wm ps pre)) o)) (ke:Ex [] σ₀ σ) (r1:ρ yP=some (.ref di)) (r2:ρ sZ=some (.ref wn)) (r3:ρ FW=some (.int x)) (r4:ρ CQ=some (.int y)) (r5:ρ CU=some (.ref a)):C1 σ₀ a di wn x y ps xs ρ σ
inductive C5 (σ₀:am) (ga di wn a:Addr) (y z:Int) (ps W:List (Int×Int)) (xs:List V) (ρ:aX) (σ:am):Prop
 | mk (pre post qs:List (Int×Int)) (og:Obj) (hp:ps=pre++post) (ex:xs=aB (post.map (·.1))) (hg:σ ga=some (.idict (dC qs) og)) (hk:qs.map (·.1)=pre.map (·.1)) (h:∀ v i j,(v,i)∈pre->(v,j)∈qs->(wj (fun u v=>(u,v)∈W) ps y z i v->j=z)/\(¬ wj (fun u v=>(u,v)∈W) ps y z i v->j=i)) (ke:Ex [] σ₀ σ) (r1:ρ yP=some (.ref di)) (r2:ρ sZ=some (.ref wn)) (r4:ρ CQ=some (.int y)) (r5:ρ CU=some (.ref a)) (r6:ρ EV=some (.int z)) (r7:ρ EW=some (.ref ga)):C5 σ₀ ga di wn a y z ps W xs ρ σ
theorem zU {di wn:Addr} {ps W:List (Int×Int)} {oi:Obj} {x y e:Int} {Q:V->am->Prop} (r:Rm 20 A) (hi:σ di=some (.idict (dC ps) oi)) (hW:bE σ wn (c6 W)) (hc:jg ps) (hx:x∈ps.map (·.1)) (hy:y∈ps.map (·.1)) (hl:ps.length<30) (he:Up ps x e/\Up ps y e) (cl:∀ p∈W,p.1∈ps.map (·.1)/\p.2∈ps.map (·.1))
  (q:∀ a ps' od σ' z,σ a=none->σ' a=some (.idict (dC ps') od)->Ex [] σ σ'->ps'.map (·.1)=ps.map (·.1)->oG ps x y z->(∀ v i j,(v,i)∈ps->(v,j)∈ps'->(wj (fun u v=>(u,v)∈W) ps y z i v->j=z)/\(¬ wj (fun u v=>(u,v)∈W) ps y z i v->j=i))->Q (.ref a) σ'):eS (G8 w mg mb os) A (.ref 561) [.ref di, .ref wn, .int x, .int y] [] σ Q:=by
 intros A w mg mb os σ di wn ps W oi x y e Q
 intro r hi hW hc hx hy hl he cl q;refine jt (fd:=cQ) (bv:=[(yP, .ref di),(sZ, .ref wn),(FW, .int x),(CQ, .int y)]) (zH (⋯) rfl (⋯) (uz fun _ _ _ _ _=>by kernel_rfl) (⋯) (⋯)) r.room ?_
 injections L
 intro hL;refine aO rfl (aO rfl (aO rfl (aO rfl (aO rfl (aO rfl (b8 ?_))))))
 injections cv σ1
 refine fun hc1 f1 e1=>b6 (⋯) ?_;refine az (az (az (az ?_)));have rd:Rm 19 (A.deeper (aR cQ 561 L [(Fb,cv)])):=r.deeper;have hh:=rd.hh;show WL _ _ _ (_::_) _ _ _;refine al (ar (cu fun a ha=>bj (P:=fun s=>WB _ _ _ _ _ _ s _) ha fun σ2 f2 e2=>az ?_));refine al (d6 (ah (ak (v:= .ref di) rfl (p8 hh (e2.at (e1.at hi)) ?_))));rw [gR];refine cD (C1 σ1 a di wn x y ps) ?_ ?_ _ ⟨[],ps,rfl,rfl,⟨_,f2⟩,e2,rfl,rfl,rfl,rfl,rfl⟩
 ·intro v xs ρ σ3 iv
  cases iv with | mk pre post hp ex ha' ke r1 r2 r3 r4 r5=>
  cases post with
  | nil=>injection ex
  | cons p post=>
   cases ex;obtain ⟨u,i⟩:=p;obtain ⟨oa,ha'⟩:=ha';refine bo (az ?_)
   have ku:u∈ps.map (·.1):=by rw [hp];simp
   have nu:u∉pre.map (·.1):=fun m=>by
    have:=hc.np
    rw [hp,I2] at this;exact (Jb.mp this).2.2 u m u (.head _) rfl
   have lpre:pre.length<1000:=by have:=congrArg List.length hp;rw [IV] at this;exact sY (Nat.le.intro this.symm) hl rfl
   have gd:=ke.at (e1.at hi);refine al (aY (aF (ah (aQ nF (aJ (ao (aF (ah (aQ j4 (aJ (ao (ah (ak (aw r1 nofun) (ao (ah (ak bK (aA ⟨br (fd:=dM) (⋯),(l8 (rd.le (by decide)) gd hc ku (eW hl rfl) fun a' C σ4 hC lC fr fa ex4=>aA ⟨ba.bi,?_⟩).wc⟩)))))))))))))))));refine mG (.inl fa) (by rw [a0];exact sY lC hl rfl) (bz (ah (ak (aw r5 nofun) (ah (ak bK (bZ (ex4.at ha') (by unfold dC wm;rw [IP,IP];exact lpre) fun oa'=>aZ (P:=fun s=>WL _ _ _ _ _ s _) fun σ5 f5 e5=>aE ?_))))));have k5:Ex [] σ1 σ5:=fun b z _ h=>e5.but (ex4.at (ke.at h)) (aW h ha);rw [a0,<- hC.len hc,nJ (by rw [rM];exact nu),show wm ps pre++[(u,(cX ps u:Int))]=wm ps (pre++[(u,i)]) by unfold wm;rw [I2];rfl] at f5;exact ⟨k5.at (e1.at hi),⟨pre++[(u,i)],post,by rw [hp,List.append_assoc];rfl,rfl,⟨_,f5⟩,k5,aw r1 nofun,aw r2 nofun,aw r3 nofun,aw r4 nofun,aw r5 nofun⟩⟩
 ·intro ρ σ3 iv
  cases iv with | mk pre post hp ex ha' ke r1 r2 r3 r4 r5=>
  cases post with
  | cons _ _=>injection ex
  | nil=>
  rw [List.append_nil] at hp;subst hp;obtain ⟨oa,ha'⟩:=ha';have gd:=ke.at (e1.at hi);have cva:cv≠a:=aW f1 ha;refine aE (al (aY (aF (ah (aQ j4 (aJ (ao (ah (ak r1 (ao (ah (ak r4 (aA ⟨br (fd:=dM) (⋯),(l8 (rd.le (by decide)) gd hc hy (eW hl rfl) fun av Cy σ4 hCy lCy fr4 fa4 ex4=>bo ?_).wc⟩)))))))))))));refine cO (c:=cv) (⋯) (ex4.at (ke.at f1)) (aZ (P:=fun s=>WL _ _ _ _ _ s _) fun σ5 f5 e5=>?_);have up5:∀ {b z},σ3 b=some z->b≠cv->σ5 b=some z:=fun h n=>e5.but (ex4.at h) n;have dcv:di≠cv:=bM (e1.at hi) f1 ∅;have acv:a≠cv:=cva.symm;have fav5:σ5 av=some (.list (aB Cy)):=e5.but fa4 (bM fa4 (ex4.at (ke.at f1)) ∅);have gd5:=up5 gd dcv
  have hu:A.units+3+2<cLine:=by have:=r.hu;show _<9900;exact Fr this rfl
  have gd5:=up5 gd dcv;have fcv5:σ5 cv=some (.cell (some (.ref av))):=f5;refine al (ar (aG (eG (aF (ah (aQ j4 (aJ (ao (ah (ak r1 (ao (ah (ak r3 (aA ⟨br (fd:=dM) (⋯),(l8 (rd.le (by decide)) gd5 hc hx (eW hl rfl) fun ax Cx σ6 hCx lCx fr6 fa6 ex6=>fY hh (.inl fa6) fun acc hacc CL=>⟨.inl (sk hacc fa6),?_⟩).wc⟩))))))))))))));ac_rfl;obtain ⟨z,Rz,ez,nz⟩:=Ch.common hc (hCy.mem hc) hCx ⟨e,(hCx.mem hc e).mpr he.1,(hCy.mem hc e).mpr he.2⟩;right;have up6:∀ {b l w},σ5 b=some w->(σ6.set acc (.list l)) b=some w:=fun h=>sk hacc (ex6.at h);refine jS (f:=fun v=>v) (g:=Dx Cy) (fun l=> .inl (sk hacc fa6)) (by rw [a0];exact sY lCx hl rfl) (fun v mv ρ l hv=>?_) (fun v mv ρ l hv=>?_) ?_
  ·obtain ⟨k,_,rfl⟩:=I0.mp mv;refine aI (ah (ak hv (ah (bJ (c:=cv) (⋯) (up6 fcv5) (mJ (.inl (up6 fav5)) hu (aV ?_))))))
   cases c:decide (k∈Cy) with
   | true=>dsimp only [if_pos rfl];exact ⟨c.symm,rfl⟩
   | false=>dsimp only [if_neg Jg];exact ⟨c.symm,rfl⟩
  ·exact ah (ak hv ⟨rfl,rfl⟩)
  ·rw [tL,ez];refine bj (P:=fun s=>WE _ _ _ _ _ s _) hacc fun σ7 f7 e7=>?_
   have lz:(aB (z::Rz)).length<2 ^ 60:=by
    have:=congrArg List.length ez
    have l2:=List.length_filter_le (fun c=>decide (c∈Cy)) Cx;rw [a0,<- this];exact sY (Nat.le_trans l2 lCx) hl rfl
   refine bp ⟨PG.list (.inl f7),bq (.inl f7) (by decide) lz (v:= .int z) rfl (az ?_)⟩;refine al (ar (cu fun ga hga=>bj (P:=fun s=>WB _ _ _ _ _ _ s _) hga fun σ8 f8 e8=>az ?_));have k7:Ex [] σ σ7:=fun b w _ h=>e7.at (ex6.at (up5 (ke.at (e1.at h)) (aW h hc1)));have d7:σ7 a=some (.idict (dC (wm ps ps)) oa):=e7.at (ex6.at (up5 ha' acv));have i7:=k7.at hi;refine al (d6 (ah (ak (aw (aw r1 nofun) nofun) (p8 hh (e8.at i7) ?_))));rw [gR];refine cD (C5 σ7 ga di wn a y z ps W) ?_ ?_ _ ⟨[],ps,[],_,rfl,rfl,f8,rfl,(fun _ _ _ m=>nomatch m),e8,aw (aw r1 nofun) nofun,aw (aw r2 nofun) nofun,aw (aw r4 nofun) nofun,aw (aw r5 nofun) nofun,aw bK nofun,bK⟩
   ·intro v xs ρ9 σ9 iv
    cases iv with | mk pre post qs og hp ex hg hk h ke9 r1 r2 r4 r5 r6 r7=>
    cases post with
    | nil=>injection ex
    | cons p post=>
     cases ex;obtain ⟨u,i⟩:=p;refine bo (az ?_)
     have nu:u∉pre.map (·.1):=fun m=>by
      have:=hc.np
      rw [hp,I2] at this;exact (Jb.mp this).2.2 u m u (.head _) rfl
     have lq:qs.length<100:=by
      have h1:=congrArg List.length hk;rw [IP,IP] at h1;have h2:=congrArg List.length hp;rw [IV] at h2;lia
     have g9:∀ {b w},σ7 b=some w->σ9 b=some w:=fun h=>ke9.at h;have W9:bE σ9 wn (c6 W):=dR (dR hW k7) ke9;have G9:FY σ9 a ga di wn ps qs W oi oa y z u i (ρ9.set Ct (.int u)):=⟨g9 i7,g9 d7,⟨og,hg⟩,W9,hc,by rw [hp];simp,by rw [hk];exact nu,lq,(eW hl rfl),hy,nz.hl.key hc hx,cl,aw r1 nofun,aw r2 nofun,aw r4 nofun,aw r5 nofun,aw r6 nofun,aw r7 nofun,bK,aW d7 hga,aW i7 hga⟩;refine iR fun Q' hQ=>Eq.mp (⋯) (Ac (w:=w) (mg:=mg) (mb:=mb) (os:=os) (A:=A.deeper (aR cQ 561 L [(Fb,cv)])) (L:=L) (cv:=cv) (Q:=Q') hh hu G9 fun ρ' σ' j og' hj fg eg rk=>hQ _ _ _ ?_);have k':Ex [] σ7 σ':=fun b w _ h=>eg.but (ke9.at h) (aW h hga);refine ⟨k'.at i7,⟨pre++[(u,i)],post,qs++[(u,j)],og',by rw [hp,List.append_assoc];rfl,rfl,fg,by rw [I2,I2,hk];rfl,fun v i' j' m m'=>?_,k',(rk yP nofun).trans (aw r1 nofun),(rk sZ nofun).trans (aw r2 nofun),(rk CQ nofun).trans (aw r4 nofun),(rk CU nofun).trans (aw r5 nofun),(rk EV nofun).trans (aw r6 nofun),(rk EW nofun).trans (aw r7 nofun)⟩⟩;rcases I1.mp m with m | m
     ·rcases I1.mp m' with m' | m'
      ·exact h v i' j' m m'
      ·cases IN.mp m';exact absurd (IR (f:=fun p:Int×Int=>p.1) m) nu
     ·cases IN.mp m;rcases I1.mp m' with m' | m'
      ·exact absurd (hk▸IR (f:=fun p:Int×Int=>p.1) m') nu
      ·cases IN.mp m';exact hj
   ·intro ρ9 σ9 iv
    cases iv with | mk pre post qs og hp ex hg hk h ke9 r1 r2 r4 r5 r6 r7=>
    cases post with
    | cons _ _=>injection ex
    | nil=>
    rw [List.append_nil] at hp;subst hp;exact aE (al (bA (ah (ak r7 (q ga qs og _ z (k7.none hga fun m=>nomatch m) hg (fun b w n h=>ke9.at (k7.at h)) hk nz h)))))
theorem wZ {x d S P:Addr} {m n od} {l lp:cU} {N:List Int} {W:List (Int×Int)} {e:Int} {Q:V->am->Prop} (r:Rm 100 A) (H:C4 σ x d S P m n od l lp N W e) (tb:bP σ 460 bX cS) (t2:eF σ) (nN:N.Nodup) (n6:N.length<=6) (cl:∀ p∈W,p.1∈N/\p.2∈N) (me:e∈N) (reach:∀ k∈N,∃ π,fV (fun u v=>(u,v)∈W) e k π)
  (q:∀ σ' dd od' ps B ob',σ dd=none->σ' dd=some (.idict (dC ps) od')->eE (fun u v=>(u,v)∈W) e N ps->σ' d=some (.ns (js (js m jP (.ref B)) gJ (.ref dd)) (n+1+1) true ob')->Ex [d,419,460] σ σ'->bP σ' 460 bX cS->eF σ'->Q (.ref dd) σ'):te (G8 w mg mb os) A (.ref 169) [.ref x] [] σ Q:=by
 have xd:x≠d:=bM H.hx H.hd ∅
 have len:l.length<=12:=by rw [<- IP (f:=fun e:Int×Addr×List Int=>e.1)];have:=H.ks;unfold aM at this;rw [this];exact Fq n6 rfl
 refine nv r H.hx H.hd (H.om _ nofun) (H.om _ nofun) (⋯) fun A' σ₀ ob' r' hd' ex=>?_;have hx':=ex.but H.hx xd;have raw:=dT H.hd (fun o c=>by injection c);have stay:=jq H.hd;have tb':=tb.exr ex raw;have t2':=t2.ex ex raw;refine xr r' hx' hd' (H.om _ nofun) fun A'' r''=>BA r'' ⟨⟨hx',hd',H.mS,H.me,H.om _ nofun,H.hS.stay ex stay,by rw [H.ks];exact nN,H.ss,fun u v h=>by rw [H.ks];exact (cl _ ((H.ed u v).mp h)).2,by rw [H.ks];exact me,len,tb'⟩,by have:=H.hn;exact eW this rfl,H.mP,H.om _ nofun,H.om _ nofun,H.om _ nofun,H.om _ nofun,H.hP.stay ex stay,by rw [H.kp];exact nN,fun u mu=>?_,fun k mk=>?_,t2'⟩ fun σ' dd od' ps po B ob'' fr fd D hpo hd2 ex2 tb2 t22=>?_
 ·obtain ⟨a,xs,mt⟩:=kQ (T:=lp) (k:=u) (by rw [H.kp,<- H.ks];exact mu);exact ⟨a,xs,mt,fun p=>((H.sp _ mt).2 p).trans (H.ed p u).symm⟩
 ·obtain ⟨π,h⟩:=reach k (by rw [<- H.ks];exact mk);exact ⟨π,h.congr fun u v h=>(H.ed u v).mpr h⟩
 ·refine .mk dd _ _ ob'' rfl hd2 (by have:=H.hn;exact lr this rfl) fun ob3=>aZ (P:=fun s=>Q _ s) fun σ3 f3 e3=>?_;have dd':dd≠d:=bM fd hd2 ∅;have raw3:=dT hd2 (fun o c=>by injection c);exact q σ3 dd od' ps B ob3 (ex.none fr fun m=>dd' (IN.mp m)) (e3.but fd dd') (D.congr H.ed fun k=>(hpo k).trans (by rw [H.ks])) f3 (fun b y nb h=>e3.but (ex2 b y nb (ex.but h fun c=>nb (by simp [c]))) fun c=>nb (by simp [c])) (tb2.exr e3 raw3) (t22.ex e3 raw3)
theorem w0 {x d di:Addr} {m n ob} {ps:List (Int×Int)} {oi:Obj} {Q:V->am->Prop} (r:Rm 50 A) (hx:σ x=some (.inst 510 d)) (hd:σ d=some (.ns m n true ob)) (hn:n<800) (h1:m qS=none) (h2:m kU=none) (h3:m "_find_dominator_tree" = none) (hm:m gJ=some (.ref di)) (hi:σ di=some (.idict (dC ps) oi)) (hl:ps.length<30) (np:(ps.map (·.1)).Nodup)
  (q:∀ σ' D T ob',g7 σ' D T->gB T ps->σ' d=some (.ns (js m kU (.ref D)) (n+1) true ob')->Ex [d] σ σ'->Q (.ref D) σ'):eS (G8 w mg mb os) A (.ref 183) [.ref x] [] σ Q:=
 kG r hx hd h1 h2 fun A' r'=>rW r' hx hd h3 fun A'' r''=>vy (r''.le (by decide)) hx hd hm hi (eW hl rfl) np fun σ' D T ex tA tO=> .mk D m n ob rfl (ex.at hd) (eW hn rfl) fun ob'=>aZ (P:=fun s=>Q _ s) fun σ3 f3 e3=>q σ3 D T ob' (tA.h.stay e3 (jq (ex.at hd))) tO f3 (ex.nil.trans e3)
theorem tD {x d di:Addr} {m n ob} {ps:List (Int×Int)} {oi:Obj} {Q:V->am->Prop} (r:Rm 50 A) (hx:σ x=some (.inst 510 d)) (hd:σ d=some (.ns m n true ob)) (hn:n<800) (h1:m qS=none) (h2:m oE=none) (h3:m "_find_dominators" = none) (h4:m "_find_dominators_from_immediate_doms" = none) (hm:m gJ=some (.ref di)) (hi:σ di=some (.idict (dC ps) oi)) (hl:ps.length<30) (hc:jg ps)
  (q:∀ σ' D T ob',g7 σ' D T->fX T ps->(∀ k∈ps.map (·.1),k∈aM T)->σ' d=some (.ns (js m oE (.ref D)) (n+1) true ob')->Ex [d] σ σ'->Q (.ref D) σ'):eS (G8 w mg mb os) A (.ref 155) [.ref x] [] σ Q:=
 qm r hx hd h1 h2 fun A' r'=>xo r' hx hd h3 fun A'' r''=>rU r'' hx hd hm h4 fun A3 r3=>Bz r3 hi hl hc fun σ' D T ex tA tO all=> .mk D m n ob rfl (ex.at hd) (eW hn rfl) fun ob'=>aZ (P:=fun s=>Q _ s) fun σ3 f3 e3=>q σ3 D T ob' (tA.stay e3 (jq (ex.at hd))) tO all f3 (ex.nil.trans e3)
end
theorem ua {xs ys zs ws:List Int} (h:∀ k,k∈xs↔k∈ys) (nx:xs.Nodup) (ny:ys.Nodup) (pz:zs.Perm xs) (pw:ws.Perm ys) (sz:zs.Pairwise (·<=·)) (sw:ws.Pairwise (·<=·)):zs=ws:=by
 have p:zs.Perm ws:=pz.trans (((List.perm_ext_iff_of_nodup nx ny).mpr h).trans pw.symm);exact p.eq_of_pairwise (fun a b _ _ h1 h2=>Int.le_antisymm h1 h2) sz sw
section
variable {G:aK} {A:Around} {env:Env} {ρ:aX} {σ:am}
theorem vO {N:List Int} {t:Int} (h0:0<=t) (h1:t<=N.length):vN (aB N) (some t) none=aB (N.drop t.toNat):=by
 have e:clipAt (aB N).length t=t.toNat:=by
  have:=clipAt_cast (aB N).length t
  rw [a0] at *;lia
 show ((aB N).drop (clipAt (aB N).length t)).take ((aB N).length - clipAt (aB N).length t)=_;rw [e,List.take_of_length_le (by rw [List.length_drop];exact I4 _)];unfold aB;rw [List.map_drop]
theorem Aq {N:List Int} {t:Int} (h0:0<=t) (h1:t<=N.length):vN (aB N) none (some t)=aB (N.take t.toNat):=by
 have e:clipAt (aB N).length t=t.toNat:=by
  have:=clipAt_cast (aB N).length t
  rw [a0] at *;lia
 show ((aB N).drop 0).take (clipAt (aB N).length t - 0)=_;rw [e,List.drop_zero,Nat.sub_zero];unfold aB;rw [List.map_take]
end
section
variable {A:Around} {env:Env} {w:World} {mg mb:Str->Option Value} {os:OsState} {ρ:aX} {σ:am}
abbrev zh (G:aK) (v:V) (xs:List Int) (σ:am):Prop:=∀ (A:Around) (Q:List V->am->Prop),A.handled=none->(∀ acc ys,σ acc=none->ys.Perm xs->Q (aB ys) (σ.set acc (.list (aB ys))))->va G A v σ Q
theorem zh.list {G:aK} {a:Addr} {xs:List Int} (h:bE σ a (aB xs)) (l:xs.length<64):zh G (.ref a) xs σ:=fun A Q hh q=>vc h (by rw [a0];exact eW l rfl) fun acc ha=>q acc xs ha (.refl _)
theorem zh.set {G:aK} {a:Addr} {xs:List Int} {ob:Obj} (h:σ a=some (.iset xs ob)) (l:xs.length<64):zh G (.ref a) xs σ:=fun A Q hh q=>wP hh h (eW l rfl) q
theorem zh.dict {G:aK} {a:Addr} {kvs:List (Int×V)} {ob:Obj} (h:σ a=some (.idict kvs ob)) (l:kvs.length<64):zh G (.ref a) (kvs.map (·.1)) σ:=fun A Q hh q=>vb hh h (eW l rfl) fun acc ha=>q acc _ ha (.refl _)
theorem pj {e:Expr} {p pos:Pos} {Q:V->am->Prop} (hh:A.handled=none) (h:WE (G8 w mg mb os) A env e ρ σ fun v σ1=>∃ xs,zh (G8 w mg mb os) v xs σ1/\xs.length<64/\∀ a zs σ2,zs.Perm xs->zs.Pairwise (·<=·)->σ2 a=some (.list (aB zs))->Ex [] σ1 σ2->Q (.ref a) σ2)
  (hk:env.scope.kind = .function) (hl:env.kindOf uj=some .globalImplicit) (hg:env.globals=mainGlobals) (hb:env.builtins=builtinsNs) (hp:autoParam (mC env [e]) TaR) (he:autoParam (starEach [e] env=(false,eval e env)::starEach [] env) TaR):WE (G8 w mg mb os) A env (.Call (.Name uj p) [e] [] pos) ρ σ Q:=by
 refine aF (ah (aQ vE (aJ (ao (h.mono fun v σ1 h=>aA ⟨ba.bi,?_⟩) he) hp) hk hl hg hb));ac_rfl;obtain ⟨xs,hz0⟩:=h;right;refine u9 (hz0.1 _ _ hh fun acc ys ha py=> .mk ys rfl (by rw [py.length_eq];exact hz0.2.1) fun a zs ha' pz sz=>?_);exact hz0.2.2 a zs _ (pz.trans py) sz (am.set_self ..) fun b y _ h=>sk ha' (sk ha h)
theorem dK {e1 e2:Expr} {p1 p2 q1 q2 pos:Pos} {Q:Bool->am->Prop} (hh:A.handled=none) (hu:A.units+2<cLine)
  (h:WE (G8 w mg mb os) A env e1 ρ σ fun v σ1=>∃ xs,zh (G8 w mg mb os) v xs σ1/\xs.length<64/\xs.Nodup/\∀ σ2,Ex [] σ1 σ2->WE (G8 w mg mb os) A env e2 ρ σ2 fun v σ3=>∃ ys,zh (G8 w mg mb os) v ys σ3/\ys.length<64/\ys.Nodup/\(∀ k,k∈xs↔k∈ys)/\Ex [] σ2 σ3/\∀ σ4,Ex [] σ3 σ4->Q false σ4)
  (hk:autoParam (env.scope.kind = .function) TaR) (hl:autoParam (env.kindOf uj=some .globalImplicit) TaR) (hg:autoParam (env.globals=mainGlobals) TaR) (hb:autoParam (env.builtins=builtinsNs) TaR) (hp1:autoParam (mC env [e1]) TaR) (hp2:autoParam (mC env [e2]) TaR) (he1:autoParam (starEach [e1] env=(false,eval e1 env)::starEach [] env) TaR) (he2:autoParam (starEach [e2] env=(false,eval e2 env)::starEach [] env) TaR):WT (G8 w mg mb os) A env (.Compare (.Call (.Name uj p1) [e1] [] q1) [.NotEq] [.Call (.Name uj p2) [e2] [] q2] pos) ρ σ Q:=by
 refine aI (pj hh (h.mono fun v σ1 h=>?_) hk hl hg hb hp1 he1);ac_rfl;obtain ⟨xs,hz1⟩:=h;right;refine ⟨xs,hz1.1,hz1.2.1,fun a zs σ2 pz sz ha ex=>pj hh ((hz1.2.2.2 σ2 ex).mono fun v σ3 h=>?_) hk hl hg hb hp2 he2⟩;ac_rfl;obtain ⟨ys,hz2⟩:=h;right;refine ⟨ys,hz2.1,hz2.2.1,fun b ws σ4 pw sw hb ex''=>tv (.inl (ex''.at (hz2.2.2.2.2.1.at ha))) (.inl hb) hu (aV ?_)⟩;rw [ua hz2.2.2.2.1 hz1.2.2.1 hz2.2.2.1 pz pw sz sw,I5 rfl];exact hz2.2.2.2.2.2 σ4 ex''
end
noncomputable abbrev Ew (W:List (Int×Int)):Int->Int->Prop:=fun u v=>(u,v)∈W
structure oI (σ:am) (ρ:aX) (na wa la nd cn cm:Addr) (N:List Int) (W Lt ps:List (Int×Int)) (e t:Int):Prop where
 hN:σ na=some (.list (aB N))
 hW:σ wa=some (.list (c6 W))
 hL:σ la=some (.list (c6 Lt))
 hc:σ cn=some (.cell (some (.ref nd)))
 hm:∃ v,σ cm=some (.cell v)
 hD:∃ o,σ nd=some (.idict (dC ps) o)
 D:eE (Ew W) e N ps
 nN:N.Nodup
 n6:N.length<=6
 cl:∀ p∈W,p.1∈N/\p.2∈N
 reach:∀ k∈N,∃ π,fV (Ew W) e k π
 e0:N[0]?=some e
 clL:∀ p∈Lt,p.1∈N/\p.2∈N
 lL:Lt.length<=7
 t0:0<=t
 t1:t<=N.length
 ap:wa≠na/\wa≠la/\cn≠cm
 r1:ρ AG=some (.ref na)
 r2:ρ sZ=some (.ref wa)
 r3:ρ y4=some (.ref la)
 r4:ρ yS=some (.int t)
 tb:bP σ 460 bX cS
 t2:eF σ
theorem oI.ex {σ σ':am} {ρ ρ':aX} {na wa la nd cn cm:Addr} {N:List Int} {W Lt ps:List (Int×Int)} {e t:Int} (H:oI σ ρ na wa la nd cn cm N W Lt ps e t) (k:Ex [cm] σ σ') (hm:∃ v,σ' cm=some (.cell v)) (tb:bP σ' 460 bX cS) (t2:eF σ') (hρ:∀ y∈[AG,sZ,y4,yS],ρ' y=ρ y):oI σ' ρ' na wa la nd cn cm N W Lt ps e t:=by
 obtain ⟨v,hv⟩:=H.hm;have kk:∀ {b l},σ b=some (.list l)->σ' b=some (.list l):=fun h=>k.but h (bM h hv ∅);exact ⟨kk H.hN,kk H.hW,kk H.hL,k.but H.hc H.ap.2.2,hm,H.hD.imp fun o h=>k.but h (bM h hv ∅),H.D,H.nN,H.n6,H.cl,H.reach,H.e0,H.clL,H.lL,H.t0,H.t1,H.ap,(hρ _ (by simp)).trans H.r1,(hρ _ (by simp)).trans H.r2,(hρ _ (by simp)).trans H.r3,(hρ _ (by simp)).trans H.r4,tb,t2⟩
abbrev jb (pm cd doc:Value) (a L cn cm:Addr):Env:=aR (gV lZ pm cd doc) a L [(Ct,cm),(yP,cn)]
abbrev sg (i:Nat):Stmt:=lZ.body.getD i (.Pass default)
abbrev ud (i:Nat):Stmt:=(jm (sg 9)).getD i (.Pass default)
abbrev BK (s:Stmt):Expr:=(DH s).2.2.2
section
variable {A:Around} {w:World} {mg mb:Str->Option Value} {os:OsState} {σ:am} {ρ:aX} {pm cd doc:Value} {a L:Addr}
structure y5 (σ:am) (ρ:aX) (dd Dt Dp:Addr) (N:List Int) (W pt:List (Int×Int)) (e:Int) (T U:cU):Prop where
 ht:∃ o,σ dd=some (.idict (dC pt) o)
 D:eE (Ew W) e N pt
 hT:g7 σ Dt T
 tO:gB T pt
 hU:g7 σ Dp U
 rO:fX U pt
 all:∀ k∈pt.map (·.1),k∈aM U
 r1:ρ CA=some (.ref dd)
 r2:ρ wb=some (.ref Dt)
 r3:ρ yA=some (.ref Dp)
theorem gB.keysV {E:Int->Int->Prop} {e:Int} {N:List Int} {pt:List (Int×Int)} {T:cU} (h:gB T pt) (D:eE E e N pt) (k:Int):k∈aM T↔k∈N:=by
 rw [show (k∈aM T↔_) from h.keys k,<- D.keys k];constructor
 ·rintro ⟨p,m,rfl | ⟨rfl,_⟩⟩
  ·exact IR (f:=fun p:Int×Int=>p.1) m
  ·exact D.chn.cl _ m
 ·intro m;obtain ⟨v,m⟩:=bR m;exact ⟨_,m, .inl rfl⟩
theorem dz (T:cU):(cb T).map (·.1)=aM T:=by unfold cb aM;rw [Jk];rfl
theorem xV {na wa la nd cn cm dd Dt Dp:Addr} {N:List Int} {W Lt ps pt:List (Int×Int)} {e t:Int} {T U:cU} {Q:Bool->am->Prop} (r:Rm 20 A) (H:oI σ ρ na wa la nd cn cm N W Lt ps e t) (K:y5 σ ρ dd Dt Dp N W pt e T U)
  (q:∀ σ',Ex [] σ σ'->Q false σ'):WT (G8 w mg mb os) A (jb pm cd doc a L cn cm) (BK (ud 5)) ρ σ Q:=by
 intros A w mg mb os σ ρ pm cd doc a L na wa la nd cn cm dd Dt Dp N W Lt ps pt e t T U Q
 intro r H K q
 have hu:A.units+2<cLine:=by have:=r.hu;show _<9900;exact CG this rfl
 have n6:=H.n6;ac_rfl;obtain ⟨ot,ht⟩:=K.ht
 cases id K.hT with | mk oT hT aT=>
 cases id K.hU with | mk oU hU aU=>
 right;have nT:(aM T).Nodup:=K.tO.nk;have lT:(aM T).length<=N.length:=IQ nT fun k m=>(K.tO.keysV K.D k).mp m;have nU:(aM U).Nodup:=K.rO.nk;have mU:∀ k,k∈aM U↔k∈N:=fun k=>⟨fun m=>(K.D.keys k).mp (K.rO.sub k m),fun m=>K.all k ((K.D.keys k).mpr m)⟩;have lU:(aM U).length<=N.length:=IQ nU fun k m=>(mU k).mp m
 have lt:pt.length<=N.length:=by
  have:=IQ K.D.np fun k m=>(K.D.keys k).mp m
  rwa [IP] at this
 have eT:(cb T).length=(aM T).length:=by rw [<- dz,IP]
 have eU:(cb U).length=(aM U).length:=by rw [<- dz,IP]
 refine dv (mF (dK r.hh hu (ah (ak K.r1 ⟨_, .dict ht (by unfold dC;rw [IP];exact jR lt n6 rfl),?_,?_,fun σ2 k2=>ah (ak H.r1 ⟨N, .list (.inl (k2.at H.hN)) (lr n6 rfl),(lr n6 rfl),H.nN,?_, .refl,fun σ4 k₄=>?_⟩)⟩))))
 ·rw [gR,IP];exact jR lt n6 rfl
 ·rw [gR];exact K.D.np
 ·rw [gR];exact K.D.keys
 have k4:Ex [] σ σ4:=k2.trans k₄;show WA _ _ _ _ _ _ _ _;refine mF (dK r.hh hu (ah (ak K.r2 ⟨_, .dict (k4.at hT) (by lia),?_,?_,fun σ5 k5=>ah (ak H.r1 ⟨N, .list (.inl (k5.at (k4.at H.hN))) (lr n6 rfl),(lr n6 rfl),H.nN,?_, .refl,fun σ6 k₆=>?_⟩)⟩)))
 ·rw [dz];exact jR lT n6 rfl
 ·rw [dz];exact nT
 ·rw [dz];exact K.tO.keysV K.D
 have k6:Ex [] σ σ6:=k4.trans (k5.trans k₆);show WA _ _ _ _ _ _ _ _;refine mF (dK r.hh hu (ah (ak K.r3 ⟨_, .dict (k6.at hU) (by lia),?_,?_,fun σ7 k7=>ah (ak H.r1 ⟨N, .list (.inl (k7.at (k6.at H.hN))) (lr n6 rfl),(lr n6 rfl),H.nN,?_, .refl,fun σ8 k8=>?_⟩)⟩)))
 ·rw [dz];exact jR lU n6 rfl
 ·rw [dz];exact nU
 ·rw [dz];exact mU
 exact kq (q _ (k6.trans (k7.trans k8)))
end
abbrev sb (ps:List (Int×Int)) (u:Int) (v:V):Bool:=match v with
 | .int o=>decide (o≠u)&&decide ((o,u)∈ps)
 | _=>false
theorem se (ps:List (Int×Int)) (u:Int) (N:List Int):((aB N).filter (sb ps u)).map (fun v=>v)=aB (N.filter fun o=>decide (o≠u)&&decide ((o,u)∈ps)):=by
 unfold aB;rw [List.map_id',List.filter_map];rfl
section
variable {A:Around} {w:World} {mg mb:Str->Option Value} {os:OsState} {σ:am} {ρ:aX} {pm cd doc:Value} {a L:Addr}
theorem xU {na wa la nd cn cm dd Dt Dp:Addr} {N:List Int} {W Lt ps pt:List (Int×Int)} {e t:Int} {T U:cU} (r:Rm 20 A) (H:oI σ ρ na wa la nd cn cm N W Lt ps e t) (K:y5 σ ρ dd Dt Dp N W pt e T U):
  WS (G8 w mg mb os) A (jb pm cd doc a L cn cm) (ud 6) ρ σ fun f ρ' σ'=>f = .next/\ρ'=ρ/\Ex [cm] σ σ'/\∃ v,σ' cm=some (.cell v):=by
 intros A w mg mb os σ ρ pm cd doc a L na wa la nd cn cm dd Dt Dp N W Lt ps pt e t T U
 intro r H K
 have hu:A.units+2<cLine:=by have:=r.hu;show _<9900;exact CG this rfl
 have hu5:A.units+3+2<cLine:=by have:=r.hu;show _<9900;exact Fr this rfl
 have n6:=H.n6;ac_rfl;obtain ⟨ot,ht⟩:=K.ht;ac_rfl;obtain ⟨oD,hD⟩:=H.hD
 cases id K.hT with | mk oT hT aT=>
 cases id K.hU with | mk oU hU aU=>
 obtain ⟨v0,hm0⟩:=H.hm;right;right;have nk:∀ {b kvs o},σ b=some (.idict kvs o)->b≠cm:=fun h=>bM h hm0 ∅;have nl:∀ {b l},σ b=some (.list l)->b≠cm:=fun h=>bM h hm0 ∅;have ns:∀ {b l o},σ b=some (.iset l o)->b≠cm:=fun h=>bM h hm0 ∅;refine d6 (ah (ak H.r1 (fY r.hh (.inl H.hN) (cD (fun xs ρ' σ'=>(∃ pre post,N=pre++post/\xs=aB post)/\ρ'=ρ/\Ex [cm] σ σ'/\∃ v,σ' cm=some (.cell v)) ?_ ?_ _ ⟨⟨[],N,rfl,rfl⟩,rfl, .refl,v0,hm0⟩))))
 ·rintro x xs ρ' σ1 ⟨⟨pre,post,hN',ex⟩,rfl,k1,v1,hm1⟩
  cases post with
  | nil=>injection ex
  | cons u post=>
   cases ex
   have mu:u∈N:=by rw [hN'];simp
   ac_rfl;obtain ⟨v,mv⟩:=bR ((H.D.keys u).mpr mu);obtain ⟨v',mv'⟩:=bR ((K.D.keys u).mpr mu);right;have vv:v'=v:=(H.D.one K.D mv mv').symm;refine bo (cO (c:=cm) (⋯) hm1 (aZ (P:=fun s=>WL _ _ _ _ _ s _) fun σ2 f2 e2=>?_));have k2:Ex [cm] σ σ2:=k1.trans e2;have gc:=k2.but H.hc H.ap.2.2;have gt:=k2.but ht (nk ht);have gD:=k2.but hD (nk hD);refine al (bO (dv (mF (aI (aG (ah (ak K.r1 (ah (bJ (c:=cm) (⋯) f2 ⟨PG.dict gt,bb gt (c9 K.D.np mv') (aG (ah (bJ (c:=cn) (⋯) gc (ah (bJ (c:=cm) (⋯) f2 ⟨PG.dict gD,bb gD (c9 H.D.np mv) (pv (aV ?_))⟩)))))⟩)))))))));rw [vv];refine (if_neg (by simp)).mpr ?_;ac_rfl;obtain ⟨ap,xp,mp⟩:=kQ (K.all u ((K.D.keys u).mpr mu));obtain ⟨op,hp⟩:=aU _ mp;right;have gp:=k2.but hp (ns hp);have gU:=k2.but hU (nk hU);have sp:=K.rO.sets _ mp;have lp:xp.length<=pt.length:=K.rO.len K.D.chn mp
   have lpt:pt.length<=N.length:=by
    have:=IQ K.D.np fun k m=>(K.D.keys k).mp m
    rwa [IP] at this
   have lps:ps.length<=N.length:=by
    have:=IQ H.D.np fun k m=>(H.D.keys k).mp m
    rwa [IP] at this
   refine mF (dK r.hh hu (aG (ah (ak K.r3 (ah (bJ (c:=cm) (⋯) f2 ⟨PG.dict gU,bb gU (bQ K.rO.nk mp) ⟨xp, .set gp (jR (Nat.le_trans lp lpt) n6 rfl),(jR (Nat.le_trans lp lpt) n6 rfl),sp.1,fun σ3 k3=>?_⟩⟩))))));refine aF (ah (aQ j4 (aJ (ao (ah (bJ (c:=cn) (⋯) (k3.at gc) (ao (ah (bJ (c:=cm) (⋯) (k3.at f2) (aA ⟨br (fd:=dM) (⋯),(l8 (r.le (by decide)) (k3.at gD) H.D.chn ((H.D.keys u).mpr mu) (jR lps n6 rfl) fun ca C σ4 hC lC fr fa k4=>⟨C, .list (.inl fa) (jR (Nat.le_trans lC lps) n6 rfl),(jR (Nat.le_trans lC lps) n6 rfl),hC.nodup H.D.chn,fun k=>?_,k4,fun σ5 k5=>?_⟩).wc⟩))))))))))
   ·rw [sp.2 k,hC.mem H.D.chn k];exact (K.D.up H.D mu)
   have k35:Ex [] σ2 σ5:=k3.trans (k4.trans k5);refine kq ?_;refine (if_neg Jg).mpr ?_;refine aE (al (bO ?_));ac_rfl;obtain ⟨aq,xq,mq⟩:=kQ (T:=T) (k:=u) ((K.tO.keysV K.D u).mpr mu);obtain ⟨oq,hq⟩:=aT _ mq;right;have gq:=k35.at (k2.but hq (ns hq));have gT:=k35.at (k2.but hT (nk hT));have sq:=K.tO.sets _ mq;have lq:xq.length<=pt.length:=sq.2.1;refine dK r.hh hu (aG (ah (ak K.r2 (ah (bJ (c:=cm) (⋯) (k35.at f2) ⟨PG.dict gT,bb gT (bQ K.tO.nk mq) ⟨xq, .set gq (by lia),by lia,sq.1,fun σ6 k6=>?_⟩⟩)))));have k26:Ex [] σ2 σ6:=k35.trans k6;have gN:=k26.at (k2.but H.hN (nl H.hN));refine eG (ah (ak H.r1 (fY r.hh (.inl gN) fun acc hacc CL=>⟨.inl (sk hacc gN),?_⟩)));refine jS (f:=fun v=>v) (g:=sb ps u) (fun l=> .inl (sk hacc gN)) (by rw [a0];exact lr n6 rfl) (fun x mx ρ l hx=>?_) (fun x mx ρ l hx=>?_) ?_
   ·obtain ⟨o,mo,rfl⟩:=I0.mp mx;obtain ⟨vo,mvo⟩:=bR ((H.D.keys o).mpr mo);have s6:∀ {b z l},σ2 b=some z->(σ6.set acc (.list l)) b=some z:=fun h=>sk hacc (k26.at h);refine dv (fA (aI (ah (ak hx (ah (bJ (c:=cm) (⋯) (s6 f2) (pv (aV ?_))))))))
    by_cases d1:o=u
    ·refine (if_neg (by simp [d1])).mpr ?_;refine ⟨?_,rfl⟩;show false=_;unfold sb;simp [d1]
    ·refine (if_pos (by simp [d1])).mpr ?_;refine fA (aI (aG (ah (bJ (c:=cn) (⋯) (s6 gc) (ah (ak hx ⟨PG.dict (s6 gD),bb (s6 gD) (c9 H.D.np mvo) (ah (bJ (c:=cm) (⋯) (s6 f2) (wT (aV ?_))))⟩))))));have iff:(o,u)∈ps↔vo=u:=⟨fun m=>H.D.chn.one mvo m,fun c=>c▸mvo⟩
     by_cases d2:vo=u
     ·refine (if_pos (by simp [d2])).mpr ?_;refine fC ⟨?_,rfl⟩;show true=_;unfold sb;simp [d1,iff.mpr d2]
     ·refine (if_neg (by simp [d2])).mpr ?_;refine ⟨?_,rfl⟩;show false=_;unfold sb;simp [d1,iff,d2]
   ·exact ah (ak hx ⟨rfl,rfl⟩)
   ·rw [se];have lf:=List.length_filter_le (fun o=>decide (o≠u)&&decide ((o,u)∈ps)) N;refine ⟨_, .list (.inl (am.set_self ..)) (jR lf n6 rfl),(jR lf n6 rfl),H.nN.filter _,fun k=>?_,fun b y _ h=>sk hacc h,fun σ7 k7=>?_⟩
    ·rw [sq.2.2 k,List.mem_filter];constructor
     ·rintro ⟨m1,m2⟩;have mk:k∈N:=(K.D.keys k).mp (IR (f:=fun p:Int×Int=>p.1) m1);obtain ⟨vk,mvk⟩:=bR ((H.D.keys k).mpr mk);rw [H.D.one K.D mvk m1] at mvk;exact ⟨mk,by simp [m2,mvk]⟩
     ·rintro ⟨mk,h⟩;simp only [ne_eq,decide_not,Bool.and_eq_true,Bool.not_eq_eq_eq_not,Bool.not_true,decide_eq_false_iff_not,decide_eq_true_eq] at h;obtain ⟨vk,mvk⟩:=bR ((K.D.keys k).mpr mk);rw [K.D.one H.D mvk h.2] at mvk;exact ⟨mvk,h.1⟩
    ·refine (if_neg Jg).mpr ?_;have k27:Ex [] σ2 σ7:=fun b y _ h=>k7.at (sk hacc (k26.at h));have k17:Ex [cm] σ σ7:=k2.trans k27.nil;exact aE (aE ⟨.inl (k17.but H.hN (nl H.hN)),⟨pre++[u],post,by rw [hN',List.append_assoc];rfl,rfl⟩,rfl,k17,_,k27.at f2⟩)
 ·rintro ρ' σ1 ⟨⟨pre,post,hN',ex⟩,rfl,k1,hm1⟩;exact aE ⟨rfl,rfl,k1,hm1⟩
end
inductive Bk:bL->Prop
 | list (l:List V):Bk (.list l)
 | cell (v:Option V):Bk (.cell v)
 | idict (kvs:List (Int×V)) (o:Obj):Bk (.idict kvs o)
theorem oI.mv {σ σ':am} {ρ ρ':aX} {na wa la nd cn cm:Addr} {N:List Int} {W Lt ps:List (Int×Int)} {e t:Int} (H:oI σ ρ na wa la nd cn cm N W Lt ps e t) (k:∀ b y,Bk y->σ b=some y->σ' b=some y) (tb:bP σ' 460 bX cS) (t2:eF σ') (hρ:∀ y∈[AG,sZ,y4,yS],ρ' y=ρ y):oI σ' ρ' na wa la nd cn cm N W Lt ps e t:=
 ⟨k _ _ (.list _) H.hN,k _ _ (.list _) H.hW,k _ _ (.list _) H.hL,k _ _ (.cell _) H.hc,H.hm.imp fun v h=>k _ _ (.cell _) h,H.hD.imp fun o h=>k _ _ (.idict ..) h,H.D,H.nN,H.n6,H.cl,H.reach,H.e0,H.clL,H.lL,H.t0,H.t1,H.ap,(hρ _ (by simp)).trans H.r1,(hρ _ (by simp)).trans H.r2,(hρ _ (by simp)).trans H.r3,(hρ _ (by simp)).trans H.r4,tb,t2⟩
theorem Bs {G:aK} {A:Around} {env:Env} {e:Expr} {ρ:aX} {σ:am} {Q:Bool->am->Prop} (h:∀ Q':Bool->am->Prop,(∀ b σ,Q b σ->Q' b σ)->WT G A env e ρ σ Q'):WT G A env e ρ σ Q:=h Q fun _ _ h=>h
section
variable {A:Around} {w:World} {mg mb:Str->Option Value} {os:OsState} {σ:am} {ρ:aX} {pm cd doc:Value} {a L:Addr}
theorem xF:GV (G8 w mg mb os) yQ (.ref 561):=i9 (⋯)
theorem xD:GV (G8 w mg mb os) yN (.ref 549):=i9 (⋯)
theorem oI.eN {na wa la nd cn cm:Addr} {N:List Int} {W Lt ps:List (Int×Int)} {e t:Int} (H:oI σ ρ na wa la nd cn cm N W Lt ps e t):e∈N:=List.mem_of_getElem? H.e0
theorem BP {na wa la nd cn cm:Addr} {N:List Int} {W Lt ps:List (Int×Int)} {e t:Int} {s:Nat} (r:Rm 30 A) (H:oI σ ρ na wa la nd cn cm N W Lt ps e t) (lw:W.length<100) (hs:s<=Lt.length) (r5:ρ CO=some (.int s)):
  WS (G8 w mg mb os) A (jb pm cd doc a L cn cm) (ud 0) ρ σ fun f ρ' σ'=>f = .next/\∃ W' ps' nd',oI σ' ρ' na wa la nd' cn cm N W' Lt ps' e t/\W'.length<=W.length+1:=by
 intros A w mg mb os σ ρ pm cd doc a L na wa la nd cn cm N W Lt ps e t s
 intro r H lw hs r5;refine bO (aI (ah (ak r5 (bp (uu (aV ?_))))))
 cases s with
 | zero=>
  refine (if_neg (by simp)).mpr ?_;exact aE ⟨rfl,W,ps,nd,H,Nat.le_succ _⟩
 | succ j=>
  refine (if_pos (by rw [decide_eq_true_eq];exact Int.succ_ofNat_pos _)).mpr ?_;ac_rfl;obtain ⟨⟨x,y⟩,g⟩: ∃ p,Lt[j]?=some p:=⟨_,IX hs⟩;obtain ⟨hx,hy⟩:=H.clL _ (List.mem_of_getElem? g);right;dsimp only at hx hy
  have gl:(c6 Lt)[((((j+1:Nat):Int)) - 1).toNat]?=some (.tup [.int x, .int y]):=by
   rw [show ((((j+1:Nat):Int)) - 1).toNat=j by lia];unfold c6;rw [List.getElem?_map,g];rfl
  have lL:=H.lL
  have lLv:(c6 Lt).length<2 ^ 60:=by unfold c6;rw [IP];exact lr lL rfl
  obtain ⟨oD,hD⟩:=H.hD;refine al (aY (aG (ah (ak H.r3 (bF (ah (ak r5 (bp (mL ⟨PG.list (.inl H.hL),bq (.inl H.hL) (by lia) lLv gl (fq r.hh (bo (az (bo (az ?_)))))⟩)))))))))
  have lp:ps.length<30:=by
   have:=IQ H.D.np fun k m=>(H.D.keys k).mp m
   rw [IP] at this
   have:=H.n6
   exact jR ‹_› this rfl
  have kN:∀ {k},k∈N->k∈ps.map (·.1):=fun m=>(H.D.keys _).mpr m;have up:∀ {k},k∈N->Up ps k e:=fun m=>(H.D.dom _ m e).mpr fun π q=>q.start;refine al (aY (aF (ah (aQ xF (aJ (ao (ah (bJ (c:=cn) (⋯) H.hc (ao (ah (ak (aw (aw H.r2 nofun) nofun) (ao (ah (ak (aw bK nofun) (ao (ah (ak bK (aA ⟨br (fd:=cQ) (⋯),(zU (e:=e) (r.le (by decide)) hD (.inl H.hW) H.D.chn (kN hx) (kN hy) lp ⟨up hx,up hy⟩ (fun p m=>⟨kN (H.cl p m).1,kN (H.cl p m).2⟩) fun ga ps' og σ1 z fr fg ex hk hz hg=>bo ?_).wc⟩))))))))))))))))));have c1:=ex.at H.hc;refine cO (c:=cn) (⋯) c1 (aZ (P:=fun s=>WL _ _ _ _ _ s _) fun σ2 f2 e2=>?_);have nl:∀ {b l},σ1 b=some (.list l)->b≠cn:=fun h=>bM h c1 ∅;have hL2:=e2.but (ex.at H.hL) (nl (ex.at H.hL));have hW2:=e2.but (ex.at H.hW) (nl (ex.at H.hW));refine al (bh (ay (ah (ak (aw (aw H.r2 nofun) nofun) (cz (.inl hW2) (aJ (ao (aG (ah (ak (aw (aw H.r3 nofun) nofun) (bF (ah (ak (aw (aw r5 nofun) nofun) (bp (mL ⟨PG.list (.inl hL2),bq (.inl hL2) (by lia) lLv gl (aA ⟨ba.bi,co hW2 (by unfold c6;rw [IP];exact eW lw rfl) (aZ (P:=fun s=>WL _ _ _ _ _ s _) fun σ3 f3 e3=>aE ?_)⟩)⟩)))))))))))))));have raw1:=dT c1 (fun o c=>by injection c);have raw2:=dT hW2 (fun o c=>by injection c);have tb3:=((H.tb.nil ex).exr e2 raw1).exr e3 raw2;have t23:=((H.t2.ex ex fun _ _ _ m=>nomatch m).ex e2 raw1).ex e3 raw2;have hN2:=e2.but (ex.at H.hN) (nl (ex.at H.hN))
  have ew:∀ u v,iH (Ew W) x y u v↔Ew (W++[(x,y)]) u v:=fun u v=>by
   show _\/_↔_∈_;rw [I1,IN];exact or_congr Iff.rfl ⟨fun h=>by rw [h.1,h.2],fun h=>⟨congrArg Prod.fst h,congrArg Prod.snd h⟩⟩
  have D':=(grown H.D (fun u v h=>H.cl _ h) H.reach hx hy hz hk hg).congr ew fun _=>Iff.rfl;have cnw:cn≠wa:=(nl (ex.at H.hW)).symm;refine ⟨rfl,W++[(x,y)],ps',ga,⟨e3.but hN2 H.ap.1.symm,?_,e3.but hL2 H.ap.2.1.symm,e3.but f2 cnw,?_,⟨og,e3.but (e2.but fg (bM fg c1 ∅)) (bM (e2.but fg (bM fg c1 ∅)) hW2 ∅)⟩,D',H.nN,H.n6,?_,fun k m=>?_,H.e0,H.clL,H.lL,H.t0,H.t1,H.ap,aw (aw H.r1 nofun) nofun,aw (aw H.r2 nofun) nofun,aw (aw H.r3 nofun) nofun,aw (aw H.r4 nofun) nofun,tb3,t23⟩,by rw [IV];exact I4 _⟩
  ·rw [f3];unfold c6;rw [I2];rfl
  ·obtain ⟨v,hv⟩:=H.hm;have h2:=e2.but (ex.at hv) H.ap.2.2.symm;exact ⟨v,e3.but h2 (bM h2 hW2 ∅)⟩
  ·intro p m;rcases I1.mp m with m | m
   ·exact H.cl p m
   ·rw [IN.mp m];exact ⟨hx,hy⟩
  ·obtain ⟨π,q⟩:=H.reach k m;exact ⟨π,q.congr fun u v h=>IS _ h⟩
end
abbrev mA (D:List Str) (m:Str->Option V):Prop:=∀ k,k∉D->m k=none
theorem mA.up {D:List Str} {m:Str->Option V} {k:Str} {v:V} (h:mA D m):mA (k::D) (js m k v):=fun y n=>(if_neg (show ¬ y=k from fun e=>n (by rw [e];exact .head _))).trans (h y fun e=>n (.tail _ e))
section
variable {A:Around} {w:World} {mg mb:Str->Option Value} {os:OsState} {σ:am} {ρ:aX} {pm cd doc:Value} {a L:Addr}
theorem xX {na wa la nd cn cm:Addr} {N:List Int} {W Lt ps:List (Int×Int)} {e t:Int} {s:Nat} {Q:F->aX->am->Prop} (r:Rm 120 A) (H:oI σ ρ na wa la nd cn cm N W Lt ps e t) (lw:W.length<15) (hs:s<=Lt.length) (r5:ρ CO=some (.int s))
  (q:∀ ρ' σ' W' ps' nd',oI σ' ρ' na wa la nd' cn cm N W' Lt ps' e t->W'.length<=W.length+1->Q .next ρ' σ'):jU (G8 w mg mb os) A (jb pm cd doc a L cn cm) (jm (sg 9)) ρ σ Q:=by
 intros A w mg mb os σ ρ pm cd doc a L na wa la nd cn cm N W Lt ps e t s Q
 intro r H lw hs r5 q;show jU _ _ _ (_::_) _ _ _;refine cE (mO fun Q' hQ=>Eq.mp (⋯) (WS.mono (BP (w:=w) (mg:=mg) (mb:=mb) (os:=os) (pm:=pm) (cd:=cd) (doc:=doc) (a:=a) (L:=L) (r.le (by decide)) H (eW lw rfl) hs r5) fun f ρ1 σ1 h=>hQ f ρ1 σ1 ?_));obtain ⟨rfl,W1,ps1,nd1,H1,lw1⟩:=h;show jU _ _ _ (_::_) _ _ _;have hh:=r.hh;have n6:=H1.n6
 have lN:(aB N).length<2 ^ 20:=by rw [a0];exact lr n6 rfl
 have p1:=vO (N:=N) H1.t0 H1.t1;have p2:=Aq (N:=N) H1.t0 H1.t1;refine cE (ar (aF (ah (aQ xD (aJ (ao (bF (mH (ah (ak H1.r1 (ah (ak H1.r4 ⟨na,_,rfl, .inl H1.hN,lN,fun b1 hb1=>?_⟩))))))))))));rw [p1];refine bj (P:=fun s=>WE _ _ _ _ _ s _) hb1 fun σ2 f2 e2=>?_;refine mH (ah (ak H1.r1 (ah (ak H1.r4 ⟨na,_,rfl, .inl (e2.at H1.hN),lN,fun b2 hb2=>?_⟩))));rw [p2];refine bj (P:=fun s=>WO _ _ _ _ _ _ s _) hb2 fun σ3 f3 e3=>?_;refine rD (.inl (e3.at f2)) (.inl f3) (by rw [a0,a0,List.length_drop,List.length_take];lia) fun b3 hb3=>?_;rw [<- bt];have pN:(N.drop t.toNat++N.take t.toNat).Perm N:=List.perm_append_comm.trans (by rw [List.take_append_drop]);generalize hN':N.drop t.toNat++N.take t.toNat=N' at pN;refine bj (P:=fun s=>p7 _ _ _ _ _ s _) hb3 fun σ4 f4 e4=>?_;have k4:Ex [] σ1 σ4:=e2.trans (e3.trans e4);have mN:∀ k,k∈N'↔k∈N:=fun k=>pN.mem_iff;have nN':N'.Nodup:=pN.nodup_iff.mpr H1.nN
 have n6':N'.length<=6:=by rw [pN.length_eq];exact n6
 have cl':∀ p∈W1,p.1∈N'/\p.2∈N':=fun p m=>⟨(mN _).mpr (H1.cl p m).1,(mN _).mpr (H1.cl p m).2⟩;have me':e∈N':=(mN _).mpr H1.eN;have re':∀ k∈N',∃ π,fV (Ew W1) e k π:=fun k m=>H1.reach k ((mN k).mp m);refine ao (ah (ak H1.r2 (ao (aG (ah (ak H1.r1 (bp ⟨PG.list (.inl (k4.at H1.hN)),bq (.inl (k4.at H1.hN)) (by decide) (by rw [a0];exact lr n6 rfl) (v:= .int e) ?_ (aA ⟨br (fd:=fh) (⋯),(zT (r.le (by decide)) (.inl f4) (.inl (k4.at H1.hW)) nN' n6' (Fq (Nat.le_trans lw1 lw) rfl) cl' me' re' fun σ5 x d S P m n od l lp G k5=>az ?_).wc⟩)⟩)))))))
 ·unfold aB;rw [List.getElem?_map,show ((0:Int)).toNat=0 from rfl,H1.e0];rfl
 have k15:Ex [] σ1 σ5:=k4.trans k5;have tb5:=H1.tb.nil k15;have t25:=H1.t2.ex k15 fun _ _ _ m=>nomatch m;show jU _ _ _ (_::_) _ _ _;refine eH (iq (lX (ah (ak bK (fZ (f:=169) G.hx G.hd (G.om _ nofun) (⋯) (⋯) (⋯) (⋯) (zk (aA ⟨br (fd:=pD) (⋯),(wZ (r.le (by decide)) G tb5 t25 nN' n6' cl' me' re' fun σ6 dd od' pt B ob' fr fd D hd6 k6 tb6 t26=>az ?_).wc⟩)))))));have Dt:=D.congr (fun _ _=>Iff.rfl) mN
 have lt:pt.length<30:=by
  have:=IQ Dt.np fun k m=>(Dt.keys k).mp m
  rw [IP] at this;exact jR this n6 rfl
 have xd:x≠d:=bM G.hx G.hd ∅;ac_rfl
 obtain ⟨q19,hz0⟩:=t25.at
 obtain ⟨q60,hz1⟩:=tb5.at
 right
 have n3:∀ {b y},Bk y\/(∃ c d',y = .inst c d')->σ5 b=some y->b∉[d,419,460]:=fun hk h m=>by
  simp only [IZ,I3,or_false] at m;rcases m with rfl | rfl | rfl
  ·rw [G.hd] at h; (injection h with zz;subst zz);rcases hk with hk | ⟨_,_,hk⟩ <;> cases hk
  ·rw [hz0.1] at h; (injection h with zz;subst zz);rcases hk with hk | ⟨_,_,hk⟩ <;> cases hk
  ·rw [hz1.1] at h; (injection h with zz;subst zz);rcases hk with hk | ⟨_,_,hk⟩ <;> cases hk
 have om6:mA (gJ::jP::uL) (js (js m jP (.ref B)) gJ (.ref dd)):=mA.up (mA.up G.om);have hx6:σ6 x=some (.inst 510 d):=k6 _ _ (n3 (.inr ⟨_,_,rfl⟩) G.hx) G.hx;have m146:(js (js m jP (.ref B)) gJ (.ref dd)) gJ=some (.ref dd):=if_pos rfl
 have hn6:n+1+1<800:=by have:=G.hn;exact F9 this rfl
 have H6:oI σ6 ((ρ1.set A9 (.ref x)).set CA (.ref dd)) na wa la nd1 cn cm N W1 Lt ps1 e t:=H1.mv (fun b y hk h=>k6 _ _ (n3 (.inl hk) (k15.at h)) (k15.at h)) tb6 t26 fun y m=>by
  simp only [IZ,I3,or_false] at m
  rcases m with rfl | rfl | rfl | rfl <;> exact (if_neg nofun).trans (if_neg nofun)
 refine WL.n ?_;show WL _ _ _ (_::_) _ _ _;refine al (ar (ay (ah (ak (aw bK nofun) (fZ (f:=183) hx6 hd6 (om6 _ nofun) (⋯) (⋯) (⋯) (⋯) (aJ (aA ⟨br (fd:=gj) (⋯),(w0 (r.le (by decide)) hx6 hd6 hn6 (om6 _ nofun) (om6 _ nofun) (om6 _ nofun) m146 fd lt Dt.np fun σ7 Da T ob7 aT tO hd7 k7=>az ?_).wc⟩)))))))
 have n7:∀ {b y},Bk y\/(∃ c d',y = .inst c d')->σ6 b=some y->b≠d:=fun hk h c=>by
  rw [c,hd6] at h; (injection h with zz;subst zz);rcases hk with hk | ⟨_,_,hk⟩ <;> cases hk
 have hx7:=k7.but hx6 xd;have fd7:=k7.but fd (n7 (.inl (.idict ..)) fd);have raw6:=dT hd6 (fun o c=>by injection c);have om7:mA (kU::gJ::jP::uL) (js (js (js m jP (.ref B)) gJ (.ref dd)) kU (.ref Da)):=om6.up;refine al (ar (ay (ah (ak (aw (aw bK nofun) nofun) (fZ (f:=155) hx7 hd7 (om7 _ nofun) (⋯) (⋯) (⋯) (⋯) (aJ (aA ⟨br (fd:=jC) (⋯),(tD (r.le (by decide)) hx7 hd7 (by have:=G.hn;lia) (om7 _ nofun) (om7 _ nofun) (om7 _ nofun) (om7 _ nofun) ((if_neg nofun).trans m146) fd7 lt Dt.chn fun σ8 Dp U ob8 aU rO all hd8 k8=>az ?_).wc⟩)))))))
 have n8:∀ {b y},Bk y->σ7 b=some y->b≠d:=fun hk h c=>by
  rw [c,hd7] at h; (injection h with zz;subst zz);cases hk
 have raw7:=dT hd7 (fun o c=>by injection c)
 have H8:=(H6.mv (σ':=σ7) (ρ':=((ρ1.set A9 (.ref x)).set CA (.ref dd)).set wb (.ref Da)) (fun b y hk h=>k7.but h (n7 (.inl hk) h)) (tb6.exr k7 raw6) (t26.ex k7 raw6) fun y m=>by
  simp only [IZ,I3,or_false] at m
  rcases m with rfl | rfl | rfl | rfl <;> exact if_neg nofun).mv (σ':=σ8) (ρ':=(((ρ1.set A9 (.ref x)).set CA (.ref dd)).set wb (.ref Da)).set yA (.ref Dp)) (fun b y hk h=>k8.but h (n8 hk h)) ((tb6.exr k7 raw6).exr k8 raw7) ((t26.ex k7 raw6).ex k8 raw7) fun y m=>by
  simp only [IZ,I3,or_false] at m
  rcases m with rfl | rfl | rfl | rfl <;> exact if_neg nofun
 have K8:y5 σ8 ((((ρ1.set A9 (.ref x)).set CA (.ref dd)).set wb (.ref Da)).set yA (.ref Dp)) dd Da Dp N W1 pt e T U:=⟨⟨od',k8.but fd7 (n8 (.idict ..) fd7)⟩,Dt,aT.stay k8 (jq hd7),tO,aU,rO,all,aw (aw bK nofun) nofun,aw bK nofun,bK⟩;generalize ((((ρ1.set A9 (.ref x)).set CA (.ref dd)).set wb (.ref Da)).set yA (.ref Dp))=ρ8 at H8 K8 ⊢;refine al (bO (Bs fun Q' hQ=>Eq.mp (⋯) (xV (w:=w) (mg:=mg) (mb:=mb) (os:=os) (pm:=pm) (cd:=cd) (doc:=doc) (a:=a) (L:=L) (Q:=Q') (r.le (by decide)) H8 K8 fun σ9 k9=>hQ _ _ ?_)));refine (if_neg Jg).mpr ?_;have H9:oI σ9 ρ8 na wa la nd1 cn cm N W1 Lt ps1 e t:=H8.mv (fun b y _ h=>k9.at h) (H8.tb.nil k9) (H8.t2.ex k9 fun _ _ _ m=>nomatch m) fun _ _=>rfl;have K9:y5 σ9 ρ8 dd Da Dp N W1 pt e T U:=⟨K8.ht.imp fun o h=>k9.at h,Dt,K8.hT.ex k9 (fun m=>nomatch m) (fun _ _ m=>nomatch m),tO,K8.hU.ex k9 (fun m=>nomatch m) (fun _ _ m=>nomatch m),rO,all,K8.r1,K8.r2,K8.r3⟩;refine aE (al (mO fun Q' hQ=>Eq.mp (⋯) (WS.mono (xU (w:=w) (mg:=mg) (mb:=mb) (os:=os) (pm:=pm) (cd:=cd) (doc:=doc) (a:=a) (L:=L) (r.le (by decide)) H9 K9) fun f ρ' σ' h=>hQ f ρ' σ' ?_)));obtain ⟨rfl,rfl,k10,hm10⟩:=h;obtain ⟨v,hv⟩:=H9.hm;have raw9:=dT hv (fun o c=>by injection c);exact aE (q _ σ' W1 ps1 nd1 (H9.ex k10 hm10 (H9.tb.exr k10 raw9) (H9.t2.ex k10 raw9) fun _ _=>rfl) lw1)
end
section
variable {G:aK} {A:Around} {env:Env} {ρ:aX} {σ:am}
theorem vg {C:am->Prop} {tgt:Expr} {body orelse:List Stmt} {Q:F->aX->am->Prop} (Iv:List V->aX->am->Prop)
  (turn:∀ x xs ρ σ,Iv (x::xs) ρ σ->lV G A env tgt x ρ σ fun ρ1 σ1=>jU G A env body ρ1 σ1 (Lp (fun ρ2 σ2=>C σ2/\Iv xs ρ2 σ2) Q))
  (fin:∀ ρ σ,Iv [] ρ σ->jU G A env orelse ρ σ Q) (xs:List V):∀ {ρ:aX} {σ:am},Iv xs ρ σ->ur G A env C tgt body orelse Q xs ρ σ:=by
 induction xs with
 | nil=>exact fun h=>fin _ _ h
 | cons x xs ih=>
  intro ρ σ h;refine (turn x xs ρ σ h).mono fun ρ1 σ1 h1=>h1.mono fun f ρ2 σ2 h2=>?_
  cases f with
  | next=>exact ⟨h2.1,ih h2.2⟩
  | cont=>exact ⟨h2.1,ih h2.2⟩
  | brk=>exact h2
  | ret v=>exact h2
end
section
variable {A:Around} {w:World} {mg mb:Str->Option Value} {os:OsState} {σ:am} {ρ:aX} {pm cd doc:Value} {a L:Addr}
theorem zr {G:aK} {A:Around} {env:Env} {l:List Stmt} {ρ:aX} {σ:am} {Q:F->aX->am->Prop} (h:∀ Q':F->aX->am->Prop,(∀ f ρ σ,Q f ρ σ->Q' f ρ σ)->jU G A env l ρ σ Q'):jU G A env l ρ σ Q:=h Q fun _ _ _ h=>h
theorem xW {na wa la nd cn cm:Addr} {N:List Int} {W Lt ps:List (Int×Int)} {e t:Int} {Q:F->aX->am->Prop} (r:Rm 120 A) (H:oI σ ρ na wa la nd cn cm N W Lt ps e t) (lw:W.length<=6)
  (q:∀ ρ' σ',(∃ W' ps' nd',oI σ' ρ' na wa la nd' cn cm N W' Lt ps' e t)->Q .next ρ' σ'):yU (G8 w mg mb os) A (jb pm cd doc a L cn cm) (sg 9) ρ σ Q:=by
 intros A w mg mb os σ ρ pm cd doc a L na wa la nd cn cm N W Lt ps e t Q
 intro r H lw q;have lL:=H.lL
 have eL:(c6 Lt).length=Lt.length:=by unfold c6;rw [IP]
 have kr:∀ {ra:Addr} {y:bL},σ ra=none->Ex [] σ (σ.set ra y):=fun h b z _ hb=>sk h hb;refine zv (aF (ah (aQ j5 (aJ (ao (bF (bp (aF (ah (aQ nF (aJ (ao (ah (ak H.r3 (aA ⟨ba.bi,mG (.inl H.hL) (jR (Nat.le_of_eq eL) lL rfl) (kA (aA ⟨ba.ty,jK fun ra t' u v hra=>jT r.hh (am.set_self ..) (by decide) (by decide) (E5 rfl) (by lia) ?_⟩))⟩)))))))))))))));refine vg (fun xs ρ' σ'=>∃ (s k:Nat) (W' ps':List (Int×Int)) (nd':Addr),xs=aB (sG k s)/\s+k=1+Lt.length/\oI σ' ρ' na wa la nd' cn cm N W' Lt ps' e t/\W'.length<=6+s) ?_ ?_ _ ⟨0,1+Lt.length,W,ps,nd,?_,Nat.zero_add _,H.mv (fun b y _ h=>sk hra h) (H.tb.nil (kr hra)) (H.t2.ex (kr hra) fun _ _ _ m=>nomatch m) fun _ _=>rfl,lw⟩
 ·rintro x xs ρ' σ' ⟨s,k,W',ps',nd',ex,hk,H',lw'⟩
  cases k with
  | zero=>injection ex
  | succ k=>
   cases ex;refine bo (az ?_)
   have H2:oI σ' (ρ'.set CO (.int s)) na wa la nd' cn cm N W' Lt ps' e t:=H'.mv (fun _ _ _ h=>h) H'.tb H'.t2 fun y m=>by
    simp only [IZ,I3,or_false] at m
    rcases m with rfl | rfl | rfl | rfl <;> exact if_neg nofun
   refine zr fun Q' hQ=>Eq.mp (⋯) (xX (w:=w) (mg:=mg) (mb:=mb) (os:=os) (pm:=pm) (cd:=cd) (doc:=doc) (a:=a) (L:=L) (Q:=Q') r H2 (by lia) (by lia) bK fun ρ2 σ2 W2 ps2 nd2 H3 l2=>hQ _ _ _ ⟨trivial,s+1,k,W2,ps2,nd2,?_,by lia,H3,by lia⟩)
   rfl
 ·rintro ρ' σ' ⟨s,k,W',ps',nd',ex,hk,H',lw'⟩;exact jV (q _ _ ⟨W',ps',nd',H'⟩)
 ·rw [eL,AZ];rw [show ((1+(Lt.length:Int)) - 0).toNat=1+Lt.length by lia];rfl
end
structure qQ (σ:am) (ρ:aX) (st sc na wa nd cn cm:Addr) (p:Nat) (c:Int) (N V:List Int) (W ps:List (Int×Int)) (e:Int):Prop where
 S:wJ σ st sc p c
 hN:σ na=some (.list (aB N))
 hW:σ wa=some (.list (c6 W))
 hc:σ cn=some (.cell (some (.ref nd)))
 hm:∃ v,σ cm=some (.cell v)
 hD:∃ o,σ nd=some (.idict (dC ps) o)
 D:eE (Ew W) e V ps
 cl:∀ p∈W,p.1∈V/\p.2∈V
 reach:∀ k∈V,∃ π,fV (Ew W) e k π
 nN:N.Nodup
 n6:N.length<=6
 e0:N[0]?=some e
 lw:W.length+1=V.length
 ap:st≠na/\st≠wa/\wa≠na/\wa≠sc/\cn≠cm
 r0:ρ CN=some (.ref st)
 r1:ρ AG=some (.ref na)
 r2:ρ sZ=some (.ref wa)
 r5:ρ EU=some (.int N.length)
 tb:bP σ 460 bX cS
 t2:eF σ
abbrev iw:List Str:=[CN,AG,sZ,EU]
section
variable {σ σ':am} {ρ ρ':aX} {st sc na wa nd cn cm:Addr} {p:Nat} {c:Int} {N V:List Int} {W ps:List (Int×Int)} {e:Int}
theorem qQ.draw (H:qQ σ ρ st sc na wa nd cn cm p c N V W ps e) {p':Nat} (S:wJ σ' st sc p' c) (k:Ex [st] σ σ') (hρ:∀ y∈iw,ρ' y=ρ y):qQ σ' ρ' st sc na wa nd cn cm p' c N V W ps e:=by
 have nS:∀ {b y},σ b=some y->(∀ l,y≠ .list l)->b≠st:=fun h n=>bM h H.S.h (n _);have raw:=dT H.S.h (fun o c=>by injection c);ac_rfl;obtain ⟨v,hv⟩:=H.hm;obtain ⟨o,ho⟩:=H.hD;right;exact ⟨S,k.but H.hN H.ap.1.symm,k.but H.hW H.ap.2.1.symm,k.but H.hc (nS H.hc fun _ c=>by injection c),⟨v,k.but hv (nS hv fun _ c=>by injection c)⟩,⟨o,k.but ho (nS ho fun _ c=>by injection c)⟩,H.D,H.cl,H.reach,H.nN,H.n6,H.e0,H.lw,H.ap,(hρ _ (by simp [iw])).trans H.r0,(hρ _ (by simp [iw])).trans H.r1,(hρ _ (by simp [iw])).trans H.r2,(hρ _ (by simp [iw])).trans H.r5,H.tb.exr k raw,H.t2.ex k raw⟩
theorem qQ.lat {la:Addr} {l:List Mine.V} (H:qQ σ ρ st sc na wa nd cn cm p c N V W ps e) (hla:σ la=some (.list l)) (ap:la≠st/\la≠sc/\la≠na/\la≠wa) (k:Ex [la] σ σ') (hρ:∀ y∈iw,ρ' y=ρ y):qQ σ' ρ' st sc na wa nd cn cm p c N V W ps e:=by
 have nS:∀ {b y},σ b=some y->(∀ l,y≠ .list l)->b≠la:=fun h n=>bM h hla (n _);have raw:=dT hla (fun o c=>by injection c);ac_rfl;obtain ⟨v,hv⟩:=H.hm;obtain ⟨o,ho⟩:=H.hD;right;exact ⟨⟨k.but H.S.h ap.1.symm,H.S.sc.imp fun _ h=>⟨k.but h.1 ap.2.1.symm,h.2⟩⟩,k.but H.hN ap.2.2.1.symm,k.but H.hW ap.2.2.2.symm,k.but H.hc (nS H.hc fun _ c=>by injection c),⟨v,k.but hv (nS hv fun _ c=>by injection c)⟩,⟨o,k.but ho (nS ho fun _ c=>by injection c)⟩,H.D,H.cl,H.reach,H.nN,H.n6,H.e0,H.lw,H.ap,(hρ _ (by simp [iw])).trans H.r0,(hρ _ (by simp [iw])).trans H.r1,(hρ _ (by simp [iw])).trans H.r2,(hρ _ (by simp [iw])).trans H.r5,H.tb.exr k raw,H.t2.ex k raw⟩
end
section
variable {A:Around} {w:World} {mg mb:Str->Option Value} {os:OsState} {σ:am} {ρ:aX} {pm cd doc:Value} {a L:Addr}
theorem xY {st sc na wa nd cn cm:Addr} {p:Nat} {c:Int} {N:List Int} {ps:List (Int×Int)} {e:Int} (r:Rm 30 A) (H:qQ σ ρ st sc na wa nd cn cm p c N (N.take 1) [] ps e) (hp:p<100):
  WS (G8 w mg mb os) A (jb pm cd doc a L cn cm) (sg 5) ρ σ fun f ρ' σ'=>f = .next/\∃ p' W ps',p'<=p+6/\qQ σ' ρ' st sc na wa nd cn cm p' c N N W ps' e:=by
 intros A w mg mb os σ ρ pm cd doc a L st sc na wa nd cn cm p c N ps e
 intro r H hp;have n6:=H.n6;have lN:0<N.length:=(List.getElem?_eq_some_iff.mp H.e0).1;refine d6 (aF (ah (aQ j5 (aJ (ao (bp (ao (ah (ak H.r5 (aA ⟨ba.ty,ta ?_⟩))))))))))
 injections ra t' u v
 refine fun hra=>jT r.hh (am.set_self ..) (by decide) (by decide) (E5 rfl) (GB n6 rfl) ?_;have kr:∀ {ra:Addr} {y:bL},σ ra=none->Ex [] σ (σ.set ra y):=fun h b z _ hb=>sk h hb;refine cD (fun xs ρ' σ'=>∃ (k n p':Nat) (W ps':List (Int×Int)),xs=aB (sG n k)/\k+n=N.length/\0<k/\p'<=p+k/\qQ σ' ρ' st sc na wa nd cn cm p' c N (N.take k) W ps' e) ?_ ?_ _ ⟨1,N.length - 1,p,[],ps,?_,(Nat.add_sub_of_le lN),by decide,(Nat.le_add_right _ _),?_⟩
 ·rintro x xs ρ' σ1 ⟨k,n,p',W,ps',ex,hk,k0,hp',H1⟩
  cases n with
  | zero=>injection ex
  | succ n=>
   cases ex;refine bo (az ?_);have kl:k<N.length:=zD (Nat.le_of_eq hk)
   have lv:(aB N).length<2 ^ 60:=by rw [a0];exact lr n6 rfl
   obtain ⟨w1,gw⟩: ∃ w1,N[k]?=some w1:=⟨_,IX kl⟩
   have gwv:(aB N)[(k:Int).toNat]?=some (.int w1):=by
    unfold aB;rw [List.getElem?_map,show ((k:Int)).toNat=k from rfl,gw];rfl
   have tk:N.take (k+1)=N.take k++[w1]:=by rw [List.take_add_one,gw];rfl
   have nw:w1∉N.take k:=fun m=>by
    have:=List.Nodup.sublist (List.take_sublist (k+1) N) H1.nN
    rw [tk] at this;exact (Jb.mp this).2.2 w1 m w1 (.head _) rfl
   refine al (ar (aG (ah (ak (aw H1.r1 nofun) (aF (ah (aQ gr (aJ (ao (ah (ak (aw H1.r0 nofun) (ao (ah (ak bK (aA ⟨br (fd:=bU) (⋯),(i6 (r.le (by decide)) H1.S (by lia) (Int.ofNat_lt.mpr k0) fun q σ2 q0 q1 S2 k2=>?_).wc⟩)))))))))))))));obtain ⟨pr,gp⟩: ∃ pr,N[q.toNat]?=some pr:=⟨_,IX (by lia)⟩
   have mp:pr∈N.take k:=by
    rw [List.mem_take_iff_getElem];exact ⟨q.toNat,by lia,(List.getElem?_eq_some_iff.mp gp).2⟩
   have gpv:(aB N)[q.toNat]?=some (.int pr):=by
    unfold aB;rw [List.getElem?_map,gp];rfl
   have H2:qQ σ2 ((ρ'.set z3 (.int k)).set FX (.int pr)) st sc na wa nd cn cm (p'+1) c N (N.take k) W ps' e:=H1.draw S2 k2 fun y m=>by
    simp only [iw,IZ,I3,or_false] at m
    rcases m with rfl | rfl | rfl | rfl <;> exact (if_neg nofun).trans (if_neg nofun)
   refine ⟨PG.list (.inl H2.hN),bq (.inl H2.hN) q0 lv gpv (az ?_)⟩;have rk:((ρ'.set z3 (.int k)).set FX (.int pr)) z3=some (.int k):=aw bK nofun
   have lW:(c6 W).length<2 ^ 20:=by
    have:=H2.lw
    rw [List.length_take] at this;unfold c6;rw [IP];lia
   refine al (bh (ay (ah (ak H2.r2 (cz (.inl H2.hW) (aJ (ao (dH (ao (ah (ak bK (ao (aG (ah (ak H2.r1 (ah (ak rk ⟨PG.list (.inl H2.hN),bq (.inl H2.hN) (Int.natCast_nonneg k) lv gwv (aA ⟨IU rfl,aA ⟨ba.bi,co H2.hW lW (aZ (P:=fun s=>WL _ _ _ _ _ s _) fun σ3 f3 e3=>?_)⟩⟩)⟩)))))))))))))))));have nl:∀ {b y},σ2 b=some y->(∀ l,y≠ .list l)->b≠wa:=fun h n=>bM h H2.hW (n _);obtain ⟨oD,hD2⟩:=H2.hD;have hD3:=e3.but hD2 (nl hD2 fun _ c=>by injection c);have hc3:=e3.but H2.hc (nl H2.hc fun _ c=>by injection c);have hN3:=e3.but H2.hN H2.ap.2.2.1.symm
   have lps:(dC ps').length<1000:=by
    have:=IQ H2.D.np fun k m=>(H2.D.keys k).mp m
    rw [IP,List.length_take] at this;unfold dC;rw [IP];lia
   refine al (aY (ah (ak bK (bz (ah (bJ (c:=cn) (⋯) hc3 (aG (ah (ak H2.r1 (ah (ak rk ⟨PG.list (.inl hN3),bq (.inl hN3) (Int.natCast_nonneg k) lv gwv (bZ hD3 lps fun oD'=>aZ (P:=fun s=>WL _ _ _ _ _ s _) fun σ4 f4 e4=>aE ?_)⟩)))))))))));have nk:w1∉ps'.map (·.1):=fun m=>nw ((H2.D.keys _).mp m);rw [nJ nk] at f4;have nd4:∀ {b y},σ3 b=some y->(∀ l o,y≠ .idict l o)->b≠nd:=fun h n=>bM h hD3 (n _ _);have ll:∀ {b l},σ3 b=some (.list l)->σ4 b=some (.list l):=fun h=>e4.but h (nd4 h fun _ _ c=>by injection c);have raw2:=dT H2.hW (fun o c=>by injection c);have raw3:=dT hD3 (fun o c=>by injection c)
   have ew:∀ u v,iH (Ew W) pr w1 u v↔Ew (W++[(pr,w1)]) u v:=fun u v=>by
    show _\/_↔_∈_;rw [I1,IN];exact or_congr Iff.rfl ⟨fun h=>by rw [h.1,h.2],fun h=>⟨congrArg Prod.fst h,congrArg Prod.snd h⟩⟩
   have re:∀ k'∈N.take k,∃ π,fV (Ew (W++[(pr,w1)])) e k' π:=fun k' m=>by
    obtain ⟨π,q⟩:=H2.reach k' m;exact ⟨π,q.congr fun u v h=>IS _ h⟩
   refine ⟨trivial,k+1,n,p'+1,W++[(pr,w1)],ps'++[(w1,pr)],rfl,by lia,(Nat.zero_lt_succ _),(Nat.succ_le_succ hp'),?_⟩;rw [tk];refine ⟨⟨ll (e3.but H2.S.h H2.ap.2.1),H2.S.sc.imp fun _ h=>⟨ll (e3.but h.1 H2.ap.2.2.2.1.symm),h.2⟩⟩,ll hN3,?_,e4.but hc3 (nd4 hc3 fun _ _ c=>by cases c),?_,⟨oD',f4⟩,(H2.D.leaf (fun u v h=>H2.cl _ h) mp nw).congr ew fun _=>Iff.rfl,?_,?_,H2.nN,H2.n6,H2.e0,by rw [IV,IV,<- H2.lw];rfl,H2.ap,H2.r0,H2.r1,H2.r2,H2.r5,(H2.tb.exr e3 raw2).exr e4 raw3,(H2.t2.ex e3 raw2).ex e4 raw3⟩
   ·have:=ll f3
    rw [this];unfold c6;rw [I2];rfl
   ·obtain ⟨v,hv⟩:=H2.hm;have h3:=e3.but hv (nl hv fun _ c=>by cases c);exact ⟨v,e4.but h3 (nd4 h3 fun _ _ c=>by cases c)⟩
   ·intro x m;rcases I1.mp m with m | m
    ·exact ⟨IS _ (H2.cl x m).1,IS _ (H2.cl x m).2⟩
    ·rw [IN.mp m];exact ⟨IS _ mp,IT _ (.head _)⟩
   ·intro k' m;rcases I1.mp m with m | m
    ·exact re k' m
    ·rw [IN.mp m];obtain ⟨π,q⟩:=re pr mp;exact ⟨_, .snoc q (IT _ (.head _))⟩
 ·rintro ρ' σ1 ⟨k,n,p',W,ps',ex,hk,k0,hp',H1⟩
  cases n with
  | succ n=>injection ex
  | zero=>
   rw [List.take_of_length_le (by lia)] at H1;exact aE ⟨rfl,p',W,ps',by lia,H1⟩
 ·rw [AZ,show ((N.length:Int) - 1).toNat=N.length - 1 by lia];rfl
 ·exact ⟨⟨sk hra H.S.h,H.S.sc.imp fun _ h=>⟨sk hra h.1,h.2⟩⟩,sk hra H.hN,sk hra H.hW,sk hra H.hc,H.hm.imp fun _ h=>sk hra h,H.hD.imp fun _ h=>sk hra h,H.D,H.cl,H.reach,H.nN,H.n6,H.e0,H.lw,H.ap,H.r0,H.r1,H.r2,H.r5,H.tb.nil (kr hra),H.t2.ex (kr hra) fun _ _ _ m=>nomatch m⟩
theorem vJ {st sc na wa la nd cn cm:Addr} {p:Nat} {c:Int} {N:List Int} {W ps:List (Int×Int)} {e:Int} (r:Rm 30 A) (H:qQ σ ρ st sc na wa nd cn cm p c N N W ps e) (hp:p<100) (hla:σ la=some (.list [])) (ap:la≠st/\la≠sc/\la≠na/\la≠wa) (r3:ρ y4=some (.ref la)):
  WS (G8 w mg mb os) A (jb pm cd doc a L cn cm) (sg 7) ρ σ fun f ρ' σ'=>f = .next/\∃ p' Lt,p'<=p+20/\qQ σ' ρ' st sc na wa nd cn cm p' c N N W ps e/\σ' la=some (.list (c6 Lt))/\Lt.length<=7/\(∀ x∈Lt,x.1∈N/\x.2∈N)/\ρ' y4=some (.ref la):=by
 intros A w mg mb os σ ρ pm cd doc a L st sc na wa la nd cn cm p c N W ps e
 intro r H hp hla ap r3;have n6:=H.n6
 have hu:A.units+2<cLine:=by have:=r.hu;show _<9900;exact CG this rfl
 have lN:0<N.length:=(List.getElem?_eq_some_iff.mp H.e0).1
 have lv:(aB N).length<2 ^ 60:=by rw [a0];exact lr n6 rfl
 refine d6 (aF (ah (aQ j5 (aJ (ao (bF (bp (aF (ah (aQ gr (aJ (ao (ah (ak H.r0 (ao (bp (aA ⟨br (fd:=bU) (⋯),(i6 (r.le (by decide)) H.S (eW hp rfl) (by decide) fun q σ1 q0 q1 S1 k1=>mL (aA ⟨ba.ty,jK fun ra t' u v hra=>jT r.hh (am.set_self ..) (by decide) (by decide) (by lia) (by lia) ?_⟩)).wc⟩)))))))))))))))));have H1:qQ σ1 ρ st sc na wa nd cn cm (p+1) c N N W ps e:=H.draw S1 k1 fun _ _=>rfl;have la1:=k1.but hla ap.1;have kr:∀ {ra:Addr} {y:bL},σ1 ra=none->Ex [] σ1 (σ1.set ra y):=fun h b z _ hb=>sk h hb;refine cD (fun xs ρ' σ'=>∃ (n p':Nat) (Lt:List (Int×Int)),xs.length=n/\n+Lt.length<=7/\p'+2*n<=p+15/\qQ σ' ρ' st sc na wa nd cn cm p' c N N W ps e/\σ' la=some (.list (c6 Lt))/\(∀ x∈Lt,x.1∈N/\x.2∈N)/\ρ' y4=some (.ref la)) ?_ ?_ _ ⟨(7 - q).toNat,p+1,[],?_,by simp;exact Int.sub_le_self 7 q0,by lia,?_,sk hra la1,(fun _ m=>nomatch m),r3⟩
 ·rintro x xs ρ' σ2 ⟨n,p',Lt,hn,hl,hp',H2,la2,cl2,r3'⟩;refine bo (az ?_);have hn':xs.length+1=n:=hn;have z:∀ {k:Str} {o:Option V},ρ' k=o->k≠yS->(ρ'.set yS x) k=o:=fun h n=>aw h n;refine al (ar (dH (ao (aG (ah (ak (z H2.r1 nofun) (aF (ah (aQ gr (aJ (ao (ah (ak (z H2.r0 nofun) (ao (ah (ak (z H2.r5 nofun) (aA ⟨br (fd:=bU) (⋯),(i6 (r.le (by decide)) H2.S (by lia) (Int.ofNat_lt.mpr lN) fun q σ3 q0 q1 S3 k3=>?_).wc⟩)))))))))))))))));have H3:=H2.draw S3 k3 (ρ':=ρ') fun _ _=>rfl;have la3:=k3.but la2 ap.1;obtain ⟨x1,g1⟩: ∃ x1,N[q.toNat]?=some x1:=⟨_,IX ((Int.toNat_lt' lN).mpr q1)⟩
  have gv1:(aB N)[q.toNat]?=some (.int x1):=by unfold aB;rw [List.getElem?_map,g1];rfl
  refine ⟨PG.list (.inl H3.hN),bq (.inl H3.hN) q0 lv gv1 ?_⟩;refine ao (aG (ah (ak (z H3.r1 nofun) (aF (ah (aQ gr (aJ (ao (ah (ak (z H3.r0 nofun) (ao (ah (ak (z H3.r5 nofun) (aA ⟨br (fd:=bU) (⋯),(i6 (r.le (by decide)) H3.S (by lia) (Int.ofNat_lt.mpr lN) fun q' σ4 q0' q1' S4 k4=>?_).wc⟩))))))))))))));have H4':=H3.draw S4 k4 (ρ':=ρ') fun _ _=>rfl;have la4:=k4.but la3 ap.1;obtain ⟨y1,g2⟩: ∃ y1,N[q'.toNat]?=some y1:=⟨_,IX ((Int.toNat_lt' lN).mpr q1')⟩
  have gv2:(aB N)[q'.toNat]?=some (.int y1):=by unfold aB;rw [List.getElem?_map,g2];rfl
  refine ⟨PG.list (.inl H4'.hN),bq (.inl H4'.hN) q0' lv gv2 (aA ⟨IU rfl,az ?_⟩)⟩
  have H4:qQ σ4 ((ρ'.set yS x).set EY (.tup [.int x1, .int y1])) st sc na wa nd cn cm (p'+1+1) c N N W ps e:=H3.draw S4 k4 fun y m=>by
   simp only [iw,IZ,I3,or_false] at m
   rcases m with rfl | rfl | rfl | rfl <;> exact (if_neg nofun).trans (if_neg nofun)
  have r4:((ρ'.set yS x).set EY (.tup [.int x1, .int y1])) y4=some (.ref la):=aw (z r3' nofun) nofun;refine al (bO (dv (fA (aI (ah (ak bK (ah (ak H4.r2 (jW (p:=(x1,y1)) (.inl H4.hW) hu (aV ?_))))))))));have skip:∃ (n p':Nat) (Lt':List (Int×Int)),xs.length=n/\n+Lt'.length<=7/\p'+2*n<=p+15/\qQ σ4 ((ρ'.set yS x).set EY (.tup [.int x1, .int y1])) st sc na wa nd cn cm p' c N N W ps e/\σ4 la=some (.list (c6 Lt'))/\(∀ x∈Lt',x.1∈N/\x.2∈N)/\((ρ'.set yS x).set EY (.tup [.int x1, .int y1])) y4=some (.ref la):=⟨_,_,Lt,rfl,by lia,by lia,H4,la4,cl2,r4⟩
  by_cases d1:(x1,y1)∈W
  ·refine (if_neg (by simp [d1])).mpr ?_;exact aE (aE ⟨trivial,skip⟩)
  ·refine (if_pos (by simp [d1])).mpr ?_;refine fA (aI (ah (ak bK (ah (ak r4 (jW (p:=(x1,y1)) (.inl la4) hu (aV ?_)))))))
   by_cases d2:(x1,y1)∈Lt
   ·refine (if_neg (by simp [d2])).mpr ?_;exact aE (aE ⟨trivial,skip⟩)
   ·refine (if_pos (by simp [d2])).mpr ?_;refine fC ?_;refine (if_pos rfl).mpr ?_;refine al (bh (ay (ah (ak r4 (cz (.inl la4) (aJ (ao (ah (ak bK (aA ⟨ba.bi,co la4 (by unfold c6;rw [IP];lia) (aZ (P:=fun s=>WL _ _ _ _ _ s _) fun σ5 f5 e5=>aE (aE ⟨trivial,?_⟩))⟩))))))))));refine ⟨_,_,Lt++[(x1,y1)],rfl,by rw [IV,List.length_singleton];lia,by lia,H4.lat la4 ap e5 fun _ _=>rfl,?_,fun v m=>?_,r4⟩
    ·rw [f5];unfold c6;rw [I2];rfl
    ·rcases I1.mp m with m | m
     ·exact cl2 v m
     ·rw [IN.mp m];exact ⟨List.mem_of_getElem? g1,List.mem_of_getElem? g2⟩
 ·rintro ρ' σ2 ⟨n,p',Lt,hn,hl,hp',H2,la2,cl2,r3'⟩;exact aE ⟨rfl,p',Lt,by lia,H2,la2,(Nat.le_of_add_left_le hl),cl2,r3'⟩
 ·rw [AZ,a0,(ka _ _).2.2];lia
 ·exact ⟨⟨sk hra H1.S.h,H1.S.sc.imp fun _ h=>⟨sk hra h.1,h.2⟩⟩,sk hra H1.hN,sk hra H1.hW,sk hra H1.hc,H1.hm.imp fun _ h=>sk hra h,H1.hD.imp fun _ h=>sk hra h,H1.D,H1.cl,H1.reach,H1.nN,H1.n6,H1.e0,H1.lw,H1.ap,H1.r0,H1.r1,H1.r2,H1.r5,H1.tb.nil (kr hra),H1.t2.ex (kr hra) fun _ _ _ m=>nomatch m⟩
theorem zA {G:aK} {A:Around} {env:Env} {l:Stmt} {ρ:aX} {σ:am} {Q:F->aX->am->Prop} (h:∀ Q':F->aX->am->Prop,(∀ f ρ σ,Q f ρ σ->Q' f ρ σ)->yU G A env l ρ σ Q'):yU G A env l ρ σ Q:=h Q fun _ _ _ h=>h
theorem xH:GV (G8 w mg mb os) yL (.ref 537):=i9 (⋯)
theorem xG:GV (G8 w mg mb os) yM (.ref 542):=i9 (⋯)
theorem v2 {P:Addr} {pos:Pos} {q:Str} (h:σ P=some (.raw (bT #[]))):bP σ P pos q:=⟨#[],h,trivial, .new rfl⟩
theorem uf (h:σ 419=some (.raw (bT #[]))):eF σ:=⟨#[],h,trivial, .new rfl, .new rfl⟩
theorem DL:l5 qD K8 lZ ET [419,460]:=by
 unfold l5
 injections w mg mb os a L lv pm
 injections cd doc script σ
 intro hlv hts hlen hL;refine aO rfl (aO rfl (aO rfl (aO rfl (aO rfl (b8 ?_)))))
 injections cn σ1
 intro hcn f1 e1;refine aO rfl (aO rfl (aO rfl (aO rfl (aO rfl (aO rfl (aO rfl (aO rfl (aO rfl (aO rfl (aO rfl (aO rfl (b8 ?_))))))))))))
 injections cm σ2
 refine fun hcm f2 e2=>b6 (⋯) ?_;refine az ?_;have r:Rm 150 (callerA.deeper (jb pm cd doc a L cn cm)):=⟨rfl,IU rfl,IU rfl⟩;have k2:Ex [] σ σ2:=e1.trans e2;have cnm:cn≠cm:=aW f1 hcm;have hts2:∀ t∈([419,460]:List Addr),σ2 t=some (.raw (bT #[])):=fun t m=>k2.at (hts t m);show jU _ _ _ (_::_) _ _ _;refine cE (ar (aF (ah (aQ xH (aJ (ao (ah (ak (v:= .ref lv) rfl (aA ⟨br (fd:=fm) (⋯),(zX (r.le (by decide)) (k2.at hlv) (lr hlen rfl) ?_).wc⟩)))))))))
 injections st sc c σ3
 refine fun S3 k3=>az ?_;refine cE (ar (aF (ah (aQ xG (aJ (ao (ah (ak bK (ao (bF (bp (aF (ah (aQ gr (aJ (ao (ah (ak bK (ao (bp (aA ⟨br (fd:=bU) (⋯),(i6 (r.le (by decide)) S3 (by decide) (by decide) fun q σ4 q0 q1 S4 k4=>mL (aA ⟨br (fd:=fk) (⋯),(zW (r.le (by decide)) S4 (by decide) (by lia) (Int.sub_le_self 6 q0) fun na N σ5 hna fN nN lN S5 k5=>az ?_).wc⟩)).wc⟩)))))))))))))))))))))
 have n6:N.length<=6:=by lia
 have lv':(aB N).length<2 ^ 60:=by rw [a0];lia
 obtain ⟨e,e0⟩: ∃ e,N[0]?=some e:=⟨_,IX (by lia)⟩
 have ge:(aB N)[(0:Int).toNat]?=some (.int e):=by
  unfold aB;rw [List.getElem?_map,show ((0:Int)).toNat=0 from rfl,e0];rfl
 refine cE (ar (aF (ah (aQ nF (aJ (ao (ah (ak bK (aA ⟨ba.bi,mG (.inl fN) lv' (az ?_)⟩)))))))));rw [a0];refine cE (ar (dG (aA ⟨Nat.zero_le _,fun wa hwa=>bj (P:=fun s=>WB _ _ _ _ _ _ s _) hwa fun σ6 fW k6=>az ?_⟩)))
 have s5:∀ {b y},σ2 b=some y->(∀ l,y≠ .list l)->σ5 b=some y:=fun h n=>by
  have h3:=k3.at h;have h4:=k4.but h3 (bM h3 S3.h (n _));exact k5.but h4 (bM h4 S4.h (n _))
 have c5:=s5 (e2.at f1) (fun _ c=>by injection c);have m5:=s5 f2 (fun _ c=>by injection c);have hts5:∀ t∈([419,460]:List Addr),σ5 t=some (.raw (bT #[])):=fun t m=>s5 (hts2 t m) (fun _ c=>by injection c);have N6:=k6.at fN;refine cE (ar (lh fun nd hnd=>?_));have N7:(σ6.set nd (.idict [] emptyDict)) na=some (.list (aB N)):=sk hnd N6;refine aG (ah (ak (v:= .ref na) rfl (bp ⟨PG.list (.inl N7),bq (.inl N7) (by decide) lv' ge (aG (ah (ak (v:= .ref na) rfl (bp ⟨PG.list (.inl N7),bq (.inl N7) (by decide) lv' ge (.mk e rfl (am.set_self ..) fun ver=>?_)⟩))))⟩)));rw [am.set_set];refine bj (P:=fun s=>WB _ _ _ _ _ _ s _) hnd fun σ7 f7 k7=>?_;have c7:=k7.at (k6.at c5);refine cO (c:=cn) (⋯) c7 (aZ (P:=fun s=>jU _ _ _ _ _ s _) fun σ8 f8 e8=>?_);have nc:∀ {b y},σ7 b=some y->(∀ v,y≠ .cell v)->σ8 b=some y:=fun h n=>e8.but h (bM h c7 (n _))
 have t1N:N.take 1=[e]:=by
  cases N with
  | nil=>injection e0
  | cons x N=>obtain rfl:=Option.some.inj e0;rfl
 have s8:∀ {b y},σ5 b=some y->(∀ v,y≠ .cell v)->σ8 b=some y:=fun h n=>nc (k7.at (k6.at h)) n;have S8:wJ σ8 st sc 3 c:=⟨s8 S5.h (fun _ c=>by injection c),S5.sc.imp fun _ h=>⟨s8 h.1 (fun _ c=>by injection c),h.2⟩⟩
 have H8:qQ σ8 (((((j9 [(ET, .ref lv)]).set CN (.ref st)).set AG (.ref na)).set EU (.int N.length)).set sZ (.ref wa)) st sc na wa nd cn cm 3 c N (N.take 1) [] [(e,e)] e:=by
  refine ⟨S8,s8 fN (fun _ c=>by injection c),nc (k7.at fW) (fun _ c=>by injection c),f8,⟨none,e8.but (k7.at (k6.at m5)) cnm.symm⟩,⟨_,nc f7 (fun _ c=>by injection c)⟩,?_,fun _ m=>(nomatch m),fun k m=>?_,nN,n6,e0,by rw [t1N];rfl,⟨(aW S4.h hna),aW S5.h hwa,(aW fN hwa).symm,?_,cnm⟩,rfl,rfl,rfl,rfl,v2 (s8 (hts5 460 (by simp)) (fun _ c=>by injection c)),uf (s8 (hts5 419 (by simp)) (fun _ c=>by injection c))⟩
  ·rw [t1N];exact eE.first.congr (fun _ _=>⟨False.elim,fun m=>nomatch m⟩) fun _=>Iff.rfl
  ·rw [t1N] at m;rw [IN.mp m];exact ⟨_, .nil⟩
  ·obtain ⟨ns,hz0⟩:=S5.sc;exact (aW hz0.1 hwa).symm
 refine cE (mO fun Q' hQ=>Eq.mp (⋯) (WS.mono (xY (w:=w) (mg:=mg) (mb:=mb) (os:=os) (pm:=pm) (cd:=cd) (doc:=doc) (a:=a) (L:=L) (r.le (by decide)) H8 (by decide)) fun f ρ' σ' h=>hQ f ρ' σ' ?_));obtain ⟨rfl,p9,W,ps,hp9,H9⟩:=h;refine cE (ar (dG (aA ⟨Nat.zero_le _,fun la hla=>bj (P:=fun s=>WB _ _ _ _ _ _ s _) hla fun σ10 fL k10=>az ?_⟩)));have H10:qQ σ10 (ρ'.set y4 (.ref la)) st sc na wa nd cn cm p9 c N N W ps e:=⟨⟨k10.at H9.S.h,H9.S.sc.imp fun _ h=>⟨k10.at h.1,h.2⟩⟩,k10.at H9.hN,k10.at H9.hW,k10.at H9.hc,H9.hm.imp fun _ h=>k10.at h,H9.hD.imp fun _ h=>k10.at h,H9.D,H9.cl,H9.reach,H9.nN,H9.n6,H9.e0,H9.lw,H9.ap,aw H9.r0 nofun,aw H9.r1 nofun,aw H9.r2 nofun,aw H9.r5 nofun,H9.tb.nil k10,H9.t2.ex k10 fun _ _ _ m=>nomatch m⟩
 have apl:la≠st/\la≠sc/\la≠na/\la≠wa:=by
  ac_rfl;obtain ⟨ns,hz1⟩:=H9.S.sc;right;exact ⟨(aW H9.S.h hla).symm,(aW hz1.1 hla).symm,(aW H9.hN hla).symm,(aW H9.hW hla).symm⟩
 refine cE (mO fun Q' hQ=>Eq.mp (⋯) (WS.mono (vJ (w:=w) (mg:=mg) (mb:=mb) (os:=os) (pm:=pm) (cd:=cd) (doc:=doc) (a:=a) (L:=L) (la:=la) (r.le (by decide)) H10 (lr hp9 rfl) fL apl bK) fun f ρ2 σ11 h=>hQ f ρ2 σ11 ?_));obtain ⟨rfl,p11,Lt,hp11,H11,la11,l7,clL,r11⟩:=h;refine cE (ar (aF (ah (aQ gr (aJ (ao (ah (ak H11.r0 (ao (ah (ak H11.r5 (aA ⟨br (fd:=bU) (⋯),(i6 (r.le (by decide)) H11.S (by lia) (by lia) fun t σ12 t0 t1 S12 k12=>az ?_).wc⟩))))))))))));have H12:=H11.draw S12 k12 (ρ':=ρ2) fun _ _=>rfl;have lwW:=H12.lw;have L12:oI σ12 (ρ2.set yS (.int t)) na wa la nd cn cm N W Lt ps e t:=⟨H12.hN,H12.hW,k12.but la11 apl.1,H12.hc,H12.hm,H12.hD,H12.D,H12.nN,H12.n6,H12.cl,H12.reach,H12.e0,clL,l7,t0,(Int.le_of_lt t1),⟨H12.ap.2.2.1,apl.2.2.2.symm,H12.ap.2.2.2.2⟩,aw H12.r1 nofun,aw H12.r2 nofun,aw r11 nofun,bK,H12.tb,H12.t2⟩;refine eH (zA fun Q' hQ=>Eq.mp (⋯) (xW (w:=w) (mg:=mg) (mb:=mb) (os:=os) (pm:=pm) (cd:=cd) (doc:=doc) (a:=a) (L:=L) (Q:=Q') (r.le (by decide)) L12 (by lia) fun ρ3 σ13 h=>hQ _ _ _ ?_));ac_rfl;obtain ⟨W',ps',nd',H13⟩:=h;right;refine cE (bA (g8 ⟨rfl,fun t m=>?_⟩));rcases IZ.mp m with rfl | m
 ·obtain ⟨qs,h,_⟩:=H13.t2.at;exact ⟨qs,h⟩
 ·rcases IZ.mp m with rfl | m
  ·obtain ⟨qs,h,_⟩:=H13.tb.at;exact ⟨qs,h⟩
  ·cases m
end
theorem law_08:PySem.Challenge.rw_au0018_08.Holds:=FJ DL
end Mine
theorem PySem.Challenge.cw_au0018_08_holds : PySem.Challenge.rw_au0018_08.Holds :=
  Mine.law_08
