/- Words turned end for end. A number's words shifted to the right in their own place. Words appended to a row of one's own, whatever room the row has. A number's words out of its hexadecimal digits. -/
import Derived.Test.YtohhkjamddojmaaGreatDoorTH
import Derived.StillTailTactics
import Derived.Test.YtohhkjamddojmaaGreatDoorNH
set_option maxRecDepth 100000
set_option maxHeartbeats 16000000
namespace Go.Proofs.YtohhkjamddojmaaGreatDoor.Big
open Go.RowKit
def TurnP (b n:Nat) (cs:List Nat) (w:World) (e:Ending) (w':World):Prop:=
 e=.returned (.tuple #[])/\w.grownBy w' (some b)/\∃ ds,NatB w' b ds/\ds.length=cs.length/\∀ k,ds.getD k 0=if k<n then cs.getD (n-1-k) 0 else cs.getD k 0
theorem reverseW (b n c:Nat) (cs:List Nat) (w:World) (h:NatB w b cs) (hn:n<=cs.length) (hn6:n<=9000000000) :
 Calls Tryz.prog 266 #[.slice (some ⟨b,0,.none⟩) n c] w (TurnP b n cs w):=by
 have H:=Lz (And.intro h (And.intro hn hn6))
 have W0:wrap64 ((n:Int)-1)=(n:Int)-1:=by unfold wrap64;omega
 have W00:=Lz W0
 clear h hn hn6
 go_enter Tryz.func266,Tryz.ntmps266
 go_wp2_with fail
 try simp only[W00.out]
 clear W0
 go_loopw [2,3] (λs2 s3 wr=>∃ (i:Nat) (j:Int) (ds:List Nat),s2=.int .i64 (i:Nat)/\s3=.int .i64 j/\NatB wr b ds/\w.grownBy wr (some b)/\RowKit.Hid (j=(n:Int)-1-i/\2*i<=n+1/\ds.length=cs.length/\∀ k,ds.getD k 0=if k<n/\(k<i\/n<k+1+i) then cs.getD (n-1-k) 0 else cs.getD k 0)) (λs2 s3 _=>(intOf s3+1-intOf s2).toNat)
 case atStart=>exact⟨0,(n:Int)-1,cs,rfl,by first|rfl|exact congrArg (Value.int .i64) W00.out,H.out.1,World.grownBy.refl _ _,⟨by omega,by omega,rfl,λk=>by rw[if_neg (by omega)]⟩⟩
 case round=>
  obtain⟨i,j,ds,rfl,rfl,hb,hg,HR⟩:=hrel
  have HB:=Lz hb
  have HG:=Lz hg
  by_cases hij:(i:Int)<j
  . obtain⟨j,rfl⟩:∃ j':Nat,j=j':=⟨j.toNat,by omega⟩
    have i1:(i:Int)<n:=by have:=HR.out;omega
    have j1:(j:Int)<n:=by have:=HR.out;omega
    have ci:=hb.cell i (by have:=HR.out;have:=H.out;omega)
    have cj:=hb.cell j (by have:=HR.out;have:=H.out;omega)
    have fi:=hb.free i
    have fj:=hb.free j
    obtain⟨x,hx⟩:∃ x,x=ds.getD i 0:=⟨_,rfl⟩
    obtain⟨y,hy⟩:∃ y,y=ds.getD j 0:=⟨_,rfl⟩
    rw[<-hx] at ci
    rw[<-hy] at cj
    have hne:¬i=j:=by omega
    have hne2:¬j=i:=by omega
    have HXY:=Lz (And.intro hx hy)
    have W1:=Lz (show wrap64 ((i:Int)+1)=((i+1:Nat):Int) from wrapN (by omega) (by have:=H.out;omega))
    have W2:=Lz (show wrap64 ((j:Int)-1)=(j:Int)-1 from by have:=H.out;unfold wrap64;omega)
    have HBS:=Lz (show NatB (((wr.setCell ⟨b,i,.none⟩ (.int .u64 (y:Nat))).setCell ⟨b,j,.none⟩ (.int .u64 (x:Nat))).drew) b ((ds.set i y).set j x) from(hb.set i y).set j x)
    have HGS:=Lz (show w.grownBy (((wr.setCell ⟨b,i,.none⟩ (.int .u64 (y:Nat))).setCell ⟨b,j,.none⟩ (.int .u64 (x:Nat))).drew) (some b) from(hg.trans ((zzw wr b i _).trans ((zzw _ b j _).trans (zzz _ 1 _)))))
    have HN:=Lz (show(j:Int)-1=(n:Int)-1-((i+1:Nat):Int)/\2*(i+1)<=n+1/\((ds.set i y).set j x).length=cs.length/\∀ k,((ds.set i y).set j x).getD k 0=if k<n/\(k<i+1\/n<k+1+(i+1)) then cs.getD (n-1-k) 0 else cs.getD k 0 from by
     obtain⟨r1,r2,r3,r4⟩:=HR.out
     obtain⟨-,h2,h3⟩:=H.out
     refine⟨by omega,by omega,by rw[List.length_set,List.length_set,r3],λk=>?_⟩
     have ki:=r4 i
     have kj:=r4 j
     rw[if_neg (by omega)] at ki kj
     by_cases hkj:k=j
     . subst hkj
       rw[if_pos (by omega),List.getD,List.getElem?_set_self (by rw[List.length_set];omega),Option.getD_some,hx,ki]
       congr 1
       omega
     . rw[List.getD,List.getElem?_set_ne (λe=>hkj e.symm)]
       by_cases hki:k=i
       . subst hki
         rw[if_pos (by omega),List.getElem?_set_self (by omega),Option.getD_some,hy,kj]
         congr 1
         omega
       . rw[List.getElem?_set_ne (λe=>hki e.symm)]
         have:=r4 k
         rw[List.getD] at this
         rw[this]
         by_cases hc:k<n/\(k<i\/n<k+1+i)
         . rw[if_pos hc,if_pos (by omega)]
         . rw[if_neg hc,if_neg (by omega)])
    clear hx hy hb hg
    go_wp2_with fail
    go_region
    generalize ((wr.setCell ⟨b,i,.none⟩ (.int .u64 (y:Nat))).setCell ⟨b,j,.none⟩ (.int .u64 (x:Nat))).drew=wz at *
    have q1:=W1.out
    have q2:=W2.out
    go_wp2_with fail
    try simp only[q1,q2]
    go_roundw
    case rel=>exact⟨i+1,(j:Int)-1,(ds.set i y).set j x,by first|rfl|exact congrArg (Value.int .i64) W1.out,by first|rfl|exact congrArg (Value.int .i64) W2.out,HBS.out,HGS.out,HN.out⟩
    case measure=>simp only[intOf];first|omega|(rw[W1.out,W2.out];omega)
  . have hji:j<=i:=by omega
    have HE:=Lz (show TurnP b n cs w (.returned (.tuple #[])) wr from by
     obtain⟨r1,r2,r3,r4⟩:=HR.out
     refine⟨rfl,hg,ds,hb,r3,λk=>?_⟩
     rw[r4 k]
     by_cases hk:k<n
     . rw[if_pos hk]
       by_cases hc:k<i\/n<k+1+i
       . rw[if_pos ⟨hk,hc⟩]
       . rw[if_neg (λhh=>hc hh.2)]
         congr 1
         omega
     . rw[if_neg hk,if_neg (λhh=>hk hh.1)])
    clear hb hg hij
    go_wp2_with fail
    first|go_end0|refine bodyPost_ret (results_none rfl _ _ _) rfl ?_
    exact HE.out
end Go.Proofs.YtohhkjamddojmaaGreatDoor.Big

set_option maxRecDepth 100000
set_option maxHeartbeats 16000000
namespace Go.Proofs.YtohhkjamddojmaaGreatDoor.Big
open Go.RowKit
def RshP (b:Nat) (n:Nat) (c:Nat) (w:World) (e:Ending) (w':World):Prop:=
 e=.returned (.slice (some ⟨b,0,.none⟩) (dg n).length c)/\w.grownBy w' (some b)/\∃ ds,Num w' (some ⟨b,0,.none⟩) (dg n) ds/\ds.length=c
theorem rshW (b m s:Nat) (cs:List Nat) (w:World) (h:Buf w (some ⟨b,0,.none⟩) cs) (hm:m<=cs.length) (hm1:1<=m) (hs:1<=s) (hs2:s<=63) (hm6:m<=80000) :
 Calls Tryz.prog 241 #[.slice (some ⟨b,0,.none⟩) m cs.length,.slice (some ⟨b,0,.none⟩) m cs.length,.int .u64 s] w (RshP b (val (cs.take m)/2^s) cs.length w):=by
 have HM:=Lz (nat_make (some ⟨b,0,.none⟩) m m cs w h (by omega))
 have hN:=h.nat (by omega)
 have HR:=Lz (rshVU b m cs.length s cs w hN hm h.2.1 hs hs2 hm1 (by omega))
 have H:=Lz (And.intro h (And.intro hm (And.intro hm1 hm6)))
 have s0:((s:Int)==0)=false:=by rw[beq_eq_false_iff_ne];omega
 have q1:(s:Int)/64=0:=by omega
 have q2:(s:Int)%64=s:=by omega
 have W1:wrap64 (m:Int)=(m:Int):=wrapN (by omega) (by omega)
 have W2:wrap64 (0:Int)=0:=wrapN (k:=0) (by omega) (by omega)
 have m0:¬(m:Int)<=0:=by omega
 have mc:(m:Int)<=cs.length:=by omega
 have mc2:m<=cs.length:=hm
 clear h hN hm hs hs2 hm6
 go_enter Tryz.func241,Tryz.ntmps241
 go_wp2_with fail
 refine HM.out.mono ?_
 rintro e w1 ⟨p',cs',rfl,hb,hn,hg,hor⟩
 have HW:=Lz (And.intro W1 W2)
 clear W1 W2
 obtain⟨rfl,rfl,rfl,-⟩:=hor.resolve_right (λhh=>by have:=H.out;omega)
 clear hb hn hg hor HM
 have W1:=HW.out.1
 have W2:=HW.out.2
 go_wp2_with fail
 clear W1 W2
 refine HR.out.mono ?_
 rintro e w2 ⟨v,ks,rfl,hNB,hks,hwk,hval,hg2⟩
 have hsp:(spl cs' 0 ks).length=cs'.length:=zzk (by omega)
 have htk:(spl cs' 0 ks).take m=ks:=by unfold spl;simp[<-hks]
 have hB2:Buf w2 (some ⟨b,0,.none⟩) (spl cs' 0 ks):=⟨.inr ⟨b,rfl,hNB⟩,by
  intro x hx
  unfold spl at hx
  simp at hx
  rcases hx with hx|hx
  . exact hwk x hx
  . exact H.out.1.2.1 x (List.mem_of_mem_drop hx),by rw[hsp];exact H.out.1.2.2⟩
 have HNM:=Lz (norm_of hB2 htk (by rw[hsp];exact mc2) hsp)
 have HF:=Lz (And.intro hB2 (And.intro htk (And.intro hval (And.intro hg2 hsp))))
 clear hNB hks hwk hval hg2 hsp htk hB2 HR
 go_wp2_with fail
 refine HNM.out.mono ?_
 rintro e w3 ⟨rfl,rfl⟩
 clear HNM
 go_wp2_with fail
 go_ret
 refine⟨by rw[HF.out.2.2.1];rfl,HF.out.2.2.2.1,spl cs' 0 ks,?_,HF.out.2.2.2.2⟩
 have:=num_of HF.out.1 HF.out.2.1
 rw[HF.out.2.2.1] at this
 exact this
end Go.Proofs.YtohhkjamddojmaaGreatDoor.Big

namespace Go.Proofs.YtohhkjamddojmaaGreatDoor.Big
open Go.RowKit
def RowW (w:World) (base:Nat) (v:Value) (ds:List Nat):Prop:=
 (v=.slice none 0 0/\ds = [])\/∃ b cs,v=.slice (some ⟨b,0,.none⟩) ds.length cs.length/\base<=b/\NatB w b cs/\Words cs/\cs.take ds.length=ds/\ds.length<=cs.length/\cs.length<=maxLen
theorem RowW.nil (w:World) (base:Nat):RowW w base (.slice none 0 0) []:=.inl ⟨rfl,rfl⟩
theorem RowW.kept {w w':World} {base:Nat} {v:Value} {ds:List Nat} {row:Option Nat} (h:RowW w base v ds) (hg:w.grownBy w' row) (hne:v.ownBlock=none\/v.ownBlock≠row):RowW w' base v ds:=by
 rcases h with h|⟨b,cs,rfl,h1,h2,h3,h4,h5,h6⟩
 . exact .inl h
 . refine .inr ⟨b,cs,rfl,h1,h2.kept hg ?_,h3,h4,h5,h6⟩
   rcases hne with h|h
   . cases h
   . exact h
theorem zero_words (n:Nat):(Builtin.zeroCells (Value.int .u64 0).cells n).toList=(List.replicate n 0).map wd:=by
 unfold Builtin.zeroCells
 show((Array.range (n*1)).map λi=>(#[Value.int .u64 0]:Array Value)[i%1]!).toList=_
 rw[Array.toList_map,Array.toList_range,Nat.mul_one]
 apply List.ext_getElem
 . simp
 . intro i h1 h2
   simp[Nat.mod_one,wd]
theorem Words.replicate (n:Nat):Words (List.replicate n 0):=λx hx=>by rw[List.eq_of_mem_replicate hx];exact zxw
theorem run_append_word (w:World) (base:Nat) (ty:TypeId) (v:Value) (ds:List Nat) (d:Nat) (h:RowW w base v ds) (hw:Words ds) (hd:d<B64) (a:Addr) (ha:w.cell? a=some (wd d)) (hbase:base<=w.heap.size) (hl:ds.length<=1000) :
 ∃ v' w',(Builtin.append_ #[170,170] ty #[v,.slice (some a) 1 1]).run Tryz.prog w=.ok v' w'/\RowW w' base v' (ds ++ [d])/\w.grownBy w' v.ownBlock:=by
 obtain⟨i0,hi,hz0,hz1,hz2⟩:=info_parts info199
 have hnews:∀ j u,([wd d]:List Value)[j]? = some u->w.cell? (a.add j)=some u:=λj u hu=>by
  match j,hu with
  | 0,hu=>rw[<-hu];exact ha
  | j+1,hu=>simp at hu
 -- a new block
 have fresh:∀ old:Nat,∀ row:Option Nat,RowW (w.drew.alloc (.cells ((ds.map wd).toArray++([wd d]:List Value).toArray++Builtin.zeroCells (Value.int .u64 0).cells (grownCap w (ds.length+1) old 199-(ds.length+1))) 199)) base (.slice (some ⟨w.heap.size,0,.none⟩) (ds.length+1) (grownCap w (ds.length+1) old 199)) (ds ++ [d]) ∧
  w.grownBy (w.drew.alloc (.cells ((ds.map wd).toArray++([wd d]:List Value).toArray++Builtin.zeroCells (Value.int .u64 0).cells (grownCap w (ds.length+1) old 199-(ds.length+1))) 199)) row:=by
  intro old row
  have hge:=grownCap_ge w (ds.length+1) old 199
  have hcm:grownCap w (ds.length+1) old 199<=maxLen:=grownCap_le_maxLen w (ds.length+1) old 199 (by unfold maxLen;omega)
  obtain⟨k,hk⟩:∃ k,k=grownCap w (ds.length+1) old 199-(ds.length+1):=⟨_,rfl⟩
  have hcap:grownCap w (ds.length+1) old 199=((ds ++ [d])++List.replicate k 0).length:=by
   rw[List.length_append,List.length_append,List.length_replicate,List.length_singleton];omega
  rw[<-hk]
  have hcells:((ds.map wd).toArray++([wd d]:List Value).toArray++Builtin.zeroCells (Value.int .u64 0).cells k)=wds ((ds ++ [d])++List.replicate k 0):=by
   apply Array.toList_inj.1
   rw[Array.toList_append,Array.toList_append,zero_words]
   simp[wds]
  rw[hcells]
  refine⟨.inr ⟨w.heap.size,(ds ++ [d])++List.replicate k 0,?_,hbase,heap_alloc_new w.drew _,?_,?_,?_,?_⟩,⟨rfl,rfl,rfl,by simp,λq hq _=>heap_alloc_old w.drew _ hq⟩⟩
  . rw[hcap];simp
  . intro x hx
    rcases List.mem_append.1 hx with hx|hx
    . rcases List.mem_append.1 hx with hx|hx
      . exact hw x hx
      . rw[List.mem_singleton.1 hx];exact hd
    . rw[List.eq_of_mem_replicate hx];exact zxw
  . exact List.take_left
  . have:=@List.length_append _ (ds ++ [d]) (List.replicate k 0);omega
  . rw[<-hcap];exact hcm
 rcases h with⟨rfl,rfl⟩|⟨b,cs,rfl,h1,h2,h3,h4,h5,h6⟩
 . have hr:=run_append_nil (P:=Tryz.prog) w 170 ty 199 i0 (.int .u64 0) Tryz.underlying170 hi hz0 a 1 1 [wd d] (by rw[hz1];rfl) hnews (by omega) (by omega) (by rw[hz2];decide)
   obtain⟨f1,f2⟩:=fresh 0 none
   simp only[List.map_nil,List.length_nil,Nat.zero_add,List.nil_append,Array.empty_append] at f1 f2
   exact⟨_,_,hr,f1,f2⟩
 . by_cases hroom:ds.length+1<=cs.length
   . have hr:=run_append_room (P:=Tryz.prog) w 170 ty 199 i0 Tryz.underlying170 hi b ds.length cs.length (wds cs) h2 a 1 1 [wd d] (by rw[hz1];rfl) hnews (by intro u hu;rw[List.mem_singleton.1 hu];rfl) hroom (by rw[hz1,wds_size];simpa using hroom)
     rw[hz1] at hr
     have hrow:((wds cs).toList.take (ds.length*1) ++ [wd d]++(wds cs).toList.drop (ds.length*1 + [wd d].length)).toArray=wds (cs.set ds.length d):=by
      unfold wds
      rw[Nat.mul_one,List.set_eq_take_append_cons_drop,if_pos (by omega)]
      simp
     rw[hrow] at hr
     refine⟨_,_,hr,.inr ⟨b,cs.set ds.length d,?_,h1,setRow_heap w b (wds cs) (wds (cs.set ds.length d)) 199 (0,0) h2,?_,?_,?_,?_⟩,⟨rfl,rfl,rfl,by simp,λk _ hk=>setRow_other w b k _ (λe=>hk (by simp[Value.ownBlock,e]))⟩⟩
     . rw[List.length_set,List.length_append];rfl
     . intro x hx
       rcases List.mem_or_eq_of_mem_set hx with h|h
       . exact h3 x h
       . rw[h];exact hd
     . rw[List.length_append,List.length_singleton,take_set_snoc hroom,h4]
     . rw[List.length_set,List.length_append];simpa using hroom
     . rw[List.length_set];exact h6
   . have hr:=run_append_grow (P:=Tryz.prog) w 170 ty 199 i0 (.int .u64 0) Tryz.underlying170 hi hz0 ⟨b,0,none⟩ ds.length cs.length (ds.map wd) (by rw[hz1,List.length_map];omega) (λj u hu=>by
      rw[List.getElem?_map] at hu
      cases hj:ds[j]? with
      | none=>rw[hj] at hu;cases hu
      | some x=>
       rw[hj] at hu
       have hlt:=(List.getElem?_eq_some_iff.1 hj).1
       have hc:=h2.cell j (by omega)
       have hx:cs.getD j 0=x:=by
        have e:ds.getD j 0=cs.getD j 0:=by rw[<-h4];simp[List.getD,hlt]
        rw[<-e]
        simp[List.getD,hj]
       rw[hx] at hc
       have e2:(⟨b,0,none⟩:Addr).add j=⟨b,j,.none⟩:=by simp[Addr.add];intro h;exact h.symm
       rw[e2,hc]
       exact hu) a 1 1 [wd d] (by rw[hz1];rfl) hnews (by omega) (by omega) (growslice_fits (by omega) (by rw[hz2];omega))
     obtain⟨f1,f2⟩:=fresh cs.length (Value.ownBlock (.slice (some ⟨b,0,none⟩) ds.length cs.length))
     exact⟨_,_,hr,f1,f2⟩
theorem wpList_append_word {w:World} {ops:Array Oper} {rest:List Oper} {o:Oper} {a:Act} {Q:Exit->Act->World->Prop} (hgd:o.guard=none) (s x:Operand)
 (ho:o.op=.call { callee:=.builtin .append,args:=#[s,x],argTypes:=#[170,170] })
 (base:Nat) (v:Value) (ds:List Nat) (d:Nat) (hs:a.eval s=v) (h:RowW w base v ds) (hw:Words ds) (hd:d<B64) (ad:Addr) (hx:a.eval x=.slice (some ad) 1 1) (ha:w.cell? ad=some (wd d)) (hbase:base<=w.heap.size) (hl:ds.length<=1000)
 (K:∀ v' w',RowW w' base v' (ds ++ [d])->w.grownBy w' v.ownBlock->wpList Tryz.prog ops Q rest (a.put o.dst v') w'):wpList Tryz.prog ops Q (o :: rest) a w:=
 wpList_plain hgd λ_ hK=>by
  obtain⟨v',w',hr,h2,h3⟩:=run_append_word w base o.type v ds d h hw hd ad ha hbase hl
  unfold Oper.wp execOp
  simp only[ho,resolve,invoke,builtin,Sem.run_bind,Sem.run_pure,Result.andThen_ok,List.map_toArray,List.map_cons,List.map_nil,hs,hx,hr]
  exact hK _ _ (K v' w' h2 h3)
theorem RowW.grown {w wr wa w1:World} {base:Nat} {v:Value} {ds:List Nat} {row:Option Nat} (h:RowW wr base v ds) (hb:w.heap.size<=base) (h1:w.grownBy wa row) (h2:wa.grownBy w1 v.ownBlock):w.grownBy w1 row:=by
 obtain⟨a1,a2,a3,a4,a5⟩:=h1
 obtain⟨b1,b2,b3,b4,b5⟩:=h2
 refine⟨by first|exact a1.trans b1|exact b1.trans a1,by first|exact a2.trans b2|exact b2.trans a2,by first|exact a3.trans b3|exact b3.trans a3,Nat.le_trans a4 b4,λk hk hne=>?_⟩
 rw[b5 k (Nat.lt_of_lt_of_le hk a4) ?_,a5 k hk hne]
 rcases h with⟨rfl,-⟩|⟨b,cs,rfl,hbb,-⟩
 . simp[Value.ownBlock]
 . simp only[Value.ownBlock]
   intro e
   have:=Option.some.inj e
   omega
theorem RowW.ne {w:World} {base:Nat} {v:Value} {ds:List Nat} (h:RowW w base v ds) {g:Nat} (hg:g<base):v.ownBlock≠some g:=by
 rcases h with⟨rfl,-⟩|⟨b,cs,rfl,hbb,-⟩
 . simp[Value.ownBlock]
 . simp only[Value.ownBlock]
   intro e
   have:=Option.some.inj e
   omega
theorem Rd.kept {w w':World} {b i:Nat} {s:ByteArray} {pv:Int} {row:Option Nat} (h:Rd w b s i pv) (hg:w.grownBy w' row) (hne:some b≠row):Rd w' b s i pv:=by
 unfold Rd at *
 rw[hg.block b (Array.getElem?_eq_some_iff.1 h).1 hne,h]
end Go.Proofs.YtohhkjamddojmaaGreatDoor.Big

namespace Go.Proofs.YtohhkjamddojmaaGreatDoor.Big
open Go.RowKit
attribute [local go_sem] ptr
def hexv (c:Nat):Nat:=if c<=57 then c-48 else c-55
def hexN (cs:List Nat):Nat:=cs.foldl (λa c=>a*16+hexv c) 0
def HexC (c:Nat):Prop:=(48<=c/\c<=57)\/(65<=c/\c<=70)
theorem HexC.lt {c:Nat} (h:HexC c):hexv c<16:=by unfold HexC hexv at *;split <;> omega
def bw (ds:List Nat):Nat:=ds.foldl (λa d=>a*B64+d) 0
theorem bw_snoc (ds:List Nat) (d:Nat):bw (ds ++ [d])=bw ds*B64+d:=by unfold bw;rw[List.foldl_append];rfl
theorem hexN_take {cs:List Nat} {k:Nat} (h:k<cs.length):hexN (cs.take (k+1))=hexN (cs.take k)*16+hexv (cs.getD k 0):=by
 unfold hexN
 rw[List.take_add_one,List.getElem?_eq_getElem h,List.foldl_append]
 simp[List.getD,h]
theorem bw_from (ds:List Nat):∀ a,ds.foldl (λa d=>a*B64+d) a=a*B64^ds.length+bw ds:=by
 induction ds with
 | nil=>intro a;simp[bw]
 | cons d ds ih=>
  intro a
  rw[List.foldl_cons,ih]
  have:bw (d :: ds)=(0*B64+d)*B64^ds.length+bw ds:=by unfold bw;rw[List.foldl_cons];exact ih _
  rw[this,List.length_cons,Nat.pow_succ]
  grind
theorem val_reverse:∀ ds:List Nat,val ds.reverse=bw ds
 | []=>rfl
 | d :: ds=>by
  rw[List.reverse_cons,val_append,val_reverse ds,List.length_reverse]
  have:bw (d :: ds)=(0*B64+d)*B64^ds.length+bw ds:=by unfold bw;rw[List.foldl_cons];exact bw_from ds _
  rw[this,val_one]
  grind
structure SCI (cs:List Nat) (k:Nat) (ds:List Nat) (i di:Nat):Prop where
 hk:k=16*ds.length+i
 hi:i<16
 hd:di<16^i
 hw:Words ds
 hv:hexN (cs.take k)=bw ds*16^i+di
theorem SCI.start (cs:List Nat):SCI cs 0 [] 0 0:=⟨rfl,by decide,by decide,Words.nil,by simp[hexN,bw]⟩
theorem SCI.next {cs:List Nat} {k i di:Nat} {ds:List Nat} (h:SCI cs k ds i di) (hk:k<cs.length) (hc:HexC (cs.getD k 0)) (hi:i+1<16):SCI cs (k+1) ds (i+1) (di*16+hexv (cs.getD k 0)):=by
 have:=hc.lt
 have h2:=h.hd
 refine⟨by have:=h.hk;omega,hi,by rw[Nat.pow_succ];omega,h.hw,?_⟩
 rw[hexN_take hk,h.hv,Nat.pow_succ]
 grind
theorem SCI.word {cs:List Nat} {k di:Nat} {ds:List Nat} (h:SCI cs k ds 15 di) (hk:k<cs.length) (hc:HexC (cs.getD k 0)):SCI cs (k+1) (ds ++ [di*16+hexv (cs.getD k 0)]) 0 0/\di*16+hexv (cs.getD k 0)<B64:=by
 have:=hc.lt
 have h2:=h.hd
 have hB:di*16+hexv (cs.getD k 0)<B64:=by
  have:(16:Nat)^15*16=B64:=by decide
  omega
 refine⟨⟨by have:=h.hk;rw[List.length_append,List.length_singleton];omega,by decide,by decide,?_,?_⟩,hB⟩
 . intro x hx
   rcases List.mem_append.1 hx with hx|hx
   . exact h.hw x hx
   . rw[List.mem_singleton.1 hx];exact hB
 . rw[hexN_take hk,h.hv,bw_snoc]
   have:(16:Nat)^15*16=B64:=by decide
   grind
def NX (cs:List Nat) (rb:Nat) (s:ByteArray) (E:Value) (k:Nat) (w:World) (err:Value) (ch:Nat):Prop:=
 (k<cs.length/\err=.nilIface/\ch=cs.getD k 0/\Rd w rb s (k+1) (-1))\/(k=cs.length/\err=E/\ch=0/\Rd w rb s cs.length (-1))
def Str (s:ByteArray) (cs:List Nat):Prop:=s.size=cs.length/\∀ (k:Nat) (h:k<s.size),s[k].toNat=cs.getD k 0
theorem readNext (cs:List Nat) (rb m:Nat) (s:ByteArray) (pv:Int) (E:Value) (w:World) (h:Rd w rb s m pv) (hs:Str s cs) (hm:m<=cs.length) (hl:cs.length<1000000) (he:w.cell? ⟨2,0,.none⟩=some E) (hb:rb≠2) :
 Calls Tryz.prog 314 #[ptr rb] w (λe w'=>∃ err ch,e=.returned (.tuple #[.int .u8 (ch:Nat),err])/\w.grownBy w' (some rb)/\NX cs rb s E m w' err ch):=by
 rcases Nat.lt_or_ge m cs.length with h1|h1
 . refine(readB rb m s pv w h (by rw[hs.1];exact h1) (by rw[hs.1];exact hl)).mono ?_
   rintro e w' ⟨he,hg,hr⟩
   exact⟨_,_,he,hg,.inl ⟨h1,rfl,hs.2 m _,hr⟩⟩
 . obtain rfl:m=cs.length:=by omega
   rw[<-hs.1] at h
   refine(readEOF rb s pv w E h he hb).mono ?_
   rintro e w' ⟨he,hg,hr⟩
   rw[hs.1] at hr
   exact⟨E,0,he,hg,.inr ⟨rfl,rfl,rfl,hr⟩⟩
end Go.Proofs.YtohhkjamddojmaaGreatDoor.Big
