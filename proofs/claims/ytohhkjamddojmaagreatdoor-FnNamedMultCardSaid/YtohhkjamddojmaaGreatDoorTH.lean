/- A function's point as ints; a panic would be told. To a twist and back, as a user calls them. Blocks that are kept, more of it; bytes that are owned; new Ints of bytes. The bytes of numbers of several words. Bytes of an Int of several words. Reading the bytes of a string. Powers of 16 as words; words turned end for end. -/
import Derived.Test.YtohhkjamddojmaaGreatDoorTA
import Derived.Recover
import Derived.Test.YtohhkjamddojmaaGreatDoorSB
import Derived.Test.YtohhkjamddojmaaGreatDoorNB
namespace Go.Proofs.YtohhkjamddojmaaGreatDoor.Big
open Go.RowKit
attribute [local go_sem] ptr
section
variable {R : Nat → Prop} {w0 w w' : World} {L L' : List (Nat × Int)}
theorem Own.nil (h:Own R w0 w L):Own R w0 w []:=h.pick [] List.nodup_nil (by intro i hi;cases hi)
theorem Own.turned (h:Own R w0 w L) (hk:Kept R w w'):Own R w0 w' []:=by
 obtain⟨ps,qs,hf⟩:=h.ints
 exact h.step (L':=[]) (zs:=[]) (vs:=[]) ⟨[],[],⟨λk hr=>Nat.lt_of_lt_of_le (hf.old k hr) hk.size,rfl,rfl,rfl,λi z v p q h1=>by simp at h1,λi z p h1=>by simp at h1,λi j z h1=>by simp at h1,λi j p q b h1=>by simp at h1,λi j z p h1=>by simp at h1⟩⟩ hk rfl rfl
theorem Own.fresh (h:Own R w0 w L):¬R w.heap.size:=λe=>by
 obtain⟨ps,qs,hf⟩:=h.ints
 have:=hf.old _ e;omega
theorem block_free {w:World} {b o:Nat} {cs:Array Value} {T:TypeId} (h:w.heap[b]? = some (.cells cs T (0,0))):w.frozen? ⟨b,o,.none⟩=false:=by
 unfold World.frozen?
 rw[h]
 simp
theorem set_self {w:World} {b:Nat} {v v':Value} {T:TypeId} (h:w.heap[b]? = some (.cells #[v] T)):(w.setCell ⟨b,0,.none⟩ v').heap[b]? = some (.cells #[v'] T):=by
 simp only[World.setCell,Array.getElem?_modify,if_true];rw[h];simp
theorem set_other {w:World} {b k:Nat} {v:Value} {o:Obj} (h:w.heap[k]? = some o) (hk:k≠b):(w.setCell ⟨b,0,.none⟩ v).heap[k]? = some o:=by
 rw[Below.heap_setCell w ⟨b,0,.none⟩ v k hk,h]
theorem kept_set {R:Nat->Prop} {w:World} {b:Nat} {v:Value} (hb:¬R b):Kept R w (w.setCell ⟨b,0,.none⟩ v):=(Grow.of (zzw w b 0 v)).weaken (λk _ e=>by cases e;exact hb)
theorem three {w:World} {b:Nat} {x y:Value} {X Y Z:Value} {z:Value} {S T U:TypeId} (h0:w.heap[b]? = some (.cells #[x] S)) (h1:w.heap[b+1]? = some (.cells #[y] T)) (h2:w.heap[b+1+1]? = some (.cells #[z] U)) :
 (w.cell? ⟨b,0,.none⟩=some x/\w.frozen? ⟨b,0,.none⟩=false) ∧
 ((w.setCell ⟨b,0,.none⟩ X).cell? ⟨b+1,0,.none⟩=some y/\(w.setCell ⟨b,0,.none⟩ X).frozen? ⟨b+1,0,.none⟩=false) ∧
 (((w.setCell ⟨b,0,.none⟩ X).setCell ⟨b+1,0,.none⟩ Y).cell? ⟨b+1+1,0,.none⟩=some z/\((w.setCell ⟨b,0,.none⟩ X).setCell ⟨b+1,0,.none⟩ Y).frozen? ⟨b+1+1,0,.none⟩=false) ∧
 ((((w.setCell ⟨b,0,.none⟩ X).setCell ⟨b+1,0,.none⟩ Y).setCell ⟨b+1+1,0,.none⟩ Z).cell? ⟨b,0,.none⟩=some X/\(((w.setCell ⟨b,0,.none⟩ X).setCell ⟨b+1,0,.none⟩ Y).setCell ⟨b+1+1,0,.none⟩ Z).cell? ⟨b+1,0,.none⟩=some Y/\(((w.setCell ⟨b,0,.none⟩ X).setCell ⟨b+1,0,.none⟩ Y).setCell ⟨b+1+1,0,.none⟩ Z).cell? ⟨b+1+1,0,.none⟩=some Z):=
 ⟨⟨zzv h0 rfl,block_free h0⟩,⟨zzv (set_other h1 (by omega)) rfl,block_free (set_other h1 (by omega))⟩,
  ⟨zzv (set_other (set_other h2 (by omega)) (by omega)) rfl,block_free (set_other (set_other h2 (by omega)) (by omega))⟩,
  ⟨zzv (set_other (set_other (set_self h0) (by omega)) (by omega)) rfl,zzv (set_other (set_self (set_other h1 (by omega))) (by omega)) rfl,zzv (set_self (set_other (set_other h2 (by omega)) (by omega))) rfl⟩⟩
end
end Go.Proofs.YtohhkjamddojmaaGreatDoor.Big
namespace Go.Proofs.YtohhkjamddojmaaGreatDoor.Big
open Go.RowKit
attribute [local go_sem] ptr
attribute [local irreducible] Sz
section
variable {R : Nat → Prop} {w0 w w' : World} {L L' : List (Nat × Int)}
end
end Go.Proofs.YtohhkjamddojmaaGreatDoor.Big

namespace Go.Proofs.YtohhkjamddojmaaGreatDoor.Big
open Go.RowKit
attribute [local go_sem] ptr
section
variable {R : Nat → Prop} {w0 w w' : World} {L L' : List (Nat × Int)}
theorem Own.grownN (h:Own R w0 w L) (hg:w.grownBy w' .none):Own R w0 w' L:=
 h.step (h.ints.same ((Grow.of hg).weaken (λ_ _ e=>by cases e))) ((Grow.of hg).weaken (λ_ _ e=>by cases e)) rfl rfl
theorem Own.widen (h:Own R w0 w L) {R':Nat->Prop} (hR:∀ k,R k->R' k) (hb:∀ k,R' k->k<w.heap.size):Own R' w w []:=
 ⟨⟨[],[],⟨hb,rfl,rfl,rfl,λi z v p q h1=>by simp at h1,λi z p h1=>by simp at h1,λi j z h1=>by simp at h1,λi j p q b h1=>by simp at h1,λi j z p h1=>by simp at h1⟩⟩,Kept.refl _ _,h.tab,λk hk=>hR k (h.low k hk)⟩
theorem Own.old (h:Own R w0 w L) {k:Nat} (hk:R k):k<w.heap.size:=by
 obtain⟨ps,qs,hf⟩:=h.ints
 exact hf.old k hk
theorem greatO (h:Own R w0 w L) (kb ko kc:Nat) (ks:List Nat) (hRk:R kb)
 (hk:∀ i,i<ks.length->w.cell? ⟨kb,ko+i,.none⟩=some (.int .u8 (ks.getD i 0:Nat))) (hks:∀ i,ks.getD i 0<256) (hn:ks.length<=700000) (hc:ks.length<=kc) :
 Calls Tryz.prog 61 #[.slice (some ⟨kb,ko,.none⟩) ks.length kc] w (NewO R w0 (bev ks:Int) L):=by
 obtain⟨hN,hR⟩:=h.new
 have hk2:∀ i,i<ks.length->(w.alloc (.cells #[.bool false,.slice .none 0 0] 172)).cell? ⟨kb,ko+i,.none⟩=some (.int .u8 (ks.getD i 0:Nat)):=λi hi=>(h.since.box (.cells #[.bool false,.slice .none 0 0] 172)).kept.cell hRk (hk i hi)
 have HC:=Lz (setBytesO hN 0 kb ko kc ks rfl hR hRk hk2 hks hn hc)
 have HR:=Lz hR
 clear h hN hR hk hk2 hks hn hc hRk
 unfold ptr at *
 go_enter Tryz.func61,Tryz.ntmps61
 go_wp2_with fail
 refine HC.out.mono ?_
 rintro e w1 ⟨rfl,h1⟩
 have H1:=Lz h1
 clear h1
 go_wp2_with fail
 go_ret
 exact⟨_,rfl,H1.out,HR.out⟩
end
end Go.Proofs.YtohhkjamddojmaaGreatDoor.Big

set_option maxRecDepth 100000
set_option maxHeartbeats 16000000
namespace Go.Proofs.YtohhkjamddojmaaGreatDoor.Big
open Go.RowKit
attribute [local go_sem] ptr
theorem dg_at:∀ (k n:Nat),(dg n).getD k 0=n/B64^k%B64
 | 0,n=>by
  by_cases h:n=0
  . subst h;rw[zyv];simp
  . rw[dg_pos h];simp
 | k+1,n=>by
  by_cases h:n=0
  . subst h;rw[zyv];simp
  . rw[dg_pos h,List.getD_cons_succ,dg_at k (n/B64),Nat.div_div_eq_div_mul,Nat.pow_succ,Nat.mul_comm]
def BytB (w:World) (b:Nat) (ks:List Nat):Prop:=w.heap[b]? = some (.cells ((ks.map u8v).toArray) 5 (0,0))
theorem BytB.cell {w:World} {b:Nat} {cs:List Nat} (h:BytB w b cs) (i:Nat) (hi:i<cs.length):w.cell? ⟨b,i,none⟩=some (.int .u8 (cs.getD i 0:Nat)):=by
 unfold BytB at h
 simp only[World.cell?,h]
 simp[u8v,hi,List.getD]
theorem BytB.free {w:World} {b:Nat} {cs:List Nat} (h:BytB w b cs) (i:Nat):w.frozen? ⟨b,i,none⟩=false:=by
 unfold BytB at h
 simp[World.frozen?,h]
theorem BytB.set {w:World} {b:Nat} {cs:List Nat} (h:BytB w b cs) (i v:Nat):BytB (w.setCell ⟨b,i,none⟩ (.int .u8 (v:Nat))) b (cs.set i v):=by
 unfold BytB at *
 simp only[World.setCell,Array.getElem?_modify,if_true]
 rw[h]
 simp[u8v]
theorem set_last {i v:Nat} (ts:List Nat):(List.replicate (i+1) 0++ts).set i v=List.replicate i 0++(v :: ts):=by
 rw[List.replicate_succ',List.append_assoc,List.set_append,if_neg (by rw[List.length_replicate];omega),List.length_replicate,Nat.sub_self]
 rfl
theorem bev_zero_drop {ts:List Nat} {i:Nat} (h:i<ts.length) (h0:ts.getD i 0=0):bev (ts.drop (i+1))=bev (ts.drop i):=by
 rw[List.drop_eq_getElem_cons h,bev_cons]
 have:ts[i]=0:=by simpa [List.getD,h] using h0
 rw[this,Nat.zero_mul,Nat.zero_add]
theorem byte_of {n wI j:Nat}:n/B64^wI%B64/256^j%256=n/256^(8*wI+j)%256\/8<=j:=by
 rcases Nat.lt_or_ge j 8 with h|h
 . left
   have e1:B64^wI=256^(8*wI):=by rw[Nat.pow_mul];rfl
   rw[e1,Nat.pow_add,<-Nat.div_div_eq_div_mul]
   generalize n/256^(8*wI)=m
   have e2:B64=256^j*256^(8-j):=by rw[<-Nat.pow_add,show j+(8-j)=8 by omega];rfl
   rw[e2,Nat.mod_mul_right_div_self,show 8-j=(7-j)+1 by omega,Nat.pow_succ]
   rw[Nat.mod_mul_left_mod]
 . right;exact h
def NatBy (g n l:Nat) (w:World) (e:Ending) (w':World):Prop:=
 ∃ (i:Nat) (ts:List Nat),e=.returned (.int .i64 i)/\BytB w' g ts/\ts.length=8*l/\i<=8*l/\bev (ts.drop i)=n/\(∀ t∈ts,t<256)/\(i<8*l->ts.getD i 0≠0)/\w.grownBy w' (some g)
theorem nat_bytes (p:Option Addr) (g n l c:Nat) (w:World) (hl:l=(dg n).length) (hl6:l<=10000) (hc:l<=c) (hg:BytB w g (List.replicate (8*l) 0)) (hp:0<l->∃ b,p=some ⟨b,0,.none⟩/\b≠g/\∀ i,i<l->w.cell? ⟨b,i,.none⟩=some (wd ((dg n).getD i 0))) :
 Calls Tryz.prog 102 #[.slice p l c,.slice (some ⟨g,0,.none⟩) (8*l) (8*l)] w (NatBy g n l w):=by
 obtain⟨N,hN⟩:∃ N,N=8*l:=⟨_,rfl⟩
 rw[<-hN] at hg ⊢
 have H:=Lz (And.intro hl (And.intro hl6 (And.intro hN hp)))
 have HB:=Lz hg
 have hc1:(l:Int)<=c:=by omega
 clear hl hl6 hN hp hg
 go_enter Tryz.func102,Tryz.ntmps102
 go_wp2_with fail
 go_loopw [4,12] (λs4 s12 wr=>∃ (wI i:Nat) (ts:List Nat),s4=.int .i64 (i:Nat)/\s12=.int .i64 (wI:Nat)/\BytB wr g (List.replicate i 0++ts)/\w.grownBy wr (some g)/\RowKit.Hid (wI<=l/\i+8*wI=N/\ts.length=8*wI/\(∀ t∈ts,t<256)/\bev ts=n%256^(8*wI))) (λ_ s12 _=>((l:Int)-intOf s12).toNat)
 case atStart=>exact⟨0,N,[],rfl,rfl,by rw[List.append_nil];exact HB.out,World.grownBy.refl _ _,⟨Nat.zero_le _,rfl,rfl,(λt ht=>by cases ht),by simp[bev,Nat.mod_one]⟩⟩
 case round=>
  obtain⟨wI,i,ts,rfl,rfl,hb,hg,HR⟩:=hrel
  have HBB:=Lz hb
  have HG:=Lz hg
  by_cases hw:wI<l
  . have i1:(wI:Int)<l:=by omega
    obtain⟨b,rfl,hbg,hcell⟩:=H.out.2.2.2 (by omega)
    have ck:=hg.cell (hcell wI hw) (λhh=>hbg (Option.some.inj hh))
    obtain⟨d,hd⟩:∃ d,d=(dg n).getD wI 0:=⟨_,rfl⟩
    rw[<-hd] at ck
    have HD:=Lz (show d=n/B64^wI%B64 from by rw[hd];exact dg_at wI n)
    have hck:wr.cell? ⟨b,wI,.none⟩=some (.int .u64 (d:Nat)):=ck
    have hwL:=hw
    clear hd hcell hw ck hb hg
    go_wp2_with fail
    have HW1:=Lz hwL
    have HR1:=Lz HR.out
    have HDB:=Lz (show d<B64 from by rw[HD.out];exact Nat.mod_lt _ zxw)
    clear HR
    go_loopw [4,6,7] (λs4 s6 s7 wq=>∃ (j e i2:Nat) (t2:List Nat),s4=.int .i64 (i2:Nat)/\s6=.int .u64 (e:Nat)/\s7=.int .i64 (j:Nat)/\BytB wq g (List.replicate i2 0++t2)/\w.grownBy wq (some g)/\RowKit.Hid (j<=8/\i2+(8*wI+j)=N/\t2.length=8*wI+j/\(∀ t∈t2,t<256)/\bev t2=n%256^(8*wI+j)/\e=d/256^j)) (λ_ _ s7 _=>((8:Int)-intOf s7).toNat)
    case atStart=>exact⟨0,d,i,ts,rfl,rfl,rfl,HBB.out,HG.out,⟨by omega,by have:=HR1.out;omega,HR1.out.2.2.1,HR1.out.2.2.2.1,HR1.out.2.2.2.2,by simp⟩⟩
    case round=>
     obtain⟨j,e,i2,t2,rfl,rfl,rfl,hb,hg,HR⟩:=hrel
     have HBQ:=Lz hb
     have HGQ:=Lz hg
     by_cases hj:j<8
     . have j1:(j:Int)<8:=by omega
       obtain⟨k,hk⟩:∃ k,i2=k+1:=⟨i2-1,by have:=HR.out;have:=H.out;have:=HR1.out;omega⟩
       subst hk
       have k1:(k:Int)<N:=by have:=HR.out;omega
       have kB:k<=80000:=by have:=HR.out;have:=H.out;omega
       have W1:=Lz (show wrap64 (((k+1:Nat):Int)-1)=(k:Int) from wrapN (by omega) (by omega))
       have W2:=Lz (show(((k+1:Nat):Int)-1)=(k:Int) from by omega)
       have fk:=hb.free k
       have hce:=hb.cell k (by rw[List.length_append,List.length_replicate];omega)
       obtain⟨v,hv⟩:∃ v,v=e%256:=⟨_,rfl⟩
       have V1:=Lz (show IntKind.u8.wrap (e:Int)=(v:Int) from by rw[IntKind.wrap_u8,hv];omega)
       have V2:=Lz (show(e:Int)%256=(v:Int) from by rw[hv];omega)
       obtain⟨e2,he2⟩:∃ q,q=e/256:=⟨_,rfl⟩
       have V3:=Lz (show(e:Int)/256=(e2:Int) from by rw[he2];omega)
       have HN:=Lz (show j+1<=8/\k+(8*wI+(j+1))=N/\(v :: t2).length=8*wI+(j+1)/\(∀ t∈v :: t2,t<256)/\bev (v :: t2)=n%256^(8*wI+(j+1))/\e2=d/256^(j+1) from by
        obtain⟨r1,r2,r3,r4,r5,r6⟩:=HR.out
        refine⟨hj,by omega,by rw[List.length_cons,r3];omega,?_,?_,by rw[he2,r6,Nat.div_div_eq_div_mul,Nat.pow_succ]⟩
        . intro t ht
          rcases List.mem_cons.1 ht with rfl|ht
          . rw[hv];exact Nat.mod_lt _ (by decide)
          . exact r4 t ht
        . have hbo:=(byte_of (n:=n) (wI:=wI) (j:=j)).resolve_right (by omega)
          rw[<-HD.out,<-r6,<-hv] at hbo
          rw[bev_cons,r3,r5,hbo,show 8*wI+(j+1)=(8*wI+j)+1 by omega,Nat.pow_succ,Nat.mod_mul]
          rw[Nat.mul_comm,Nat.add_comm])
       have HBS:=Lz (show BytB (wr.setCell ⟨g,k,.none⟩ (.int .u8 (v:Nat))) g (List.replicate k 0++(v :: t2)) from by
        have:=hb.set k v
        rw[set_last] at this
        exact this)
       have HGS:=Lz (hg.trans (zzw wr g k (.int .u8 (v:Nat))))
       have q1:=W1.out
       have q2:=W2.out
       have q3:=V1.out
       have q4:=V2.out
       have q5:=V3.out
       clear hb hg hv he2 HR hj
       go_wp2_with fail
       go_roundw
       case rel=>exact⟨j+1,e2,k,v :: t2,by first|rfl|go_num,by first|rfl|exact congrArg (Value.int .u64) V3.out,by first|rfl|go_num,HBS.out,HGS.out,HN.out⟩
       case measure=>
        have:=HN.out.1
        simp only[intOf]
        omega
     . have j1:¬(j:Int)<8:=by omega
       have HN:=Lz (show wI+1<=l/\i2+8*(wI+1)=N/\t2.length=8*(wI+1)/\(∀ t∈t2,t<256)/\bev t2=n%256^(8*(wI+1)) from by
        obtain⟨r1,r2,r3,r4,r5,r6⟩:=HR.out
        have h8:j=8:=by omega
        have hl:=HW1.out
        refine⟨by omega,by omega,by omega,r4,by rw[r5,h8];rfl⟩)
       have q9:wrap64 ((wI:Int)+1)=((wI+1:Nat):Int):=wrapN (by omega) (by have:=H.out;have:=HW1.out;omega)
       clear hb hg HR hj
       go_wp2_with fail
       try simp only[q9]
       go_roundw
       case rel=>exact⟨wI+1,i2,t2,rfl,by first|rfl|go_num,HBQ.out,HGQ.out,HN.out⟩
       case measure=>
        have:=HN.out.1
        simp only[intOf]
        first|omega|(rw[show wrap64 ((wI:Int)+1)=((wI+1:Nat):Int) from wrapN (by omega) (by have:=H.out;omega)];omega)
  . have i1:¬(wI:Int)<l:=by omega
    obtain⟨r1,r2,r3,r4,r5⟩:=HR.out
    obtain⟨h1,h2,h3,h4⟩:=H.out
    have hw':wI=l:=by omega
    have hi0:i=0:=by omega
    subst hi0
    have hlt:n<256^(8*l):=by
     have:=(dg_length (n:=n) (k:=l)).1 (by omega)
     rwa [show B64=256^8 from rfl,<-Nat.pow_mul] at this
    have HT:=Lz (show ts.length=N/\(∀ t∈ts,t<256)/\bev ts=n from⟨by omega,r4,by rw[r5,hw',Nat.mod_eq_of_lt hlt]⟩)
    have HBQ:=Lz (show BytB wr g ts from hb)
    clear r1 r2 r3 r4 r5 h1 h2 h3 h4 hw' hlt hb hg hw HR HBB
    go_wp2_with fail
    go_loopw [4] (λs4 wq=>∃ i:Nat,s4=.int .i64 (i:Nat)/\wq=wr/\RowKit.Hid (i<=N/\bev (ts.drop i)=n)) (λs4 _=>((N:Int)-intOf s4).toNat)
    case atStart=>exact⟨0,rfl,rfl,⟨Nat.zero_le _,HT.out.2.2⟩⟩
    case round=>
     obtain⟨i,rfl,rfl,HQ⟩:=hrel
     by_cases hi:i<N
     . have i2:(i:Int)<N:=by omega
       have ck:=HBQ.out.cell i (by rw[HT.out.1];exact hi)
       obtain⟨t,ht⟩:∃ t,t=ts.getD i 0:=⟨_,rfl⟩
       rw[<-ht] at ck
       by_cases h0:t=0
       . subst h0
         have HN:=Lz (show i+1<=N/\bev (ts.drop (i+1))=n from⟨hi,by rw[bev_zero_drop (by rw[HT.out.1];exact hi) ht.symm];exact HQ.out.2⟩)
         have q9:wrap64 ((i:Int)+1)=((i+1:Nat):Int):=wrapN (by omega) (by have:=H.out;omega)
         clear ht hi
         go_wp2_with fail
         try simp only[q9]
         go_roundw
         case rel=>exact⟨i+1,by first|rfl|go_num,by first|rfl|trivial,HN.out⟩
         case measure=>
          have:=HN.out.1
          simp only[intOf]
          first|omega|(rw[show wrap64 ((i:Int)+1)=((i+1:Nat):Int) from wrapN (by omega) (by have:=H.out;omega)];omega)
       . have b0:((t:Int)==0)=false:=by rw[beq_eq_false_iff_ne];omega
         have HE:=Lz (show NatBy g n l w (.returned (.int .i64 i)) wr from⟨i,ts,rfl,HBQ.out,by have:=H.out;have:=HT.out;omega,by have:=H.out;omega,HQ.out.2,HT.out.2.1,λ_=>by rw[<-ht];exact h0,HG.out⟩)
         clear ht hi h0
         go_wp2_with fail
         go_ret
         exact HE.out
     . have i2:¬(i:Int)<N:=by omega
       have HE:=Lz (show NatBy g n l w (.returned (.int .i64 i)) wr from⟨i,ts,rfl,HBQ.out,by have:=H.out;have:=HT.out;omega,by have:=H.out;have:=HQ.out;omega,HQ.out.2,HT.out.2.1,λhh=>by have:=H.out;omega,HG.out⟩)
       clear hi
       go_wp2_with fail
       go_ret
       exact HE.out
end Go.Proofs.YtohhkjamddojmaaGreatDoor.Big

set_option maxRecDepth 100000
set_option maxHeartbeats 16000000
namespace Go.Proofs.YtohhkjamddojmaaGreatDoor.Big
open Go.RowKit
attribute [local go_sem] ptr
theorem mkU (w:World) {N:Nat} (hN:N<=4000000):(Instr.makeSlice 25 (.int .i64 (N:Int)) (.int .i64 (N:Int))).run Tryz.prog w=.ok (.slice (some ⟨w.heap.size,0,.none⟩) N N) (w.alloc (.cells (((List.replicate N 0).map u8v).toArray) 5)):=by
 obtain⟨i0,hi,hz0,hz1,hz2⟩:=info_parts info5
 have h:=run_make (P:=Tryz.prog) w 25 5 i0 (.int .u8 0) Tryz.underlying25 hi hz0 .i64 .i64 (N:Int) (N:Int) (by omega) (Int.le_refl _) (by rw[hz2];omega) (by omega)
 have e:madeCells (Value.int .u8 0).cells (Int.toNat (N:Int)*1)=((List.replicate N 0).map u8v).toArray:=by
  apply Array.toList_inj.1
  rw[Int.toNat_natCast,Nat.mul_one]
  rw[show(madeCells (Value.int IntKind.u8 0).cells N).toList=List.replicate N (u8v 0) from toList_madeCells_one _ _]
  rw[List.map_replicate]
 rw[h,hz1,e,Int.toNat_natCast]
section
variable {R : Nat → Prop} {w0 w w' : World} {L L' : List (Nat × Int)}
theorem Own.pokeGB (h:Own R w0 w L) {c:Nat} {cs:Array Value} {T:TypeId} (hc:w.heap[c]? = some (.cells cs T)) (h1:T≠172) (h2:T≠199) (h8:8<=c) (hg:w.grownBy w' (some c)) :
 Own R w' w' L:=by
 obtain⟨ps,qs,hf⟩:=h.ints
 refine⟨⟨ps,qs,⟨λk hk=>Nat.lt_of_lt_of_le (hf.old k hk) hg.size,hf.lenV,hf.lenP,hf.lenQ,λi z v p q e1 e2 e3 e4=>?_,hf.own,hf.zz,hf.pp,hf.zp⟩⟩,Kept.refl _ _,h.tab.kept hg (λb e=>by have:=Option.some.inj e;omega),h.low⟩
 have one:=hf.one i z v p q e1 e2 e3 e4
 refine one.grow (Grow.of hg) ?_ ?_
 . intro e
   have e:=Option.some.inj e
   subst e
   have:=one.str
   unfold StrB at this
   rw[hc] at this
   have:=Option.some.inj this
   injection this with _ e2 _
   exact h1 e2
 . intro b hb e
   have e:=Option.some.inj e
   subst e
   rcases one.num.buf.1 with⟨e3,_⟩|⟨b',e3,hN⟩
   . rw[e3] at hb;cases hb
   . rw[e3] at hb
     have:=Option.some.inj hb
     subst this
     unfold NatB at hN
     rw[hc] at hN
     have:=Option.some.inj hN
     injection this with _ e2 _
     exact h2 e2
theorem Own.pokeNB (h:Own R w0 w L) {c:Nat} {cs:Array Value} {T:TypeId} (hc:w.heap[c]? = some (.cells cs T)) (h1:T≠172) (h2:T≠199) (hR:¬R c) (hg:w.grownBy w' (some c)) :
 Own R w0 w' L:=by
 have h8:8<=c:=Nat.le_of_not_lt (λe=>hR (h.low c e))
 have p:=h.pokeGB hc h1 h2 h8 hg
 exact⟨p.ints,h.kept.trans ((Grow.of hg).weaken (λk _ e hk=>hR (by have:=Option.some.inj e;exact this ▸ hk))),p.tab,h.low⟩
def BytN (R:Nat->Prop) (w0:World) (L:List (Nat×Int)) (n:Nat) (e:Ending) (w':World):Prop:=
 ∃ (g o:Nat) (ks:List Nat),e=.returned (.slice (some ⟨g,o,.none⟩) ks.length ks.length)/\Own R w0 w' L/\Own (RO R g) w' w' L/\(∀ i,i<ks.length->w'.cell? ⟨g,o+i,.none⟩=some (.int .u8 (ks.getD i 0:Nat)))/\(∀ i,ks.getD i 0<256)/\bev ks=n/\(0<ks.length->ks.getD 0 0≠0)/\ks.length<=8*(dg n).length/\w.heap.size<=g
theorem intBytesN (h:Own R w0 w L) (j:Nat) {x:Nat} (n:Nat) (hj:L[j]? = some (x,(n:Int))) (hn:(dg n).length<=10000) :
 Calls Tryz.prog 57 #[ptr x] w (BytN (w:=w) R w0 L n):=by
 obtain⟨l,hl⟩:∃ l,l=(dg n).length:=⟨_,rfl⟩
 obtain⟨N,hN⟩:∃ N,N=8*l:=⟨_,rfl⟩
 have hb:=h.box (.cells (((List.replicate N 0).map u8v).toArray) 5)
 have n0:=heap_alloc_new w (.cells (((List.replicate N 0).map u8v).toArray) 5)
 have g1:=h.guard (.cells (((List.replicate N 0).map u8v).toArray) 5)
 have hRg:¬R w.heap.size:=λe=>by have:=h.old e;omega
 have hg8:8<=w.heap.size:=Nat.le_of_not_lt (λe=>hRg (h.low _ e))
 obtain⟨ps,qs,hf⟩:=h.ints
 obtain⟨a',px,dx,ha',hpx,hqx,ox⟩:=hf.at (at1 hj)
 obtain rfl:(n:Int)=a':=by rw[at2 hj] at ha';exact Option.some.inj ha'
 have hx1:=ox.str.cell1
 have hNum:=ox.num
 rw[Int.natAbs_natCast,<-hl] at hx1
 rw[Int.natAbs_natCast] at hNum
 have hle:l<=dx.length:=by rw[hl];exact hNum.le
 have hbw:BytB (w.alloc (.cells (((List.replicate N 0).map u8v).toArray) 5)) w.heap.size (List.replicate N 0):=n0
 have ga:=zzy w (.cells (((List.replicate N 0).map u8v).toArray) 5) .none
 have HB:=Lz (nat_bytes px w.heap.size n l dx.length (w.alloc (.cells (((List.replicate N 0).map u8v).toArray) 5)) hl (by omega) hle (by rw[<-hN];exact hbw) (λh0=>by
  obtain⟨b,hb,hNB,hc⟩:=hNum.cell (by omega)
  refine⟨b,hb,?_,λi hi=>ga.cell (hc i (by omega)) (by simp)⟩
  have:=hNB.lt
  omega))
 rw[<-hN] at HB
 have hx2:=ga.cell hx1 (by simp)
 have HH:=Lz (And.intro hb (And.intro n0 (And.intro g1 (And.intro hRg (And.intro hg8 (And.intro hl hN))))))
 have hN8:N<=80000:=by omega
 have hm:=mkU w (N:=N) (by omega)
 have W0:wrap64 ((l:Int)*8)=(N:Int):=wrapN (by omega) (by omega)
 clear h hf hj ha' hpx hqx ox hNum hb n0 g1 hRg hg8 hl hn hbw ga hle
 generalize hwa:w.alloc (.cells (((List.replicate N 0).map u8v).toArray) 5)=wa at *
 unfold ptr
 go_enter Tryz.func57,Tryz.ntmps57
 clear hN
 go_wp2_with fail
 refine HB.out.mono ?_
 rintro e w1 ⟨i,ts,rfl,h1,h2,h3,h4,h5,h6,h7⟩
 have H1:=Lz (And.intro h1 (And.intro h2 (And.intro h3 (And.intro h4 (And.intro h5 (And.intro h6 h7))))))
 have iN:(i:Int)<=N:=by have:=HH.out.2.2.2.2.2.2;omega
 have iN':i<=N:=by omega
 clear h1 h2 h3 h4 h5 h6 h7 W0 hm HB
 have HE:=Lz (show ∀ (o:Nat) (ks:List Nat),ks=ts.drop i->(o=i\/ks = [])->BytN (w:=w) R w0 L n (.returned (.slice (some ⟨w.heap.size,o,.none⟩) ks.length ks.length)) w1 from λo ks hks ho=>by
  obtain⟨hb,n0,g1,hRg,hg8,hl,hN⟩:=HH.out
  obtain⟨h1,h2,h3,h4,h5,h6,h7⟩:=H1.out
  have hO:=hb.pokeNB n0 (by decide) (by decide) hRg h7
  have hP:=g1.pokeGB n0 (by decide) (by decide) hg8 h7
  refine⟨w.heap.size,o,ks,rfl,hO,hP,λk hk=>?_,λk=>?_,by rw[hks];exact h4,λh0=>?_,by rw[hks,List.length_drop];omega,Nat.le_refl _⟩
  . rcases ho with rfl|rfl
    . rw[hks] at hk ⊢
      rw[List.length_drop] at hk
      rw[h1.cell (o+k) (by omega)]
      congr 3
      simp[List.getD,List.getElem?_drop]
    . simp at hk
  . rw[hks]
    simp only[List.getD,List.getElem?_drop]
    rcases Nat.lt_or_ge (i+k) ts.length with h|h
    . rw[List.getElem?_eq_getElem h]
      exact h5 _ (List.getElem_mem h)
    . rw[List.getElem?_eq_none h];exact Nat.zero_lt_succ _
  . rw[hks] at h0 ⊢
    rw[List.length_drop] at h0
    have:=h6 (by omega)
    simpa [List.getD,List.getElem?_drop] using this)
 have hlen:(ts.drop i).length=N-i:=by rw[List.length_drop];have:=H1.out.2.1;have:=HH.out.2.2.2.2.2.2;omega
 by_cases hiN:N=i
 . have h0:ts.drop i = []:=List.eq_nil_of_length_eq_zero (by omega)
   have H0:=Lz h0
   clear h0 hlen
   go_wp2_with fail
   go_ret
   exact HE.out 0 [] H0.out.symm (.inr rfl)
 . have HL:=Lz hlen
   clear hlen
   go_wp2_with fail
   go_ret
   have:=HE.out i _ rfl (.inl rfl)
   rw[HL.out] at this
   exact this
end
end Go.Proofs.YtohhkjamddojmaaGreatDoor.Big

set_option maxRecDepth 100000
set_option maxHeartbeats 16000000
namespace Go.Proofs.YtohhkjamddojmaaGreatDoor.Big
open Go.RowKit
attribute [local go_sem] ptr
def Rd (w:World) (b:Nat) (s:ByteArray) (i:Nat) (pv:Int):Prop:=w.heap[b]? = some (.cells #[.string s,.int .i64 (i:Nat),.int .i64 pv] 280 (0,0))
theorem Rd.c0 {w:World} {b i:Nat} {s:ByteArray} {pv:Int} (h:Rd w b s i pv):w.cell? ⟨b,0,.none⟩=some (.string s):=by unfold Rd at h;simp[World.cell?,h]
theorem Rd.c1 {w:World} {b i:Nat} {s:ByteArray} {pv:Int} (h:Rd w b s i pv):w.cell? ⟨b,1,.none⟩=some (.int .i64 (i:Nat)):=by unfold Rd at h;simp[World.cell?,h]
theorem Rd.c2 {w:World} {b i:Nat} {s:ByteArray} {pv:Int} (h:Rd w b s i pv):w.cell? ⟨b,2,.none⟩=some (.int .i64 pv):=by unfold Rd at h;simp[World.cell?,h]
theorem Rd.free {w:World} {b i:Nat} {s:ByteArray} {pv:Int} (h:Rd w b s i pv) (k:Nat):w.frozen? ⟨b,k,.none⟩=false:=by unfold Rd at h;simp[World.frozen?,h]
theorem Rd.set1 {w:World} {b i:Nat} {s:ByteArray} {pv:Int} (h:Rd w b s i pv) (j:Nat):Rd (w.setCell ⟨b,1,.none⟩ (.int .i64 (j:Nat))) b s j pv:=by
 unfold Rd at *;simp only[World.setCell,Array.getElem?_modify,if_true];rw[h];simp
theorem Rd.set2 {w:World} {b i:Nat} {s:ByteArray} {pv:Int} (h:Rd w b s i pv) (q:Int):Rd (w.setCell ⟨b,2,.none⟩ (.int .i64 q)) b s i q:=by
 unfold Rd at *;simp only[World.setCell,Array.getElem?_modify,if_true];rw[h];simp
theorem readB (b i:Nat) (s:ByteArray) (pv:Int) (w:World) (h:Rd w b s i pv) (hi:i<s.size) (hs:s.size<1000000) :
 Calls Tryz.prog 314 #[ptr b] w (λe w'=>e=.returned (.tuple #[.int .u8 ((s[i].toNat:Nat):Int),.nilIface])/\w.grownBy w' (some b)/\Rd w' b s (i+1) (-1)):=by
 have c0:=h.c0
 have c1:=h.c1
 have c2:=h.c2
 have f2:=h.free 2
 have f1:=h.free 1
 have H:=Lz h
 clear h
 unfold ptr
 go_enter Tryz.func314,Tryz.ntmps314
 have i1:¬(s.size:Int)<=i:=by omega
 have i2:(i:Int)<s.size:=by omega
 have W1:wrap64 ((i:Int)+1)=((i+1:Nat):Int):=wrapN (by omega) (by omega)
 go_wp2_with fail
 go_quiet (fail)
 go_wp2_with fail
 go_quiet (fail)
 go_wp2_with fail
 simp[bodyPost,results,Tryz.results314,go_sem]
 refine⟨(zzw w b 2 _).trans ((zzz _ _ _).trans (zzw _ b 1 _)),?_⟩
 refine Rd.set1 (i:=i) ?_ (i+1)
 exact H.out.set2 (-1)
theorem readEOF (b:Nat) (s:ByteArray) (pv:Int) (w:World) (E:Value) (h:Rd w b s s.size pv) (he:w.cell? ⟨2,0,.none⟩=some E) (hb:b≠2) :
 Calls Tryz.prog 314 #[ptr b] w (λe w'=>e=.returned (.tuple #[.int .u8 0,E])/\w.grownBy w' (some b)/\Rd w' b s s.size (-1)):=by
 have c0:=h.c0
 have c1:=h.c1
 have c2:=h.c2
 have f2:=h.free 2
 have f1:=h.free 1
 have H:=Lz h
 clear h
 unfold ptr
 go_enter Tryz.func314,Tryz.ntmps314
 have i1:(s.size:Int)<=s.size:=Int.le_refl _
 have hb2:¬2=b:=λe=>hb e.symm
 go_wp2_with fail
 go_quiet (fail)
 go_wp2_with fail
 go_quiet (fail)
 go_wp2_with fail
 simp[bodyPost,results,Tryz.results314,go_sem]
 refine⟨(zzw w b 2 _).trans (zzz _ _ _),?_⟩
 exact H.out.set2 (-1)
theorem unreadB (b i:Nat) (s:ByteArray) (pv:Int) (w:World) (h:Rd w b s (i+1) pv) (hi:i<1000000) :
 Calls Tryz.prog 315 #[ptr b] w (λe w'=>e=.returned .nilIface/\w.grownBy w' (some b)/\Rd w' b s i (-1)):=by
 have c0:=h.c0
 have c1:=h.c1
 have c2:=h.c2
 have f2:=h.free 2
 have f1:=h.free 1
 have H:=Lz h
 have i1:¬((i+1:Nat):Int)<=0:=by omega
 have W1:wrap64 (((i+1:Nat):Int)-1)=(i:Int):=wrapN (by omega) (by omega)
 clear h
 unfold ptr
 go_enter Tryz.func315,Tryz.ntmps315
 go_wp2_with fail
 go_ret
 refine⟨rfl,(zzw w b 2 _).trans (zzw _ b 1 _),?_⟩
 exact Rd.set1 (H.out.set2 (-1)) i
theorem method_rb (a:Addr) (w:World):(method 437 242 (.pointer (some a)) "ReadByte").run Tryz.prog w=.ok (314,.pointer (some a)) w:=by kernel_rfl
theorem ahead_rb (a:Addr) (w:World):(nilAhead 437 242 (.pointer (some a)) "ReadByte").run Tryz.prog w=.ok (some false) w:=by kernel_rfl
theorem method_ub (a:Addr) (w:World):(method 437 242 (.pointer (some a)) "UnreadByte").run Tryz.prog w=.ok (315,.pointer (some a)) w:=by kernel_rfl
theorem ahead_ub (a:Addr) (w:World):(nilAhead 437 242 (.pointer (some a)) "UnreadByte").run Tryz.prog w=.ok (some false) w:=by kernel_rfl
theorem scanSignB (b:Nat) (s:ByteArray) (pv:Int) (w:World) (h:Rd w b s 0 pv) (h0:0<s.size) (hs:s.size<1000000) (n1:s[0].toNat≠45) (n2:s[0].toNat≠43) :
 Calls Tryz.prog 249 #[.iface 242 (ptr b)] w (λe w'=>e=.returned (.tuple #[.bool false,.nilIface])/\w.grownBy w' (some b)/\Rd w' b s 0 (-1)):=by
 have C1:=Lz (readB b 0 s pv w h h0 hs)
 have C2:=Lz (λw1 (h1:Rd w1 b s 1 (-1))=>unreadB b 0 s (-1) w1 h1 (by decide))
 obtain⟨c,hc⟩:∃ c,c=s[0].toNat:=⟨_,rfl⟩
 rw[<-hc] at C1 n1 n2
 have b1:((c:Int)==45)=false:=by rw[beq_eq_false_iff_ne];omega
 have b2:((c:Int)==43)=false:=by rw[beq_eq_false_iff_ne];omega
 have m1:=method_rb ⟨b,0,.none⟩
 have m2:=ahead_rb ⟨b,0,.none⟩
 have m3:=method_ub ⟨b,0,.none⟩
 have m4:=ahead_ub ⟨b,0,.none⟩
 clear h hc
 unfold ptr at *
 go_enter Tryz.func249,Tryz.ntmps249
 go_wp2_with fail
 refine C1.out.mono ?_
 rintro e w1 ⟨rfl,g1,h1⟩
 have G1:=Lz g1
 have K2:=Lz (C2.out _ h1)
 clear g1 h1 C1
 go_wp2_with fail
 refine K2.out.mono ?_
 rintro e w2 ⟨rfl,g2,h2⟩
 have HE:=Lz (And.intro (G1.out.trans g2) h2)
 clear g2 h2 K2
 go_wp2_with fail
 simp[bodyPost,results,Tryz.results249,go_sem]
 exact HE.out
end Go.Proofs.YtohhkjamddojmaaGreatDoor.Big

set_option maxRecDepth 100000
set_option maxHeartbeats 16000000
namespace Go.Proofs.YtohhkjamddojmaaGreatDoor.Big
open Go.RowKit
theorem and1 (x:Nat) (hx:x<9223372036854775808):bits BinOp.and IntKind.i64 (x:Int) 1=((x%2:Nat):Int):=by
 have e63:(2:Int)^63=9223372036854775808:=by decide
 have h:=bits_mask .i64 63 (by decide) (λn h0 h1=>by rw[e63] at h1;rw[IntKind.wrap_i64];omega) 1 (by decide) (x:Int) (by omega) (by rw[e63];omega)
 have e:((2:Int)^1-1)=1:=by decide
 rw[e] at h
 rw[h]
 omega
theorem u64_mulm (a b:Nat):IntKind.u64.wrap ((a:Int)*(b:Int))=((a*b%B64:Nat):Int):=by
 rw[IntKind.wrap_u64,<-Int.natCast_mul,Int.natCast_emod];rfl
theorem pow16W (n:Nat) (w:World) (hn:n<=15):Calls Tryz.prog 265 #[.int .u64 16,.int .i64 n] w (λe w'=>e=.returned (.int .u64 (16^n:Nat))/\w'=w):=by
 have HN15:=Lz hn
 clear hn
 go_enter Tryz.func265,Tryz.ntmps265
 go_wp2_with fail
 go_loopw [0,1,4] (λs0 s1 s4 wr=>∃ (x m r:Nat),s0=.int .u64 (x:Nat)/\s1=.int .i64 (m:Nat)/\s4=.int .u64 (r:Nat)/\wr=w/\RowKit.Hid (m<=15/\r<B64/\r*x^m%B64=16^n%B64)) (λ_ s1 _ _=>(intOf s1).toNat)
 case atStart=>exact⟨16,n,1,rfl,rfl,rfl,rfl,⟨HN15.out,by decide,by rw[Nat.one_mul]⟩⟩
 case round=>
  obtain⟨x,m,r,rfl,rfl,rfl,rfl,HR⟩:=hrel
  by_cases hm:m=0
  . subst hm
    have HE:=Lz (show r=16^n from by
     obtain⟨-,h2,h3⟩:=HR.out
     have h16:16^n<B64:=Nat.lt_of_le_of_lt (Nat.pow_le_pow_right (by decide) HN15.out) (by decide)
     rw[Nat.pow_zero,Nat.mul_one,Nat.mod_eq_of_lt h2,Nat.mod_eq_of_lt h16] at h3
     exact h3)
    go_wp2_with fail
    go_ret
    exact⟨by rw[HE.out];rfl,rfl⟩
  . have m0:(0:Int)<m:=by omega
    have AN:=Lz (and1 m (by have:=HR.out.1;omega))
    obtain⟨x2,hx2⟩:∃ x2,x2=x*x%B64:=⟨_,rfl⟩
    have XX:=Lz (u64_mulm x x)
    rw[<-hx2] at XX
    obtain⟨m2,hm2⟩:∃ m2,m2=m/2:=⟨_,rfl⟩
    have SH:=Lz (show(m:Int)/2=(m2:Int) from by omega)
    have hmm:(x*x)^m2=x^(2*m2):=by rw[<-Nat.pow_two,<-Nat.pow_mul]
    have hmod:∀ t:Nat,t*x2^m2%B64=t*(x*x)^m2%B64:=λt=>by
     rw[hx2,Nat.mul_mod,Nat.pow_mod,Nat.mod_mod,<-Nat.pow_mod,<-Nat.mul_mod]
    by_cases hodd:m%2=0
    . rw[hodd] at AN
      have HN2:=Lz (show m2<=15/\r<B64/\r*x2^m2%B64=16^n%B64 from by
       obtain⟨r1,r2,r3⟩:=HR.out
       refine⟨by omega,r2,?_⟩
       rw[hmod,hmm,show 2*m2=m by omega]
       exact r3)
      have q1:=AN.out
      have q2:=XX.out
      have q3:=SH.out
      have HML:=Lz (show m2<m by omega)
      clear hm hx2 hm2 hmm hmod hodd
      go_wp2_with fail
      go_roundw
      case rel=>exact⟨x2,m2,r,by first|rfl|exact congrArg (Value.int .u64) XX.out,by first|rfl|exact congrArg (Value.int .i64) SH.out,rfl,by first|rfl|trivial,HN2.out⟩
      case measure=>have:=HML.out;simp only[intOf];omega
    . have ho1:m%2=1:=by omega
      rw[ho1] at AN
      obtain⟨r2,hr2⟩:∃ r2,r2=r*x%B64:=⟨_,rfl⟩
      have RX:=Lz (u64_mulm r x)
      rw[<-hr2] at RX
      have HN2:=Lz (show m2<=15/\r2<B64/\r2*x2^m2%B64=16^n%B64 from by
       obtain⟨q1,q2,q3⟩:=HR.out
       refine⟨by omega,by rw[hr2];exact Nat.mod_lt _ zxw,?_⟩
       rw[hmod,hmm,hr2,Nat.mul_mod,Nat.mod_mod,<-Nat.mul_mod,Nat.mul_assoc,show x*x^(2*m2)=x^m from by rw[<-Nat.pow_succ',show(2*m2).succ=m from by omega]]
       exact q3)
      have q1:=AN.out
      have q2:=XX.out
      have q3:=SH.out
      have q4:=RX.out
      have HML:=Lz (show m2<m by omega)
      clear hm hx2 hm2 hmm hmod hodd ho1 hr2
      go_wp2_with fail
      go_roundw
      case rel=>exact⟨x2,m2,r2,by first|rfl|exact congrArg (Value.int .u64) XX.out,by first|rfl|exact congrArg (Value.int .i64) SH.out,by first|rfl|exact congrArg (Value.int .u64) RX.out,by first|rfl|trivial,HN2.out⟩
      case measure=>have:=HML.out;simp only[intOf];omega
end Go.Proofs.YtohhkjamddojmaaGreatDoor.Big
