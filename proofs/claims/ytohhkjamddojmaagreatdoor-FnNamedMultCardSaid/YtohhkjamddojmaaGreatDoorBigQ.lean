/- Two words divided by one (Knuth's D with half words): 'bitsDiv64'. -/
import Derived.Test.YtohhkjamddojmaaGreatDoorWN
import Derived.Laws.BitsAllLaws
import Derived.Deep.Cut
set_option maxRecDepth 100000
set_option maxHeartbeats 16000000
namespace Go.Proofs.YtohhkjamddojmaaGreatDoor.Big
open Go.RowKit
def H32:Nat:=4294967296
theorem H32_sq:H32*H32=B64:=rfl
structure DG (u d y1 y0 q r:Nat):Prop where
 eq:q*y1+r=u
 le:(u*H32+d)/(y1*H32+y0)<=q
 small:q<=H32+1
theorem DG.start {u d y1 y0:Nat} (hy1:H32<=2*y1) (hy0:y0<H32) (hu:u<y1*H32+y0) (hd:d<H32):DG u d y1 y0 (u/y1) (u-u/y1*y1):=by
 have h1:0<y1:=by unfold H32 at hy1;omega
 have hm:=Nat.div_mul_le_self u y1
 refine⟨by omega,?_,?_⟩
 . rw[Nat.le_div_iff_mul_le h1]
   have h2:=Nat.div_mul_le_self (u*H32+d) (y1*H32+y0)
   generalize (u*H32+d)/(y1*H32+y0)=q at *
   refine Classical.byContradiction λhn=>?_
   have h3:(u+1)*H32<=q*y1*H32:=Nat.mul_le_mul_right _ (by omega)
   have e:q*(y1*H32+y0)=q*y1*H32+q*y0:=by rw[Nat.mul_add,Nat.mul_assoc]
   rw[Nat.add_mul,Nat.one_mul] at h3
   omega
 . refine Classical.byContradiction λhn=>?_
   have h2:(H32+2)*y1<=u:=Nat.le_trans (Nat.mul_le_mul_right _ (by omega)) hm
   rw[Nat.add_mul,Nat.mul_comm H32] at h2
   omega
theorem DG.lt {u d y1 y0:Nat} (hu:u<y1*H32+y0) (hd:d<H32):(u*H32+d)/(y1*H32+y0)<H32:=by
 rw[Nat.div_lt_iff_lt_mul (by omega)]
 have:(u+1)*H32<=(y1*H32+y0)*H32:=Nat.mul_le_mul_right _ hu
 rw[Nat.add_mul,Nat.one_mul] at this
 rw[Nat.mul_comm H32]
 omega
theorem DG.done {u d y1 y0 q r:Nat} (h:DG u d y1 y0 q r) (hy:0<y1*H32+y0) (ht:q*y0<=H32*r+d):q=(u*H32+d)/(y1*H32+y0):=by
 refine Nat.le_antisymm ?_ h.le
 rw[Nat.le_div_iff_mul_le hy,Nat.mul_add,<-Nat.mul_assoc]
 have:=congrArg (· * H32) h.eq
 simp only[Nat.add_mul] at this
 rw[Nat.mul_comm H32 r] at ht
 omega
theorem DG.next {u d y1 y0 q r:Nat} (h:DG u d y1 y0 q r) (hu:u<y1*H32+y0) (hd:d<H32) (ht:H32<=q\/H32*r+d<q*y0):0<q/\DG u d y1 y0 (q-1) (r+y1):=by
 have hlt:(u*H32+d)/(y1*H32+y0)<q:=by
  rcases ht with ht|ht
  . exact Nat.lt_of_lt_of_le (DG.lt hu hd) ht
  . rw[Nat.div_lt_iff_lt_mul (by omega),Nat.mul_add,<-Nat.mul_assoc]
    have:=congrArg (· * H32) h.eq
    simp only[Nat.add_mul] at this
    rw[Nat.mul_comm H32 r] at ht
    omega
 have hq:0<q:=Nat.lt_of_le_of_lt (Nat.zero_le _) hlt
 refine⟨hq,?_,Nat.le_sub_one_of_lt hlt,by have:=h.small;omega⟩
 have e:q*y1=(q-1)*y1+y1:=by
  conv=>lhs;rw[show q=(q-1)+1 by omega]
  rw[Nat.add_mul,Nat.one_mul]
 have:=h.eq
 omega
theorem DG.broke {u d y1 y0 q r:Nat} (h:DG u d y1 y0 q r) (hq:q<=H32) (hy:0<y1*H32+y0) (hy0:y0<H32) (hr:H32<=r):q=(u*H32+d)/(y1*H32+y0):=by
 refine h.done hy ?_
 have h1:q*y0<=H32*H32:=Nat.mul_le_mul hq (by omega)
 have h2:H32*H32<=H32*r:=Nat.mul_le_mul_left _ hr
 omega
/-! ### leading zeros -/
theorem bitLenAux_spec:∀ (f x:Nat),x<2^f->x≠0->1<=Lib.bitLenAux f x/\2^(Lib.bitLenAux f x-1)<=x/\x<2^Lib.bitLenAux f x/\Lib.bitLenAux f x<=f
 | 0,x,h,h0=>by rw[Nat.pow_zero] at h;omega
 | f+1,x,h,h0=>by
  have e:Lib.bitLenAux (f+1) x=1+Lib.bitLenAux f (x/2):=by simp[Lib.bitLenAux,h0]
  rw[e]
  by_cases h2:x/2=0
  . have h1:x=1:=by omega
    subst h1
    have e0:Lib.bitLenAux f (1/2)=0:=by cases f <;> simp[Lib.bitLenAux]
    rw[e0]
    refine⟨by omega,by simp,by simp,by omega⟩
  . obtain⟨h3,h4,h5,h6⟩:=bitLenAux_spec f (x/2) (by rw[Nat.div_lt_iff_lt_mul (by omega),<-Nat.pow_succ];exact h) h2
    generalize Lib.bitLenAux f (x/2)=n at *
    refine⟨by omega,?_,?_,by omega⟩
    . have e2:2^(1+n-1)=2^(n-1)*2:=by rw[<-Nat.pow_succ];congr 1;omega
      rw[e2];omega
    . rw[Nat.add_comm,Nat.pow_succ];omega
theorem lz_spec {y:Nat} (hy:y<B64) (h0:y≠0):∃ s:Nat,(64-(Lib.bitLen y:Int))=(s:Int)/\s<=63/\y*2^s<B64/\B64<=2*(y*2^s):=by
 obtain⟨h1,h2,h3,h4⟩:=bitLenAux_spec 64 y hy h0
 change 1<=Lib.bitLen y at h1
 change 2^(Lib.bitLen y-1)<=y at h2
 change y<2^Lib.bitLen y at h3
 change Lib.bitLen y<=64 at h4
 generalize Lib.bitLen y=n at *
 have e:B64=2^64:=rfl
 refine⟨64-n,by omega,by omega,?_,?_⟩
 . have e2:B64=2^n*2^(64-n):=by rw[e,<-Nat.pow_add];congr 1;omega
   rw[e2]
   exact Nat.mul_lt_mul_of_pos_right h3 (Nat.pow_pos (by omega))
 . have e2:B64=2*(2^(n-1)*2^(64-n)):=by
    rw[e,<-Nat.pow_add,<-Nat.pow_succ'];congr 1;omega
   rw[e2]
   exact Nat.mul_le_mul_left _ (Nat.mul_le_mul_right _ h2)
/-! ### the shifted numbers -/
theorem and_low (x:Nat) (h:x<B64):bits .and .u64 (x:Int) 4294967295=((x%H32:Nat):Int):=by
 have:=u64_and_nat x 4294967295 h (by decide)
 rw[show((4294967295:Nat):Int)=4294967295 from rfl] at this
 rw[this]
 congr 1
 exact Nat.and_two_pow_sub_one_eq_mod x 32
theorem or_add {a b s:Nat} (hs:s<=63) (ha:a*2^s<B64) (hb:b<2^s):bits .or .u64 ((a*2^s:Nat):Int) (b:Int)=((a*2^s+b:Nat):Int):=by
 have h63:2^s<=2^63:=Nat.pow_le_pow_right (by omega) hs
 rw[u64_or_nat _ _ ha (by omega)]
 congr 1
 rw[Nat.mul_comm]
 exact(Nat.two_pow_add_eq_or_of_lt hb a).symm
structure DW (hi lo y s Y U L Y1 Y0 d1 d0:Nat):Prop where
 s63:s<=63
 yv:Y=y*2^s
 uv:(hi*B64+lo)*2^s=U*B64+L
 ll:L<B64
 ul:U<Y
 yb:Y<B64
 y1:Y1*H32+Y0=Y
 y0:Y0<H32
 top:H32<=2*Y1
 l1:d1*H32+d0=L
 l0:d0<H32
 l1h:d1<H32
 wy:IntKind.u64.wrap ((y:Int)*2^s)=(Y:Int)
 wh:IntKind.u64.wrap ((hi:Int)*2^s)=((hi*2^s:Nat):Int)
 wl:IntKind.u64.wrap ((lo:Int)*2^s)=(L:Int)
 wu:bits .or .u64 ((hi*2^s:Nat):Int) ((lo:Int)/2^(64-s))=(U:Int)
 iy1:(Y:Int)/4294967296=(Y1:Int)
 iy0:bits .and .u64 (Y:Int) 4294967295=(Y0:Int)
 id1:(L:Int)/4294967296=(d1:Int)
 id0:bits .and .u64 (L:Int) 4294967295=(d0:Int)
theorem zxx (n:Nat):IntKind.u64.wrap (n:Int)=((n%B64:Nat):Int):=by
 rw[IntKind.wrap_u64];unfold B64;omega
theorem DW.make {hi lo y s:Nat} (hs:s<=63) (hlo:lo<B64) (hhi:hi<y) (h1:y*2^s<B64) (h2:B64<=2*(y*2^s)):∃ Y U L Y1 Y0 d1 d0,DW hi lo y s Y U L Y1 Y0 d1 d0:=by
 have h64:2^s*2^(64-s)=B64:=by rw[<-Nat.pow_add];rw[show s+(64-s)=64 by omega];rfl
 have hp:0<2^s:=Nat.pow_pos (by omega)
 have hp2:0<2^(64-s):=Nat.pow_pos (by omega)
 have hh:hi*2^s<B64:=Nat.lt_of_le_of_lt (Nat.mul_le_mul_right _ (Nat.le_of_lt hhi)) h1
 have hlq:lo/2^(64-s)<2^s:=by rw[Nat.div_lt_iff_lt_mul hp2,h64];exact hlo
 have hls:lo*2^s=lo/2^(64-s)*B64+lo%2^(64-s)*2^s:=by
  conv=>lhs;rw[<-Nat.div_add_mod lo (2^(64-s))]
  rw[Nat.add_mul,<-h64,Nat.mul_comm (2^(64-s)) (lo/_),Nat.mul_assoc,Nat.mul_comm (2^(64-s)) (2^s)]
 have hlm:lo%2^(64-s)*2^s<B64:=by
  rw[<-h64,Nat.mul_comm (2^s)]
  exact Nat.mul_lt_mul_of_pos_right (Nat.mod_lt _ hp2) hp
 have hle:lo*2^s%B64=lo%2^(64-s)*2^s:=by
  rw[hls,Nat.add_comm,Nat.add_mul_mod_self_right,Nat.mod_eq_of_lt hlm]
 have hul:hi*2^s+lo/2^(64-s)<y*2^s:=by
  have:(hi+1)*2^s<=y*2^s:=Nat.mul_le_mul_right _ hhi
  rw[Nat.add_mul,Nat.one_mul] at this
  omega
 have huv:(hi*B64+lo)*2^s=(hi*2^s+lo/2^(64-s))*B64+lo*2^s%B64:=by
  rw[hle,Nat.add_mul,Nat.add_mul,hls,Nat.mul_assoc,Nat.mul_comm B64,<-Nat.mul_assoc]
  omega
 have hLl:lo*2^s%B64<B64:=Nat.mod_lt _ zxw
 refine⟨y*2^s,hi*2^s+lo/2^(64-s),lo*2^s%B64,y*2^s/H32,y*2^s%H32,lo*2^s%B64/H32,lo*2^s%B64%H32,hs,rfl,huv,hLl,hul,h1,?_,Nat.mod_lt _ (by decide),?_,?_,Nat.mod_lt _ (by decide),?_,?_,?_,?_,?_,?_,?_,?_,?_⟩
 . rw[Nat.mul_comm];exact Nat.div_add_mod _ _
 . generalize y*2^s=Y at *
   unfold B64 at h2;unfold H32;omega
 . rw[Nat.mul_comm];exact Nat.div_add_mod _ _
 . rw[Nat.div_lt_iff_lt_mul (by decide)];exact hLl
 . rw[show(y:Int)*2^s=((y*2^s:Nat):Int) by push_cast;rfl,zxx,Nat.mod_eq_of_lt h1]
 . rw[show(hi:Int)*2^s=((hi*2^s:Nat):Int) by push_cast;rfl,zxx,Nat.mod_eq_of_lt hh]
 . rw[show(lo:Int)*2^s=((lo*2^s:Nat):Int) by push_cast;rfl,zxx]
 . rw[show(lo:Int)/2^(64-s)=((lo/2^(64-s):Nat):Int) by push_cast;rfl]
   exact or_add hs hh hlq
 . generalize y*2^s=Y at *
   unfold H32;omega
 . exact and_low _ h1
 . generalize lo*2^s%B64=L at *
   unfold H32;omega
 . exact and_low _ hLl
theorem bitsDiv64_0 (lo y:Nat) (hlo:lo<B64) (hy0:0<y) (w:World) :
 Calls Tryz.prog 268 #[wd 0,wd lo,wd y] w λe w'=>e=.returned (.tuple #[wd (lo/y),wd (lo%y)])/\∃ n,w'=w.drewN n:=by
 have hz:((y:Int)==0)=false:=by rw[beq_eq_false_iff_ne];omega
 have hle:¬(y:Int)<=0:=by omega
 have hq:IntKind.u64.wrap ((lo:Int)/(y:Int))=((lo/y:Nat):Int):=by
  have h1:lo/y<=lo:=Nat.div_le_self _ _
  rw[<-Int.natCast_ediv]
  generalize lo/y=q at *
  rw[IntWalk.u64_in _ (by unfold B64 at hlo;omega)]
 have HQ:=Lz hq
 clear hq hlo
 go_enter Tryz.func268,Tryz.ntmps268
 go_wp2_with fail
 go_quiet (fail)
 go_wp2_with fail
 go_ret2
 refine⟨?_,_,rfl⟩
 show Ending.returned (.tuple #[.int .u64 (IntKind.u64.wrap ((lo:Int)/(y:Int))),.int .u64 ((lo:Int)%(y:Int))])=_
 rw[HQ.out]
 rfl
end Go.Proofs.YtohhkjamddojmaaGreatDoor.Big
