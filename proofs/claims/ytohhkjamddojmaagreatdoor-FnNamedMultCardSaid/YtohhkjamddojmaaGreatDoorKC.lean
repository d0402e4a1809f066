/- Bytes of a number, the highest first: bytesOf of the laws. -/
import Derived.Test.YtohhkjamddojmaaGreatDoorWU
namespace Go.Proofs.YtohhkjamddojmaaGreatDoor.Big
open Go.RowKit
def bev (ks:List Nat):Nat:=ks.foldl (λa k=>a*256+k) 0
theorem bev_snoc (ks:List Nat) (k:Nat):bev (ks ++ [k])=bev ks*256+k:=by unfold bev;rw[List.foldl_append];rfl
theorem bev_from (ks:List Nat):∀ a,ks.foldl (λa k=>a*256+k) a=a*256^ks.length+bev ks:=by
 induction ks with
 | nil=>intro a;simp[bev]
 | cons k ks ih=>
  intro a
  rw[List.foldl_cons,ih]
  unfold bev
  rw[List.foldl_cons,ih (0*256+k),List.length_cons,Nat.pow_succ,Nat.zero_mul,Nat.zero_add,Nat.add_mul,Nat.mul_assoc,Nat.mul_comm 256,<-Nat.mul_assoc,Nat.add_assoc];rfl
theorem bev_cons (k:Nat) (ks:List Nat):bev (k :: ks)=k*256^ks.length+bev ks:=by
 show List.foldl _ (0*256+k) ks=_
 rw[bev_from,Nat.zero_mul,Nat.zero_add]
theorem info5:(Tryz.prog.info? 5).map (λi=>(i.zero,i.size,i.bytes))=some (some (.int .u8 0),1,1):=by kernel_rfl
theorem grown_new {w w1 w2:World} {b:Nat} (h1:w.grownBy w1 .none) (h2:w1.grownBy w2 (some b)) (hb:w.heap.size<=b):w.grownBy w2 .none:=
 ⟨h2.os.trans h1.os,h2.tape.trans h1.tape,h2.output.trans h1.output,Nat.le_trans h1.size h2.size,λk hk _=>(h2.block k (Nat.lt_of_lt_of_le hk h1.size) (by intro e;cases e;omega)).trans (h1.block k hk (by simp))⟩
def u8v (k:Nat):Value:=.int .u8 (k:Nat)
end Go.Proofs.YtohhkjamddojmaaGreatDoor.Big
