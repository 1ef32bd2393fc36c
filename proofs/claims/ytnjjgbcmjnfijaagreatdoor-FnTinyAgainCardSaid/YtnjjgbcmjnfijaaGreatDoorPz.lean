/- Running sums: a place's numbers are told as differences from those of the place before. Plain Lean, no program in sight. No condition. -/
import Derived.Lib.Varint
import Derived.Test.YtnjjgbcmjnfijaaGreatDoorG3
namespace Go.Proofs.YtnjjgbcmjnfijaaGreatDoor
def run:List (Int × Int)→List Int→List (Int × Int)
 | _,[]=>[]
 | [],_ :: _=>[]
 | (p,a) :: q,d :: ds=>(p,a+d) :: run (q++[(p,a+d)]) ds
def runE:List (Int × Int)→List Int→List (Int × Int)
 | q,[]=>q
 | [],_ :: _=>[]
 | (p,a) :: q,d :: ds=>runE (q++[(p,a+d)]) ds
theorem runE_length:∀(ds:List Int) (q:List (Int × Int)),(runE q ds).length=q.length
 | [],q=>by simp[runE]
 | d :: ds,[]=>by simp[runE]
 | d :: ds,(p,a) :: q=>by rw[runE,runE_length ds];simp
theorem run_length:∀(ds:List Int) (q:List (Int × Int)),0 < q.length→(run q ds).length=ds.length
 | [],q,_=>by cases q<;>simp[run]
 | d :: ds,(p,a) :: q,_=>by rw[run,List.length_cons,run_length ds _ (by simp),List.length_cons]
theorem run_snoc:∀(ds:List Int) (q rest:List (Int × Int)) (p a d:Int),runE q ds=(p,a) :: rest→run q (ds++[d])=run q ds++[(p,a+d)]∧runE q (ds++[d])=rest++[(p,a+d)]
 | [],q,rest,p,a,d,h=>by
  have h:q=(p,a) :: rest:=by
   cases q with
   | nil=>simp[runE] at h
   | cons x q=>rw[runE] at h;exact h
  subst h
  simp[run,runE]
 | d' :: ds,[],rest,p,a,d,h=>by simp[runE] at h
 | d' :: ds,(p',a') :: q,rest,p,a,d,h=>by
  rw[runE] at h
  have:=run_snoc ds _ rest p a d h
  simp only[List.cons_append,run,runE]
  rw[this.1,this.2]
  exact⟨rfl,rfl⟩
def queue (ps Q:List Int) (k:Nat):List (Int × Int):=(ps.zip Q).drop k++(ps.zip Q).take k
theorem queue_zero(ps Q:List Int):queue ps Q 0=ps.zip Q:=by simp[queue]
theorem queue_full(ps Q:List Int)(k:Nat)(h:ps.length=k)(h2:Q.length=k):queue ps Q k=ps.zip Q:=by
 unfold queue
 rw[List.drop_of_length_le (by simp;omega),List.take_of_length_le (by simp;omega)]
 simp
theorem queue_cons(ps Q:List Int)(k:Nat)(h:k < ps.length)(h2:k < Q.length):queue ps Q k=(ps[k],Q[k]) :: ((ps.zip Q).drop (k+1)++(ps.zip Q).take k):=by
 unfold queue
 rw[List.drop_eq_getElem_cons (by simp;omega)]
 simp
theorem queue_set(ps Q:List Int)(k:Nat)(n:Int)(h:k < ps.length)(h2:k < Q.length):queue ps (Q.set k n) (k+1)=((ps.zip Q).drop (k+1)++(ps.zip Q).take k)++[(ps[k],n)]:=by
 unfold queue
 have hz:ps.zip (Q.set k n)=(ps.zip Q).set k (ps[k],n):=by
  apply List.ext_getElem (by simp)
  intro i h1 h3
  simp only[List.getElem_zip,List.getElem_set]
  split
  ·next e=>subst e;rfl
  ·rfl
 rw[hz,List.drop_set_of_lt (by omega),List.take_succ_eq_append_getElem (by simp;omega),List.getElem_set_self,List.take_set_of_le (Nat.le_refl _),List.append_assoc]
theorem run_step{q:List (Int × Int)}{ds:List Int}{ps Q:List Int}{k:Nat}(d:Int)(hk:k < ps.length)(hQ:k < Q.length)(h:runE q ds=queue ps Q k):
  run q (ds++[d])=run q ds++[(ps[k],Q[k]+d)]∧runE q (ds++[d])=queue ps (Q.set k (Q[k]+d)) (k+1):=by
 rw[queue_cons ps Q k hk hQ] at h
 have:=run_snoc ds q _ _ _ d h
 rw[queue_set ps Q k _ hk hQ]
 exact this
open Go.RowKit
theorem from_enc(x:Nat):∀(k acc:Nat) (l:List UInt8),k≤9→x < 2 ^ (64 - 7*k)→Lib.uvarintFrom k acc (Lib.uvarint x++l)=(acc+x*2 ^ (7*k),((k+(Lib.uvarint x).length:Nat):Int)):=by
 induction x using Nat.strongRecOn with
 | _ x ih =>
  intro k acc l hk hx
  by_cases h:x < 128
  ·rw[Lib.uvarint_small h]
   have ht:(x.toUInt8).toNat=x:=by simp;omega
   have hg:¬(k=9∧1 < x):=by rintro ⟨rfl,h2⟩;simp at hx;omega
   simp only[List.cons_append,List.nil_append,Lib.uvarintFrom,ht,h,if_true,hg,if_false,show ¬k=10 by omega,List.length_singleton]
   simp
  ·rw[Lib.uvarint_big (by omega)]
   have ht:((x % 128+128).toUInt8).toNat=x % 128+128:=by simp;omega
   have hk8:k≤8:=by
    by_cases e:k=9
    ·subst e;simp at hx;omega
    ·omega
   have hx2:x / 128 < 2 ^ (64 - 7*(k+1)):=by
    have:64 - 7*k=64 - 7*(k+1)+7:=by omega
    rw[this,Nat.pow_add] at hx
    exact Nat.div_lt_of_lt_mul (by rw[Nat.mul_comm];exact hx)
   rw[List.cons_append,Lib.uvarintFrom,if_neg (by omega),ht,if_neg (by omega),ih (x / 128) (by omega) (k+1) _ l (by omega) hx2]
   have e7:(2:Nat) ^ (7*(k+1))=2 ^ (7*k)*128:=by rw[Nat.mul_succ,Nat.pow_add]
   have em:(x % 128+128) % 128=x % 128:=by omega
   rw[e7,em,List.length_cons]
   generalize 2 ^ (7*k)=t
   have:x*t=x % 128*t+x / 128*(t*128):=by
    have h1:=Nat.mod_add_div x 128
    calc x*t=(x % 128+128*(x / 128))*t:=by rw[h1]
     _=_:=by rw[Nat.add_mul,Nat.mul_comm t 128,←Nat.mul_assoc,Nat.mul_comm 128]
   refine Prod.ext ?_ ?_
   ·show acc+x % 128*t+x / 128*(t*128)=acc+x*t
    omega
   ·show ((k+1+_:Nat):Int)=((k+(_+1):Nat):Int)
    omega
theorem UV_enc(x:Nat)(hx:x < 18446744073709551616)(l:List UInt8):UV (Lib.uvarint x++l) x l:=by
 refine⟨(Lib.uvarint x).length,Lib.uvarint_pos x,by simp,?_,by simp⟩
 have:=from_enc x 0 0 l (by omega) hx
 simpa [Lib.uvarintDec] using this
theorem unz_zig(x:Int):unz ((Lib.zigzag x:Nat):Int)=x:=by
 unfold unz Lib.zigzag
 split<;>split<;>omega
inductive RC:List UInt8→List Int→List UInt8→Prop where
 | nil (l:List UInt8):RC l [] l
 | cons {l l1 l2:List UInt8}{z:Nat}{ds:List Int}:UV l z l1→z < 18446744073709551616→RC l1 ds l2→RC l (unz z :: ds) l2
theorem RC.snoc{l l1 l2:List UInt8}{ds:List Int}{z:Nat}(h:RC l ds l1)(hu:UV l1 z l2)(hz:z < 18446744073709551616):RC l (ds++[unz z]) l2:=by
 induction h with
 | nil=>exact .cons hu hz (.nil _)
 | cons h1 h2 _ ih=>exact .cons h1 h2 (ih hu)
theorem uv_lt{l l':List UInt8}{z:Nat}(h:UV l z l'):z < 18446744073709551616:=by
 obtain⟨m,_,_,h3,_⟩:=h
 have:=Lib.uvarintFrom_lt l 0 0 (by omega) (by decide)
 rw[show Lib.uvarintFrom 0 0 l=Lib.uvarintDec l from rfl,h3] at this
 exact this
def encD (ds:List Int):List UInt8:=ds.flatMap fun d=>Lib.uvarint (Lib.zigzag d)
theorem encD_cons(d:Int)(ds:List Int):encD (d :: ds)=Lib.uvarint (Lib.zigzag d)++encD ds:=rfl
theorem RC_enc:∀(ds:List Int) (l:List UInt8),(∀d∈ds,-9223372036854775808≤d∧d < 9223372036854775808)→RC (encD ds++l) ds l
 | [],l,_=>.nil l
 | d :: ds,l,h=>by
  have hd:=h d (by simp)
  have hz:Lib.zigzag d < 18446744073709551616:=by unfold Lib.zigzag;split<;>omega
  have:=RC.cons (UV_enc _ hz (encD ds++l)) hz (RC_enc ds l (fun x hx=>h x (by simp[hx])))
  rw[unz_zig] at this
  rw[encD_cons,List.append_assoc]
  exact this
def diffs:List (Int × Int)→List (Int × Int)→List Int
 | _,[]=>[]
 | [],_ :: _=>[]
 | (p,a) :: q,(_,x) :: xs=>(x - a) :: diffs (q++[(p,x)]) xs
def cyc:List Int→Nat→List Int
 | _,0=>[]
 | [],_+1=>[]
 | p :: q,n+1=>p :: cyc (q++[p]) n
theorem cyc_length:∀(n:Nat) (q:List Int),0 < q.length→(cyc q n).length=n
 | 0,q,_=>by cases q<;>rfl
 | n+1,p :: q,_=>by rw[cyc,List.length_cons,cyc_length n _ (by simp)]
theorem cyc_mem:∀(n:Nat) (q:List Int) (x:Int),x∈cyc q n→x∈q
 | 0,q,x,h=>by cases q<;>simp[cyc] at h
 | n+1,[],x,h=>by simp[cyc] at h
 | n+1,p :: q,x,h=>by
  rw[cyc] at h
  rcases List.mem_cons.1 h with rfl|h
  ·simp
  ·have:=cyc_mem n _ x h
   simp at this
   rcases this with h|h
   ·simp[h]
   ·simp[h]
theorem run_cyc:∀(ds:List Int) (q:List (Int × Int)),0 < q.length→(run q ds).map (·.1)=cyc (q.map (·.1)) ds.length
 | [],q,_=>by cases q<;>simp[run,cyc]
 | d :: ds,(p,a) :: q,_=>by
  rw[run,List.map_cons,run_cyc ds _ (by simp),List.length_cons,List.map_cons,cyc]
  simp
theorem run_diffs:∀(xs q:List (Int × Int)),0 < q.length→xs.map (·.1)=cyc (q.map (·.1)) xs.length→run q (diffs q xs)=xs
 | [],q,_,_=>by cases q<;>rfl
 | (p,x) :: xs,(p',a) :: q,_,h=>by
  rw[List.map_cons,List.map_cons,List.length_cons,cyc] at h
  injection h with h1 h2
  have h1:p=p':=h1
  subst h1
  rw[diffs,run,show a+(x - a)=x by omega,run_diffs xs (q++[(p,x)]) (by simp) (by rw[h2];simp)]
theorem diffs_length:∀(xs q:List (Int × Int)),0 < q.length→(diffs q xs).length=xs.length
 | [],q,_=>by cases q<;>rfl
 | (p,x) :: xs,(p',a) :: q,_=>by rw[diffs,List.length_cons,diffs_length xs _ (by simp),List.length_cons]
def Bd (xs:List (Int × Int)):Prop:=∀x∈xs,-9007199254740992≤x.2∧x.2≤9007199254740992
theorem Bd.app{xs ys:List (Int × Int)}(h:Bd xs)(k:Bd ys):Bd (xs++ys):=fun x hx=>by
 rcases List.mem_append.1 hx with hx|hx
 ·exact h x hx
 ·exact k x hx
theorem diffs_bd:∀(xs q:List (Int × Int)),Bd q→Bd xs→∀d∈diffs q xs,-18014398509481984≤d∧d≤18014398509481984
 | [],q,_,_,d,hd=>by cases q<;>simp[diffs] at hd
 | _ :: _,[],_,_,d,hd=>by simp[diffs] at hd
 | (p,x) :: xs,(p',a) :: q,hq,hx,d,hd=>by
  rw[diffs] at hd
  have h1:=hq (p',a) (by simp)
  have h2:=hx (p,x) (by simp)
  simp only at h1 h2
  rcases List.mem_cons.1 hd with rfl|hd
  ·omega
  ·exact diffs_bd xs _ (Bd.app (fun y hy=>hq y (by simp[hy])) (fun y hy=>by simp at hy;subst hy;exact h2)) (fun y hy=>hx y (by simp[hy])) d hd
theorem diffs_snoc:∀(xs q rest:List (Int × Int)) (p p' a x:Int),runE q (diffs q xs)=(p,a) :: rest→diffs q (xs++[(p',x)])=diffs q xs++[x - a]∧runE q (diffs q (xs++[(p',x)]))=rest++[(p,x)]
 | [],q,rest,p,p',a,x,h=>by
  have hq:q=(p,a) :: rest:=by
   cases q with
   | nil=>simp[diffs,runE] at h
   | cons y q=>simpa [diffs,runE] using h
  subst hq
  simp[diffs,runE]
  omega
 | (p1,x1) :: xs,[],rest,p,p',a,x,h=>by simp[diffs,runE] at h
 | (p1,x1) :: xs,(p2,a2) :: q,rest,p,p',a,x,h=>by
  rw[diffs,runE,show a2+(x1 - a2)=x1 by omega] at h
  have:=diffs_snoc xs _ rest p p' a x h
  rw[List.cons_append,diffs,this.1]
  constructor
  ·rw[diffs];rfl
  ·rw[runE,show a2+(x1 - a2)=x1 by omega,←this.1]
   exact this.2
def rotS:List Int→Nat→List Int
 | ps,0=>ps
 | [],_+1=>[]
 | p :: q,n+1=>rotS (q++[p]) n
theorem rotS_app:∀(a b:List Int),rotS (a++b) a.length=b++a
 | [],b=>by cases b<;>simp[rotS]
 | x :: a,b=>by
  rw[List.cons_append,List.length_cons,rotS,List.append_assoc,rotS_app a (b++[x])]
  simp
theorem rotS_add:∀(m n:Nat) (ps:List Int),rotS ps (m+n)=rotS (rotS ps m) n
 | 0,n,ps=>by rw[Nat.zero_add];cases ps<;>rfl
 | m+1,n,[]=>by
  rw[show m+1+n=(m+n)+1 by omega]
  cases n<;>rfl
 | m+1,n,p :: q=>by
  rw[show m+1+n=(m+n)+1 by omega,rotS,rotS_add m n,rotS]
theorem rotS_mul(ps:List Int):∀n:Nat,rotS ps (n*ps.length)=ps
 | 0=>by rw[Nat.zero_mul];cases ps<;>rfl
 | n+1=>by
  rw[Nat.succ_mul,Nat.add_comm,rotS_add]
  have:=rotS_app ps []
  simp at this
  rw[this]
  exact rotS_mul ps n
theorem runE_fst:∀(ds:List Int) (q:List (Int × Int)),(runE q ds).map (·.1)=rotS (q.map (·.1)) ds.length
 | [],q=>by cases q<;>simp[runE,rotS]
 | d :: ds,[]=>by simp[runE,rotS]
 | d :: ds,(p,a) :: q=>by
  rw[runE,runE_fst ds,List.length_cons,List.map_cons,rotS]
  simp
theorem zip_parts:∀(q:List (Int × Int)),(q.map (·.1)).zip (q.map (·.2))=q
 | []=>rfl
 | (p,a) :: q=>by simp[zip_parts q]
theorem zip_fst:∀(ps Q:List Int),Q.length=ps.length→(ps.zip Q).map (·.1)=ps
 | [],Q,_=>by cases Q<;>rfl
 | p :: ps,[],h=>by simp at h
 | p :: ps,a :: Q,h=>by simp[zip_fst ps Q (by simpa using h)]
theorem zip_bd:∀(ps Q:List Int),(∀q∈Q,-9007199254740992≤q∧q≤9007199254740992)→Bd (ps.zip Q):=fun _ _ h _ hx=>h _ (List.of_mem_zip hx).2
theorem cyc_add:∀(m n:Nat) (q:List Int),0 < q.length→cyc q (m+n)=cyc q m++cyc (rotS q m) n
 | 0,n,q,_=>by cases q<;>simp[cyc,rotS]
 | m+1,n,[],h=>by simp at h
 | m+1,n,p :: q,_=>by
  rw[show m+1+n=(m+n)+1 by omega,cyc,cyc_add m n _ (by simp),cyc,rotS]
  rfl
theorem cyc_more(ps:List Int)(n:Nat)(hp:0 < ps.length)(hn:1≤n):cyc ps (n*ps.length)++(cyc ps (n*ps.length)).take ps.length=cyc ps ((n+1)*ps.length):=by
 rw[Nat.add_mul,Nat.one_mul,cyc_add _ _ ps hp,rotS_mul]
 congr 1
 obtain⟨k,rfl⟩:∃k,n=k+1:=⟨n - 1,by omega⟩
 rw[Nat.add_mul,Nat.one_mul,Nat.add_comm,cyc_add _ _ ps hp]
 rw[List.take_append_of_le_length (by rw[cyc_length _ _ hp];exact Nat.le_refl _)]
 exact List.take_of_length_le (by rw[cyc_length _ _ hp];exact Nat.le_refl _)
structure RowP (ps Q:List Int) (n:Nat) (l:List UInt8) (xs:List (Int × Int)) (Q':List Int) (l':List UInt8):Prop where
 ex:∃ds,RC l ds l'∧ds.length=n*ps.length∧runE (ps.zip Q) ds=ps.zip Q'∧xs=run (ps.zip Q) ds
 bd:Bd xs
 q0:Q.length=ps.length
 q1:Q'.length=ps.length
def LineP (mx:Nat) (ps Q:List Int) (l:List UInt8) (xs:List (Int × Int)) (Q':List Int) (l':List UInt8):Prop :=
 ∃n l0,n≤mx∧UV l n l0∧RowP ps Q n l0 xs Q' l'
def flp (x:Int × Int):Nat:=vl x.2 x.1.toNat
inductive SqP {α:Type} (R:List Int→List UInt8→α→List Int→List UInt8→Prop):Nat→List Int→List UInt8→List α→List Int→List UInt8→Prop where
 | nil (Q:List Int) (l:List UInt8):SqP R 0 Q l [] Q l
 | cons {n:Nat}{Q Q1 Q2:List Int}{l l1 l2:List UInt8}{x:α}{xs:List α}:R Q l x Q1 l1→SqP R n Q1 l1 xs Q2 l2→SqP R (n+1) Q l (x :: xs) Q2 l2
theorem SqP.snoc{α:Type}{R:List Int→List UInt8→α→List Int→List UInt8→Prop}{n:Nat}{Q Q1 Q2:List Int}{l l1 l2:List UInt8}{x:α}{xs:List α}(h:SqP R n Q l xs Q1 l1)(hr:R Q1 l1 x Q2 l2):SqP R (n+1) Q l (xs++[x]) Q2 l2:=by
 induction h with
 | nil=>exact .cons hr (.nil _ _)
 | cons h1 _ ih=>exact .cons h1 (ih hr)
theorem SqP.len{α:Type}{R:List Int→List UInt8→α→List Int→List UInt8→Prop}{n:Nat}{Q Q1:List Int}{l l1:List UInt8}{xs:List α}(h:SqP R n Q l xs Q1 l1):xs.length=n:=by
 induction h with
 | nil=>rfl
 | cons _ _ ih=>rw[List.length_cons,ih]
theorem SqP.all{α:Type}{R:List Int→List UInt8→α→List Int→List UInt8→Prop}{T:α→Prop}{n:Nat}{Q Q1:List Int}{l l1:List UInt8}{xs:List α}(h:SqP R n Q l xs Q1 l1)(hR:∀{Q Q':List Int}{l l':List UInt8}{x:α},R Q l x Q' l'→T x):∀x∈xs,T x:=by
 induction h with
 | nil=>intro x hx;cases hx
 | cons h1 _ ih =>
  intro x hx
  rcases List.mem_cons.1 hx with rfl|hx
  ·exact hR h1
  ·exact ih x hx
structure WR (ps:List Int) (n:Nat) (xs:List (Int × Int)):Prop where
 len:xs.length=n*ps.length
 fst:xs.map (·.1)=cyc ps xs.length
 bd:Bd xs
def lastQ (ps Q:List Int) (xs:List (Int × Int)):List Int:=(runE (ps.zip Q) (diffs (ps.zip Q) xs)).map (·.2)
def rowE (ps Q:List Int) (xs:List (Int × Int)):List UInt8:=encD (diffs (ps.zip Q) xs)
def QOk (ps Q:List Int):Prop:=Q.length=ps.length∧∀q∈Q,-9007199254740992≤q∧q≤9007199254740992
theorem runE_bd:∀(xs q:List (Int × Int)),Bd q→Bd xs→Bd (runE q (diffs q xs))
 | [],q,hq,_=>by cases q<;>simpa [diffs,runE] using hq
 | _ :: _,[],_,_=>by intro x hx;simp[diffs,runE] at hx
 | (p,x) :: xs,(p',a) :: q,hq,hx=>by
  rw[diffs,runE,show a+(x - a)=x by omega]
  have h2:=hx (p,x) (by simp)
  exact runE_bd xs _ (Bd.app (fun y hy=>hq y (by simp[hy])) (fun y hy=>by simp at hy;subst hy;exact h2)) (fun y hy=>hx y (by simp[hy]))
theorem row_enc{ps Q:List Int}{n:Nat}{xs:List (Int × Int)}(h:WR ps n xs)(hp:0 < ps.length)(hQ:QOk ps Q)(l:List UInt8):
  RowP ps Q n (rowE ps Q xs++l) xs (lastQ ps Q xs) l∧QOk ps (lastQ ps Q xs):=by
 have hz:0 < (ps.zip Q).length:=by rw[List.length_zip,hQ.1];omega
 have hf:=zip_fst ps Q hQ.1
 have hdl:=diffs_length xs _ hz
 have hrl:=runE_length (diffs (ps.zip Q) xs) (ps.zip Q)
 have hql:(lastQ ps Q xs).length=ps.length:=by
  unfold lastQ
  rw[List.length_map,hrl,List.length_zip,hQ.1,Nat.min_self]
 have hbd:=diffs_bd xs _ (zip_bd ps Q hQ.2) h.bd
 refine⟨⟨⟨diffs (ps.zip Q) xs,RC_enc _ l (fun d hd=>by have:=hbd d hd;omega),by rw[hdl,h.len],?_,?_⟩,h.bd,hQ.1,hql⟩,hql,fun q hq=>?_⟩
 ·have h1:=zip_parts (runE (ps.zip Q) (diffs (ps.zip Q) xs))
  rw[runE_fst,hf,hdl,h.len,rotS_mul] at h1
  exact h1.symm
 ·exact (run_diffs xs _ hz (by rw[hf];exact h.fst)).symm
 ·unfold lastQ at hq
  obtain⟨x,hx,rfl⟩:=List.mem_map.1 hq
  exact runE_bd xs _ (zip_bd ps Q hQ.2) h.bd x hx
theorem RowP.wr{ps Q Q':List Int}{n:Nat}{l l':List UInt8}{xs:List (Int × Int)}(h:RowP ps Q n l xs Q' l')(hp:0 < ps.length):WR ps n xs:=by
 obtain⟨ds,_,h2,_,rfl⟩:=h.ex
 have hz:0 < (ps.zip Q).length:=by rw[List.length_zip,h.q0];omega
 have hl:=run_length ds (ps.zip Q) hz
 exact⟨by rw[hl,h2],by rw[run_cyc ds _ hz,zip_fst ps Q h.q0,hl],h.bd⟩
def lineE (ps Q:List Int) (xs:List (Int × Int)):List UInt8:=Lib.uvarint (xs.length / ps.length)++rowE ps Q xs
theorem line_enc{ps Q:List Int}{n mx:Nat}{xs:List (Int × Int)}(h:WR ps n xs)(hn:n≤mx)(hmx:mx≤5000)(hp:0 < ps.length)(hQ:QOk ps Q)(l:List UInt8):
  LineP mx ps Q (lineE ps Q xs++l) xs (lastQ ps Q xs) l∧QOk ps (lastQ ps Q xs):=by
 have hd:xs.length / ps.length=n:=by rw[h.len];exact Nat.mul_div_cancel _ hp
 refine⟨⟨n,rowE ps Q xs++l,hn,?_,(row_enc h hp hQ l).1⟩,(row_enc h hp hQ l).2⟩
 unfold lineE
 rw[hd,List.append_assoc]
 exact UV_enc n (by omega) _
def sqE {α:Type} (E:List Int→α→List UInt8) (N:List Int→α→List Int):List Int→List α→List UInt8
 | _,[]=>[]
 | Q,x :: xs=>E Q x++sqE E N (N Q x) xs
def sqN {α:Type} (N:List Int→α→List Int):List Int→List α→List Int
 | Q,[]=>Q
 | Q,x :: xs=>sqN N (N Q x) xs
theorem sq_enc{α:Type}{R:List Int→List UInt8→α→List Int→List UInt8→Prop}{E:List Int→α→List UInt8}{N:List Int→α→List Int}{ps:List Int}:∀(xs:List α) (Q:List Int) (l:List UInt8),(∀x∈xs,∀Q l,QOk ps Q→R Q (E Q x++l) x (N Q x) l∧QOk ps (N Q x))→QOk ps Q→SqP R xs.length Q (sqE E N Q xs++l) xs (sqN N Q xs) l∧QOk ps (sqN N Q xs)
 | [],Q,l,_,hQ=>⟨.nil Q l,hQ⟩
 | x :: xs,Q,l,h,hQ=>by
  have h1:=h x (by simp) Q (sqE E N (N Q x) xs++l) hQ
  have h2:=sq_enc xs (N Q x) l (fun y hy=>h y (by simp[hy])) h1.2
  exact⟨.cons (by rw[sqE,List.append_assoc];exact h1.1) h2.1,h2.2⟩
theorem sqE_snoc{α:Type}(E:List Int→α→List UInt8)(N:List Int→α→List Int):∀(xs:List α) (Q:List Int) (x:α),sqE E N Q (xs++[x])=sqE E N Q xs++E (sqN N Q xs) x∧sqN N Q (xs++[x])=N (sqN N Q xs) x
 | [],Q,x=>by simp[sqE,sqN]
 | y :: xs,Q,x=>by
  have:=sqE_snoc E N xs (N Q y) x
  simp only[List.cons_append,sqE,sqN]
  rw[this.1,this.2,List.append_assoc]
  exact⟨rfl,rfl⟩
end Go.Proofs.YtnjjgbcmjnfijaaGreatDoor
