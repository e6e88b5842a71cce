import PyProof.Rows.All
import Wide.All
import OpenK.AllK
import Wide.FinOn
import KE.BitLaws
import Lean
import PySem.Challenge.RW_wc0031_01
open PySem PySem.Calls PyProof.Rows PySem.W
set_option Elab.async false
set_option linter.all false
set_option bootstrap.genMatcherCode false
set_option compiler.extract_closed false
set_option maxHeartbeats 4000000
set_option maxRecDepth 100000
namespace Mine
abbrev bn:=@Nat.sub_add_cancel
abbrev b9:=@Nat.lt_of_lt_of_le
abbrev bw:=@Nat.le_trans
abbrev cY:=@Int.natCast_nonneg
abbrev bY:=@Nat.le_of_lt
abbrev fA:=@Array.length_toList
abbrev iu:=@List.mem_of_getElem?
abbrev fZ:=@List.length_map
abbrev dX:=@Nat.le_refl
abbrev jo:=@Bool.false_ne_true
abbrev dV:=@Nat.lt_of_le_of_lt
abbrev cG:=@Nat.le_of_eq
abbrev dG:=@Nat.le_add_right
abbrev d3:=@Int.toNat_natCast
abbrev fv:=@Nat.pow_le_pow_right
abbrev gV:=@Int.fdiv_eq_ediv_of_nonneg
abbrev im:=@Int.fmod_eq_emod_of_nonneg
abbrev ζ17:=@List.length_append
abbrev ζ18:=@List.map_append
abbrev df:=@Nat.ne_of_gt
abbrev dC:=@List.map_cons
abbrev eR:=@List.length_cons
abbrev cQ:=@Nat.mod_lt
abbrev fM:=@Array.toList_push
abbrev gz:=@Nat.lt_of_le_of_ne
abbrev de:=@Nat.sub_le
abbrev gA:=@List.length_drop
abbrev eE:=@Nat.ne_of_lt
abbrev jY:=@Nat.not_succ_le_zero
abbrev nR:=@List.drop_eq_getElem_cons
abbrev jX:=@Int.toNat_of_nonneg
abbrev jr:=@Int.natAbs_natCast
abbrev iY:=@List.append_assoc
abbrev ζ33:=@Nat.mul_comm
abbrev kf:=@Array.toList_append
abbrev iO:=@Bool.and_eq_true
abbrev js:=@List.length_take
abbrev kY:=@List.length_reverse
abbrev mt:=@Nat.add_le_add_right
abbrev fB:=@Nat.le_succ
abbrev kI:=@Nat.lt_succ_self
abbrev lf:=@List.flatMap_cons
abbrev lC:=@List.cons_append
abbrev j6:=@Nat.le_add_left
abbrev lj:=@List.length_nil
abbrev mu:=@List.take_length
abbrev me:=@List.getElem_mem
abbrev mr:=@List.not_mem_nil
abbrev rt:=@List.take_append_drop
abbrev jw:=@Nat.lt_trans
abbrev pZ:=@Nat.mul_le_mul_left
abbrev qR:=@List.cons_lt_cons_iff
abbrev lF:=@Nat.mul_le_mul
abbrev oC:=@List.flatten_cons
abbrev iE:=@Nat.zero_le
abbrev rn:=@Nat.mul_le_mul_right
abbrev jW:=@List.map_map
abbrev sL:=@List.take_of_length_le
abbrev nX:=@List.forIn_cons
abbrev nY:=@Nat.le_antisymm
abbrev ru:=@List.replicate_succ
abbrev s6:=@List.length_singleton
abbrev ku:=@Int.ne_of_gt
abbrev nK:=@List.lt_irrefl
abbrev ol:=@Int.natCast_mul
abbrev ot:=@Nat.two_pow_pos
abbrev mh:=@List.mem_cons
abbrev j9:=@Nat.one_mul
abbrev rC:=@List.length_range
abbrev mi:=@Int.zero_add
abbrev qn:=@List.nodup_cons
abbrev qm:=@Nat.min_eq_left
abbrev sA:=@Bool.false_eq_true
abbrev s5:=@List.filter_append
abbrev lc:=@Nat.add_mul
abbrev vH:=@Array.size_replicate
abbrev wa:=@Nat.pow_lt_pow_right
abbrev qy:=@List.forIn_nil
abbrev tH:=@Array.size_append
abbrev qN:=@Nat.not_lt_zero
abbrev re:=@Array.size_push
abbrev rl:=@Nat.div_add_mod
abbrev si:=@List.nil_append
abbrev qX:=@List.range_succ
abbrev oH:=@List.map_nil
abbrev u9:=@Nat.eq_zero_or_pos
abbrev wq:=@Int.mul_fdiv_add_fmod
abbrev xp:=@List.singleton_append
abbrev wj:=@Int.sub_nonneg_of_le
abbrev xg:=@List.mem_of_mem_drop
abbrev tF:=@Int.neg_one_mul
abbrev vz:=@List.size_toArray
abbrev tD:=@List.append_nil
abbrev vk:=@Nat.le_of_lt_succ
abbrev vW:=@List.nodup_append
abbrev pP:=@Int.mul_comm
abbrev qx:=@Nat.zero_add
abbrev ro:=@Nat.lt_irrefl
abbrev oz:=@Nat.mul_add
abbrev za:=@List.drop_append_of_le_length
abbrev pq:=@List.lookup_cons
abbrev oS:=@List.filter_cons
abbrev mL:=@Int.natAbs_mul
abbrev rv:=@Array.append_assoc
abbrev uE:=@Nat.eq_of_beq_eq_true
abbrev uQ:=@List.mem_append_right
abbrev lV:=@Nat.add_comm
abbrev pd:=@List.mem_append
abbrev uR:=@Int.le_of_sub_nonneg
abbrev uY:=@List.mem_of_mem_take
abbrev ui:=@List.reverse_reverse
abbrev ul:=@Array.push_eq_append
abbrev oV:=@List.drop_drop
abbrev oY:=@List.nodup_nil
abbrev ri:=@List.isEmpty_nil
abbrev rd:=@Nat.div_eq_of_lt
abbrev qO:=@Nat.min_le_right
abbrev ζ117:=@List.flatten_append
abbrev nf:=@Int.add_zero
abbrev wZ:=@List.mem_of_mem_eraseIdx
abbrev nh:=@Nat.sub_self
abbrev xO:=@Nat.add_sub_cancel_left
abbrev wX:=@Int.eq_ofNat_of_zero_le
abbrev pk:=@Nat.mul_assoc
abbrev rH:=@List.foldl_cons
abbrev rP:=@Int.natCast_add
abbrev nB:=@Int.one_mul
abbrev og:=@Nat.pow_add
abbrev n9:=@Nat.pow_pos
abbrev uN:=@List.take_add_one
abbrev nu:=@Nat.pow_mul
abbrev pj:=@Nat.add_zero
abbrev um:=@Nat.not_lt_of_le
abbrev uI:=@Nat.mod_eq_of_lt
abbrev uJ:=@Nat.le_of_not_lt
abbrev uA:=@List.nil_lt_cons
abbrev qP:=@List.lt_trans
abbrev ph:=@Int.mul_one
abbrev oL:=@Nat.mul_one
abbrev pi:=@Int.neg_mul
section
inductive E where
 | v (i:Nat)|w (i:Nat)|l (k:Nat)|p (k e:Nat)|a (x y:E)|m (k:Nat) (x:E)|r (x:E) (k:Nat)|s (x y:E)|g (x:E)|c (x:E)
noncomputable def E.N (u:List Nat):E→Nat
 | .v i=>u.getD i 0
 | .l k=>k
 | .p k e=>k^e
 | .a x y=>x.N u+y.N u
 | .m k x=>k*x.N u
 | .r x k=>x.N u*k
 | _=>0
noncomputable def E.Z (u:List Nat)(z:List Int):E→Int
 | .w i=>z.getD i 0
 | .l k=>(k:Int)
 | .p k e=>(k:Int)^e
 | .a x y=>x.Z u z+y.Z u z
 | .m k x=>(k:Int)*x.Z u z
 | .r x k=>x.Z u z*(k:Int)
 | .s x y=>x.Z u z-y.Z u z
 | .g x=>- x.Z u z
 | .c x=>(x.N u:Nat)
 | .v _=>0
structure Po where
 k:Int
 u:List Int
 z:List Int
noncomputable def sT:List Int→List Int→List Int
 | [],b=>b
 | a::as,[]=>a::as
 | a::as,b::bs=>(a+b)::sT as bs
noncomputable def nU:Nat→List Int
 | 0=>[1]
 | i+1=>0::nU i
noncomputable def dK:List Int→List Int→Int
 | c::cs,x::xs=>c*x+dK cs xs
 | _,_=>0
noncomputable def Po.add (a b:Po):Po:=⟨a.k+b.k,sT a.u b.u,sT a.z b.z⟩
noncomputable def Po.mul (c:Int)(a:Po):Po:=⟨c*a.k,a.u.map (c*·),a.z.map (c*·)⟩
noncomputable def Po.ev (u:List Nat)(z:List Int)(a:Po):Int:=a.k+(dK a.u (u.map Int.ofNat)+dK a.z z)
theorem BV (a b c d:Int):a+b+(c+d)=a+c+(b+d):=by rw[Int.add_assoc,Int.add_assoc,Int.add_left_comm b]
theorem ea:∀ xs,dK [] xs=0
 | []=>rfl
 | _::_=>rfl
theorem nz:∀ a b xs,dK (sT a b) xs=dK a xs+dK b xs
 | [],b,xs=>by rw[ea,mi];rfl
 | a::as,[],xs=>by rw[ea,nf];rfl
 | a::as,b::bs,[]=>rfl
 | a::as,b::bs,x::xs=>by
  show (a+b)*x+dK (sT as bs) xs=a*x+dK as xs+(b*x+dK bs xs)
  rw[nz as bs xs,Int.add_mul,BV]
theorem mW (c:Int):∀ a xs,dK (a.map (c*·)) xs=c*dK a xs
 | [],xs=>by rw[oH,ea,Int.mul_zero]
 | a::as,[]=>(Int.mul_zero _).symm
 | a::as,x::xs=>by
  show c*a*x+dK (as.map (c*·)) xs=c*(a*x+dK as xs)
  rw[mW c as xs,Int.mul_add,Int.mul_assoc]
theorem lA:∀ i xs,dK (nU i) xs=xs.getD i 0
 | 0,[]=>rfl
 | _+1,[]=>rfl
 | 0,x::xs=>by show 1*x+dK [] xs=x;rw[ea,nB,nf]
 | i+1,x::xs=>by show 0*x+dK (nU i) xs=xs.getD i 0;rw[lA i xs,Int.zero_mul,mi]
section
variable {u:List Nat}{z:List Int}
theorem Po.ev_add (a b:Po):(a.add b).ev u z=a.ev u z+b.ev u z:=by
 show a.k+b.k+(dK (sT a.u b.u) _+dK (sT a.z b.z) z)=(a.k+(_+_))+(b.k+(_+_))
 rw[nz,nz,BV (dK a.u _),BV a.k]
theorem Po.ev_mul (c:Int)(a:Po):(a.mul c).ev u z=c*a.ev u z:=by
 show c*a.k+(dK (a.u.map (c*·)) _+dK (a.z.map (c*·)) z)=c*(a.k+(_+_))
 rw[mW,mW,Int.mul_add,Int.mul_add]
noncomputable def Po.lit (k:Int):Po:=⟨k,[],[]⟩
theorem Po.ev_lit (k:Int):(Po.lit k).ev u z=k:=by
 show k+(dK [] _+dK [] _)=k
 rw[ea,ea];exact nf k
noncomputable def E.pn:E→Po
 | .v i=>⟨0,nU i,[]⟩
 | .l k=>.lit k
 | .p k e=>.lit ((k^e:Nat):Int)
 | .a x y=>x.pn.add y.pn
 | .m k x=>x.pn.mul k
 | .r x k=>x.pn.mul k
 | _=>.lit 0
noncomputable def E.pz:E→Po
 | .w i=>⟨0,[],nU i⟩
 | .l k=>.lit k
 | .p k e=>.lit ((k^e:Nat):Int)
 | .a x y=>x.pz.add y.pz
 | .m k x=>x.pz.mul k
 | .r x k=>x.pz.mul k
 | .s x y=>x.pz.add (y.pz.mul (-1))
 | .g x=>x.pz.mul (-1)
 | .c x=>x.pn
 | .v _=>.lit 0
theorem E.pn_ok (x:E):x.pn.ev u z=(x.N u:Int):=by
 induction x with
 | v i =>
  show 0+(dK (nU i) _+dK [] _)=((u.getD i 0:Nat):Int)
  rw[lA,ea,mi,nf,List.getD_eq_getElem?_getD,List.getD_eq_getElem?_getD,List.getElem?_map]
  cases u[i]?<;>rfl
 | a x y hx hy=>exact (Po.ev_add _ _).trans (by rw[hx,hy];rfl)
 | m k x hx=>exact (Po.ev_mul _ _).trans (by rw[hx];rfl)
 | r x k hx=>exact (Po.ev_mul _ _).trans (by rw[hx,pP];rfl)
 | _=>exact Po.ev_lit _
theorem E.pz_ok (x:E):x.pz.ev u z=x.Z u z:=by
 induction x with
 | w i =>
  show 0+(dK [] _+dK (nU i) _)=z.getD i 0
  rw[lA,ea,mi,mi]
 | p k e=>exact (Po.ev_lit _).trans (Int.natCast_pow _ _)
 | a x y hx hy=>exact (Po.ev_add _ _).trans (by rw[hx,hy];rfl)
 | m k x hx=>exact (Po.ev_mul _ _).trans (by rw[hx];rfl)
 | r x k hx=>exact (Po.ev_mul _ _).trans (by rw[hx,pP];rfl)
 | s x y hx hy=>exact (Po.ev_add _ _).trans (by rw[Po.ev_mul,hx,hy,tF];rfl)
 | g x hx=>exact (Po.ev_mul _ _).trans (by rw[hx,tF];rfl)
 | c x=>exact pn_ok x
 | _=>exact Po.ev_lit _
end
inductive P where
 | n (o:Nat) (x y:E)|z (o:Nat) (x y:E)|X (k:Nat) (h:P)|Y (k:Nat) (h:P)
noncomputable abbrev P.le:=P.n 1
noncomputable abbrev P.lt:=P.n 2
noncomputable abbrev P.eq:=P.n 0
noncomputable abbrev P.nle:=P.n 3
noncomputable abbrev P.nlt:=P.n 4
noncomputable abbrev P.L:=P.z 1
noncomputable abbrev P.T:=P.z 2
noncomputable abbrev P.Q:=P.z 0
noncomputable abbrev P.M:=P.z 3
noncomputable abbrev P.U:=P.z 4
noncomputable def rN:Nat→Nat→Nat→Prop
 | 0,x,y=>x=y
 | 1,x,y=>x≤y
 | 2,x,y=>x<y
 | 3,x,y=>¬ x≤y
 | _,x,y=>¬ x<y
noncomputable def rZ:Nat→Int→Int→Prop
 | 0,x,y=>x=y
 | 1,x,y=>x≤y
 | 2,x,y=>x<y
 | 3,x,y=>¬ x≤y
 | _,x,y=>¬ x<y
noncomputable def P.D (u:List Nat)(z:List Int):P→Prop
 | .n o x y=>rN o (x.N u) (y.N u)
 | .z o x y=>rZ o (x.Z u z) (y.Z u z)
 | .X _ q=>q.D u z
 | .Y _ q=>q.D u z
theorem zD (o x y:Nat):rN o x y↔rZ o (x:Int) (y:Int):=by
 match o with
 | 0=>exact Int.ofNat_inj.symm
 | 1=>exact Int.ofNat_le.symm
 | 2=>exact Int.ofNat_lt.symm
 | 3=>exact not_congr Int.ofNat_le.symm
 | _+4=>exact not_congr Int.ofNat_lt.symm
noncomputable def Po.sub (y x:Po):Po:=y.add (x.mul (-1))
theorem Po.ev_sub {u:List Nat}{z:List Int}(y x:Po):(y.sub x).ev u z=y.ev u z-x.ev u z:=(Po.ev_add _ _).trans (by rw[Po.ev_mul,tF];rfl)
noncomputable def Br (o:Nat)(x y:Po):Po :=
 match o with
 | 0=>y.sub x
 | 1=>y.sub x
 | 2=>(y.sub x).sub (.lit 1)
 | 3=>(x.sub y).sub (.lit 1)
 | _=>x.sub y
noncomputable def P.po:P→Po
 | .n o x y=>Br o x.pn y.pn
 | .z o x y=>Br o x.pz y.pz
 | .X _ q=>q.po
 | .Y _ q=>q.po
noncomputable def P.isE:P→Bool
 | .n o _ _=>Nat.beq o 0
 | .z o _ _=>Nat.beq o 0
 | .X _ q=>q.isE
 | .Y _ q=>q.isE
noncomputable def P.fac:P→Nat
 | .X k _=>k
 | .Y k _=>k
 | _=>1
noncomputable def P.neg:P→Bool
 | .Y _ _=>true
 | _=>false
section
variable {u:List Nat}{z:List Int}
theorem yS {o:Nat}{x y:Po}(h:rZ o (x.ev u z) (y.ev u z)):0≤(Br o x y).ev u z:=by
 match o with
 | 0=>exact (Po.ev_sub y x).symm▸wj (Int.le_of_eq h)
 | 1=>exact (Po.ev_sub y x).symm▸wj h
 | 2=>exact (Po.ev_sub _ _).symm▸wj ((Po.ev_lit (u:=u) (z:=z) 1).symm▸(Po.ev_sub y x).symm▸Int.le_sub_left_of_add_le h)
 | 3=>exact (Po.ev_sub _ _).symm▸wj ((Po.ev_lit (u:=u) (z:=z) 1).symm▸(Po.ev_sub x y).symm▸Int.le_sub_left_of_add_le (Int.not_le.mp h))
 | _+4=>exact (Po.ev_sub x y).symm▸wj (Int.not_lt.mp h)
theorem yV {o:Nat}{x y:Po}(e:Nat.beq o 0=false)(h:0≤(Br o x y).ev u z):rZ o (x.ev u z) (y.ev u z):=by
 match o with
 | 0=>cases e
 | 1=>exact uR (Po.ev_sub y x▸h)
 | 2 =>
  have h:=uR (Po.ev_sub _ _▸h)
  rw[Po.ev_lit,Po.ev_sub] at h
  exact Int.add_le_of_le_sub_left h
 | 3 =>
  have h:=uR (Po.ev_sub _ _▸h)
  rw[Po.ev_lit,Po.ev_sub] at h
  exact Int.not_le.mpr (Int.add_le_of_le_sub_left h)
 | _+4=>exact Int.not_lt.mpr (uR (Po.ev_sub x y▸h))
theorem P.D_ev (o:Nat)(x y:E):rN o (x.N u) (y.N u)↔rZ o (x.pn.ev u z) (y.pn.ev u z):=by rw[E.pn_ok,E.pn_ok];exact zD _ _ _
theorem P.D_ez (o:Nat)(x y:E):rZ o (x.Z u z) (y.Z u z)↔rZ o (x.pz.ev u z) (y.pz.ev u z):=by rw[E.pz_ok,E.pz_ok]
theorem ux {o:Nat}{x y:Po}(e:Nat.beq o 0=true):rZ o (x.ev u z) (y.ev u z)↔(Br o x y).ev u z=0:=by
 cases uE e
 show x.ev u z=y.ev u z↔(y.sub x).ev u z=0
 rw[Po.ev_sub]
 exact ⟨fun h=>h▸Int.sub_self _,fun h=>(Int.eq_of_sub_eq_zero h).symm⟩
theorem P.ge (p:P)(h:p.D u z):0≤p.po.ev u z:=by
 induction p with
 | n o x y=>exact yS ((P.D_ev o x y).mp h)
 | z o x y=>exact yS ((P.D_ez o x y).mp h)
 | X _ q i=>exact i h
 | Y _ q i=>exact i h
theorem P.zero (p:P)(e:p.isE=true):p.D u z↔p.po.ev u z=0:=by
 induction p with
 | n o x y=>exact (P.D_ev o x y).trans (ux e)
 | z o x y=>exact (P.D_ez o x y).trans (ux e)
 | X _ q i=>exact i e
 | Y _ q i=>exact i e
theorem P.of_ge (p:P)(e:p.isE=false)(h:0≤p.po.ev u z):p.D u z:=by
 induction p with
 | n o x y=>exact (P.D_ev o x y).mpr (yV e h)
 | z o x y=>exact (P.D_ez o x y).mpr (yV e h)
 | X _ q i=>exact i e h
 | Y _ q i=>exact i e h
end
noncomputable def Bo:List Int→Bool
 | []=>true
 | .ofNat _::as=>Bo as
 | .negSucc _::_=>false
noncomputable def zZ:List Int→Bool
 | []=>true
 | .ofNat k::as=>Nat.beq k 0&&zZ as
 | .negSucc _::_=>false
noncomputable def mj:List P→Po
 | []=>.lit 0
 | p::ps=>cond p.neg ((mj ps).sub (p.po.mul p.fac)) ((p.po.mul p.fac).add (mj ps))
noncomputable def BR:List P→Bool
 | []=>true
 | p::ps=>(p.isE||!p.neg)&&BR ps
noncomputable def Cb:List P→Bool
 | []=>true
 | p::ps=>p.isE&&Cb ps
noncomputable def rest (g:P)(ps:List P):Po:=(g.po.mul g.fac).sub (mj ps)
noncomputable def Cv (g:P)(ps:List P)(r:Po):Bool:=BR ps&&(Nat.ble 1 g.fac&&(Bo [r.k+g.fac-1]&&(Bo r.u&&zZ r.z)))
noncomputable def Cy (g:P)(ps:List P)(r:Po):Bool:=Cb ps&&(Nat.ble 1 g.fac&&(zZ [r.k]&&(zZ r.u&&zZ r.z)))
noncomputable def ck (g:P)(ps:List P):Bool:=cond g.isE (Cy g ps (rest g ps)) (Cv g ps (rest g ps))
noncomputable def x8 (u:List Nat)(z:List Int):List P→Prop
 | []=>True
 | p::ps=>p.D u z∧x8 u z ps
section
variable {u:List Nat}{z:List Int}
theorem wI:∀ cs:List Int,Bo cs=true→∀ xs:List Nat,0≤dK cs (xs.map Int.ofNat)
 | [],_,xs=>by rw[ea];exact Int.le_refl _
 | _::_,_,[]=>Int.le_refl _
 | .ofNat c::cs,h,x::xs=>Int.add_nonneg (Int.mul_nonneg (cY c) (cY x)) (wI cs h xs)
 | .negSucc c::cs,h,x::xs=>nomatch h
theorem yG {k:Int}(h:Bo [k]=true):0≤k:=by
 cases k with
 | ofNat k=>exact cY k
 | negSucc k=>cases h
theorem fP {a b:Bool}(h:(a&&b)=true):a=true∧b=true:=by cases a<;>cases b<;>first|exact ⟨rfl,rfl⟩|cases h
theorem pN:∀ cs:List Int,zZ cs=true→∀ xs:List Int,dK cs xs=0
 | [],_,xs=>ea xs
 | _::_,_,[]=>rfl
 | .ofNat c::cs,h,x::xs=>by
  show Int.ofNat c*x+dK cs xs=0
  rw[pN cs (fP h).2 xs,uE (fP h).1];exact (nf _).trans (Int.zero_mul x)
 | .negSucc _::_,h,_::_=>nomatch h
theorem x5 {k:Int}(h:zZ [k]=true):k=0:=by
 cases k with
 | ofNat k=>rw[uE (fP h).1];rfl
 | negSucc k=>cases h
theorem ur:∀ ps:List P,BR ps=true→x8 u z ps→0≤(mj ps).ev u z
 | [],_,_=>(Po.ev_lit (u:=u) (z:=z) 0).symm▸Int.le_refl _
 | p::ps,h,k=>by
  show 0≤(cond p.neg ((mj ps).sub (p.po.mul p.fac)) ((p.po.mul p.fac).add (mj ps))).ev u z
  have ih:=ur ps (fP h).2 k.2
  cases e:p.neg with
  | true =>
   have h1:(p.isE||!p.neg)=true:=(fP h).1
   rw[e,Bool.not_true,Bool.or_false] at h1
   show 0≤((mj ps).sub (p.po.mul p.fac)).ev u z
   rw[Po.ev_sub,Po.ev_mul,(P.zero p h1).mp k.1,Int.mul_zero,Int.sub_zero];exact ih
  | false =>
   show 0≤((p.po.mul p.fac).add (mj ps)).ev u z
   rw[Po.ev_add,Po.ev_mul]
   exact Int.add_nonneg (Int.mul_nonneg (cY _) (P.ge p k.1)) ih
theorem uf:∀ ps:List P,Cb ps=true→x8 u z ps→(mj ps).ev u z=0
 | [],_,_=>Po.ev_lit 0
 | p::ps,h,k=>by
  show (cond p.neg ((mj ps).sub (p.po.mul p.fac)) ((p.po.mul p.fac).add (mj ps))).ev u z=0
  have e:=(P.zero p (fP h).1).mp k.1
  have ih:=uf ps (fP h).2 k.2
  cases p.neg with
  | true=>exact (Po.ev_sub _ _).trans (by rw[Po.ev_mul,e,ih,Int.mul_zero];rfl)
  | false=>exact (Po.ev_add _ _).trans (by rw[Po.ev_mul,e,ih,Int.mul_zero];rfl)
theorem xV (g:P)(ps:List P):(rest g ps).ev u z=g.fac*g.po.ev u z-(mj ps).ev u z:=(Po.ev_sub _ _).trans (by rw[Po.ev_mul])
theorem yr {f:Nat}{x:Int}(h:Nat.ble 1 f=true)(k:-f<f*x):0≤x:=by
 refine Int.not_lt.mp fun n=>?_
 have:=Int.mul_le_mul_of_nonneg_left (Int.le_sub_one_of_lt n) (cY f)
 exact Int.lt_irrefl _ (Int.lt_of_lt_of_le k (Int.le_trans this (Int.le_of_eq (Int.mul_neg_one _))))
theorem zo (u:List Nat)(z:List Int)(g:P)(ps:List P)(h:ck g ps=true)(k:x8 u z ps):g.D u z:=by
 unfold ck at h
 have r:=xV (u:=u) (z:=z) g ps
 cases e:g.isE with
 | true =>
  rw[e] at h
  have h:Cy g ps (rest g ps)=true:=h
  have ⟨h1,h⟩:=fP h
  have ⟨h2,h⟩:=fP h
  have ⟨h3,h⟩:=fP h
  have ⟨h4,h5⟩:=fP h
  have:(rest g ps).ev u z=0:=by
   show (rest g ps).k+(dK _ _+dK _ _)=0
   rw[x5 h3,pN _ h4,pN _ h5];rfl
  rw[this,uf ps h1 k,Int.sub_zero] at r
  refine (P.zero g e).mpr ((Int.mul_eq_zero.mp r.symm).resolve_left fun q=>?_)
  rw[Int.ofNat_eq_zero.mp q] at h2;cases h2
 | false =>
  rw[e] at h
  have h:Cv g ps (rest g ps)=true:=h
  have ⟨h1,h⟩:=fP h
  have ⟨h2,h⟩:=fP h
  have ⟨h3,h⟩:=fP h
  have ⟨h4,h5⟩:=fP h
  refine P.of_ge g e (yr h2 ?_)
  have hs:=ur ps h1 k
  have hk:=yG h3
  have hd:=wI _ h4 u
  have r:(rest g ps).k+(dK (rest g ps).u (u.map Int.ofNat)+dK (rest g ps).z z)=_:=r
  rw[pN _ h5 z] at r
  omega
theorem eF (u:List Nat)(z:List Int)(g:P)(h:ck g []=true):g.D u z:=zo u z g _ h trivial
theorem aQ (u:List Nat)(z:List Int)(g a:P)(h:ck g [a]=true)(h1:a.D u z):g.D u z:=zo u z g _ h ⟨h1,trivial⟩
theorem ln2 (u:List Nat)(z:List Int)(g a b:P)(h:ck g [a,b]=true)(h1:a.D u z)(h2:b.D u z):g.D u z:=zo u z g _ h ⟨h1,h2,trivial⟩
theorem cZ (u:List Nat)(z:List Int)(g a b c:P)(h:ck g [a,b,c]=true)(h1:a.D u z)(h2:b.D u z)(h3:c.D u z):g.D u z:=zo u z g _ h ⟨h1,h2,h3,trivial⟩
theorem gh (u:List Nat)(z:List Int)(g a b c d:P)(h:ck g [a,b,c,d]=true)(h1:a.D u z)(h2:b.D u z)(h3:c.D u z)(h4:d.D u z):g.D u z:=zo u z g _ h ⟨h1,h2,h3,h4,trivial⟩
theorem vc (u:List Nat)(z:List Int)(g a b c d e:P)(h:ck g [a,b,c,d,e]=true)(h1:a.D u z)(h2:b.D u z)(h3:c.D u z)(h4:d.D u z)(h5:e.D u z):g.D u z:=zo u z g _ h ⟨h1,h2,h3,h4,h5,trivial⟩
theorem BN (u:List Nat)(z:List Int)(g a b c d e f:P)(h:ck g [a,b,c,d,e,f]=true)(h1:a.D u z)(h2:b.D u z)(h3:c.D u z)(h4:d.D u z)(h5:e.D u z)(h6:f.D u z):g.D u z:=zo u z g _ h ⟨h1,h2,h3,h4,h5,h6,trivial⟩
end
noncomputable abbrev ah:E:=.v 0
noncomputable abbrev am:E:=.v 1
noncomputable abbrev ao:E:=.v 2
noncomputable abbrev aM:E:=.v 3
noncomputable abbrev bD:E:=.v 4
noncomputable abbrev dc:E:=.v 5
noncomputable abbrev ke:E:=.v 6
noncomputable abbrev we:E:=.v 7
noncomputable abbrev bA:E:=.c (.v 0)
noncomputable abbrev eG:E:=.c (.v 1)
noncomputable abbrev lK:E:=.c (.v 2)
noncomputable abbrev nq:E:=.c (.v 3)
noncomputable abbrev vX:E:=.c (.v 4)
noncomputable abbrev Cs:E:=.c (.v 5)
noncomputable abbrev dq:E:=.w 0
noncomputable abbrev ji:E:=.w 1
noncomputable abbrev sw:E:=.w 2
noncomputable abbrev At:E:=.w 3
noncomputable abbrev b6:E:=.l 0
noncomputable abbrev av:E:=.l 1
noncomputable abbrev cH:E:=.l 2
noncomputable abbrev pF:E:=.l 3
noncomputable abbrev oK:E:=.l 4
noncomputable abbrev sZ:E:=.l 6
noncomputable abbrev fs:E:=.l 7
noncomputable abbrev vM:E:=.l 8
noncomputable abbrev mx:E:=.l 16
noncomputable abbrev qK:E:=.l 48
noncomputable abbrev rj:E:=.l 62
noncomputable abbrev oE:E:=.l 64
noncomputable abbrev mo:E:=.l 97
noncomputable abbrev dJ:E:=.l 100
noncomputable abbrev mX:E:=.l 999
noncomputable abbrev bg:E:=.l 1000
noncomputable abbrev nQ:E:=.l 3000
noncomputable abbrev ez:E:=.l 9890
noncomputable abbrev ir:E:=.l 9900
noncomputable abbrev eZ:E:=.l 1000000
noncomputable abbrev gL:E:=.l 1114111
noncomputable abbrev aY:E:=.l 16777216
noncomputable abbrev cI:E:=.l 1073741824
noncomputable abbrev cE:E:=.l 9223372036854775808
theorem ae:true=true:=rfl
theorem yR (x:Nat){k:Nat}(h:0<k):x<(x/k+1)*k:=by rw[lc,j9];exact Nat.lt_div_mul_add h
theorem Aw {a b:Int}(h:a≤b)(k:a≠b):a<b:=Int.lt_iff_le_and_ne.mpr ⟨h,k⟩
theorem aE (x y:Nat):x≤x-y+y:=Nat.sub_le_iff_le_add.mp (dX _)
end
theorem bK {α0:Sort _}{A1:α0→Prop}{G:Prop}(h:∃ a0,A1 a0)(k:∀ a0,A1 a0→G):G:=h.elim k
theorem dI {A0:Prop}{A1:Prop}{G:Prop}(h:A0∧A1)(k:A0→A1→G):G:=h.elim k
theorem vO {α0:Sort _}{α1:Sort _}{A2:α0→α1→Prop}{G:Prop}(h:∃ a0,∃ a1,A2 a0 a1)(k:∀ a0,∀ a1,A2 a0 a1→G):G:=h.elim fun a0 h=>bK h (k a0)
theorem aL {α0:Sort _}{A1:α0→Prop}{A2:α0→Prop}{G:Prop}(h:∃ a0,A1 a0∧A2 a0)(k:∀ a0,A1 a0→A2 a0→G):G:=h.elim fun a0 h=>dI h (k a0)
theorem ew {A0:Prop}{α0:Sort _}{A2:α0→Prop}{G:Prop}(h:A0∧∃ a0,A2 a0)(k:A0→∀ a0,A2 a0→G):G:=bK h.2 (k h.1)
theorem ch {A0:Prop}{A1:Prop}{A2:Prop}{G:Prop}(h:A0∧A1∧A2)(k:A0→A1→A2→G):G:=dI h.2 (k h.1)
theorem jy {α0:Sort _}{α1:Sort _}{α2:Sort _}{A3:α0→α1→α2→Prop}{G:Prop}(h:∃ a0,∃ a1,∃ a2,A3 a0 a1 a2)(k:∀ a0,∀ a1,∀ a2,A3 a0 a1 a2→G):G:=h.elim fun a0 h=>vO h (k a0)
theorem bJ {α0:Sort _}{α1:Sort _}{A2:α0→α1→Prop}{A3:α0→α1→Prop}{G:Prop}(h:∃ a0,∃ a1,A2 a0 a1∧A3 a0 a1)(k:∀ a0,∀ a1,A2 a0 a1→A3 a0 a1→G):G:=h.elim fun a0 h=>aL h (k a0)
theorem jC {α0:Sort _}{A1:α0→Prop}{α1:Sort _}{A3:α0→α1→Prop}{G:Prop}(h:∃ a0,A1 a0∧∃ a1,A3 a0 a1)(k:∀ a0,A1 a0→∀ a1,A3 a0 a1→G):G:=h.elim fun a0 h=>ew h (k a0)
theorem bT {α0:Sort _}{A1:α0→Prop}{A2:α0→Prop}{A3:α0→Prop}{G:Prop}(h:∃ a0,A1 a0∧A2 a0∧A3 a0)(k:∀ a0,A1 a0→A2 a0→A3 a0→G):G:=h.elim fun a0 h=>ch h (k a0)
theorem yT {A0:Prop}{α0:Sort _}{α1:Sort _}{A3:α0→α1→Prop}{G:Prop}(h:A0∧∃ a0,∃ a1,A3 a0 a1)(k:A0→∀ a0,∀ a1,A3 a0 a1→G):G:=vO h.2 (k h.1)
theorem d6 {A0:Prop}{α0:Sort _}{A2:α0→Prop}{A3:α0→Prop}{G:Prop}(h:A0∧∃ a0,A2 a0∧A3 a0)(k:A0→∀ a0,A2 a0→A3 a0→G):G:=aL h.2 (k h.1)
theorem Bd {A0:Prop}{A1:Prop}{α0:Sort _}{A3:α0→Prop}{G:Prop}(h:A0∧A1∧∃ a0,A3 a0)(k:A0→A1→∀ a0,A3 a0→G):G:=ew h.2 (k h.1)
theorem cA {A0:Prop}{A1:Prop}{A2:Prop}{A3:Prop}{G:Prop}(h:A0∧A1∧A2∧A3)(k:A0→A1→A2→A3→G):G:=ch h.2 (k h.1)
theorem n4 {α0:Sort _}{α1:Sort _}{α2:Sort _}{α3:Sort _}{A4:α0→α1→α2→α3→Prop}{G:Prop}(h:∃ a0,∃ a1,∃ a2,∃ a3,A4 a0 a1 a2 a3)(k:∀ a0,∀ a1,∀ a2,∀ a3,A4 a0 a1 a2 a3→G):G:=h.elim fun a0 h=>jy h (k a0)
theorem dm {α0:Sort _}{α1:Sort _}{α2:Sort _}{A3:α0→α1→α2→Prop}{A4:α0→α1→α2→Prop}{G:Prop}(h:∃ a0,∃ a1,∃ a2,A3 a0 a1 a2∧A4 a0 a1 a2)(k:∀ a0,∀ a1,∀ a2,A3 a0 a1 a2→A4 a0 a1 a2→G):G:=h.elim fun a0 h=>bJ h (k a0)
theorem aK {α0:Sort _}{α1:Sort _}{A2:α0→α1→Prop}{A3:α0→α1→Prop}{A4:α0→α1→Prop}{G:Prop}(h:∃ a0,∃ a1,A2 a0 a1∧A3 a0 a1∧A4 a0 a1)(k:∀ a0,∀ a1,A2 a0 a1→A3 a0 a1→A4 a0 a1→G):G:=h.elim fun a0 h=>bT h (k a0)
theorem wL {α0:Sort _}{A1:α0→Prop}{α1:Sort _}{α2:Sort _}{A4:α0→α1→α2→Prop}{G:Prop}(h:∃ a0,A1 a0∧∃ a1,∃ a2,A4 a0 a1 a2)(k:∀ a0,A1 a0→∀ a1,∀ a2,A4 a0 a1 a2→G):G:=h.elim fun a0 h=>yT h (k a0)
theorem xF {α0:Sort _}{A1:α0→Prop}{α1:Sort _}{A3:α0→α1→Prop}{A4:α0→α1→Prop}{G:Prop}(h:∃ a0,A1 a0∧∃ a1,A3 a0 a1∧A4 a0 a1)(k:∀ a0,A1 a0→∀ a1,A3 a0 a1→A4 a0 a1→G):G:=h.elim fun a0 h=>d6 h (k a0)
theorem tV {α0:Sort _}{A1:α0→Prop}{A2:α0→Prop}{α1:Sort _}{A4:α0→α1→Prop}{G:Prop}(h:∃ a0,A1 a0∧A2 a0∧∃ a1,A4 a0 a1)(k:∀ a0,A1 a0→A2 a0→∀ a1,A4 a0 a1→G):G:=h.elim fun a0 h=>Bd h (k a0)
theorem dY {α0:Sort _}{A1:α0→Prop}{A2:α0→Prop}{A3:α0→Prop}{A4:α0→Prop}{G:Prop}(h:∃ a0,A1 a0∧A2 a0∧A3 a0∧A4 a0)(k:∀ a0,A1 a0→A2 a0→A3 a0→A4 a0→G):G:=h.elim fun a0 h=>cA h (k a0)
theorem zN {A0:Prop}{α0:Sort _}{α1:Sort _}{α2:Sort _}{A4:α0→α1→α2→Prop}{G:Prop}(h:A0∧∃ a0,∃ a1,∃ a2,A4 a0 a1 a2)(k:A0→∀ a0,∀ a1,∀ a2,A4 a0 a1 a2→G):G:=jy h.2 (k h.1)
theorem Af {A0:Prop}{α0:Sort _}{α1:Sort _}{A3:α0→α1→Prop}{A4:α0→α1→Prop}{G:Prop}(h:A0∧∃ a0,∃ a1,A3 a0 a1∧A4 a0 a1)(k:A0→∀ a0,∀ a1,A3 a0 a1→A4 a0 a1→G):G:=bJ h.2 (k h.1)
theorem zH {A0:Prop}{α0:Sort _}{A2:α0→Prop}{A3:α0→Prop}{A4:α0→Prop}{G:Prop}(h:A0∧∃ a0,A2 a0∧A3 a0∧A4 a0)(k:A0→∀ a0,A2 a0→A3 a0→A4 a0→G):G:=bT h.2 (k h.1)
theorem y7 {A0:Prop}{A1:Prop}{α0:Sort _}{α1:Sort _}{A4:α0→α1→Prop}{G:Prop}(h:A0∧A1∧∃ a0,∃ a1,A4 a0 a1)(k:A0→A1→∀ a0,∀ a1,A4 a0 a1→G):G:=yT h.2 (k h.1)
theorem wU {A0:Prop}{A1:Prop}{α0:Sort _}{A3:α0→Prop}{A4:α0→Prop}{G:Prop}(h:A0∧A1∧∃ a0,A3 a0∧A4 a0)(k:A0→A1→∀ a0,A3 a0→A4 a0→G):G:=d6 h.2 (k h.1)
theorem di {A0:Prop}{A1:Prop}{A2:Prop}{A3:Prop}{A4:Prop}{G:Prop}(h:A0∧A1∧A2∧A3∧A4)(k:A0→A1→A2→A3→A4→G):G:=cA h.2 (k h.1)
theorem aT {α0:Sort _}{α1:Sort _}{α2:Sort _}{α3:Sort _}{α4:Sort _}{A5:α0→α1→α2→α3→α4→Prop}{G:Prop}(h:∃ a0,∃ a1,∃ a2,∃ a3,∃ a4,A5 a0 a1 a2 a3 a4)(k:∀ a0,∀ a1,∀ a2,∀ a3,∀ a4,A5 a0 a1 a2 a3 a4→G):G:=h.elim fun a0 h=>n4 h (k a0)
theorem c9 {α0:Sort _}{α1:Sort _}{α2:Sort _}{α3:Sort _}{A4:α0→α1→α2→α3→Prop}{A5:α0→α1→α2→α3→Prop}{G:Prop}(h:∃ a0,∃ a1,∃ a2,∃ a3,A4 a0 a1 a2 a3∧A5 a0 a1 a2 a3)(k:∀ a0,∀ a1,∀ a2,∀ a3,A4 a0 a1 a2 a3→A5 a0 a1 a2 a3→G):G:=h.elim fun a0 h=>dm h (k a0)
theorem bC {α0:Sort _}{α1:Sort _}{α2:Sort _}{A3:α0→α1→α2→Prop}{A4:α0→α1→α2→Prop}{A5:α0→α1→α2→Prop}{G:Prop}(h:∃ a0,∃ a1,∃ a2,A3 a0 a1 a2∧A4 a0 a1 a2∧A5 a0 a1 a2)(k:∀ a0,∀ a1,∀ a2,A3 a0 a1 a2→A4 a0 a1 a2→A5 a0 a1 a2→G):G:=h.elim fun a0 h=>aK h (k a0)
theorem cm {α0:Sort _}{α1:Sort _}{A2:α0→α1→Prop}{A3:α0→α1→Prop}{α2:Sort _}{A5:α0→α1→α2→Prop}{G:Prop}(h:∃ a0,∃ a1,A2 a0 a1∧A3 a0 a1∧∃ a2,A5 a0 a1 a2)(k:∀ a0,∀ a1,A2 a0 a1→A3 a0 a1→∀ a2,A5 a0 a1 a2→G):G:=h.elim fun a0 h=>tV h (k a0)
theorem bc {α0:Sort _}{α1:Sort _}{A2:α0→α1→Prop}{A3:α0→α1→Prop}{A4:α0→α1→Prop}{A5:α0→α1→Prop}{G:Prop}(h:∃ a0,∃ a1,A2 a0 a1∧A3 a0 a1∧A4 a0 a1∧A5 a0 a1)(k:∀ a0,∀ a1,A2 a0 a1→A3 a0 a1→A4 a0 a1→A5 a0 a1→G):G:=h.elim fun a0 h=>dY h (k a0)
theorem jf {α0:Sort _}{A1:α0→Prop}{α1:Sort _}{α2:Sort _}{α3:Sort _}{A5:α0→α1→α2→α3→Prop}{G:Prop}(h:∃ a0,A1 a0∧∃ a1,∃ a2,∃ a3,A5 a0 a1 a2 a3)(k:∀ a0,A1 a0→∀ a1,∀ a2,∀ a3,A5 a0 a1 a2 a3→G):G:=h.elim fun a0 h=>zN h (k a0)
theorem hH {α0:Sort _}{A1:α0→Prop}{α1:Sort _}{A3:α0→α1→Prop}{A4:α0→α1→Prop}{A5:α0→α1→Prop}{G:Prop}(h:∃ a0,A1 a0∧∃ a1,A3 a0 a1∧A4 a0 a1∧A5 a0 a1)(k:∀ a0,A1 a0→∀ a1,A3 a0 a1→A4 a0 a1→A5 a0 a1→G):G:=h.elim fun a0 h=>zH h (k a0)
theorem mB {α0:Sort _}{A1:α0→Prop}{A2:α0→Prop}{α1:Sort _}{α2:Sort _}{A5:α0→α1→α2→Prop}{G:Prop}(h:∃ a0,A1 a0∧A2 a0∧∃ a1,∃ a2,A5 a0 a1 a2)(k:∀ a0,A1 a0→A2 a0→∀ a1,∀ a2,A5 a0 a1 a2→G):G:=h.elim fun a0 h=>y7 h (k a0)
theorem mz {α0:Sort _}{A1:α0→Prop}{A2:α0→Prop}{A3:α0→Prop}{A4:α0→Prop}{A5:α0→Prop}{G:Prop}(h:∃ a0,A1 a0∧A2 a0∧A3 a0∧A4 a0∧A5 a0)(k:∀ a0,A1 a0→A2 a0→A3 a0→A4 a0→A5 a0→G):G:=h.elim fun a0 h=>di h (k a0)
theorem yu {A0:Prop}{α0:Sort _}{α1:Sort _}{α2:Sort _}{α3:Sort _}{A5:α0→α1→α2→α3→Prop}{G:Prop}(h:A0∧∃ a0,∃ a1,∃ a2,∃ a3,A5 a0 a1 a2 a3)(k:A0→∀ a0,∀ a1,∀ a2,∀ a3,A5 a0 a1 a2 a3→G):G:=n4 h.2 (k h.1)
theorem gr {A0:Prop}{α0:Sort _}{α1:Sort _}{α2:Sort _}{A4:α0→α1→α2→Prop}{A5:α0→α1→α2→Prop}{G:Prop}(h:A0∧∃ a0,∃ a1,∃ a2,A4 a0 a1 a2∧A5 a0 a1 a2)(k:A0→∀ a0,∀ a1,∀ a2,A4 a0 a1 a2→A5 a0 a1 a2→G):G:=dm h.2 (k h.1)
theorem uo {A0:Prop}{α0:Sort _}{α1:Sort _}{A3:α0→α1→Prop}{A4:α0→α1→Prop}{A5:α0→α1→Prop}{G:Prop}(h:A0∧∃ a0,∃ a1,A3 a0 a1∧A4 a0 a1∧A5 a0 a1)(k:A0→∀ a0,∀ a1,A3 a0 a1→A4 a0 a1→A5 a0 a1→G):G:=aK h.2 (k h.1)
theorem yl {A0:Prop}{A1:Prop}{A2:Prop}{α0:Sort _}{A4:α0→Prop}{A5:α0→Prop}{G:Prop}(h:A0∧A1∧A2∧∃ a0,A4 a0∧A5 a0)(k:A0→A1→A2→∀ a0,A4 a0→A5 a0→G):G:=wU h.2 (k h.1)
theorem cy {A0:Prop}{A1:Prop}{A2:Prop}{A3:Prop}{A4:Prop}{A5:Prop}{G:Prop}(h:A0∧A1∧A2∧A3∧A4∧A5)(k:A0→A1→A2→A3→A4→A5→G):G:=di h.2 (k h.1)
theorem ba {α0:Sort _}{α1:Sort _}{α2:Sort _}{α3:Sort _}{α4:Sort _}{A5:α0→α1→α2→α3→α4→Prop}(a0:α0)(a1:α1)(a2:α2)(a3:α3)(a4:α4)(p5:A5 a0 a1 a2 a3 a4):∃ a0,∃ a1,∃ a2,∃ a3,∃ a4,A5 a0 a1 a2 a3 a4:=⟨a0,a1,a2,a3,a4,p5⟩
theorem th {α0:Sort _}{α1:Sort _}{α2:Sort _}{α3:Sort _}{A4:α0→α1→α2→α3→Prop}(a0:α0)(a1:α1)(a2:α2)(a3:α3)(p4:A4 a0 a1 a2 a3):∃ a0,∃ a1,∃ a2,∃ a3,A4 a0 a1 a2 a3:=⟨a0,a1,a2,a3,p4⟩
theorem c4 {α0:Sort _}{α1:Sort _}{α2:Sort _}{α3:Sort _}{A4:α0→α1→α2→α3→Prop}{A5:α0→α1→α2→α3→Prop}(a0:α0)(a1:α1)(a2:α2)(a3:α3)(p4:A4 a0 a1 a2 a3)(p5:A5 a0 a1 a2 a3):∃ a0,∃ a1,∃ a2,∃ a3,A4 a0 a1 a2 a3∧A5 a0 a1 a2 a3:=⟨a0,a1,a2,a3,p4,p5⟩
theorem gJ {α0:Sort _}{α1:Sort _}{α2:Sort _}{A3:α0→α1→α2→Prop}(a0:α0)(a1:α1)(a2:α2)(p3:A3 a0 a1 a2):∃ a0,∃ a1,∃ a2,A3 a0 a1 a2:=⟨a0,a1,a2,p3⟩
theorem dQ {α0:Sort _}{α1:Sort _}{α2:Sort _}{A3:α0→α1→α2→Prop}{A4:α0→α1→α2→Prop}(a0:α0)(a1:α1)(a2:α2)(p3:A3 a0 a1 a2)(p4:A4 a0 a1 a2):∃ a0,∃ a1,∃ a2,A3 a0 a1 a2∧A4 a0 a1 a2:=⟨a0,a1,a2,p3,p4⟩
theorem bf {α0:Sort _}{α1:Sort _}{α2:Sort _}{A3:α0→α1→α2→Prop}{A4:α0→α1→α2→Prop}{A5:α0→α1→α2→Prop}(a0:α0)(a1:α1)(a2:α2)(p3:A3 a0 a1 a2)(p4:A4 a0 a1 a2)(p5:A5 a0 a1 a2):∃ a0,∃ a1,∃ a2,A3 a0 a1 a2∧A4 a0 a1 a2∧A5 a0 a1 a2:=⟨a0,a1,a2,p3,p4,p5⟩
theorem sx {α0:Sort _}{α1:Sort _}{A2:α0→α1→Prop}(a0:α0)(a1:α1)(p2:A2 a0 a1):∃ a0,∃ a1,A2 a0 a1:=⟨a0,a1,p2⟩
theorem dB {α0:Sort _}{α1:Sort _}{A2:α0→α1→Prop}{α2:Sort _}{α3:Sort _}{A5:α0→α1→α2→α3→Prop}(a0:α0)(a1:α1)(p2:A2 a0 a1)(a2:α2)(a3:α3)(p5:A5 a0 a1 a2 a3):∃ a0,∃ a1,A2 a0 a1∧∃ a2,∃ a3,A5 a0 a1 a2 a3:=⟨a0,a1,p2,a2,a3,p5⟩
theorem pT {α0:Sort _}{α1:Sort _}{A2:α0→α1→Prop}{α2:Sort _}{A4:α0→α1→α2→Prop}{A5:α0→α1→α2→Prop}(a0:α0)(a1:α1)(p2:A2 a0 a1)(a2:α2)(p4:A4 a0 a1 a2)(p5:A5 a0 a1 a2):∃ a0,∃ a1,A2 a0 a1∧∃ a2,A4 a0 a1 a2∧A5 a0 a1 a2:=⟨a0,a1,p2,a2,p4,p5⟩
theorem bV {α0:Sort _}{α1:Sort _}{A2:α0→α1→Prop}{A3:α0→α1→Prop}(a0:α0)(a1:α1)(p2:A2 a0 a1)(p3:A3 a0 a1):∃ a0,∃ a1,A2 a0 a1∧A3 a0 a1:=⟨a0,a1,p2,p3⟩
theorem bP {α0:Sort _}{α1:Sort _}{A2:α0→α1→Prop}{A3:α0→α1→Prop}{α2:Sort _}{A5:α0→α1→α2→Prop}(a0:α0)(a1:α1)(p2:A2 a0 a1)(p3:A3 a0 a1)(a2:α2)(p5:A5 a0 a1 a2):∃ a0,∃ a1,A2 a0 a1∧A3 a0 a1∧∃ a2,A5 a0 a1 a2:=⟨a0,a1,p2,p3,a2,p5⟩
theorem an {α0:Sort _}{α1:Sort _}{A2:α0→α1→Prop}{A3:α0→α1→Prop}{A4:α0→α1→Prop}(a0:α0)(a1:α1)(p2:A2 a0 a1)(p3:A3 a0 a1)(p4:A4 a0 a1):∃ a0,∃ a1,A2 a0 a1∧A3 a0 a1∧A4 a0 a1:=⟨a0,a1,p2,p3,p4⟩
theorem cb {α0:Sort _}{α1:Sort _}{A2:α0→α1→Prop}{A3:α0→α1→Prop}{A4:α0→α1→Prop}{A5:α0→α1→Prop}(a0:α0)(a1:α1)(p2:A2 a0 a1)(p3:A3 a0 a1)(p4:A4 a0 a1)(p5:A5 a0 a1):∃ a0,∃ a1,A2 a0 a1∧A3 a0 a1∧A4 a0 a1∧A5 a0 a1:=⟨a0,a1,p2,p3,p4,p5⟩
theorem mD {α0:Sort _}{A1:α0→Prop}{α1:Sort _}{α2:Sort _}{α3:Sort _}{A5:α0→α1→α2→α3→Prop}(a0:α0)(p1:A1 a0)(a1:α1)(a2:α2)(a3:α3)(p5:A5 a0 a1 a2 a3):∃ a0,A1 a0∧∃ a1,∃ a2,∃ a3,A5 a0 a1 a2 a3:=⟨a0,p1,a1,a2,a3,p5⟩
theorem wB {α0:Sort _}{A1:α0→Prop}{α1:Sort _}{α2:Sort _}{A4:α0→α1→α2→Prop}(a0:α0)(p1:A1 a0)(a1:α1)(a2:α2)(p4:A4 a0 a1 a2):∃ a0,A1 a0∧∃ a1,∃ a2,A4 a0 a1 a2:=⟨a0,p1,a1,a2,p4⟩
theorem ky {α0:Sort _}{A1:α0→Prop}{α1:Sort _}{α2:Sort _}{A4:α0→α1→α2→Prop}{A5:α0→α1→α2→Prop}(a0:α0)(p1:A1 a0)(a1:α1)(a2:α2)(p4:A4 a0 a1 a2)(p5:A5 a0 a1 a2):∃ a0,A1 a0∧∃ a1,∃ a2,A4 a0 a1 a2∧A5 a0 a1 a2:=⟨a0,p1,a1,a2,p4,p5⟩
theorem yX {α0:Sort _}{A1:α0→Prop}{α1:Sort _}{A3:α0→α1→Prop}(a0:α0)(p1:A1 a0)(a1:α1)(p3:A3 a0 a1):∃ a0,A1 a0∧∃ a1,A3 a0 a1:=⟨a0,p1,a1,p3⟩
theorem zL {α0:Sort _}{A1:α0→Prop}{α1:Sort _}{A3:α0→α1→Prop}{A4:α0→α1→Prop}(a0:α0)(p1:A1 a0)(a1:α1)(p3:A3 a0 a1)(p4:A4 a0 a1):∃ a0,A1 a0∧∃ a1,A3 a0 a1∧A4 a0 a1:=⟨a0,p1,a1,p3,p4⟩
theorem aG {α0:Sort _}{A1:α0→Prop}{A2:α0→Prop}(a0:α0)(p1:A1 a0)(p2:A2 a0):∃ a0,A1 a0∧A2 a0:=⟨a0,p1,p2⟩
theorem pO {α0:Sort _}{A1:α0→Prop}{A2:α0→Prop}{α1:Sort _}{α2:Sort _}{A5:α0→α1→α2→Prop}(a0:α0)(p1:A1 a0)(p2:A2 a0)(a1:α1)(a2:α2)(p5:A5 a0 a1 a2):∃ a0,A1 a0∧A2 a0∧∃ a1,∃ a2,A5 a0 a1 a2:=⟨a0,p1,p2,a1,a2,p5⟩
theorem xG {α0:Sort _}{A1:α0→Prop}{A2:α0→Prop}{α1:Sort _}{A4:α0→α1→Prop}(a0:α0)(p1:A1 a0)(p2:A2 a0)(a1:α1)(p4:A4 a0 a1):∃ a0,A1 a0∧A2 a0∧∃ a1,A4 a0 a1:=⟨a0,p1,p2,a1,p4⟩
theorem yy {α0:Sort _}{A1:α0→Prop}{A2:α0→Prop}{α1:Sort _}{A4:α0→α1→Prop}{A5:α0→α1→Prop}(a0:α0)(p1:A1 a0)(p2:A2 a0)(a1:α1)(p4:A4 a0 a1)(p5:A5 a0 a1):∃ a0,A1 a0∧A2 a0∧∃ a1,A4 a0 a1∧A5 a0 a1:=⟨a0,p1,p2,a1,p4,p5⟩
theorem bU {α0:Sort _}{A1:α0→Prop}{A2:α0→Prop}{A3:α0→Prop}(a0:α0)(p1:A1 a0)(p2:A2 a0)(p3:A3 a0):∃ a0,A1 a0∧A2 a0∧A3 a0:=⟨a0,p1,p2,p3⟩
theorem eQ {α0:Sort _}{A1:α0→Prop}{A2:α0→Prop}{A3:α0→Prop}{A4:α0→Prop}(a0:α0)(p1:A1 a0)(p2:A2 a0)(p3:A3 a0)(p4:A4 a0):∃ a0,A1 a0∧A2 a0∧A3 a0∧A4 a0:=⟨a0,p1,p2,p3,p4⟩
theorem dy {α0:Sort _}{A1:α0→Prop}{A2:α0→Prop}{A3:α0→Prop}{A4:α0→Prop}{A5:α0→Prop}(a0:α0)(p1:A1 a0)(p2:A2 a0)(p3:A3 a0)(p4:A4 a0)(p5:A5 a0):∃ a0,A1 a0∧A2 a0∧A3 a0∧A4 a0∧A5 a0:=⟨a0,p1,p2,p3,p4,p5⟩
theorem qz {A0:Prop}{α0:Sort _}{α1:Sort _}{α2:Sort _}{α3:Sort _}{A5:α0→α1→α2→α3→Prop}(p0:A0)(a0:α0)(a1:α1)(a2:α2)(a3:α3)(p5:A5 a0 a1 a2 a3):A0∧∃ a0,∃ a1,∃ a2,∃ a3,A5 a0 a1 a2 a3:=⟨p0,a0,a1,a2,a3,p5⟩
theorem yd {A0:Prop}{α0:Sort _}{α1:Sort _}{α2:Sort _}{A4:α0→α1→α2→Prop}{A5:α0→α1→α2→Prop}(p0:A0)(a0:α0)(a1:α1)(a2:α2)(p4:A4 a0 a1 a2)(p5:A5 a0 a1 a2):A0∧∃ a0,∃ a1,∃ a2,A4 a0 a1 a2∧A5 a0 a1 a2:=⟨p0,a0,a1,a2,p4,p5⟩
theorem kH {A0:Prop}{α0:Sort _}{α1:Sort _}{A3:α0→α1→Prop}{A4:α0→α1→Prop}{A5:α0→α1→Prop}(p0:A0)(a0:α0)(a1:α1)(p3:A3 a0 a1)(p4:A4 a0 a1)(p5:A5 a0 a1):A0∧∃ a0,∃ a1,A3 a0 a1∧A4 a0 a1∧A5 a0 a1:=⟨p0,a0,a1,p3,p4,p5⟩
theorem lx {A0:Prop}{α0:Sort _}{A2:α0→Prop}(p0:A0)(a0:α0)(p2:A2 a0):A0∧∃ a0,A2 a0:=⟨p0,a0,p2⟩
theorem uu {A0:Prop}{α0:Sort _}{A2:α0→Prop}{α1:Sort _}{α2:Sort _}{A5:α0→α1→α2→Prop}(p0:A0)(a0:α0)(p2:A2 a0)(a1:α1)(a2:α2)(p5:A5 a0 a1 a2):A0∧∃ a0,A2 a0∧∃ a1,∃ a2,A5 a0 a1 a2:=⟨p0,a0,p2,a1,a2,p5⟩
theorem yi {A0:Prop}{α0:Sort _}{A2:α0→Prop}{α1:Sort _}{A4:α0→α1→Prop}{A5:α0→α1→Prop}(p0:A0)(a0:α0)(p2:A2 a0)(a1:α1)(p4:A4 a0 a1)(p5:A5 a0 a1):A0∧∃ a0,A2 a0∧∃ a1,A4 a0 a1∧A5 a0 a1:=⟨p0,a0,p2,a1,p4,p5⟩
theorem ut {A0:Prop}{α0:Sort _}{A2:α0→Prop}{A3:α0→Prop}(p0:A0)(a0:α0)(p2:A2 a0)(p3:A3 a0):A0∧∃ a0,A2 a0∧A3 a0:=⟨p0,a0,p2,p3⟩
theorem Ak {A0:Prop}{α0:Sort _}{A2:α0→Prop}{A3:α0→Prop}{A4:α0→Prop}(p0:A0)(a0:α0)(p2:A2 a0)(p3:A3 a0)(p4:A4 a0):A0∧∃ a0,A2 a0∧A3 a0∧A4 a0:=⟨p0,a0,p2,p3,p4⟩
theorem jb {A0:Prop}{A1:Prop}(p0:A0)(p1:A1):A0∧A1:=⟨p0,p1⟩
theorem yB {A0:Prop}{A1:Prop}{α0:Sort _}{α1:Sort _}{A4:α0→α1→Prop}{A5:α0→α1→Prop}(p0:A0)(p1:A1)(a0:α0)(a1:α1)(p4:A4 a0 a1)(p5:A5 a0 a1):A0∧A1∧∃ a0,∃ a1,A4 a0 a1∧A5 a0 a1:=⟨p0,p1,a0,a1,p4,p5⟩
theorem BF {A0:Prop}{A1:Prop}{α0:Sort _}{A3:α0→Prop}(p0:A0)(p1:A1)(a0:α0)(p3:A3 a0):A0∧A1∧∃ a0,A3 a0:=⟨p0,p1,a0,p3⟩
theorem sD {A0:Prop}{A1:Prop}{α0:Sort _}{A3:α0→Prop}{A4:α0→Prop}(p0:A0)(p1:A1)(a0:α0)(p3:A3 a0)(p4:A4 a0):A0∧A1∧∃ a0,A3 a0∧A4 a0:=⟨p0,p1,a0,p3,p4⟩
theorem iPPP {A0:Prop}{A1:Prop}{A2:Prop}(p0:A0)(p1:A1)(p2:A2):A0∧A1∧A2:=⟨p0,p1,p2⟩
theorem cr {A0:Prop}{A1:Prop}{A2:Prop}{A3:Prop}(p0:A0)(p1:A1)(p2:A2)(p3:A3):A0∧A1∧A2∧A3:=⟨p0,p1,p2,p3⟩
theorem yI {A0:Prop}{A1:Prop}{A2:Prop}{A3:Prop}{α0:Sort _}{A5:α0→Prop}(p0:A0)(p1:A1)(p2:A2)(p3:A3)(a0:α0)(p5:A5 a0):A0∧A1∧A2∧A3∧∃ a0,A5 a0:=⟨p0,p1,p2,p3,a0,p5⟩
theorem gU {A0:Prop}{A1:Prop}{A2:Prop}{A3:Prop}{A4:Prop}(p0:A0)(p1:A1)(p2:A2)(p3:A3)(p4:A4):A0∧A1∧A2∧A3∧A4:=⟨p0,p1,p2,p3,p4⟩
theorem cx {A0:Prop}{A1:Prop}{A2:Prop}{A3:Prop}{A4:Prop}{A5:Prop}(p0:A0)(p1:A1)(p2:A2)(p3:A3)(p4:A4)(p5:A5):A0∧A1∧A2∧A3∧A4∧A5:=⟨p0,p1,p2,p3,p4,p5⟩
section
@[elab_as_elim] theorem rg {α:Type}{n:Nat}{P:List α→Prop}{l:List α}(h:l.length=n+1)(k:∀ a r,r.length=n→P (a::r)):P l:=by
 cases l with
 | nil=>cases h
 | cons a r=>exact k a r (Nat.succ.inj h)
@[elab_as_elim] theorem BZ {α:Type}{P:List α→Prop}{l:List α}(h:l.length=0)(k:P []):P l:=by
 cases l with
 | nil=>exact k
 | cons a r=>cases h
@[elab_as_elim] theorem sq {P:Nat→Prop}{n i:Nat}(h:i<n+1)(a:P 0)(b:∀ j,j<n→P (j+1)):P i:=by
 cases i with
 | zero=>exact a
 | succ j=>exact b j (Nat.lt_of_succ_lt_succ h)
@[elab_as_elim] theorem Cz {P:Nat→Prop}{i:Nat}(h:i<0):P i:=absurd h (qN i)
theorem BS {w:Nat}(h:w<5):w=0∨w=1∨w=2∨w=3∨w=4:=by
 revert h w
 decide
structure G where
 f:Addr→Option Obj
 n:Nat
noncomputable def G.le (g g':G):Prop:=(∀ a o,g.f a=some o→g'.f a=some o)∧g.n≤g'.n
theorem G.le.refl {g:G}:G.le g g:=⟨fun O O e=>e,dX _⟩
theorem G.le.trans {a b c:G}(h:G.le a b)(k:G.le b c):G.le a c:=⟨fun x o e=>k.1 x o (h.1 x o e),bw h.2 k.2⟩
noncomputable def G.put (g:G)(a:Addr)(o:Obj):G:={ g with f:=fun b=>if b=a then some o else g.f b }
theorem G.put_self {g:G}{a:Addr}{o:Obj}:(g.put a o).f a=some o:=if_pos rfl
theorem G.le_put {g:G}{a:Addr}{o:Obj}(h:g.f a=none):G.le g (g.put a o):=⟨fun b x e=>by
 unfold G.put
 dsimp only
 rw[if_neg (by rintro rfl;rw[h] at e;cases e)]
 exact e,dX _⟩
noncomputable abbrev OP:=Obj→Prop
noncomputable abbrev be:=List (Addr×OP)
abbrev PQ (α:Type):=α→G→be→Prop
structure Tab where
 c:Addr
 P:Addr
 qs:List (Pos×Str)
structure Cx where
 w:World
 os:OsState
 T:List Tab
noncomputable abbrev prog:Program:=PySem.Challenge.pw_wc0031_01
noncomputable abbrev Cx.M (C:Cx):Model:=model prog C.w
noncomputable def TabOk (g:G)(h:Heap)(t:Tab):Prop :=
 ∃ ps,h.IsCode t.c t.P ps∧h.TableAt t.c t.P ps ∧
  ∀ x∈t.qs,∀ c',codeAmong x.1 ps.toList=some c'→∃ a o vs tk,c'=.ref a∧g.f a=some o∧o.data=.fields vs∧vs[1]?=some (.str x.2 tk)
structure St (C:Cx) (g:G) (M:be) (s:Shared):Prop where
 sub:∀ a o,g.f a=some o→s.heap.get? a=some o
 own:∀ p∈M,∃ o,s.heap.get? p.1=some o∧p.2 o
 sep:∀ p∈M,g.f p.1=none
 nd:(M.map Prod.fst).Nodup
 tab:∀ t∈C.T,TabOk g s.heap t
 tcode:∀ t∈C.T,∃ o,g.f t.c=some o
 tsep:∀ t∈C.T,g.f t.P=none∧∀ p∈M,p.1≠t.P
 tnd:(C.T.map Tab.P).Nodup
 gens:s.gens=#[]
 os:s.os=C.os
 tk:g.n≤s.toks∧1≤s.toks
noncomputable def Fz (g:G)(a:Addr)(P:OP):Prop:=∃ o,g.f a=some o∧P o
theorem Fz.mono {g g':G}{a:Addr}{P:OP}(k:G.le g g')(h:Fz g a P):Fz g' a P:=aL h fun o e p=>(aG o (k.1 _ _ e) p)
theorem Fz.imp {g:G}{a:Addr}{P Q:OP}(h:Fz g a P)(k:∀ o,P o→Q o):Fz g a Q:=aL h fun o e p=>(aG o e (k o p))
noncomputable def Sees (g:G)(M:be)(a:Addr)(P:OP):Prop:=Fz g a P∨∃ P',(a,P')∈M∧∀ o,P' o→P o
theorem Sees.own {g:G}{M:be}{a:Addr}{P:OP}(h:(a,P)∈M):Sees g M a P:=.inr (aG P h (fun O x=>x))
theorem Sees.fz {g:G}{M:be}{a:Addr}{P:OP}(h:Fz g a P):Sees g M a P:=.inl h
theorem Sees.imp {g:G}{M:be}{a:Addr}{P Q:OP}(h:Sees g M a P)(k:∀ o,P o→Q o):Sees g M a Q:=h.elim (fun x=>.inl (x.imp k)) fun q1=>aL q1 fun P' m x=>.inr (aG P' m (fun o p=>k o (x o p)))
section
variable {C:Cx}{g g':G}{M:be}{s:Shared}{a:Addr}{P:OP}
theorem St.sees (S:St C g M s)(h:Sees g M a P):∃ o,s.heap.get? a=some o∧P o:=by
 rcases h with ⟨o,e,p⟩|⟨P',h,k⟩
 ·exact (aG o (S.sub _ _ e) p)
 ·exact let q2:=S.own _ h;aL q2 fun o e p=>(aG o e (k o p))
theorem St.lt (S:St C g M s)(h:g.f a≠none):a<s.heap.objs.size:=by
 cases e:g.f a with
 | none=>exact absurd e h
 | some o=>exact Heap.lt_size (S.sub _ _ e)
theorem St.toks (S:St C g M s){n:Nat}(hn:s.toks≤n):St C g M { s with toks:=n }:=⟨S.sub,S.own,S.sep,S.nd,S.tab,S.tcode,S.tsep,S.tnd,S.gens,S.os,bw S.tk.1 hn,bw S.tk.2 hn⟩
theorem TabOk.keeps {g g':G}{h h':Heap}{t:Tab}(k:G.le g g')(kc:∀ o,h.get? t.c=some o→h'.get? t.c=some o)(kP:∀ o,h.get? t.P=some o→h'.get? t.P=some o)(x:TabOk g h t):TabOk g' h' t:=by
 refine bT x fun ps q3 q4 h3=>aT q3 fun o vs file tf flags q5=>aT q5 fun tg inF text tt op q6=>cy q6 fun a r1 r2 r3 r4 q7=>cA q7 fun r5 r6 b r=>dI q4 fun q8 b3=>bJ q8 fun o' vs' b1 b2=>?_;clear q3 q5 q6 q7 q4 q8 x
 refine (bU ps (ba o vs file tf flags (ba tg inF text tt op (cx (kc _ a) r1 r2 r3 r4 (cr r5 r6 (kP _ b) r)))) ⟨(bV o' vs' (kc _ b1) b2),kP _ b3⟩ (fun x hx c' e=>?_))
 refine c9 (h3 x hx c' e) fun a o vs tk e1 q9=>dI q9 fun e2 e3=>?_;clear q9
 exact (c4 a o vs tk e1 (jb (k.1 _ _ e2) e3))
end
noncomputable def W {α:Type}(C:Cx)(A:Around)(t:Sem α)(g:G)(M:be)(Q:α→G→be→Prop):Prop :=
 ∀ s,St C g M s→wpAny C.M A t (fun v s'=>∃ g' M',G.le g g'∧St C g' M' s'∧Q v g' M') (fun O O=>False) s
section
variable {α β:Type}{C:Cx}{A:Around}{g:G}{M:be}
theorem W.mono {t:Sem α}{Q Q':α→G→be→Prop}(h:W C A t g M Q)(k:∀ v g' M',G.le g g'→Q v g' M'→Q' v g' M'):W C A t g M Q' :=
 fun s S=>wpAny_mono (h s S) (fun O O q10=>aK q10 fun g' M' l S' q=>(an g' M' l S' (k _ _ _ l q))) fun O O x=>x
theorem ak {m:Sem α}{f:α→Sem β}{Q:β→G→be→Prop}(h:W C A m g M (fun v g' M'=>W C A (f v) g' M' Q)):W C A (m >>= f) g M Q :=
 fun s S=>wpAny_bind (wpAny_mono (h s S) (fun v s' q11=>aK q11 fun g' M' l S' q=>wpAny_mono (q s' S') (fun O O q12=>bJ q12 fun g2 M2 l2 r=>(bV g2 M2 (l.trans l2) r)) fun O O x=>x) fun O O x=>x)
theorem ay {a:α}{Q:α→G→be→Prop}(h:Q a g M):W C A (pure a) g M Q:=fun s S=>wpAny_pure (an g M .refl S h)
theorem bQ {t:Sem α}{Q:α→G→be→Prop}(h:∀ q:α→G→be→Prop,(∀ v g' M',(G.le g g'→Q v g' M')→q v g' M')→W C A t g M q):W C A t g M Q :=
 (h (fun v g' M'=>G.le g g'→Q v g' M') fun O O O x=>x).mono fun O O O l k=>k l
theorem j7 {t t':Sem α}{Q:α→G→be→Prop}(e:t=t')(h:W C A t' g M Q):W C A t g M Q:=e▸h
theorem f8 {t:Sem α}{Q:α→G→be→Prop}(h:∀ s,St C g M s→wpAny C.M A t (fun v s'=>s.toks≤s'.toks→∃ g' M',G.le g g'∧St C g' M' s'∧Q v g' M') (fun O O=>False) s):W C A t g M Q :=
 fun s S=>wpAny_with_toks (dX s.toks) (wpAny_mono (h s S) (fun O O x=>x) fun O O x O=>x)
theorem aD {vs:List Value}{m:Sem α}{Q:α→G→be→Prop}(h:W C A m g M Q):W C A (holding vs m) g M Q:=fun s S=>wpAny_holding (h s S)
theorem xN {tag:String}{Q:PQ Unit}(h:Q () g M):W C A (rule tag) g M Q:=fun s S=>wpAny_rule (an g M .refl S h)
theorem aP {p:Pos}{Q:PQ Unit}(h:Q () g M):W C A (standAt p) g M Q:=fun s S=>wpAny_standAt (an g M .refl S h)
theorem yn {Q:PQ Unit}(h:Q () g M):W C A point g M Q:=fun s S=>wpAny_point (an g M .refl S h)
theorem x7 {i:Int}{Q:PQ Value}(h:∀ t,t≠0→Q (.int i t) g M):W C A (mkInt i) g M Q:=fun s S=>wpAny_mkInt (an g M .refl (S.toks (fB _)) (h _ (df S.tk.2)))
theorem wz {x:Str}{Q:PQ Value}(h:∀ t,t≠0→Q (.str x t) g M):W C A (mkText x) g M Q:=fun s S=>wpAny_mkText (an g M .refl (S.toks (fB _)) (h _ (df S.tk.2)))
theorem St.bump {s:Shared}(S:St C g M s):G.le g { g with n:=s.toks+1 }∧St C { g with n:=s.toks+1 } M { s with toks:=s.toks+1 } :=
 ⟨⟨fun O O e=>e,Nat.le_succ_of_le S.tk.1⟩,S.sub,S.own,S.sep,S.nd,fun t ht=>(S.tab t ht).keeps (g:=g) ⟨fun O O e=>e,Nat.le_succ_of_le S.tk.1⟩ (fun O e=>e) fun O e=>e,S.tcode,S.tsep,S.tnd,S.gens,S.os,dX _,j6 _ _⟩
theorem vU {x:Str}{Q:PQ Value}(h:∀ t g',G.le g g'→t≠0→g.n≤t→t<g'.n→Q (.str x t) g' M):W C A (mkText x) g M Q:=fun s S =>
 wpAny_mkText (an _ M S.bump.1 S.bump.2 (h _ _ S.bump.1 (df S.tk.2) S.tk.1 (kI _)))
theorem yZ {a:Addr}{P:OP}{Q:PQ Obj}(v:Sees g M a P)(h:∀ o,P o→Q o g M):W C A (load a) g M Q:=fun s S =>
 let q13:=S.sees v;aL q13 fun o e p=>wpAny_load e (an g M .refl S (h o p))
theorem St.setX {s:Shared}{h':Heap}{n:Nat}{i:Nat}{a:Addr}{P P':OP}{o':Obj}(S:St C g M s)(hi:M[i]?=some (a,P))(hs:∀ b o,b≠a→s.heap.get? b=some o→h'.get? b=some o)(ho:h'.get? a=some o')(hp:P' o')(hn:s.toks≤n:=by first|exact dX _|exact fB _|assumption) :
  St C g (M.set i (a,P')) { s with heap:=h',toks:=n }:=by
 have hmem:(a,P)∈M:=iu hi
 have ga:g.f a=none:=S.sep _ hmem
 have hmap:(M.set i (a,P')).map Prod.fst=M.map Prod.fst:=by
  rw[List.map_set]
  apply List.ext_getElem?
  intro j
  rw[List.getElem?_set]
  split
  ·rename_i e
   subst e
   have:(M.map Prod.fst)[i]?=some a:=by rw[List.getElem?_map,hi];rfl
   rw[this]
   have l:=(List.getElem?_eq_some_iff.mp this).1
   rw[fZ] at l
   simp[l,this]
  ·rfl
 have hin:∀ p∈M.set i (a,P'),p=(a,P')∨(p∈M∧p.1≠a):=by
  intro p hp
  refine bK (List.mem_iff_getElem?.mp hp) fun j hj=>?_
  rw[List.getElem?_set] at hj
  split at hj
  ·split at hj
   ·left;exact (Option.some.inj hj).symm
   ·cases hj
  ·rename_i ne
   refine .inr ⟨iu hj,fun e=>ne ?_⟩
   have h1:(M.map Prod.fst)[i]?=some a:=by rw[List.getElem?_map,hi];rfl
   have h2:(M.map Prod.fst)[j]?=some a:=by rw[List.getElem?_map,hj,Option.map_some,e]
   have l1:=(List.getElem?_eq_some_iff.mp h1).1
   exact (List.getElem?_inj l1 S.nd).mp (h1.trans h2.symm)
 refine ⟨fun b o e=>?_,fun p hp=>?_,fun p hp=>?_,by rw[hmap];exact S.nd,fun t ht=>?_,S.tcode,fun t ht=>⟨(S.tsep t ht).1,fun p hp=>?_⟩,S.tnd,S.gens,S.os,bw S.tk.1 hn,bw S.tk.2 hn⟩
 ·exact hs b o (by rintro rfl;rw[ga] at e;cases e) (S.sub b o e)
 ·rcases hin p hp with rfl|⟨hp,ne⟩
  ·exact (aG o' ho (‹_›))
  ·refine aL (S.own p hp) fun o e q=>?_
   exact (aG o (hs _ _ ne e) q)
 ·rcases hin p hp with rfl|⟨hp,ne⟩
  ·exact ga
  ·exact S.sep p hp
 ·refine (S.tab t ht).keeps .refl (fun o e=>hs _ _ ?_ e) fun o e=>hs _ _ ?_ e
  ·rintro rfl
   refine bK (S.tcode t ht) fun o e=>?_
   rw[ga] at e;cases e
  ·exact fun q=>(S.tsep t ht).2 _ hmem q.symm
 ·rcases hin p hp with rfl|⟨hp,ne⟩
  ·exact (S.tsep t ht).2 (a,P) hmem
  ·exact (S.tsep t ht).2 p hp
theorem St.set {s:Shared}{h':Heap}{n:Nat}{i:Nat}{a:Addr}{P P':OP}{o':Obj}(S:St C g M s)(hi:M[i]?=some (a,P))(hs:Heap.SameBut a s.heap h')(ho:h'.get? a=some o')(hp:P' o')(hn:s.toks≤n:=by first|exact dX _|exact fB _|assumption) :
  St C g (M.set i (a,P')) { s with heap:=h',toks:=n }:=S.setX hi (fun b o ne e=>(hs.2 b ne).trans e) ho hp hn
theorem St.fresh {s:Shared}(S:St C g M s):g.f s.heap.objs.size=none∧(∀ p∈M,p.1≠s.heap.objs.size)∧(∀ t∈C.T,s.heap.objs.size≠t.P):=by
 refine (iPPP ?_ (fun p hp e=>?_) (fun t ht e=>?_))
 ·cases q:g.f s.heap.objs.size with
  | none=>rfl
  | some o=>exact absurd (Heap.lt_size (S.sub _ _ q)) (ro _)
 ·refine aL (S.own p hp) fun o q O=>?_
  rw[e] at q
  exact absurd (Heap.lt_size q) (ro _)
 ·refine aL (S.tab t ht) fun ps x O=>?_
  have:=x.lt.2
  rw[← e] at this
  exact absurd this (ro _)
theorem St.push_own {s:Shared}{o:Obj}{P:OP}{n:Nat}(S:St C g M s)(hf:o.isFreed=false)(hp:P o)(hn:s.toks≤n:=by first|exact dX _|exact fB _|assumption):St C g ((s.heap.objs.size,P)::M) { s with heap:=s.heap.push o,toks:=n }:=by
 refine ch S.fresh fun f1 f2 f3=>?_
 refine ⟨fun b x e=>Heap.get?_push_of_some _ (S.sub _ _ e),fun p hp'=>?_,fun p hp'=>?_,?_,fun t ht=>(S.tab t ht).keeps .refl (fun O e=>Heap.get?_push_of_some _ e) fun O e=>Heap.get?_push_of_some _ e,S.tcode,
  fun t ht=>⟨(S.tsep t ht).1,fun p hp'=>?_⟩,S.tnd,S.gens,S.os,bw S.tk.1 hn,bw S.tk.2 hn⟩
 ·rcases List.mem_cons.mp hp' with rfl|hp'
  ·exact (aG o (Heap.get?_push_size _ hf) hp)
  ·refine aL (S.own p hp') fun x e q=>?_
   exact (aG x (Heap.get?_push_of_some _ e) q)
 ·rcases List.mem_cons.mp hp' with rfl|hp'
  ·exact f1
  ·exact S.sep p hp'
 ·rw[dC,qn]
  refine ⟨fun h=>?_,S.nd⟩
  refine aL (List.mem_map.mp h) fun p hp' e=>?_
  exact f2 p hp' e
 ·rcases List.mem_cons.mp hp' with rfl|hp'
  ·exact f3 t ht
  ·exact (S.tsep t ht).2 p hp'
theorem St.freeze {s:Shared}{a:Addr}{P:OP}(S:St C g ((a,P)::M) s):∃ o,P o∧g.f a=none∧St C (g.put a o) M s:=by
 refine aL (S.own (a,P) (.head _)) fun o e p=>?_
 have ga:g.f a=none:=S.sep (a,P) (.head _)
 have nd:=S.nd
 rw[dC,qn] at nd
 refine ⟨o,p,ga,fun b x q=>?_,fun q hq=>S.own q (.tail _ hq),fun q hq=>?_,nd.2,fun t ht=>(S.tab t ht).keeps (G.le_put ga) (fun O e=>e) fun O e=>e,
  fun t ht=>let q15:=S.tcode t ht;bK q15 fun x q=>⟨x,(G.le_put ga).1 _ _ q⟩,fun t ht=>⟨?_,fun q hq=>(S.tsep t ht).2 q (.tail _ hq)⟩,S.tnd,S.gens,S.os,S.tk⟩
 ·unfold G.put at q
  dsimp only at q
  split at q
  ·cases q;rename_i h;rw[h];exact e
  ·exact S.sub _ _ q
 ·unfold G.put
  dsimp only
  rw[if_neg (fun h=>nd.1 (List.mem_map.mpr (aG q hq h)))]
  exact S.sep q (.tail _ hq)
 ·unfold G.put
  dsimp only
  rw[if_neg (fun h=>(S.tsep t ht).2 (a,P) (.head _) h.symm)]
  exact (S.tsep t ht).1
theorem St.drop {s:Shared}{X:be}(S:St C g (X++M) s):St C g M s:=by
 refine ⟨S.sub,fun p hp=>S.own p (uQ _ hp),fun p hp=>S.sep p (uQ _ hp),?_,S.tab,S.tcode,fun t ht=>⟨(S.tsep t ht).1,fun p hp=>(S.tsep t ht).2 p (uQ _ hp)⟩,S.tnd,S.gens,S.os,S.tk⟩
 have:=S.nd
 rw[ζ18] at this
 exact (List.nodup_append.mp this).2.1
theorem St.imp {s:Shared}{i:Nat}{a:Addr}{P P':OP}(S:St C g M s)(hi:M[i]?=some (a,P))(k:∀ o,P o→P' o):St C g (M.set i (a,P')) s:=by
 refine aL (S.own (a,P) (iu hi)) fun o e p=>?_
 exact S.set (h':=s.heap) (n:=s.toks) hi ⟨rfl,fun O O=>rfl⟩ e (k o p)
theorem St.erase {s:Shared}(S:St C g M s)(i:Nat):St C g (M.eraseIdx i) s :=
 ⟨S.sub,fun p hp=>S.own p (wZ hp),fun p hp=>S.sep p (wZ hp),S.nd.sublist ((List.eraseIdx_sublist ..).map _),S.tab,S.tcode,fun t ht=>⟨(S.tsep t ht).1,fun p hp=>(S.tsep t ht).2 p (wZ hp)⟩,S.tnd,S.gens,S.os,S.tk⟩
theorem St.perm {s:Shared}{M':be}(S:St C g M s)(h:M.Perm M'):St C g M' s :=
 ⟨S.sub,fun p hp=>S.own p (h.mem_iff.mpr hp),fun p hp=>S.sep p (h.mem_iff.mpr hp),(h.map _).nodup_iff.mp S.nd,S.tab,S.tcode,fun t ht=>⟨(S.tsep t ht).1,fun p hp=>(S.tsep t ht).2 p (h.mem_iff.mpr hp)⟩,S.tnd,S.gens,S.os,S.tk⟩
theorem St.forget {s:Shared}{h':Heap}{n i:Nat}{a:Addr}{P:OP}(S:St C g M s)(hi:M[i]?=some (a,P))(keep:∀ b o,b≠a→s.heap.get? b=some o→h'.get? b=some o)(hn:s.toks≤n):St C g (M.eraseIdx i) { s with heap:=h',toks:=n }:=by
 have ga:g.f a=none:=S.sep _ (iu hi)
 have hne:∀ p∈M.eraseIdx i,p.1≠a:=by
  intro p hp e
  have hl:=(List.getElem?_eq_some_iff.mp hi).1
  have:((a,P)::M.eraseIdx i).map Prod.fst |>.Nodup:=by
   have q:M.Perm ((a,P)::M.eraseIdx i):=by
    have:=(List.getElem?_eq_some_iff.mp hi).2
    rw[List.eraseIdx_eq_take_drop_succ]
    have e2:M=M.take i++(a,P)::M.drop (i+1):=by
     rw[← this]
     exact (rt i M).symm.trans (by rw[nR hl])
    exact (List.Perm.of_eq e2).trans List.perm_middle
   exact (q.map _).nodup_iff.mp S.nd
  rw[dC,qn] at this
  exact this.1 (List.mem_map.mpr (aG p hp e))
 have E:=S.erase i
 refine ⟨fun b o e=>keep b o ?_ (E.sub b o e),fun p hp=>?_,E.sep,E.nd,fun t ht=>(E.tab t ht).keeps .refl (fun o e=>keep _ o ?_ e) fun o e=>keep _ o ?_ e,E.tcode,E.tsep,E.tnd,E.gens,E.os,bw E.tk.1 hn,bw E.tk.2 hn⟩
 ·rintro rfl;rw[ga] at e;cases e
 ·refine aL (E.own p hp) fun o e q=>?_
  exact (aG o (keep _ o (hne p hp) e) q)
 ·rintro x
  refine bK (E.tcode t ht) fun y hy=>?_
  rw[x,ga] at hy;cases hy
 ·exact fun x=>(S.tsep t ht).2 _ (iu hi) x.symm
theorem eP {t:Sem α}{i:Nat}{Q:α→G→be→Prop}(h:W C A t g (M.eraseIdx i) Q):W C A t g M Q:=fun s S=>h s (S.erase i)
theorem iG {t:Sem α}{M':be}{Q:α→G→be→Prop}(p:M.Perm M')(h:W C A t g M' Q):W C A t g M Q:=fun s S=>h s (S.perm p)
theorem Bk {t:Sem α}{a:Addr}{P:OP}{Q:α→G→be→Prop}(h:∀ o,P o→g.f a=none→W C A t (g.put a o) M Q):W C A t g ((a,P)::M) Q:=fun s S=>by
 refine bT S.freeze fun o p ga S'=>?_
 exact wpAny_mono (h o p ga s S') (fun O O q16=>bJ q16 fun g' M' l r=>(bV g' M' ((G.le_put ga).trans l) r)) fun O O x=>x
theorem wy {t:Sem α}{a:Addr}{P:OP}{Q:α→G→be→Prop}(h:∀ g',G.le g g'→Fz g' a P→W C A t g' M Q):W C A t g ((a,P)::M) Q :=
 Bk fun O p ga=>h _ (G.le_put ga) (aG _ G.put_self p)
theorem bM {t:Sem α}{i:Nat}{a:Addr}{P:OP}{Q:α→G→be→Prop}(hi:M[i]?=some (a,P))(h:∀ g',G.le g g'→Fz g' a P→W C A t g' (M.eraseIdx i) Q):W C A t g M Q:=by
 have hl:=(List.getElem?_eq_some_iff.mp hi).1
 have e:M.Perm ((a,P)::M.eraseIdx i):=by
  have:=(List.getElem?_eq_some_iff.mp hi).2
  rw[List.eraseIdx_eq_take_drop_succ]
  have e2:M=M.take i++(a,P)::M.drop (i+1):=by
   rw[← this]
   exact (rt i M).symm.trans (by rw[nR hl])
  have p2:(M.take i++(a,P)::M.drop (i+1)).Perm ((a,P)::(M.take i++M.drop (i+1))):=List.perm_middle
  exact (List.Perm.of_eq e2).trans p2
 exact iG e (wy h)
theorem rU {t:Sem α}{i:Nat}{a:Addr}{P P':OP}{Q:α→G→be→Prop}(hi:M[i]?=some (a,P))(k:∀ o,P o→P' o)(h:W C A t g (M.set i (a,P')) Q):W C A t g M Q:=fun s S=>h s (S.imp hi k)
theorem nZ {o:Obj}{P:OP}{Q:Addr→G→be→Prop}(hp:P o)(h:∀ a,Q a g ((a,P)::M))(hf:o.isFreed=false:=by exact Eq.refl false):W C A (alloc o) g M Q:=fun s S =>
 wpAny_alloc (an g _ .refl (S.push_own hf hp) (h _))
end
end
section
noncomputable def ix (m:Str→Option Value):OP:=fun o=>∃ es ep,o.data=.dict es ep∧StrKeys es∧∀ name,nsFind es name=m name
noncomputable def ag (v:Option Value):OP:=fun o=>o.data=.cell v
noncomputable def ai (xs:Array Value):OP:=fun o=>∃ n,o={ cls:=.type "list",data:=.seq xs n }
noncomputable def bq (xs:Array Value):OP:=fun o=>o.cls=.type "list"∧∃ n,o.data=.seq xs n
theorem bj {xs:Array Value}{o:Obj}(h:ai xs o):bq xs o:=bK h fun n e=>by subst e;exact (lx rfl n rfl)
noncomputable def bS (xs:Array Value):OP:=fun o=>∃ n,o={ cls:=.type "tuple",data:=.seq xs n }
noncomputable def lk:List (Str×Value)→Str→Option Value
 | [],_=>none
 | (y,v)::r,x=>if x=y then some v else lk r x
noncomputable def bR:List (Str×Value)→Str→Value→List (Str×Value)
 | [],x,v=>[(x,v)]
 | (y,u)::r,x,v=>if x=y then (y,v)::r else (y,u)::bR r x v
theorem uP (x:Str)(v:Value):∀ l:List (Str×Value),(fun y=>if y=x then some v else lk l y)=lk (bR l x v)
 | []=>by funext y;simp only[bR,lk]
 | (z,u)::r=>by
  funext y
  have ih:=congrFun (uP x v r) y
  simp only[bR]
  by_cases h:x=z
  ·subst h
   rw[if_pos rfl]
   simp only[lk]
   by_cases h2:y=x
   ·simp[h2]
   ·simp[h2]
  ·rw[if_neg h]
   simp only[lk]
   rw[← ih]
   by_cases h2:y=z
   ·subst h2
    rw[if_neg (fun e=>h e.symm),if_pos rfl,if_pos rfl]
   ·rw[if_neg h2,if_neg h2]
theorem eK (l:List (Str×Value))(x:Str)(v:Value)(y:Str):lk (bR l x v) y=if y=x then some v else lk l y:=(congrFun (uP x v l) y).symm
noncomputable def aJ (l:List (Str×Value)):OP:=fun o=>∃ m,ix m o∧∀ x v,lk l x=some v→m x=some v
theorem xh {l l':List (Str×Value)}(h:∀ x v,lk l' x=some v→lk l x=some v)(o:Obj)(k:aJ l o):aJ l' o:=aL k fun m a b=>(aG m a (fun x v e=>b x v (h x v e)))
section
variable {C:Cx}{A:Around}{g:G}{M:be}{s:Shared}{a:Addr}
theorem St.ns {m:Str→Option Value}(S:St C g M s)(h:Sees g M a (ix m)):s.heap.Ns a m:=let q1:=S.sees h;wL q1 fun o e es ep r=>(dQ o es ep e r)
theorem St.loc {l:List (Str×Value)}(S:St C g M s)(h:Sees g M a (aJ l)):∃ m,s.heap.Ns a m∧∀ x v,lk l x=some v→m x=some v:=let q2:=S.sees h;xF q2 fun o e m q3 k=>vO q3 fun es ep r=>(aG m (dQ o es ep e r) k)
theorem St.cell {v:Option Value}(S:St C g M s)(h:Sees g M a (ag v)):s.heap.IsCell a v:=let q4:=S.sees h;aL q4 fun o e r=>(aG o e r)
theorem St.list {xs:Array Value}(S:St C g M s)(h:Sees g M a (bq xs)):s.heap.IsList a xs:=let q5:=S.sees h;aL q5 fun o e r=>(aG o e r)
theorem St.tuple {xs:Array Value}(S:St C g M s)(h:Sees g M a (bS xs)):s.heap.IsTuple a xs:=let q6:=S.sees h;jC q6 fun o e n r=>(aG o e (by subst r;exact (lx rfl n rfl)))
theorem St.isL {xs:Array Value}(S:St C g M s)(h:Sees g M a (ai xs)):s.heap.PlainList a xs:=let q7:=S.sees h;jC q7 fun o e n r=>⟨n,by subst r;exact e⟩
end
section
variable {α:Type}{C:Cx}{A:Around}{g:G}{M:be}{env:Env}
theorem lm {vs keep:List Value}{Q:PQ Unit}(h:Q () g M):W C A (release vs keep) g M Q:=fun s S=>wpAny_release (an g M .refl S h)
theorem eV {vs:List Value}{m:Sem Value}{Q:PQ Value}(h:W C A m g M Q):W C A (operate vs m) g M Q:=by
 unfold operate
 exact ak (aD (h.mono fun v g' M' O q=>ak (lm (ay q))))
theorem eW {base:Expr}{o r:Value}{Q:PQ Unit}(h:Q () g M):W C A (letTemporaryGo base o r) g M Q:=fun s S=>wpAny_letTemporaryGo (an g M .refl S h)
theorem aU {x:Str}{pos:Pos}{c:Addr}{v:Value}{Q:PQ Value}(hc:env.cells.lookup x=some c)(hv:Sees g M c (ag (some v)))(h:Q v g M)(hk:env.scope.kind=.function:=by exact Eq.refl ScopeKind.function)(hl:env.kindOf x=some .cell:=by exact Eq.refl (some NameKind.cell))(hd:(x==("__debug__":Str))=false:=by decide):W C A (eval (.Name x pos) env) g M Q :=
 fun s S=>wpAny_Name (wpAny_loadName_cell hk hl hc (S.cell hv) (an g M .refl S h)) hd
theorem jV {x:Str}{pos:Pos}{c:Addr}{v:Value}{Q:PQ Value}(hc:env.cells.lookup x=some c)(hv:Sees g M c (ag (some v)))(h:Q v g M)(hk:env.scope.kind=.function:=by exact Eq.refl ScopeKind.function)(hl:env.kindOf x=some .free:=by exact Eq.refl (some NameKind.free))(hd:(x==("__debug__":Str))=false:=by decide)(hn:(x==("__classdict__":Str))=false:=by decide):W C A (eval (.Name x pos) env) g M Q :=
 fun s S=>wpAny_Name (wpAny_loadName_free hk hl hc (S.cell hv) (an g M .refl S h) hn) hd
theorem wp {x:Str}{pos:Pos}{mg:Str→Option Value}{v:Value}{Q:PQ Value}(hg:Fz g env.globals (ix mg))(e:mg x=some v)(h:Q v g M)(hk:env.scope.kind=.function:=by exact Eq.refl ScopeKind.function)(hl:env.kindOf x=some .globalImplicit:=by exact Eq.refl (some NameKind.globalImplicit))(hd:(x==("__debug__":Str))=false:=by decide):W C A (eval (.Name x pos) env) g M Q :=
 fun s S=>Name_function_global hk hl (loadGlobal_global (S.ns (.inl hg)) e (an g M .refl S h)) hd
theorem vh {x:Str}{pos:Pos}{mg mb:Str→Option Value}{v:Value}{Q:PQ Value}(hg:Fz g env.globals (ix mg))(e:mg x=none)(hb:Fz g env.builtins (ix mb))(eb:mb x=some v)(h:Q v g M)(hk:env.scope.kind=.function:=by exact Eq.refl ScopeKind.function)(hl:env.kindOf x=some .globalImplicit:=by exact Eq.refl (some NameKind.globalImplicit))(hd:(x==("__debug__":Str))=false:=by decide):W C A (eval (.Name x pos) env) g M Q :=
 fun s S=>Name_function_global hk hl (loadGlobal_builtin (S.ns (.inl hg)) e (S.ns (.inl hb)) eb (an g M .refl S h)) hd
theorem aH {x:Str}{c:Addr}{v₀:Option Value}{v:Value}{i:Nat}{Q:PQ Unit}(hc:env.cells.lookup x=some c)(hi:M[i]?=some (c,ag v₀))(h:Q () g (M.set i (c,ag (some v))))(hk:env.scope.kind=.function:=by exact Eq.refl ScopeKind.function)(hl:env.kindOf x=some .cell:=by exact Eq.refl (some NameKind.cell)):W C A (storeName env x v) g M Q:=fun s S =>
 wpAny_storeName_cell hk hl hc (S.cell (.own (iu hi))) fun h' q9 hs=>aL q9 fun o ho hd=>(an g _ .refl (S.set (n:=s.toks) hi hs ho hd) h)
theorem fQ {x:Str}{v:Value}{Q:PQ Unit}(h:W C A (storeName env x v) g M Q):W C A (bindName env x v) g M Q:=fun s S=>wpAny_bindName (h s S)
theorem bx {i:Int}{k:Nat}{pos:Pos}{Q:PQ Value}(h:∀ t,t≠0→Q (.int i t) g M):W C A (eval (.Constant (.int i) k pos) env) g M Q:=x7 h
theorem eA {x:Str}{k:Nat}{pos:Pos}{Q:PQ Value}(h:∀ t,t≠0→Q (.str x t) g M):W C A (eval (.Constant (.str x) k pos) env) g M Q:=wz h
theorem gx {x:Str}{k:Nat}{pos:Pos}{Q:PQ Value}(h:∀ t g',G.le g g'→t≠0→g.n≤t→t<g'.n→Q (.str x t) g' M):W C A (eval (.Constant (.str x) k pos) env) g M Q:=vU h
theorem qk {k:Nat}{pos:Pos}{Q:PQ Value}(h:Q .none g M):W C A (eval (.Constant .none k pos) env) g M Q:=ay h
theorem pL {b:Bool}{k:Nat}{pos:Pos}{Q:PQ Value}(h:Q (.bool b) g M):W C A (eval (.Constant (.bool b) k pos) env) g M Q:=ay h
noncomputable abbrev K1 {α β:Type}(C:Cx)(A:Around)(t:α→Sem β)(Q:β→G→be→Prop):α→G→be→Prop:=fun a g M=>W C A (t a) g M Q
noncomputable abbrev K2 {α β γ:Type}(C:Cx)(A:Around)(r:Sem β)(t:α→β→Sem γ)(Q:γ→G→be→Prop):α→G→be→Prop:=fun a g M=>W C A r g M (K1 C A (t a) Q)
noncomputable abbrev KC {α:Type}(v:α)(Q:List α→G→be→Prop):List α→G→be→Prop:=fun vs=>Q (v::vs)
noncomputable abbrev KL {α:Type}(C:Cx)(A:Around)(r:Sem (List α))(Q:List α→G→be→Prop):α→G→be→Prop:=fun v g M=>W C A r g M (KC v Q)
theorem bh {l r:Expr}{op:Operator}{pos:Pos}{Q:PQ Value}(h:W C A (eval l env) g M (K2 C A (eval r env) (binaryOp op) Q)) :
  W C A (eval (.BinOp l op r pos) env) g M Q:=by
 rw[eval_BinOp]
 exact ak (h.mono fun a O O O h=>ak (aD (h.mono fun b O O O h=>ak (aP (eV h)))))
theorem vN {x:Expr}{op:UnaryOp}{pos:Pos}{Q:PQ Value}(h:W C A (eval x env) g M (K1 C A (unaryOp op) Q)):W C A (eval (.UnaryOp op x pos) env) g M Q:=by
 show W C A (do let v ← eval x env;standAt pos;holding [v] (unaryOp op v)) g M Q
 exact ak (h.mono fun O O O O h=>ak (aP (aD h)))
theorem fH {l r:Expr}{op:CmpOp}{pos:Pos}{Q:PQ Value}(h:W C A (eval l env) g M (K2 C A (eval r env) (compareOp op) Q))(hm:behindInMarks op r=false:=by with_unfolding_all exact Eq.refl false):W C A (eval (.Compare l [op] [r] pos) env) g M Q:=by
 rw[eval_Compare1,markedBehindIn_of_false hm]
 exact ak (h.mono fun a O O O h=>ak (aD (h.mono fun b O O O h=>ak (aP (eV h)))))
theorem gk {t b o:Expr}{pos:Pos}{Q:PQ Value}(h:W C A (isTrue t env (eval t env)) g M (fun c g₁ M₁=>if c=true then W C A (eval b env) g₁ M₁ Q else W C A (eval o env) g₁ M₁ Q)):W C A (eval (.IfExp t b o pos) env) g M Q:=by
 show W C A (do if ← isTrue t env (eval t env) then eval b env else eval o env) g M Q
 refine ak (h.mono fun c O O O h=>?_)
 cases c<;>exact h
theorem fI {e:Expr}{whole:Sem Value}{Q:PQ Bool}(h:W C A whole g M (K1 C A truthy Q))(he:isTrue e env whole=(do let v ← whole;standAt e.pos;holding [v] (truthy v)):=by rfl):W C A (isTrue e env whole) g M Q:=by
 rw[he]
 exact ak (h.mono fun v O O O h=>ak (aP (aD h)))
theorem aR {l r:Expr}{op:CmpOp}{pos:Pos}{whole:Sem Value}{Q:PQ Bool}(h:W C A (eval l env) g M (K2 C A (eval r env) (compareOp op) (K1 C A truthy Q)))(hm:behindInMarks op r=false:=by with_unfolding_all exact Eq.refl false):W C A (isTrue (.Compare l [op] [r] pos) env whole) g M Q:=by
 rw[isTrue_Compare1,markedBehindIn_of_false hm]
 refine ak (h.mono fun a O O O h=>ak (aD (h.mono fun b O O O h=>ak (aP (ak (eV (h.mono fun c O O O h=>?_)))))))
 exact aD h
theorem ee {op:BoolOp}{values:List Expr}{pos:Pos}{whole:Sem Value}{Q:PQ Bool}(h:W C A (allTrue op values env) g M Q):W C A (isTrue (.BoolOp op values pos) env whole) g M Q:=h
theorem gu {Q:PQ Bool}(h:Q true g M):W C A (allTrue .And [] env) g M Q:=ay h
theorem ff {Q:PQ Bool}(h:Q false g M):W C A (allTrue .Or [] env) g M Q:=ay h
theorem dw {x:Expr}{rest:List Expr}{Q:PQ Bool}(h:W C A (isTrue x env (eval x env)) g M (fun b g₁ M₁=>if b=true then W C A (allTrue .And rest env) g₁ M₁ Q else Q false g₁ M₁)) :
  W C A (allTrue .And (x::rest) env) g M Q:=by
 show W C A (do match BoolOp.And,← isTrue x env (eval x env) with|.And,false=>pure false|.Or,true=>pure true|_,_=>allTrue .And rest env) g M Q
 refine ak (h.mono fun b O O O h=>?_)
 cases b
 ·exact ay h
 ·exact h
theorem c8 {x:Expr}{rest:List Expr}{Q:PQ Bool}(h:W C A (isTrue x env (eval x env)) g M (fun b g₁ M₁=>if b=true then Q true g₁ M₁ else W C A (allTrue .Or rest env) g₁ M₁ Q)) :
  W C A (allTrue .Or (x::rest) env) g M Q:=by
 show W C A (do match BoolOp.Or,← isTrue x env (eval x env) with|.And,false=>pure false|.Or,true=>pure true|_,_=>allTrue .Or rest env) g M Q
 refine ak (h.mono fun b O O O h=>?_)
 cases b
 ·exact h
 ·exact ay h
theorem mZ {op:BoolOp}{vs:List Expr}{pos:Pos}{Q:PQ Value}(h:W C A (boolOp pos op (evalEach vs env)) g M Q):W C A (eval (.BoolOp op vs pos) env) g M Q:=h
theorem fC {op:BoolOp}{x:Expr}{pos:Pos}{Q:PQ Value}(h:W C A (eval x env) g M Q):W C A (boolOp pos op (evalEach [x] env)) g M Q:=h
theorem ig {x y:Expr}{r:List Expr}{pos:Pos}{Q:PQ Value}(h:W C A (eval x env) g M (fun v g₁ M₁=>W C A (truthy v) g₁ M₁ (fun t g₂ M₂=>if t=true then W C A (boolOp pos .And (evalEach (y::r) env)) g₂ M₂ Q else Q v g₂ M₂))):W C A (boolOp pos .And (evalEach (x::y::r) env)) g M Q:=by
 show W C A (do
  let v ← eval x env
  standAt pos
  let t ← holding [v] (truthy v)
  match BoolOp.And,t with
  | .And,false|.Or,true=>pure v
  | _,_=>boolOp pos .And (evalEach (y::r) env)) g M Q
 refine ak (h.mono fun v O O O h=>ak (aP (ak (aD (h.mono fun t O O O h=>?_)))))
 cases t
 ·exact ay h
 ·exact h
theorem lQ {x y:Expr}{r:List Expr}{pos:Pos}{Q:PQ Value}(h:W C A (eval x env) g M (fun v g₁ M₁=>W C A (truthy v) g₁ M₁ (fun t g₂ M₂=>if t=true then Q v g₂ M₂ else W C A (boolOp pos .Or (evalEach (y::r) env)) g₂ M₂ Q))):W C A (boolOp pos .Or (evalEach (x::y::r) env)) g M Q:=by
 show W C A (do
  let v ← eval x env
  standAt pos
  let t ← holding [v] (truthy v)
  match BoolOp.Or,t with
  | .And,false|.Or,true=>pure v
  | _,_=>boolOp pos .Or (evalEach (y::r) env)) g M Q
 refine ak (h.mono fun v O O O h=>ak (aP (ak (aD (h.mono fun t O O O h=>?_)))))
 cases t
 ·exact h
 ·exact ay h
theorem aj {pos:Pos}{Q:List Value→G→be→Prop}(h:Q [] g M):W C A (spliced (backTo pos (starEach [] env))) g M Q:=ay h
theorem ab {pos:Pos}{e:Expr}{rest:List Expr}{Q:List Value→G→be→Prop}(h:W C A (eval e env) g M (KL C A (spliced (backTo pos (starEach rest env))) Q))(he:starEach (e::rest) env=(false,eval e env)::starEach rest env:=by rfl):W C A (spliced (backTo pos (starEach (e::rest) env))) g M Q:=by
 rw[he]
 show W C A (do
  let v ← eval e env
  let here ← (pure [v]:Sem (List Value))
  return here++(← holding here (spliced (backTo pos (starEach rest env))))) g M Q
 exact ak (h.mono fun v O O O h=>ak (ay (ak (aD (h.mono fun vs O O O h=>ay h)))))
end
end
section
theorem St.keeps {C:Cx}{g:G}{M:be}{s:Shared}{h':Heap}{n:Nat}(S:St C g M s)(k:∀ b o,s.heap.get? b=some o→h'.get? b=some o)(hn:s.toks≤n:=by first|exact dX _|exact fB _|assumption):St C g M { s with heap:=h',toks:=n } :=
 ⟨fun b o e=>k _ _ (S.sub b o e),fun p hp=>let q1:=S.own p hp;aL q1 fun o e q=>(aG o (k _ _ e) q),S.sep,S.nd,fun t ht=>(S.tab t ht).keeps .refl (fun o e=>k _ _ e) fun o e=>k _ _ e,S.tcode,S.tsep,S.tnd,S.gens,S.os,bw S.tk.1 hn,bw S.tk.2 hn⟩
theorem Sees.mono {g g':G}{M:be}{a:Addr}{P:OP}(k:G.le g g')(h:Sees g M a P):Sees g' M a P:=Or.imp (Fz.mono k) id h
section
variable {C:Cx}{A:Around}{g:G}{M:be}{env:Env}
noncomputable abbrev KS (C:Cx)(A:Around)(t:Sem Flow)(Q:PQ Flow):PQ Flow:=fun f g' M'=>match f with|.next=>W C A t g' M' Q|f=>Q f g' M'
noncomputable abbrev KN (C:Cx)(A:Around)(env:Env)(x:Str)(Q:PQ Flow):PQ Value:=fun v g₁ M₁=>W C A (storeName env x v) g₁ M₁ (fun O=>Q .next)
theorem bu {Q:PQ Flow}(h:Q .next g M):W C A (execs [] env) g M Q:=ay h
theorem af {st:Stmt}{rest:List Stmt}{Q:PQ Flow}(h:W C A (exec st env) g M (KS C A (execs rest env) Q)):W C A (execs (st::rest) env) g M Q:=by
 rw[execs_cons]
 refine ak (h.mono fun f g' M' O h=>?_)
 cases f<;>first|exact h|exact ay h
theorem nI {t:Expr}{b o:List Stmt}{pos:Pos}{Q:PQ Flow}(h:W C A (isTrue t env (eval t env)) g M (fun c g₁ M₁=>if c=true then W C A (execs b env) g₁ M₁ Q else W C A (execs o env) g₁ M₁ Q)) :
  W C A (exec (.If t b o pos) env) g M Q:=by
 rw[exec_If]
 refine ak (aP (ak (h.mono fun c O O O h=>?_)))
 cases c<;>exact h
theorem cz {e:Expr}{pos:Pos}{Q:PQ Flow}(h:W C A (eval e env) g M (fun v=>Q (.ret v))):W C A (exec (.Return (some e) pos) env) g M Q:=by
 rw[exec_Return_some]
 exact ak (aP (ak (h.mono fun O O O O h=>ay h)))
theorem aA {x:Str}{value:Expr}{p pos:Pos}{Q:PQ Flow}(h:W C A (eval value env) g M (KN C A env x Q))(hs:swapsWith value (some (.Name x p)) pos.line env=pure false:=by rfl):W C A (exec (.Assign [.Name x p] value pos) env) g M Q:=by
 rw[exec_Assign_Name _ _ _ _ _ hs]
 exact ak (aP (ak (h.mono fun O O O O h=>ak (aP (ak (fQ (h.mono fun O O O O h=>ay h)))))))
theorem gC {x:Str}{op:Operator}{value:Expr}{p pos:Pos}{Q:PQ Flow}(h:W C A (loadName env x) g M (K2 C A (eval value env) (inplaceOp op) (KN C A env x Q))) :
  W C A (exec (.AugAssign (.Name x p) op value pos) env) g M Q:=by
 rw[exec_AugAssign_Name]
 exact ak (aP (ak (h.mono fun O O O O h=>ak (aD (h.mono fun O O O O h=>ak (aP (ak (eV (h.mono fun O O O O h=>ak (aP (ak (fQ (h.mono fun O O O O h=>ay h)))))))))))))
theorem ld {e:Expr}{pos:Pos}{Q:PQ Flow}(h:W C A (eval e env) g M (fun v g₁ M₁=>(∀ a,v≠.ref a)∧Q .next g₁ M₁))(hi:interactive env=false:=by exact Eq.refl false)(hs:swapsWith e none pos.line env=pure false:=by rfl) :
  W C A (exec (.Expr e pos) env) g M Q:=by
 rw[exec_Expr env e pos hi hs]
 refine ak (aP (ak (h.mono fun v O O O h=>?_)))
 rw[dropValue_plain h.1]
 exact ay h.2
theorem jU {o i value:Expr}{p pos:Pos}{Q:PQ Flow}(h:W C A (eval value env) g M (fun v g₁ M₁=>W C A (eval o env) g₁ M₁ (fun ov g₂ M₂=>W C A (eval i env) g₂ M₂ (fun iv g₃ M₃=>W C A (setItem ov iv v) g₃ M₃ (fun O=>Q .next)))))(hs:swapsWith value (some (.Subscript o i p)) pos.line env=pure false:=by rfl):W C A (exec (.Assign [.Subscript o i p] value pos) env) g M Q:=by
 rw[exec_Assign_Subscript o i p value pos hs]
 exact ak (aP (ak (h.mono fun v O O O h=>by
  rw[assign_Subscript]
  exact ak (ak (aD (h.mono fun ov O O O h=>ak (aD (h.mono fun iv O O O h=>ak (aP (ak (aD (h.mono fun O O O O h=>lm (ay h)))))))))))))
theorem kZ {α:Type}{m:Sem α}{Q:Except Value α→G→be→Prop}(h:W C A m g M (fun v=>Q (.ok v))):W C A m.attempt g M Q:=fun s S =>
 wpAny_attempt (wpAny_mono (h s S) (fun O O x=>x) fun O O x=>x.elim)
theorem jp {α:Type}{m:Sem α}{k:Value→Sem Unit}{Q:α→G→be→Prop}(h:W C A m g M Q):W C A (m.onRaise k) g M Q:=fun s S =>
 wpAny_onRaise (wpAny_mono (h s S) (fun O O x=>x) fun O O x=>x.elim)
theorem oI {b o:List Stmt}{hs:List ExceptHandler}{pos:Pos}{Q:PQ Flow}(h:W C A (execs b env) g M (KS C A (execs o env) Q)) :
  W C A (exec (.Try b hs o [] pos) env) g M Q:=by
 show W C A (do standAt pos;tryStmt false (execs b env) hs (execs o env) [] env) g M Q
 refine ak (aP ?_)
 refine ak (kZ (h.mono fun f g' M' O h=>?_))
 cases f<;>first|exact h|exact ay h
end
end
section
noncomputable def fV (fd:FuncData):OP:=fun o=>o.cls=.type "function"∧o.data=.func fd
noncomputable def CodeIn (g:G)(cd:Value)(q:Str):Prop:=∃ c o vs t,cd=.ref c∧g.f c=some o∧o.data=.fields vs∧vs[1]?=some (.str q t)
theorem CodeIn.mono {g g':G}{cd:Value}{q:Str}(k:G.le g g')(h:CodeIn g cd q):CodeIn g' cd q:=c9 h fun c o vs t e q1=>dI q1 fun x r=>(c4 c o vs t e (jb (k.1 _ _ x) r))
noncomputable def LimIn (g:G):Prop:=∃ mc,Fz g cStatics (ix mc)∧mc "sys.recursionlimit"=none
theorem LimIn.mono {g g':G}(k:G.le g g')(h:LimIn g):LimIn g':=aL h fun m a b=>(aG m (a.mono k) b)
section
variable {C:Cx}{A:Around}{g:G}{M:be}{s:Shared}
theorem St.codeRec {cd:Value}{q:Str}(S:St C g M s)(h:CodeIn g cd q):s.heap.CodeRec cd q:=c9 h fun c o vs t e q2=>dI q2 fun x r=>(c4 c o vs t e (jb (S.sub _ _ x) r))
theorem St.lim (S:St C g M s)(h:LimIn g):s.heap.NoLimit:=aL h fun m a b=>(aG m (S.ns (.inl a)) b)
theorem kL {a:Addr}{pos:List Value}{kw:List (Str×Value)}{fd:FuncData}{body:List Stmt}{Q:PQ Value}(hf:Sees g M a (fV fd))(hb:fd.body=.stmts body)(hcd:CodeIn g fd.code fd.qualname)(lim:LimIn g)(room:A.depth<recursionLimit)(h:W C A.in1 (bindArgs fd ⟨pos,kw⟩) g M (fun binds g₁ M₁=>W C A.in1 (newFunctionEnv fd.scope fd.globals fd.closure binds (fd.qualname++".<locals>.") (some a) fd.code none fd.builtins) g₁ M₁ (fun env g₂ M₂ =>
   W C (A.deeper env) (execs body env) g₂ M₂ (fun f g₃ M₃=>∃ X M₄,M₃=X++M₄∧Q (match f with|.ret v=>v|_=>.none) g₃ M₄))))(hco:fd.scope.isCoroutine=false:=by exact Eq.refl false)(hgen:fd.scope.isGenerator=false:=by exact Eq.refl false):W C A (call (.ref a) pos kw) g M Q:=fun s S=>by
 refine bT (S.sees hf) fun o ho hcl hd=>?_
 refine wpAny_call (codeAny_call_function (R:=fun r s'=>match r with|.ok (.ret v)=>∃ g' M',G.le g g'∧St C g' M' s'∧Q v g' M'|.ok _=>False|.error e=>False) room ho hd hco hgen hb (S.codeRec hcd) ?_)
 refine wpAny_mono (h s S) (fun binds s₁ q3=>aK q3 fun g₁ M₁ l₁ S₁ h₁=>wpAny_mono (h₁ s₁ S₁) (fun env s₂ q4=>aK q4 fun g₂ M₂ l₂ S₂ h₂=>⟨S₂.lim ((lim.mono l₁).mono l₂),codeAny_func (wpAny_mono (h₂ s₂ S₂) (fun f s₃ q5=>cm q5 fun g₃ M₃ l₃ S₃ X q6=>aL q6 fun M₄ e q=>?_) fun O O x=>x.elim)⟩) fun O O x=>x.elim) fun O O x=>x.elim
 subst e
 exact (an g₃ M₄ ((l₁.trans l₂).trans l₃) S₃.drop q)
theorem o3 {a:Addr}{pos:List Value}{kw:List (Str×Value)}{fd:FuncData}{body:Expr}{Q:PQ Value}(hf:Sees g M a (fV fd))(hb:fd.body=.expr body)(hcd:CodeIn g fd.code fd.qualname)(lim:LimIn g)(room:A.depth<recursionLimit)(h:W C A.in1 (bindArgs fd ⟨pos,kw⟩) g M (fun binds g₁ M₁=>W C A.in1 (newFunctionEnv fd.scope fd.globals fd.closure binds (fd.qualname++".<locals>.") (some a) fd.code none fd.builtins) g₁ M₁ (fun env g₂ M₂ =>
   W C (A.deeper env) (eval body env) g₂ M₂ (fun v g₃ M₃=>∃ X M₄,M₃=X++M₄∧Q v g₃ M₄))))(hco:fd.scope.isCoroutine=false:=by exact Eq.refl false)(hgen:fd.scope.isGenerator=false:=by exact Eq.refl false):W C A (call (.ref a) pos kw) g M Q:=fun s S=>by
 refine bT (S.sees hf) fun o ho hcl hd=>?_
 refine wpAny_call (kla_callFunE (R:=fun r s'=>match r with|.ok (.ret v)=>∃ g' M',G.le g g'∧St C g' M' s'∧Q v g' M'|.ok _=>False|.error e=>False) room ho hd hco hgen hb (S.codeRec hcd) ?_)
 refine wpAny_mono (h s S) (fun binds s₁ q7=>aK q7 fun g₁ M₁ l₁ S₁ h₁=>wpAny_mono (h₁ s₁ S₁) (fun env s₂ q8=>aK q8 fun g₂ M₂ l₂ S₂ h₂=>⟨S₂.lim ((lim.mono l₁).mono l₂),kla_codeExpr (wpAny_mono (h₂ s₂ S₂) (fun f s₃ q9=>cm q9 fun g₃ M₃ l₃ S₃ X q10=>aL q10 fun M₄ e q=>?_) fun O O x=>x.elim)⟩) fun O O x=>x.elim) fun O O x=>x.elim
 subst e
 exact (an g₃ M₄ ((l₁.trans l₂).trans l₃) S₃.drop q)
noncomputable def aW:List (Str×NameKind)→List Str
 | []=>[]
 | (n,k)::r=>match k with|.cell=>n::aW r|_=>aW r
noncomputable def c5:List Str→List Addr→List (Str×Addr)→List (Str×Addr)
 | n::ns,a::as,acc=>c5 ns as ((n,a)::acc)
 | _,_,acc=>acc
noncomputable def iI:List Addr→be→be
 | [],M=>M
 | a::as,M=>iI as ((a,ag none)::M)
theorem gW {β:Type}{k:List (Str×Addr)→Sem β}{Q:β→G→be→Prop}:∀ (names:List (Str×NameKind)) (acc:List (Str×Addr)) (M:be),
  (∀ as:List Addr,as.length=(aW names).length→W C A (k (c5 (aW names) as acc)) g (iI as M) Q) →
  W C A ((forIn names acc fun (x:Str×NameKind) (cells:List (Str×Addr))=>if x.2==.cell then do let a ← alloc { cls:=.type "cell",data:=.cell none };pure (ForInStep.yield ((x.1,a)::cells)) else pure (ForInStep.yield cells)) >>= k) g M Q
 | [],acc,M,h=>by
  rw[qy]
  exact ak (ay (h [] rfl))
 | (n,kd)::r,acc,M,h=>by
  rw[nX]
  by_cases q:kd=.cell
  ·subst q
   simp only[beq_self_eq_true,if_true,bind_assoc,pure_bind]
   refine ak (nZ (P:=ag none) rfl fun a=>?_)
   exact gW r _ _ fun as hl=>h (a::as) (by simp only[aW,eR,hl])
  ·have e:(kd==NameKind.cell)=false:=by simpa using q
   have e2:aW ((n,kd)::r)=aW r:=by cases kd<;>first|rfl|exact absurd rfl q
   simp only[e,sA,if_false,pure_bind]
   exact gW r acc M fun as hl=>by rw[← e2];exact h as (by rw[e2];exact hl)
noncomputable abbrev cV (scope:Scope)(L globals:Addr)(cells:List (Str×Addr))(qual:Str)(func:Option Addr)(code:Value)(builtins:Addr):Env :=
 { scope,locals:=L,globals,cells,qual,func,code,frame:=some L,builtins }
theorem gH {scope:Scope}{globals:Addr}{closure:List (Str×Addr)}{binds:List (Str×Value)}{qual:Str}{func:Option Addr}{code:Value}{builtins:Addr}{Q:Env→G→be→Prop}(h:∀ (L:Addr) (as:List Addr),as.length=(aW scope.names).length →
   W C A (forIn binds PUnit.unit fun (x:Str×Value) (_:PUnit)=>(do storeName (cV scope L globals (c5 (aW scope.names) as closure) qual func code builtins) x.1 x.2;pure (ForInStep.yield PUnit.unit):Sem (ForInStep PUnit)))
    g (iI as ((L,aJ [])::M)) (fun O=>Q (cV scope L globals (c5 (aW scope.names) as closure) qual func code builtins))) :
  W C A (newFunctionEnv scope globals closure binds qual func code none builtins) g M Q:=by
 unfold newFunctionEnv
 refine ak (nZ (P:=aJ []) (aG (fun O=>none) (an (#[]) 0 rfl (fun O h=>by simp at h) (fun O=>rfl)) (fun x v e=>by cases e)) fun L=>?_)
 refine gW scope.names closure _ fun as hl=>?_
 exact ak ((h L as hl).mono fun O O O O q=>ay q)
theorem W_binds_nil {env:Env}{Q:PUnit→G→be→Prop}(h:Q PUnit.unit g M):W C A (forIn ([]:List (Str×Value)) PUnit.unit fun (x:Str×Value) (_:PUnit)=>(do storeName env x.1 x.2;pure (ForInStep.yield PUnit.unit):Sem (ForInStep PUnit))) g M Q:=by
 rw[qy];exact ay h
theorem aN {env:Env}{x:Str}{v:Value}{r:List (Str×Value)}{Q:PUnit→G→be→Prop}(h:W C A (storeName env x v) g M (fun O g₁ M₁=>W C A (forIn r PUnit.unit fun (x:Str×Value) (_:PUnit)=>(do storeName env x.1 x.2;pure (ForInStep.yield PUnit.unit):Sem (ForInStep PUnit))) g₁ M₁ Q)) :
  W C A (forIn ((x,v)::r) PUnit.unit fun (x:Str×Value) (_:PUnit)=>(do storeName env x.1 x.2;pure (ForInStep.yield PUnit.unit):Sem (ForInStep PUnit))) g M Q:=by
 rw[nX]
 exact ak (ak (h.mono fun O O O O q=>ay q))
end
section
variable {C:Cx}{A:Around}{g:G}{M:be}{env:Env}
theorem z0 {α:Type}{vs:List Value}{m:Sem α}{Q:α→G→be→Prop}(h:W C A m g M Q):W C A (m.keep vs) g M Q:=fun s S=>PySem.Calls.wpAny_keep (h s S)
noncomputable def rE (f:Value)(g:G)(M:be):Prop:=∀ a,f=.ref a→∃ P,Sees g M a P∧∀ o,P o→(∃ fd,o.data=.func fd)∨(o.cls=.type "builtin_function_or_method"∧∃ vs,o.data=.fields vs)
theorem ek {a:Addr}{fd:FuncData}(h:Sees g M a (fV fd)):rE (.ref a) g M:=fun b e=>by cases e;exact (aG _ h (fun o x=>.inl ⟨fd,x.2⟩))
theorem ap {id:String}:rE (.builtin id) g M:=fun b e=>by cases e
theorem br {t:String}:rE (.type t) g M:=fun b e=>by cases e
theorem tJ {f:Value}{Q:Keeper→G→be→Prop}(k:rE f g M)(h:∀ x,Q x g M):W C A (keeperOf f) g M Q:=by
 unfold keeperOf
 cases f with
 | ref a =>
  refine aL (k a rfl) fun P v hp=>?_
  refine ak (yZ v fun o p=>?_)
  rcases hp o p with ⟨fd,e⟩|⟨c,vs,e⟩
  ·simp only[e];exact ay (h _)
  ·simp only[e,c];exact ay (h _)
 | _=>exact ay (h _)
noncomputable abbrev KF (C:Cx)(A:Around)(f:Value)(first:List Value)(Q:PQ Value):PQ Args:=fun a g₁ M₁=>rE f g₁ M₁∧W C A (call f (first++a.pos) a.kw) g₁ M₁ Q
noncomputable abbrev KA (C:Cx)(A:Around)(kws:List (Option Str×Sem Value))(Q:PQ Args):List Value→G→be→Prop:=fun vs g₁ M₁=>W C A (evalAll (kws.map (·.2))) g₁ M₁ (fun ks=>Q ⟨vs,(kws.filterMap (·.1)).zip ks⟩)
theorem aq {pos:Pos}{f:Value}{first:List Value}{args:List (Bool×Sem Value)}{kws:List (Option Str×Sem Value)}{Q:PQ Value}(h:W C A (evalArgs f true args kws) g M (KF C A f first Q))(hs:(args.any (·.1)||kws.any (·.1.isNone))=false:=by exact Eq.refl false):W C A (callWith pos f first args kws) g M Q:=by
 unfold callWith
 refine ak (aD (h.mono fun a g₁ M₁ O h=>ak (aP ?_)))
 rw[hs]
 refine ak (tJ h.1 fun x=>?_)
 have tail:∀ {t:Sem Value},W C A t g₁ M₁ Q→W C A (t >>= fun r=>holding [r] point >>= fun O=>pure r) g₁ M₁ Q :=
  fun ht=>ak (ht.mono fun r O O O q=>ak (aD (yn (ay q))))
 cases x<;>dsimp only<;>(try split)<;>first|exact tail h.2|exact tail (z0 h.2)|exact tail (eV h.2)
theorem fK {f:Value}{args:List (Bool×Sem Value)}{kws:List (Option Str×Sem Value)}{Q:PQ Args}(h:W C A (spliced args) g M (KA C A kws Q))(hs:args=[]∨∃ x r,args=(false,x)::r:=by first|exact .inl rfl|exact .inr ⟨_,_,rfl⟩)(hk:kws.all (·.1.isSome)=true:=by exact Eq.refl true):W C A (evalArgs f true args kws) g M Q:=by
 rcases hs with rfl|⟨x,r,rfl⟩
 ·unfold evalArgs
  show W C A (spliced [] >>= _) g M Q
  refine ak (h.mono fun vs O O O q=>?_)
  refine ak (ay ?_)
  dsimp only
  refine aD ?_
  rw[hk,if_pos rfl]
  exact ak (q.mono fun ks O O O q=>ak (ay (ay q)))
 ·unfold evalArgs
  show W C A (spliced ((false,x)::r) >>= _) g M Q
  refine ak (h.mono fun vs O O O q=>?_)
  refine ak (ay ?_)
  dsimp only
  refine aD ?_
  rw[hk,if_pos rfl]
  exact ak (q.mono fun ks O O O q=>ak (ay (ay q)))
theorem d9 {Q:List Value→G→be→Prop}(h:Q [] g M):W C A (evalAll []) g M Q:=ay h
theorem eO {x:Sem Value}{r:List (Sem Value)}{Q:List Value→G→be→Prop}(h:W C A x g M (KL C A (evalAll r) Q)):W C A (evalAll (x::r)) g M Q:=by
 unfold evalAll
 exact ak (h.mono fun v O O O q=>ak (aD (q.mono fun vs O O O q=>ay q)))
noncomputable abbrev CM (pos:Pos)(args:List Expr)(kws:List Keyword)(env:Env)(f:Value):Sem Value:=callWith pos f [] (backTo pos (starEach args env)) (backToKw pos (keywordEach kws env))
theorem az {x:Str}{np pos:Pos}{args:List Expr}{kws:List Keyword}{Q:PQ Value}(h:W C A (eval (.Name x np) env) g M (K1 C A (CM pos args kws env) Q)):W C A (eval (.Call (.Name x np) args kws pos) env) g M Q:=by
 show W C A (do callWith pos (← eval (.Name x np) env) [] (backTo pos (starEach args env)) (backToKw pos (keywordEach kws env))) g M Q
 exact ak h
end
end
section
noncomputable def pR (g:G)(M:be)(v:Value)(T:String):Prop:=∀ (C:Cx) (s:Shared),St C g M s→s.TypeIs v T
theorem Bx {g:G}{M:be}{x:Str}{t:Tok}:pR g M (.str x t) "str":=fun O O O=>typeIs_str _ _ _
theorem z8 {g:G}{M:be}{a:Addr}{P:OP}{T:String}(h:Sees g M a P)(k:∀ o,P o→o.cls=.type T):pR g M (.ref a) T:=fun O O S=>let q1:=S.sees h;aL q1 fun o e p=>(aG o e (k o p))
theorem Ah {g:G}{M:be}{a:Addr}{xs:Array Value}(h:Sees g M a (bq xs)):pR g M (.ref a) "list":=z8 h fun O p=>p.1
theorem AB {g:G}{M:be}{a:Addr}{xs:Array Value}(h:Sees g M a (bS xs)):pR g M (.ref a) "tuple":=z8 h fun O q2=>bK q2 fun O p=>by subst p;rfl
section
variable {C:Cx}{A:Around}{g:G}{M:be}{env:Env}
noncomputable abbrev CB (pos:Pos)(args:List Expr)(kws:List Keyword)(env:Env)(fm:Value×List Value):Sem Value:=callWith pos fm.1 fm.2 (backTo pos (starEach args env)) (backToKw pos (keywordEach kws env))
noncomputable abbrev KM (C:Cx)(A:Around)(name:Str)(t:Value×List Value→Sem Value)(Q:PQ Value):PQ Value:=fun ov g₁ M₁=>∀ pl,W C A (getMethod ov name pl) g₁ M₁ (K1 C A t Q)
theorem bl {o:Expr}{name:Str}{apos pos:Pos}{args:List Expr}{kws:List Keyword}{Q:PQ Value}(h:W C A (eval o env) g M (KM C A name (CB pos args kws env) Q))(hbase:attributeBase o name env (eval o env)=eval o env:=by rfl)(hform:methodCallForm (args.length+kws.length) (backTo pos (starEach args env)) (backToKw pos (keywordEach kws env))=true:=by exact Eq.refl true)(hline:(apos.endLine==pos.line)=true:=by exact Eq.refl true) :
  W C A (eval (.Call (.Attribute o name apos) args kws pos) env) g M Q:=by
 show W C A (do
  let ov ← attributeBase o name env (eval o env)
  standAt apos.atName
  methodCall o name apos pos env ov (args.length+kws.length) (backTo pos (starEach args env)) (backToKw pos (keywordEach kws env))) g M Q
 rw[hbase]
 refine ak (h.mono fun ov O O O h=>ak (aP ?_))
 unfold methodCall
 rw[hform]
 have hpos:methodCallPos true o env apos pos=pure pos:=by unfold methodCallPos;simp[hline]
 refine ak (aD ?_)
 show W C A (getMethod ov name _) _ _ _
 refine (h _).mono fun fm O O O h=>?_
 rw[hpos]
 exact ak (ay h)
noncomputable abbrev CK (C:Cx)(A:Around)(o:Value)(Q:PQ Value):PQ Value:=fun i g₂ M₂=>(∃ T id,typeLookup (.type T) "__getitem__"=pure (some (.builtin id))∧pR g₂ M₂ o T)∧W C A (getItem o i) g₂ M₂ Q
noncomputable abbrev KG (C:Cx)(A:Around)(r:Sem Value)(Q:PQ Value):PQ Value:=fun o g₁ M₁=>W C A r g₁ M₁ (CK C A o Q)
theorem ng (s:Expr)(o i:Value):subscripted s false o i=operate [i,o] (getItem o i)∨subscripted s false o i=operate [o,i] (getItem o i):=by
 cases s with
 | Slice l u s p=>cases s;exact .inl rfl;exact .inr rfl
 | _=>exact .inr rfl
theorem aC {value slice:Expr}{pos:Pos}{Q:PQ Value}(h:W C A (eval value env) g M (KG C A (eval slice env) Q)) :
  W C A (eval (.Subscript value slice pos) env) g M Q:=by
 rw[eval_Subscript]
 refine ak (h.mono fun o O O O h=>ak (aD (h.mono fun i g₂ M₂ O q6=>dI q6 fun q7 hg=>bJ q7 fun T id hl hT=>ak (aP ?_))))
 refine ak ?_
 unfold getitemInPython
 refine ak (fun s S=>wpAny_specialOf (hT C s S) hl (an g₂ M₂ .refl S ?_))
 refine ay ?_
 have fin:W C A (operate [o,i] (getItem o i) >>= fun r=>letTemporaryGo value o r >>= fun O=>pure r) g₂ M₂ Q:=ak (eV (hg.mono fun r O O O q=>ak (eW (ay q))))
 have fin2:W C A (operate [i,o] (getItem o i) >>= fun r=>letTemporaryGo value o r >>= fun O=>pure r) g₂ M₂ Q:=ak (eV (hg.mono fun r O O O q=>ak (eW (ay q))))
 refine (ng slice o i).elim (fun e=>?_) fun e=>?_
 ·rw[e];exact fin2
 ·rw[e];exact fin
theorem pw {l u s:Option Expr}{pos:Pos}{Q:PQ Value}(h:W C A (valueOrNone (evalOpt l env)) g M (fun lv g₁ M₁=>W C A (valueOrNone (evalOpt u env)) g₁ M₁ (fun uv g₂ M₂=>W C A (valueOrNone (evalOpt s env)) g₂ M₂ (fun sv g₃ M₃ =>
   ∀ a g₄,G.le g₃ g₄→Fz g₄ a (fun o=>o.cls=.type "slice"∧o.data=.fields #[lv,uv,sv])→Q (.ref a) g₄ M₃)))):W C A (eval (.Slice l u s pos) env) g M Q:=by
 show W C A (do
  let l ← valueOrNone (evalOpt l env)
  let u ← holding [l] (valueOrNone (evalOpt u env))
  let s ← holding [l,u] (valueOrNone (evalOpt s env))
  newFields "slice" [l,u,s]) g M Q
 refine ak (h.mono fun lv O O O h=>ak (aD (h.mono fun uv O O O h=>ak (aD (h.mono fun sv g₃ M₃ O h=>?_)))))
 intro s S
 refine wpAny_newObj_type ?_ (by size_fits)
 refine bT ((S.push_own (P:=(·=({ cls:=.type "slice",data:=.fields [lv,uv,sv].toArray }:Obj))) (n:=s.toks) rfl rfl).freeze) fun x p ga S'=>?_
 exact (an _ _ (G.le_put ga) S' (h _ _ (G.le_put ga) (aG x G.put_self (by subst p;exact ⟨rfl,rfl⟩))))
theorem x4 {Q:PQ Value}(h:Q .none g M):W C A (valueOrNone (evalOpt none env)) g M Q:=ay h
theorem yM {e:Expr}{Q:PQ Value}(h:W C A (eval e env) g M Q):W C A (valueOrNone (evalOpt (some e) env)) g M Q:=h
end
section
variable {C:Cx}{A:Around}{g:G}{M:be}{x y z:Str}{t u v:Tok}
theorem uG {Q:PQ Value}(h:Q (.bool (Txt.contains x y)) g M):W C A (compareOp .In (.str y u) (.str x t)) g M Q:=fun s S=>SB.contains (an g M .refl S h)
theorem fT {Q:PQ Value}(hsz:x.length+y.length≤sizeLine)(h:∀ t',Q (.str (x++y) t') g M):W C A (binaryOp .Add (.str x t) (.str y u)) g M Q:=f8 fun s S=>SB.add (fun t' k hn=>(an g M .refl (S.toks hn) (h t'))) hsz
theorem oJ {i:Int}{Q:PQ Value}(hr:fitsSsize i=true)(hin:(Txt.charAt x i).isSome=true)(h:∀ t',t'≠0→Q (.str (Txt.item x i) t') g M):W C A (getItem (.str x t) (.int i u)) g M Q:=fun s S =>
 SB.getItem hr hin (an g M .refl (S.toks (fB _)) (h _ (df S.tk.2)))
theorem tS {i:Int}{Q:PQ Value}(hr:fitsSsize i=true)(hin:(Txt.charAt x i).isSome=true)(h:∀ t' g',G.le g g'→t'≠0→g.n≤t'→t'<g'.n→Q (.str (Txt.item x i) t') g' M):W C A (getItem (.str x t) (.int i u)) g M Q:=fun s S =>
 SB.getItem hr hin (an _ M S.bump.1 S.bump.2 (h _ _ S.bump.1 (df S.tk.2) S.tk.1 (kI _)))
theorem dU {pl:Sem Bool}{Q:Value×List Value→G→be→Prop}(h:Q (.builtin "str.replace",[.str x t]) g M):W C A (getMethod (.str x t) "replace" pl) g M Q:=fun s S=>by
 have q:∃ g' M',G.le g g'∧St C g' M' s∧Q (.builtin "str.replace",[.str x t]) g' M':=(an g M .refl S h)
 with_reducible exact GM.replace q
theorem tT {pl:Sem Bool}{Q:Value×List Value→G→be→Prop}(h:Q (.builtin "str.lower",[.str x t]) g M):W C A (getMethod (.str x t) "lower" pl) g M Q:=fun s S=>by
 have q:∃ g' M',G.le g g'∧St C g' M' s∧Q (.builtin "str.lower",[.str x t]) g' M':=(an g M .refl S h)
 with_reducible exact GM.lower q
theorem fg {pl:Sem Bool}{Q:Value×List Value→G→be→Prop}(h:Q (.builtin "str.join",[.str x t]) g M):W C A (getMethod (.str x t) "join" pl) g M Q:=fun s S=>by
 have q:∃ g' M',G.le g g'∧St C g' M' s∧Q (.builtin "str.join",[.str x t]) g' M':=(an g M .refl S h)
 with_reducible exact GM.join q
theorem fE {Q:PQ Value}(hu:u≠0)(hv:v≠0)(huv:u≠v)(hyz:(y==z)=false)(hb:x.length+(x.length+1)*z.length≤16777216)(h:∀ t',Q (.str (Txt.replace x y z) t') g M):W C A (call (.builtin "str.replace") [.str x t,.str y u,.str z v]) g M Q:=f8 fun s S=>SC.replace hu hv huv hyz hb fun t' k hn=>(an g M .refl (S.toks hn) (h t'))
end
end
section
noncomputable def aI:List Stmt→Nat→Stmt
 | [],_=>.Pass ⟨0,0,0,0⟩
 | s::_,0=>s
 | _::r,n+1=>aI r n
noncomputable def st (i:Nat):Stmt:=aI prog.main.body i
noncomputable def ax:Stmt→Str
 | .FunctionDef n ..=>n
 | _=>Str.empty
noncomputable def dD:Stmt→Arguments
 | .FunctionDef _ a ..=>a
 | _=>⟨[],[],none,[],[],none,[]⟩
noncomputable def aw:Stmt→List Stmt
 | .FunctionDef _ _ b ..=>b
 | _=>[]
noncomputable def bB:Stmt→Scope
 | .FunctionDef _ _ _ _ _ _ s ..=>s
 | _=>{ kind:=.function,names:=[],isGenerator:=false,isCoroutine:=false,more:=[] }
noncomputable def fdOf (i:Nat)(pm:Value)(c:Addr):FuncData:=plainDef (ax (st i)) (dD (st i)) (aw (st i)) (bB (st i)) pm (.ref c)
noncomputable def DefAt (g:G)(i:Nat)(a c:Addr):Prop:=(∃ pm,Fz g a (fV (fdOf i pm c)))∧CodeIn g (.ref c) (ax (st i))
theorem DefAt.mono {g g':G}{i:Nat}{a c:Addr}(k:G.le g g')(h:DefAt g i a c):DefAt g' i a c:=⟨let q1:=h.1;bK q1 fun pm x=>⟨pm,x.mono k⟩,h.2.mono k⟩
noncomputable def lU (C:Cx)(c:Addr)(qs:List (Pos×Str)):Prop:=∃ t∈C.T,t.c=c∧t.qs=qs
structure Bi (mg:Str→Option Value) (g:G):Prop where
 m:Fz g mainGlobals (ix mg)
 bi:∃ bm,mg "__builtins__"=some (.ref bm)∧bm≠builtinsNs∧Fz g bm (fun o=>o.cls=.type "module"∧o.dict=some builtinsNs∧o.data=.plain)
theorem Bi.mono {mg:Str→Option Value}{g g':G}(k:G.le g g')(B:Bi mg g):Bi mg g':=⟨B.m.mono k,bT B.bi fun bm a b f=>(bU bm a b (f.mono k))⟩
noncomputable def qsOf (i:Nat):List (Pos×Str) :=
 match i with
 | 14=>[(⟨118,4,127,28⟩,ax (st 14)++".<locals>."++"inner")]
 | 15=>[(⟨133,4,138,55⟩,ax (st 15)++".<locals>."++"inner")]
 | 28=>[(⟨217,13,217,83⟩,ax (st 28)++".<locals>."++"<lambda>"),(⟨218,11,218,89⟩,ax (st 28)++".<locals>."++"<lambda>")]
 | 29=>[(⟨220,11,220,82⟩,ax (st 29)++".<locals>."++"<lambda>")]
 | 30=>[(⟨222,10,222,22⟩,ax (st 30)++".<locals>."++"<lambda>"),(⟨229,19,229,120⟩,ax (st 30)++".<locals>."++"<lambda>")]
 | 33=>[(⟨258,29,258,53⟩,ax (st 33)++".<locals>."++"<lambda>")]
 | _=>[]
structure Base (C:Cx) (mg mb:Str→Option Value) (g:G):Prop where
 m:Fz g mainGlobals (ix mg)
 b:Fz g builtinsNs (ix mb)
 blt:∀ x:Str,x≠"__name__"→mb x=bootBuiltins x
 lim:LimIn g
 none:∀ x,x ∉ startupNames→x ∉ prog.boundNames→mg x=none
 defs:∀ i,(match st i with|.FunctionDef ..=>true|_=>false)=true→i≠2→∃ a c,mg (ax (st i))=some (.ref a)∧DefAt g i a c∧(qsOf i≠[]→lU C c (qsOf i))
 bi:Bi mg g
 divl:∃ t,mg "_DIV_LIMIT"=some (.int 4000 t)
theorem Base.mono {C:Cx}{mg mb:Str→Option Value}{g g':G}(k:G.le g g')(B:Base C mg mb g):Base C mg mb g' :=
 ⟨B.m.mono k,B.b.mono k,B.blt,B.lim.mono k,B.none,fun i h h'=>let q2:=B.defs i h h';aK q2 fun a c e d q=>(an a c e (d.mono k) q),B.bi.mono k,B.divl⟩
section
variable {C:Cx}{A:Around}{g:G}{M:be}{env:Env}
theorem qa {x:Str}{l:List (Str×Value)}{v:Value}{Q:PQ Value}(hv:(env.locals,aJ l)∈M)(e:lk l x=some v)(h:Q v g M)(hk:env.scope.kind=.function:=by exact Eq.refl ScopeKind.function)(hl:env.kindOf x=some .local:=by exact Eq.refl (some NameKind.local)):W C A (loadName env x) g M Q:=fun s S =>
 let q3:=S.loc (.own hv);aL q3 fun O hn hm=>wpAny_loadName_local hk hl hn (hm x v e) (an g M .refl S h)
theorem ar {x:Str}{pos:Pos}{l:List (Str×Value)}{v:Value}{Q:PQ Value}(hv:(env.locals,aJ l)∈M)(e:lk l x=some v)(h:Q v g M)(hk:env.scope.kind=.function:=by exact Eq.refl ScopeKind.function)(hl:env.kindOf x=some .local:=by exact Eq.refl (some NameKind.local))(hd:(x==("__debug__":Str))=false:=by decide):W C A (eval (.Name x pos) env) g M Q:=fun s S =>
 wpAny_Name (qa hv e h hk hl s S) hd
theorem aX {x:Str}{l:List (Str×Value)}{v:Value}{i:Nat}{Q:PQ Unit}(hi:M[i]?=some (env.locals,aJ l))(h:Q () g (M.set i (env.locals,aJ (bR l x v))))(hk:env.scope.kind=.function:=by exact Eq.refl ScopeKind.function)(hl:env.kindOf x=some .local:=by exact Eq.refl (some NameKind.local)):W C A (storeName env x v) g M Q:=fun s S =>
 let q4:=S.loc (.own (iu hi))
 aL q4 fun O hn hm=>wpAny_storeName_local hl hn (fun h' q5 hs=>dm q5 fun o es ep ho r=>(an g _ .refl (S.set (P':=aJ (bR l x v)) hi hs ho (aG _ (sx es ep r) (fun y u e=>by
  rw[eK] at e
  split at e
  ·rename_i q;rw[if_pos q];exact e
  ·rename_i q;rw[if_neg q];exact hm y u e))) h)) (by rw[hk];rfl)
theorem ft {i:Nat}{a c:Addr}{pos:List Value}{kw:List (Str×Value)}{binds:List (Str×Value)}{Q:PQ Value}(D:DefAt g i a c)(lim:LimIn g)(room:A.depth<recursionLimit)(hb:∀ pm,bindArgs (fdOf i pm c) ⟨pos,kw⟩=pure binds)(hc:aW (bB (st i)).names=[])(h:∀ L,W C (A.deeper (cV (bB (st i)) L mainGlobals [] (ax (st i)++".<locals>.") (some a) (.ref c) builtinsNs)) (execs (aw (st i)) (cV (bB (st i)) L mainGlobals [] (ax (st i)++".<locals>.") (some a) (.ref c) builtinsNs))
   g ((L,aJ (binds.foldl (fun l x=>bR l x.1 x.2) []))::M) (fun f g₃ M₃=>∃ X M₄,M₃=X++M₄∧Q (match f with|.ret v=>v|_=>.none) g₃ M₄))(hl:(binds.all fun x=>decide ((bB (st i)).names.lookup x.1=some .local))=true:=by exact Eq.refl true)(hk:(bB (st i)).kind=.function:=by exact Eq.refl ScopeKind.function)(hco:(bB (st i)).isCoroutine=false:=by exact Eq.refl false)(hgen:(bB (st i)).isGenerator=false:=by exact Eq.refl false):W C A (call (.ref a) pos kw) g M Q:=by
 refine bK D.1 fun pm F=>?_
 refine kL (.inl F) rfl D.2 lim room ?_ hco hgen
 rw[hb pm]
 refine ay (gH fun L as hl'=>?_)
 have e0:aW (fdOf i pm c).scope.names=[]:=hc
 rw[e0] at hl'
 have:as=[]:=List.length_eq_zero_iff.mp hl'
 subst this
 have e1:c5 (aW (fdOf i pm c).scope.names) [] (fdOf i pm c).closure=[]:=by rw[e0];rfl
 rw[e1]
 have key:∀ (bs:List (Str×Value)) (l:List (Str×Value)),(bs.all fun x=>decide ((bB (st i)).names.lookup x.1=some .local))=true →
   W C A.in1 (forIn bs PUnit.unit fun (x:Str×Value) (_:PUnit)=>(do storeName (cV (fdOf i pm c).scope L (fdOf i pm c).globals [] ((fdOf i pm c).qualname++".<locals>.") (some a) (fdOf i pm c).code (fdOf i pm c).builtins) x.1 x.2;pure (ForInStep.yield PUnit.unit):Sem (ForInStep PUnit)))
    g ((L,aJ l)::M) (fun O g' M'=>g'=g∧M'=(L,aJ (bs.foldl (fun l x=>bR l x.1 x.2) l))::M):=by
  intro bs
  induction bs with
  | nil=>intro l _;exact W_binds_nil ⟨rfl,rfl⟩
  | cons b r ih =>
   intro l hall
   obtain ⟨x,v⟩:=b
   rw[List.all_cons,iO] at hall
   refine aN (aX (i:=0) rfl ?_ hk (of_decide_eq_true hall.1))
   exact ih _ hall.2
 refine (key binds [] hl).mono ?_
 refine fun O g' M' O q6=>dI q6 fun q7 q8=>?_;clear q6;subst q7;subst q8
 exact h L
theorem ic {i k:Nat}{a c:Addr}{pos:List Value}{kw:List (Str×Value)}{binds:List (Str×Value)}{Q:PQ Value}(D:DefAt g i a c)(lim:LimIn g)(room:A.depth<recursionLimit)(hb:∀ pm,bindArgs (fdOf i pm c) ⟨pos,kw⟩=pure binds)(hc:(aW (bB (st i)).names).length=k)(h:∀ L (as:List Addr),as.length=k→W C A.in1 (forIn binds PUnit.unit fun (x:Str×Value) (_:PUnit)=>(do storeName (cV (bB (st i)) L mainGlobals (c5 (aW (bB (st i)).names) as []) (ax (st i)++".<locals>.") (some a) (.ref c) builtinsNs) x.1 x.2;pure (ForInStep.yield PUnit.unit):Sem (ForInStep PUnit)))
   g (iI as ((L,aJ [])::M)) (fun O g₂ M₂=>W C (A.deeper (cV (bB (st i)) L mainGlobals (c5 (aW (bB (st i)).names) as []) (ax (st i)++".<locals>.") (some a) (.ref c) builtinsNs)) (execs (aw (st i)) (cV (bB (st i)) L mainGlobals (c5 (aW (bB (st i)).names) as []) (ax (st i)++".<locals>.") (some a) (.ref c) builtinsNs))
   g₂ M₂ (fun f g₃ M₃=>∃ X M₄,M₃=X++M₄∧Q (match f with|.ret v=>v|_=>.none) g₃ M₄)))(hco:(bB (st i)).isCoroutine=false:=by exact Eq.refl false)(hgen:(bB (st i)).isGenerator=false:=by exact Eq.refl false):W C A (call (.ref a) pos kw) g M Q:=by
 refine bK D.1 fun pm F=>?_
 refine kL (.inl F) rfl D.2 lim room ?_ hco hgen
 rw[hb pm]
 refine ay (gH fun L as hl'=>?_)
 exact h L as (hl'.trans hc)
end
end
theorem aV {C:Cx}{A:Around}{g:G}{M:be}{b:Bool}{Q:PQ Bool}(h:Q b g M):W C A (truthy (.bool b)) g M Q:=fun s S=>wpAny_truthy_bool (an g M .refl S h)
noncomputable def sub (c:Nat)(z:List Nat)(l:List Nat):List Nat:=l.flatMap fun k=>if k=c then z else [k]
theorem hY (c:Nat)(z a b:List Nat):sub c z (a++b)=sub c z a++sub c z b:=List.flatMap_append
theorem dj {c:Nat}{z:List Nat}:∀ {l:List Nat},c ∉ l→sub c z l=l
 | [],_=>rfl
 | k::r,h=>by
  have h1:k≠c:=fun e=>h (e▸List.mem_cons_self ..)
  have ih:=dj (z:=z) fun m=>h (List.mem_cons_of_mem k m)
  unfold sub at ih ⊢
  rw[lf,ih,if_neg h1]
  rfl
theorem sub_self (c:Nat)(z:List Nat):sub c z [c]=z:=by unfold sub;simp
theorem n5 (c:Nat)(z:Str):∀ parts:List Str,(∀ p∈parts,c ∉ p.cps.toList)→sub c z.cps.toList (Str.join ⟨#[c]⟩ parts).cps.toList=(Str.join z parts).cps.toList
 | [],_=>rfl
 | [p],h=>dj (h p (.head _))
 | p::q::r,h=>by
  have ih:=n5 c z (q::r) fun a ha=>h a (.tail _ ha)
  have e1:Str.join ⟨#[c]⟩ (p::q::r)=p++⟨#[c]⟩++Str.join ⟨#[c]⟩ (q::r):=rfl
  have e2:Str.join z (p::q::r)=p++z++Str.join z (q::r):=rfl
  rw[e1,e2]
  simp only[Str.cps_append,kf]
  rw[hY,hY,ih,dj (h p (.head _)),sub_self]
theorem dM (x z:Str)(c:Nat):(Txt.replace x ⟨#[c]⟩ z).cps.toList=sub c z.cps.toList x.cps.toList:=by
 rw[StrLaws.replace_one,← n5 c z _ fun p hp=>StrLaws.split_free x c p hp,StrLaws.join_split]
theorem pW {x z:Str}{c:Nat}(h:c ∉ x.cps.toList):Txt.replace x ⟨#[c]⟩ z=x:=by
 have e:=dM x z c
 rw[dj h] at e
 exact Str.ext' (Array.toList_inj.mp e)
theorem gZ (x:Str)(c:Nat):Txt.contains x ⟨#[c]⟩=decide (c∈x.cps.toList):=StrLaws.found_one x c
theorem sQ (c:Nat)(z:List Nat)(l:List Nat):(sub c z l).length≤l.length+l.length*z.length:=by
 induction l with
 | nil=>simp[sub]
 | cons k r ih =>
  unfold sub at ih ⊢
  rw[lf,ζ17,eR,lc,j9]
  split
  ·exact aQ [_,_,_,_] [] (.le (.a ah am) (.a (.a ao av) (.a aM ah))) (.le am (.a ao aM)) ae ih
  ·simp only[s6];exact aQ [_,_,_,_] [] (.le (.a av ah) (.a (.a am av) (.a ao aM))) (.le ah (.a am ao)) ae ih
section
section
variable {C:Cx}{A:Around}{g:G}{M:be}{env:Env}{a b:Int}{t u:Tok}{Q:PQ Value}
theorem kh {x:Sem Value}{r:Int}(k:∀ s (Q:Value→Shared→Prop) E,Q (.int r s.toks) { s with toks:=s.toks+1 }→wpAny C.M A x Q E s)(h:∀ t,t≠0→Q (.int r t) g M):W C A x g M Q :=
 fun s S=>k s _ _ (an g M .refl (S.toks (fB _)) (h _ (df S.tk.2)))
theorem nx (h:∀ t,t≠0→Q (.int (a+b) t) g M):W C A (binaryOp .Add (.int a t) (.int b u)) g M Q:=kh (fun O O O=>add_int) h
theorem q0 (h:∀ t,t≠0→Q (.int (a-b) t) g M):W C A (binaryOp .Sub (.int a t) (.int b u)) g M Q:=kh (fun O O O=>sub_int) h
theorem gl (hm:IntMulOk a b)(h:∀ t,t≠0→Q (.int (a*b) t) g M):W C A (binaryOp .Mult (.int a t) (.int b u)) g M Q:=kh (fun O O O x=>mul_int x hm) h
theorem fq (hb:b≠0)(h:∀ t,t≠0→Q (.int (a.fmod b) t) g M):W C A (binaryOp .Mod (.int a t) (.int b u)) g M Q:=kh (fun O O O x=>mod_int' hb x) h
theorem cX (hb:b≠0)(hp:Builtin.divisionGoesByPylong a b=false)(h:∀ t,t≠0→Q (.int (a.fdiv b) t) g M):W C A (binaryOp .FloorDiv (.int a t) (.int b u)) g M Q:=kh (fun O O O x=>floordiv_int hb x (.inl hp)) h
theorem lW (hn:0≤b)(hsz:(Builtin.Int.intBits a:Int)*b≤2^27)(h:∀ t,t≠0→Q (.int (a^b.toNat) t) g M):W C A (binaryOp .Pow (.int a t) (.int b u)) g M Q:=kh (fun O O O x=>pow_int hn hsz x) h
theorem xq (hn:0≤b)(hsz:(Builtin.Int.intBits a:Int)+b≤2^27)(h:∀ t,t≠0→Q (.int (a*2^b.toNat) t) g M):W C A (binaryOp .LShift (.int a t) (.int b u)) g M Q:=kh (fun O O O x=>lshift_int hn hsz x) h
theorem xS (hn:0≤b)(h:∀ t,t≠0→Q (.int (a.fdiv (2^b.toNat)) t) g M):W C A (binaryOp .RShift (.int a t) (.int b u)) g M Q:=kh (fun O O O x=>rshift_int hn x) h
theorem Be (h:∀ t,t≠0→Q (.int (Builtin.bitXor a b) t) g M):W C A (binaryOp .BitXor (.int a t) (.int b u)) g M Q:=kh (fun O O O x=>xor_int x) h
theorem fy (h:∀ t,t≠0→Q (.int (-a) t) g M):W C A (unaryOp .USub (.int a t)) g M Q:=kh (fun O O O x=>neg_int x) h
theorem xa (h:∀ t,t≠0→Q (.int (Builtin.bitNot a) t) g M):W C A (unaryOp .Invert (.int a t)) g M Q:=kh (fun O O O x=>invert_int x) h
theorem wQ (h:Q (.bool (a==b)) g M):W C A (compareOp .Eq (.int a t) (.int b u)) g M Q:=fun s S=>eq_int (an g M .refl S h)
theorem Bn (h:Q (.bool (decide (a<b))) g M):W C A (compareOp .Lt (.int a t) (.int b u)) g M Q:=fun s S=>lt_int (an g M .refl S h)
theorem AG (h:Q (.bool (decide (a≤b))) g M):W C A (compareOp .LtE (.int a t) (.int b u)) g M Q:=fun s S=>PyProof.Rows.le_int (an g M .refl S h)
theorem vt {Q:PQ Bool}(h:Q (a != 0) g M):W C A (truthy (.int a t)) g M Q:=fun s S=>truthy_int (an g M .refl S h)
theorem lD {pl:Sem Bool}{Q:Value×List Value→G→be→Prop}(h:Q (.builtin "int.bit_length",[.int a t]) g M):W C A (getMethod (.int a t) "bit_length" pl) g M Q:=fun s S=>by
 have q:∃ g' M',G.le g g'∧St C g' M' s∧Q (.builtin "int.bit_length",[.int a t]) g' M':=(an g M .refl S h)
 with_reducible exact getMethod_int_bit_length q
theorem tM (h:∀ t,t≠0→Q (.int (Builtin.Int.intBits a) t) g M):W C A (call (.builtin "int.bit_length") [.int a t]) g M Q:=kh (fun O O O x=>call_int_bit_length x) h
theorem xH (hb:b≠0)(hp:Builtin.divisionGoesByPylong a b=false)(h:∀ g' T t u,G.le g g'→Fz g' T (bS #[.int (a.fdiv b) t,.int (a.fmod b) u])→Q (.ref T) g' M):W C A (call (.builtin "divmod") [.int a t,.int b u]) g M Q:=fun s S=>by
 refine divmod_int hb ?_ (.inl hp)
 refine bT ((S.push_own (P:=bS #[.int (a.fdiv b) s.toks,.int (a.fmod b) (s.toks+1)]) (n:=s.toks+1+1) (o:={ cls:=.type "tuple",data:=.seq #[.int (a.fdiv b) s.toks,.int (a.fmod b) (s.toks+1)] }) rfl ⟨_,rfl⟩ (bw (dG _ _) (dG _ _))).freeze) fun x p ga S'=>?_
 exact (an _ _ (G.le_put ga) S' (h _ _ _ _ (G.le_put ga) (aG x G.put_self p)))
end
end
section
structure DrawsW (C:Cx) (A:Around) (g:G) (I:Addr) (P:Nat→OP) (n:Nat) (V:Nat→Value→Prop):Prop where
 item:∀ (g':G) (M:be) (i k:Nat) (Q:Option Value→G→be→Prop),G.le g g'→M[i]?=some (I,P k)→k<n→(∀ v,V k v→Q (some v) g' (M.set i (I,P (k+1))))→W C A (pyNext (.ref I)) g' M Q
 done:∀ (g':G) (M:be) (i:Nat) (Q:Option Value→G→be→Prop),G.le g g'→M[i]?=some (I,P n)→Q none g' (M.eraseIdx i)→W C A (pyNext (.ref I)) g' M Q
 self:∀ (g':G) (M:be) (i k:Nat) (Q:PQ Value),G.le g g'→M[i]?=some (I,P k)→Q (.ref I) g' M→W C A (pyIter (.ref I)) g' M Q
theorem DrawsW.mono {C:Cx}{A:Around}{g g':G}{I:Addr}{P:Nat→OP}{n:Nat}{V:Nat→Value→Prop}(D:DrawsW C A g I P n V)(k:G.le g g'):DrawsW C A g' I P n V :=
 ⟨fun g₂ M i j Q l=>D.item g₂ M i j Q (k.trans l),fun g₂ M i Q l=>D.done g₂ M i Q (k.trans l),fun g₂ M i j Q l=>D.self g₂ M i j Q (k.trans l)⟩
noncomputable def jv (g:G)(I:Addr)(fp:List Addr)(S:Heap→Prop):OP:=fun o=>∃ h:Heap,h.get? I=some o∧(∀ b∈fp,b≠I→∃ x,g.f b=some x∧h.get? b=some x)∧S h
section
variable {C:Cx}{A:Around}{g:G}{M:be}{env:Env}{I:Addr}{fp:List Addr}{n:Nat}{V:Nat→Value→Prop}{S':Nat→Heap→Prop}
theorem cR (Wk:Walks prog C.w A I fp [I] n V S')(hex:∀ k h,S' k h→∃ o,h.get? I=some o)(hfp:∀ b∈fp,b≠I→∃ x,g.f b=some x) :
  DrawsW C A g I (fun k=>jv g I fp (S' k)) n V:=by
 have here:∀ {g':G}{M:be}{i k:Nat}{s:Shared},G.le g g'→M[i]?=some (I,jv g I fp (S' k))→St C g' M s→S' k s.heap:=by
  intro g' M i k s l hi S
  refine hH (S.own _ (iu hi)) fun o ho h h1 h2 h3=>?_
  refine Wk.frame k _ _ h3 fun b hb x hx=>?_
  by_cases e:b=I
  ·subst e
   rw[h1] at hx
   cases hx
   exact ho
  ·refine aL (h2 b hb e) fun y y1 y2=>?_
   rw[y2] at hx
   cases hx
   exact S.sub _ _ (l.1 _ _ y1)
 refine ⟨fun g' M i k Q l hi hk hQ=>f8 fun s S=>?_,fun g' M i Q l hi hQ=>f8 fun s S=>?_,fun g' M i k Q l hi hQ s S=>?_⟩
 ·refine Wk.item k s _ _ hk (here l hi S) fun v h' tk hV st' keep htk=>?_
  refine bK (hex _ _ st') fun o' ho'=>?_
  refine (an g' _ .refl (S.setX (P':=jv g I fp (S' (k+1))) hi (fun b o ne e=>keep b o (by simpa using ne) e) ho' (bU h' ho' (fun b hb ne=>?_) st') htk) (hQ v hV))
  refine bK (hfp b hb ne) fun x hx=>?_
  exact (aG x hx (keep b x (by simpa using ne) (S.sub _ _ (l.1 _ _ hx))))
 ·refine Wk.done s _ _ (here l hi S) fun h' tk keep htk=>(an g' (M.eraseIdx i) .refl (S.forget hi (fun b o ne e=>keep b o (by simpa using ne) e) htk) hQ)
 ·exact Wk.self k s _ _ (here l hi S) (an g' M .refl S hQ)
theorem bX {l:Addr}{xs:Array Value}{Q:PQ Value}(hl:Fz g l (bq xs))(h:∀ (I:Addr) (P:Nat→OP),(∀ A':Around,A'.handled=none→DrawsW C A' g I P xs.size (fun i v=>xs[i]?=some v)) →
   (∀ (A':Around) (g':G) (M':be) (i k:Nat) target v (Q':PQ Unit),M'[i]?=some (I,P k)→Q' () g' M'→W C A' (letOwnedTupleGo target (.ref I) v) g' M' Q')→Q (.ref I) g ((I,P 0)::M)):W C A (pyIter (.ref l)) g M Q:=fun s S=>by
 have L:=S.list (.inl hl)
 refine wpAny_pyIter_list L ?_
 have hlt:l<s.heap.objs.size:=aL L fun o e O=>Heap.lt_size e
 refine aL hl fun x hx O=>?_;clear hl
 refine (an g _ .refl (S.push_own (P:=jv g s.heap.objs.size [s.heap.objs.size,l] (fun h=>h.IsListIter s.heap.objs.size l 0∧h.IsList l xs)) (n:=s.toks) rfl ?_) (h _ (fun k=>jv g s.heap.objs.size [s.heap.objs.size,l] (fun h=>h.IsListIter s.heap.objs.size l k∧h.IsList l xs)) (fun A' hA=>?_) ?_))
 ·refine (eQ (s.heap.push _) (Heap.get?_push_size _ rfl) (fun b hb ne=>?_) (bU _ (Heap.get?_push_size _ rfl) rfl rfl) ?_)
  ·have:b=l:=by simpa [ne] using hb
   subst this
   exact (aG x hx (Heap.get?_push_of_some _ (S.sub _ _ hx)))
  ·refine aL L fun o e r=>?_;clear L
   exact (aG o (Heap.get?_push_of_some _ e) r)
 ·refine cR (Walks.list hA _ l (eE hlt) xs) (fun k h hh=>let q1:=hh.1;aL q1 fun o e O=>⟨o,e⟩) fun b hb ne=>?_
  have:b=l:=by simpa [ne] using hb
  subst this
  exact ⟨x,hx⟩
 ·intro A' g' M' i k target v Q' hi hQ s' S'
  refine hH (S'.own _ (iu hi)) fun o e h' h1 O q2=>dI q2 fun h3 O=>?_;clear q2
  have hit:s'.heap.IsListIter s.heap.objs.size l k:=by
   refine aL h3 fun o2 e2 r=>?_;clear h3
   rw[h1] at e2
   cases e2
   exact (aG o e r)
  exact letGo_listiter hit (an g' M' .refl S' hQ)
theorem qH {l:Addr}{xs:Array Value}{Q:PQ Value}(hl:Fz g l (bS xs))(h:∀ (I:Addr) (P:Nat→OP),(∀ A':Around,A'.handled=none→DrawsW C A' g I P xs.size (fun i v=>xs[i]?=some v))→Q (.ref I) g ((I,P 0)::M)):W C A (pyIter (.ref l)) g M Q:=fun s S=>by
 have L:=S.tuple (.inl hl)
 refine wpAny_pyIter_tuple L ?_
 have hlt:l<s.heap.objs.size:=aL L fun o e O=>Heap.lt_size e
 refine aL hl fun x hx O=>?_;clear hl
 refine (an g _ .refl (S.push_own (P:=jv g s.heap.objs.size [s.heap.objs.size,l] (fun h=>h.IsTupleIter s.heap.objs.size l 0∧h.IsTuple l xs)) (n:=s.toks) rfl ?_) (h _ (fun k=>jv g s.heap.objs.size [s.heap.objs.size,l] (fun h=>h.IsTupleIter s.heap.objs.size l k∧h.IsTuple l xs)) (fun A' hA=>?_)))
 ·refine (eQ (s.heap.push _) (Heap.get?_push_size _ rfl) (fun b hb ne=>?_) (bU _ (Heap.get?_push_size _ rfl) rfl rfl) ?_)
  ·have:b=l:=by simpa [ne] using hb
   subst this
   exact (aG x hx (Heap.get?_push_of_some _ (S.sub _ _ hx)))
  ·refine aL L fun o e r=>?_;clear L
   exact (aG o (Heap.get?_push_of_some _ e) r)
 ·refine cR (Walks.tuple hA _ l (eE hlt) xs) (fun k h hh=>let q3:=hh.1;aL q3 fun o e O=>⟨o,e⟩) fun b hb ne=>?_
  have:b=l:=by simpa [ne] using hb
  subst this
  exact ⟨x,hx⟩
theorem fe {x:Str}{t:Tok}{Q:PQ Value}(h:∀ (I:Addr) (P:Nat→OP),(∀ A':Around,A'.handled=none→DrawsW C A' g I P x.cps.size (SignAt x))→Q (.ref I) g ((I,P 0)::M)):W C A (pyIter (.str x t)) g M Q:=fun s S=>by
 cases ha:x.cps.all (·<128)
 ·refine wpAny_pyIter_wide ha ?_
  refine (an g _ .refl (S.push_own (P:=jv g s.heap.objs.size [s.heap.objs.size] (fun h=>h.IsStrIter s.heap.objs.size "str_iterator" x t 0)) (n:=s.toks) rfl ?_) (h _ (fun k=>jv g s.heap.objs.size [s.heap.objs.size] (fun h=>h.IsStrIter s.heap.objs.size "str_iterator" x t k)) fun A' hA=>?_))
  ·exact (bU (s.heap.push _) (Heap.get?_push_size _ rfl) (fun b hb ne=>absurd (by simpa using hb) ne) (bU _ (Heap.get?_push_size _ rfl) rfl rfl))
  ·exact cR (Walks.strWide hA _ x t) (fun k h hh=>aL hh fun o e O=>⟨o,e⟩) fun b hb ne=>absurd (by simpa using hb) ne
 ·refine wpAny_pyIter_ascii ha ?_
  refine (an g _ .refl (S.push_own (P:=jv g s.heap.objs.size [s.heap.objs.size] (fun h=>h.IsStrIter s.heap.objs.size "str_ascii_iterator" x t 0)) (n:=s.toks) rfl ?_) (h _ (fun k=>jv g s.heap.objs.size [s.heap.objs.size] (fun h=>h.IsStrIter s.heap.objs.size "str_ascii_iterator" x t k)) fun A' hA=>?_))
  ·exact (bU (s.heap.push _) (Heap.get?_push_size _ rfl) (fun b hb ne=>absurd (by simpa using hb) ne) (bU _ (Heap.get?_push_size _ rfl) rfl rfl))
  ·exact cR (Walks.strAscii hA _ x t) (fun k h hh=>aL hh fun o e O=>⟨o,e⟩) fun b hb ne=>absurd (by simpa using hb) ne
noncomputable def oX (a b:Int):OP:=fun o=>∃ t u v,o={ cls:=.type "range",data:=.fields #[.int a t,.int b u,.int 1 v] }
theorem fu {n:Int}{t:Tok}{Q:PQ Value}(h:∀ g' r,G.le g g'→Fz g' r (oX 0 n)→Q (.ref r) g' M):W C A (call (.type "range") [.int n t]) g M Q:=fun s S=>by
 refine call_range_1 ?_
 refine bT ((S.push_own (P:=oX 0 n) (n:=s.toks+1+1) (o:={ cls:=.type "range",data:=.fields #[.int 0 s.toks,.int n t,.int 1 (s.toks+1)] }) rfl (gJ _ _ _ rfl) (bw (dG _ _) (dG _ _))).freeze) fun x p ga S'=>?_
 exact (an _ _ (G.le_put ga) S' (h _ _ (G.le_put ga) (aG x G.put_self p)))
theorem iW {a b:Int}{t u:Tok}{Q:PQ Value}(h:∀ g' r,G.le g g'→Fz g' r (oX a b)→Q (.ref r) g' M):W C A (call (.type "range") [.int a t,.int b u]) g M Q:=fun s S=>by
 refine call_range_2 ?_
 refine bT ((S.push_own (P:=oX a b) (n:=s.toks+1) (o:={ cls:=.type "range",data:=.fields #[.int a t,.int b u,.int 1 s.toks] }) rfl (gJ _ _ _ rfl) (dG _ _)).freeze) fun x p ga S'=>?_
 exact (an _ _ (G.le_put ga) S' (h _ _ (G.le_put ga) (aG x G.put_self p)))
theorem cw {r:Addr}{a b:Int}{Q:PQ Value}(hr:Fz g r (oX a b))(ha:-(2^62)<a∧a<2^62)(hb:-(2^62)<b∧b<2^62)(h:∀ (I:Addr) (P:Nat→OP),(∀ A':Around,A'.handled=none→DrawsW C A' g I P (b-a).toNat (fun i v=>∃ t,v=.int (a+i) t))→Q (.ref I) g ((I,P 0)::M)):W C A (pyIter (.ref r)) g M Q:=fun s S=>by
 refine jf (S.sees (.fz hr)) fun o ho t u v q4=>?_;subst q4
 have hn:Builtin.Range.rangeSize a b 1=((b-a).toNat:Int):=by
  unfold Builtin.Range.rangeSize
  simp only[Int.ediv_one,show ((1:Int) > 0) from by decide,if_true]
  split<;>omega
 have hsmall:Builtin.Range.small a b 1=true:=by
  unfold Builtin.Range.small
  rw[hn]
  simp[Builtin.Range.rangeFitsLong]
  omega
 refine wpAny_pyIter_range ho hsmall ?_
 rw[hn]
 have hV:(fun (i:Nat) (v:Value)=>∃ t,v=.int (a+i) t)=fun i v=>∃ t,v=.int (a+i*1) t:=by funext i v;rw[ph]
 refine (an g _ .refl (S.push_own (P:=jv g s.heap.objs.size [s.heap.objs.size] (fun h=>IsRangeIter h s.heap.objs.size (a+((0:Nat):Int)*1) (((b-a).toNat:Int)-((0:Nat):Int)) 1)) (n:=s.toks) rfl ?_) (h _ (fun k=>jv g s.heap.objs.size [s.heap.objs.size] (fun h=>IsRangeIter h s.heap.objs.size (a+(k:Int)*1) (((b-a).toNat:Int)-(k:Int)) 1)) fun A' hA=>?_))
 ·refine (bU (s.heap.push _) (Heap.get?_push_size _ rfl) (fun b hb ne=>absurd (by simpa using hb) ne) ?_)
  have e:=Heap.get?_push_size s.heap (o:={ cls:=.type "range_iterator",data:=.fields #[rawInt a,rawInt ((b-a).toNat:Int),rawInt 1] }) rfl
  simpa using e
 ·rw[hV]
  exact cR (Walks.range hA _ a 1 (b-a).toNat) (fun k h hh=>⟨_,hh⟩) fun b hb ne=>absurd (by simpa using hb) ne
noncomputable def uK (xs:Array Value)(l:Addr):OP:=fun o=>o=revObj l ((xs.size:Int)-1)
theorem sG {I l:Addr}{xs:Array Value}{Q:PQ Value}(hl:Fz g l (bq xs))(hne:l≠I)(h:∀ (P:Nat→OP),(∀ A':Around,A'.handled=none→DrawsW C A' g I P xs.size (fun i v=>xs[xs.size-1-i]?=some v))→Q (.ref I) g ((I,P 0)::M)):W C A (pyIter (.ref I)) g ((I,uK xs l)::M) Q:=fun s S=>by
 refine aL (S.own _ (.head _)) fun o ho e=>?_
 dsimp only at ho e
 have hit:s.heap.IsRevIter I l ((xs.size:Int)-1-((0:Nat):Int)):=(bU o ho (by rw[e];rfl) (by rw[e];simp[revObj]))
 have L:=S.list (.inl hl)
 refine aL hl fun x hx hx'=>?_;clear hl
 refine wpAny_pyIter_revIter hit (an g _ .refl ?_ (h (fun k=>jv g I [I,l] (fun h=>k≤xs.size∧h.IsRevIter I l ((xs.size:Int)-1-(k:Int))∧h.IsList l xs)) fun A' hA=>?_))
 ·refine S.imp (i:=0) (P:=uK xs l) rfl fun o' e'=>(dy s.heap ?_ (fun b hb ne=>?_) (iE _) hit L)
  ·have:o'=o:=by rw[e];exact e'
   rw[this];exact ho
  ·have:b=l:=by simpa [ne] using hb
   subst this
   exact (aG x hx (S.sub _ _ hx))
 ·refine cR (Walks.listRev hA _ l hne xs) (fun k h hh=>let q5:=hh.2.1;aL q5 fun o e O=>⟨o,e⟩) fun b hb ne=>?_
  have:b=l:=by simpa [ne] using hb
  subst this
  exact ⟨x,hx⟩
theorem sP {l:Addr}{xs:Array Value}{Q:PQ Value}(hl:Fz g l (bq xs))(h:∀ I,l≠I→Q (.ref I) g ((I,uK xs l)::M)):W C A (call (.type "reversed") [.ref l]) g M Q:=fun s S=>by
 refine call_reversed_list (S.list (.inl hl)) ?_
 exact (an g _ .refl (S.push_own (P:=uK xs l) (n:=s.toks) rfl rfl) (h _ (eE (let q6:=S.list (.inl hl);aL q6 fun o e O=>Heap.lt_size e))))
end
end
section
noncomputable def WC (C:Cx)(A:Around)(c:Code)(g:G)(M:be)(Q:PQ Flow):Prop :=
 ∀ s,St C g M s→codeAny C.M A c (fun r s'=>match r with|.ok f=>∃ g' M',G.le g g'∧St C g' M' s'∧Q f g' M'|.error _=>False) s
section
variable {C:Cx}{A:Around}{g:G}{M:be}{env:Env}
theorem aF {x:Str}{p:Pos}{v:Value}{Q:PQ Unit}(h:W C A (storeName env x v) g M Q):W C A (assign (.Name x p) env v) g M Q:=fun s S=>wpAny_assign_Name (h s S)
theorem vQ {α:Type}{t:Sem α}{Q:α→G→be→Prop}{v:α}(q:Q v g M)(h:∀ s (R:α→Shared→Prop) (E:Value→Shared→Prop),St C g M s→(∀ h' n,(∀ b o,s.heap.get? b=some o→h'.get? b=some o)→R v { s with heap:=h',toks:=n })→wpAny C.M A t R E s):W C A t g M Q :=
 f8 fun s S=>h s _ _ S fun h' n k hn=>(an g M .refl (S.keeps k hn) q)
theorem j3 {t:Addr}{items:Array Value}{Q:List Value→G→be→Prop}(hA:A.handled=none)(ht:Sees g M t (bS items))(h:Q items.toList g M):W C A (unpackItems (.ref t) items.size none) g M Q :=
 vQ h fun s R E S k=>wpAny_unpackItems_tuple hA (S.tuple ht) fun h' e=>k h' _ fun b o x=>e b o (eE (Heap.lt_size x)) x
theorem cj {a b:Expr}{k:Nat}{pos:Pos}{t:Addr}{u v:Value}{Q:PQ Unit}(hA:A.handled=none)(ht:Sees g M t (bS #[u,v]))(h:W C A (assign a env u) g M (fun O g₁ M₁=>W C A (assign b env v) g₁ M₁ (fun O=>Q ())))(hs:assignEach [a,b] env=[(false,assign a env),(false,assign b env)]:=by rfl):W C A (assign (.Tuple [a,b] k pos) env (.ref t)) g M Q:=by
 rw[assign_Tuple]
 refine ak (aP ?_)
 unfold unpack
 rw[hs]
 refine ak (aD (j3 (items:=#[u,v]) hA ht ?_))
 show W C A (do holding [v] (assign a env u);do holding [] (assign b env v);pure ()) g M Q
 exact ak (aD (h.mono fun O O O O h=>ak (aD (h.mono fun O O O O h=>ay h))))
theorem mv {a b c:Expr}{k:Nat}{pos:Pos}{t:Addr}{u v w:Value}{Q:PQ Unit}(hA:A.handled=none)(ht:Sees g M t (bS #[u,v,w]))(h:W C A (assign a env u) g M (fun O g₁ M₁=>W C A (assign b env v) g₁ M₁ (fun O g₂ M₂=>W C A (assign c env w) g₂ M₂ (fun O=>Q ()))))(hs:assignEach [a,b,c] env=[(false,assign a env),(false,assign b env),(false,assign c env)]:=by rfl):W C A (assign (.Tuple [a,b,c] k pos) env (.ref t)) g M Q:=by
 rw[assign_Tuple]
 refine ak (aP ?_)
 unfold unpack
 rw[hs]
 refine ak (aD (j3 (items:=#[u,v,w]) hA ht ?_))
 show W C A (do holding [v,w] (assign a env u);do holding [w] (assign b env v);do holding [] (assign c env w);pure ()) g M Q
 exact ak (aD (h.mono fun O O O O h=>ak (aD (h.mono fun O O O O h=>ak (aD (h.mono fun O O O O h=>ay h))))))
theorem uw {target iter:Expr}{body:List Stmt}{pos:Pos}{Q:PQ Flow}(h:W C A (eval iter env) g M (fun x g₁ M₁=>W C A (pyIter x) g₁ M₁ (fun itv g₂ M₂=>∃ (I:Addr) (P:Nat→OP) (n:Nat) (V:Nat→Value→Prop) (M₀:be) (J:Nat→G→be→Prop),itv=.ref I∧M₂=(I,P 0)::M₀∧DrawsW C A g₂ I P n V∧J 0 g₂ M₀ ∧
   (∀ (g':G) (M':be) (i k:Nat) (v:Value) (Q':PQ Unit),M'[i]?=some (I,P k)→Q' () g' M'→W C A (letOwnedTupleGo target (.ref I) v) g' M' Q') ∧
   (∀ k g' M' v,k<n→G.le g₂ g'→J k g' M'→V k v→W C A (assign target env v) g' ((I,P (k+1))::M') (fun O g₃ M₃=>W C A (execs body env) g₃ M₃ (fun f g₄ M₄=>∃ X M₅,M₄=X++(I,P (k+1))::M₅ ∧
    match f with|.next|.cont=>J (k+1) g₄ M₅|.brk=>Q .next g₄ M₅|.ret v=>Q (.ret v) g₄ M₅))) ∧
   (∀ g' M',G.le g₂ g'→J n g' M'→Q .next g' M'))))(hs:∀ x,foldedSetIterable iter env x=pure x:=by intro _;rfl):W C A (exec (.For target iter body [] pos) env) g M Q:=fun s S=>by
 refine wpAny_For (wpAny_mono (h s S) (fun x s₁ q1=>aK q1 fun g₁ M₁ l₁ S₁ h₁=>wpAny_mono (h₁ s₁ S₁) (fun itv s₂ h₂=>?_) fun O O x=>x.elim) fun O O x=>x) hs
 refine cm h₂ fun g₂ M₂ l₂ S₂ I q2=>aT q2 fun P n V M₀ J q3=>cy q3 fun e1 e2 D j0 go q4=>dI q4 fun turn fin=>?_;clear q2 q3 q4 h₂
 subst e1 e2
 refine codeAny_forLoop_any (I:=fun m s=>∃ k g' M',k+m=n∧G.le g₂ g'∧St C g' ((I,P k)::M') s∧J k g' M') (fun m s q5=>bC q5 fun k g' M' hk l' q6=>dI q6 fun S' j=>?_) n (bf 0 g₂ M₀ (qx n) .refl (jb S₂ j0))
 have toE:∀ {α:Type}{x:Sem α}{R:α→Shared→Prop}{s:Shared}{E:Value→Shared→Prop},wpAny C.M A x R (fun O O=>False) s→wpAny C.M A x R E s:=fun h=>wpAny_mono h (fun O O x=>x) fun O O x=>x.elim
 by_cases hkn:k<n
 ·refine toE (wpAny_mono (D.item g' _ 0 k (fun r g₁ M₁=>∃ v,r=some v∧V k v∧g'=g₁∧(I,P (k+1))::M'=M₁) l' rfl hkn (fun v hv=>(eQ v rfl hv rfl rfl)) s S') ?_ fun O O x=>x)
  refine fun r s₁ q7=>cm q7 fun O O l3 S₃ v q11=>cA q11 fun q8 hv q9 q10=>?_;clear q7 q11;subst q8;subst q9;subst q10
  refine toE (wpAny_mono (go g' _ 0 (k+1) v (fun O g₁ M₁=>g'=g₁∧(I,P (k+1))::M'=M₁) rfl ⟨rfl,rfl⟩ s₁ S₃) ?_ fun O O x=>x)
  refine fun O s₄ q12=>bc q12 fun O O l4 S₄ q13 q14=>?_;clear q12;subst q13;subst q14
  refine toE (wpAny_mono (turn k g' M' v hkn l' j hv s₄ S₄) (fun O s₅ q15=>aK q15 fun g₅ M₅ l5 S₅ h₅=>toE (wpAny_mono (h₅ s₅ S₅) ?_ fun O O x=>x)) fun O O x=>x)
  refine fun f s₆ q16=>cm q16 fun g₆ O l6 S₆ X q18=>aL q18 fun M₇ q17 hf=>?_;clear q16 q18;subst q17
  cases f with
  | next=>exact (mD (n-(k+1)) (ln2 [_,_,_,_] [] (.lt ah am) (.Y 1 (.eq (.a ao am) aM)) (.eq (.a ah (.a ao av)) aM) ae hk (bn (aQ [_,_] [] (.le (.a ah av) am) (.lt ah am) ae hkn))) (k+1) g₆ M₇ (cr (aQ [_,_,_] [] (.eq (.a (.a ah av) am) ao) (.eq (.a am (.a ah av)) ao) ae (bn (aQ [_,_] [] (.le (.a ah av) am) (.lt ah am) ae hkn))) ((l'.trans l5).trans l6) S₆.drop hf))
  | cont=>exact (mD (n-(k+1)) (ln2 [_,_,_,_] [] (.lt ah am) (.Y 1 (.eq (.a ao am) aM)) (.eq (.a ah (.a ao av)) aM) ae hk (bn (aQ [_,_] [] (.le (.a ah av) am) (.lt ah am) ae hkn))) (k+1) g₆ M₇ (cr (aQ [_,_,_] [] (.eq (.a (.a ah av) am) ao) (.eq (.a am (.a ah av)) ao) ae (bn (aQ [_,_] [] (.le (.a ah av) am) (.lt ah am) ae hkn))) ((l'.trans l5).trans l6) S₆.drop hf))
  | brk=>exact (an g₆ M₇ ((l₁.trans l₂).trans ((l'.trans l5).trans l6)) (S₆.drop.drop (X:=[_])) hf)
  | ret v=>exact (an g₆ M₇ ((l₁.trans l₂).trans ((l'.trans l5).trans l6)) (S₆.drop.drop (X:=[_])) hf)
 ·have hkn':k=n:=by exact nY (aQ [_,_,_] [] (.le ah am) (.eq (.a ah ao) am) ae hk) (aQ [_,_] [] (.le ah am) (.nlt am ah) ae hkn)
  subst hkn'
  refine toE (wpAny_mono (D.done g' _ 0 (fun r g₁ M₁=>r=none∧g'=g₁∧M'=M₁) l' rfl (iPPP rfl rfl rfl) s S') ?_ fun O O x=>x)
  refine fun r s₁ q19=>bc q19 fun O O l3 S₃ q20 q23=>dI q23 fun q21 q22=>?_;clear q19 q23;subst q20;subst q21;subst q22
  exact toE (wpAny_pure (an g' M' ((l₁.trans l₂).trans l') S₃ (fin g' M' l' j)))
theorem ik {I:Addr}{P:Nat→OP}{x:Str}{p:Pos}(g':G)(M':be)(i k:Nat)(v:Value)(Q':PQ Unit):M'[i]?=some (I,P k)→Q' () g' M'→W C A (letOwnedTupleGo (.Name x p) (.ref I) v) g' M' Q':=fun O h=>ay h
end
end
section
section
variable {C:Cx}{A:Around}{g:G}{M:be}{env:Env}
theorem toE {α:Type}{C:Cx}{A:Around}{x:Sem α}{R:α→Shared→Prop}{s:Shared}{E:Value→Shared→Prop}(h:wpAny C.M A x R (fun O O=>False) s):wpAny C.M A x R E s:=wpAny_mono h (fun O O x=>x) fun O O x=>x.elim
theorem pc {scope:Scope}{cl:List (Str×Addr)}{Q:Env→G→be→Prop}(hcell:∀ y∈scope.names,y.2≠.cell)(hkind:scope.kind=.function)(h:∀ Cl,Q (newEnv scope Cl env.globals cl env.qual none .none (some env) builtinsNs) g ((Cl,aJ [])::M)):W C A (newFunctionEnv scope env.globals cl [] env.qual none .none (some env)) g M Q:=fun s S=>by
 refine wpAny_newFunctionEnv hcell (by intro y hy;simp at hy) (fun h₁ hns hsb=>?_) hkind
 have S':=S.push_own (P:=fun O=>True) (n:=s.toks) (o:={ cls:=.type "dict",data:=.dict #[] }) rfl trivial
 refine bC hns fun o es ep ho hd q1=>dI q1 fun hk hm=>?_;clear q1 hns
 exact (an g _ .refl (S'.set (i:=0) (P':=aJ []) (n:=s.toks+0) rfl hsb ho (aG _ (an es ep hd hk (fun y=>hm y)) (fun x v e=>by cases e)) (dX _)) (h _))
noncomputable def gF (ifs:List Expr)(cenv:Env):Sem Bool:=forIn ifs true fun c r=>if r=true then do let ok ← isTrue c cenv (eval c cenv);pure (ForInStep.yield ok) else pure (ForInStep.yield r)
theorem dr {cenv:Env}{Q:PQ Bool}(h:Q true g M):W C A (gF [] cenv) g M Q:=ay h
theorem rF {c:Expr}{cenv:Env}{Q:PQ Bool}(h:W C A (isTrue c cenv (eval c cenv)) g M Q):W C A (gF [c] cenv) g M Q:=by
 unfold gF
 simp only[nX,qy,if_true]
 exact ak (ak (h.mono fun O O O O q=>ay (ay q)))
theorem gd {e:Expr}{d:Nat}{target:Expr}{ifs:List Expr}{ip:Pos}{emit:Sem Unit}{acc:Value}{cenv:Env}{I:Addr}{P:Nat→OP}{n:Nat}{V:Nat→Value→Prop}{Y:be}{J:Nat→G→be→Prop}{Q:PQ Flow}(hturn:compTurn e d (.ref I) acc cenv=(standAt ip >>= fun O=>pyNext (.ref I) >>= fun r=>match r with
   | none=>pure (.done .next)
   | some v=>letOwnedTupleGo target (.ref I) v >>= fun O=>assign target cenv v >>= fun O=>gF ifs cenv >>= fun ok =>
     if ok=true then emit >>= fun O=>again (.compLoop e d (.ref I) acc cenv) else again (.compLoop e d (.ref I) acc cenv)))(hq:(Code.compLoop e d (.ref I) acc cenv).quiet=true)(hu:A.under (.compLoop e d (.ref I) acc cenv)=A)(hden:C.M.den (.compLoop e d (.ref I) acc cenv)=(compTurn e d (.ref I) acc cenv).onRaise fun x=>do noteFrame x cenv;theTreesLotGoes x)(D:DrawsW C A g I P n V)(go:∀ (g':G) (M':be) (i k:Nat) (v:Value) (Q':PQ Unit),M'[i]?=some (I,P k)→Q' () g' M'→W C A (letOwnedTupleGo target (.ref I) v) g' M' Q')(turn:∀ k g' Y v,k<n→G.le g g'→J k g' Y→V k v→W C A (assign target cenv v) g' (Y++(I,P (k+1))::M) (fun O g₃ M₃=>W C A (gF ifs cenv) g₃ M₃ (fun ok g₄ M₄ =>
   if ok=true then W C A emit g₄ M₄ (fun O g₅ M₅=>∃ X Y',M₅=X++(Y'++(I,P (k+1))::M)∧J (k+1) g₅ Y') else ∃ X Y',M₄=X++(Y'++(I,P (k+1))::M)∧J (k+1) g₄ Y')))(fin:∀ g' Y,G.le g g'→J n g' Y→Q .next g' (Y++M))(j0:J 0 g Y):WC C A (.compLoop e d (.ref I) acc cenv) g (Y++(I,P 0)::M) Q:=fun s S=>by
 refine codeAny_loop hq (I:=fun m s=>∃ k g' Y,k+m=n∧G.le g g'∧St C g' (Y++(I,P k)::M) s∧J k g' Y) (fun m s q2=>bC q2 fun k g' Y hk l' q3=>dI q3 fun S' j=>?_) n (bf 0 g Y (qx n) .refl (jb S j0))
 rw[hu,hden,hturn]
 refine wpAny_noted (toE ?_)
 refine wpAny_bind (wpAny_standAt (wpAny_bind ?_))
 have at_:∀ {Y:be}{k:Nat},(Y++(I,P k)::M)[Y.length]?=some (I,P k):=fun {Y k}=>by rw[List.getElem?_append_right (dX _),nh];rfl
 have set_:∀ {Y:be}{k:Nat}{p:Addr×OP},(Y++(I,P k)::M).set Y.length p=Y++p::M:=fun {Y k p}=>by rw[List.set_append_right _ _ (dX _),nh];rfl
 have er_:∀ {Y:be}{k:Nat},(Y++(I,P k)::M).eraseIdx Y.length=Y++M:=fun {Y k}=>by rw[List.eraseIdx_append_of_length_le (dX _),nh];rfl
 by_cases hkn:k<n
 ·refine wpAny_mono (D.item g' _ Y.length k (fun r g₁ M₁=>∃ v,r=some v∧V k v∧g'=g₁∧Y++(I,P (k+1))::M=M₁) l' at_ hkn (fun v hv=>(eQ v rfl hv rfl set_.symm)) s S') ?_ fun O O x=>x
  refine fun r s₁ q4=>cm q4 fun O O l3 S₃ v q8=>cA q8 fun q5 hv q6 q7=>?_;clear q4 q8;subst q5;subst q6;subst q7
  refine wpAny_bind (wpAny_mono (go g' _ Y.length (k+1) v (fun O g₁ M₁=>g'=g₁∧Y++(I,P (k+1))::M=M₁) at_ ⟨rfl,rfl⟩ s₁ S₃) ?_ fun O O x=>x)
  refine fun O s₄ q9=>bc q9 fun O O l4 S₄ q10 q11=>?_;clear q9;subst q10;subst q11
  refine wpAny_bind (wpAny_mono (turn k g' Y v hkn l' j hv s₄ S₄) (fun O s₅ q12=>aK q12 fun g₅ M₅ l5 S₅ h₅=>wpAny_bind (wpAny_mono (h₅ s₅ S₅) (fun ok s₆ q13=>aK q13 fun g₆ M₆ l6 S₆ h₆=>?_) fun O O x=>x)) fun O O x=>x)
  cases ok with
  | true =>
   refine wpAny_bind (wpAny_mono (h₆ s₆ S₆) ?_ fun O O x=>x)
   refine fun O s₇ q14=>cm q14 fun g₇ O l7 S₇ X q16=>aL q16 fun Y' q15 j'=>?_;clear q14 q16;subst q15
   exact wpAny_pure (uu rfl (n-(k+1)) (ln2 [_,_,_,_] [] (.lt ah am) (.Y 1 (.eq (.a ao am) aM)) (.eq (.a ah (.a ao av)) aM) ae hk (bn (aQ [_,_] [] (.le (.a ah av) am) (.lt ah am) ae hkn))) (k+1) g₇ (eQ Y' (aQ [_,_,_] [] (.eq (.a (.a ah av) am) ao) (.eq (.a am (.a ah av)) ao) ae (bn (aQ [_,_] [] (.le (.a ah av) am) (.lt ah am) ae hkn))) (((l'.trans l5).trans l6).trans l7) S₇.drop j'))
  | false =>
   refine bJ h₆ fun X Y' q17 j'=>?_;clear h₆;subst q17
   exact wpAny_pure (uu rfl (n-(k+1)) (ln2 [_,_,_,_] [] (.lt ah am) (.Y 1 (.eq (.a ao am) aM)) (.eq (.a ah (.a ao av)) aM) ae hk (bn (aQ [_,_] [] (.le (.a ah av) am) (.lt ah am) ae hkn))) (k+1) g₆ (eQ Y' (aQ [_,_,_] [] (.eq (.a (.a ah av) am) ao) (.eq (.a am (.a ah av)) ao) ae (bn (aQ [_,_] [] (.le (.a ah av) am) (.lt ah am) ae hkn))) ((l'.trans l5).trans l6) S₆.drop j'))
 ·have hkn':k=n:=by exact nY (aQ [_,_,_] [] (.le ah am) (.eq (.a ah ao) am) ae hk) (aQ [_,_] [] (.le ah am) (.nlt am ah) ae hkn)
  subst hkn'
  refine wpAny_mono (D.done g' _ Y.length (fun r g₁ M₁=>r=none∧g'=g₁∧Y++M=M₁) l' at_ (iPPP rfl rfl er_.symm) s S') ?_ fun O O x=>x
  refine fun r s₁ q18=>bc q18 fun O O l3 S₃ q19 q22=>dI q22 fun q20 q21=>?_;clear q18 q22;subst q19;subst q20;subst q21
  exact wpAny_pure (an g' _ l' S₃ (fin g' Y l' j))
theorem nT (elt target iter:Expr)(ifs:List Expr)(scope:Scope)(pos:Pos)(it acc:Value)(cenv:Env) :
  compTurn (.ListComp elt [⟨target,iter,ifs,0⟩] scope pos) 0 it acc cenv=(standAt iter.pos >>= fun O=>pyNext it >>= fun r=>match r with
   | none=>pure (.done .next)
   | some v=>letOwnedTupleGo target it v >>= fun O=>assign target cenv v >>= fun O=>gF ifs cenv >>= fun ok =>
     if ok=true then (eval elt cenv >>= fun x=>call (.builtin "list.append") [acc,x] >>= fun O=>pure ()) >>= fun O=>again (.compLoop (.ListComp elt [⟨target,iter,ifs,0⟩] scope pos) 0 it acc cenv)
     else again (.compLoop (.ListComp elt [⟨target,iter,ifs,0⟩] scope pos) 0 it acc cenv)):=by rfl
end
end
section
section
variable {C:Cx}{A:Around}{g:G}{M:be}{env:Env}
theorem iJ {l:Addr}{xs:Array Value}{i:Nat}{v:Value}{Q:PQ Value}(hi:M[i]?=some (l,ai xs))(hsz:xs.size≤sizeLine)(h:Q .none g (M.set i (l,ai (xs.push v)))) :
  W C A (call (.builtin "list.append") [.ref l,v]) g M Q:=fun s S =>
 wpAny_list_append_plain (S.isL (.own (iu hi))) (fun h' q1 hs=>bK q1 fun n e=>(an g _ .refl (S.set (n:=s.toks) hi hs e ⟨n,rfl⟩) h)) hsz
theorem jk {xs:List Value}{Q:PQ Value}(hsz:xs.length≤sizeLine)(h:∀ l,Q (.ref l) g ((l,ai xs.toArray)::M)):W C A (newList xs) g M Q:=fun s S =>
 wpAny_newList (an g _ .refl (S.push_own (P:=ai xs.toArray) (n:=s.toks) rfl ⟨_,rfl⟩) (h _)) hsz
theorem eh {e:Expr}{scope:Scope}{pos:Pos}{newAcc first:Sem Value}{gc:Comprehension}{gs:List Comprehension}{cl:List (Str×Addr)}{Q:PQ Value}(hcl:clausesOf e=gc::gs)(hs:∀ x,foldedSetIterable gc.iter env x=pure x)(hclos:closureFor scope env=pure cl)(hcell:∀ y∈scope.names,y.2≠.cell)(hkind:scope.kind=.function)(hnames:∀ x∈scope.names,x.2=.local→scope.names.lookup x.1=some .local)(h:W C A first g M (fun x g₁ M₁=>W C A (pyIter x) g₁ M₁ (fun it g₂ M₂=>W C A newAcc g₂ M₂ (fun acc g₃ M₃=>∀ Cl,WC C A (.compStart e 0 it acc (compEnvC scope cl Cl env)) g₃ ((Cl,aJ [])::M₃)
   (fun O g₄ M₄=>∃ l M₅,M₄=(Cl,aJ l)::M₅∧Q acc g₄ M₅))))):W C A (comprehension e scope env pos newAcc false first none) g M Q:=fun s S=>by
 refine wpAny_comprehension_free (use:=none) hcl hs hclos hkind hnames (wpAny_mono (h s S) (fun x s₁ q3=>aK q3 fun g₁ M₁ l₁ S₁ h₁=>wpAny_mono (h₁ s₁ S₁) (fun it s₂ q4=>aK q4 fun g₂ M₂ l₂ S₂ h₂=>wpAny_mono (h₂ s₂ S₂) (fun acc s₃ q5=>aK q5 fun g₃ M₃ l₃ S₃ h₃=>?_) fun O O x=>x) fun O O x=>x) fun O O x=>x)
 refine wpAny_mono (pc (C:=C) (A:=A) (Q:=fun cenv g₄ M₄=>∃ Cl,cenv=newEnv scope Cl env.globals cl env.qual none .none (some env) builtinsNs∧g₃=g₄∧(Cl,aJ [])::M₃=M₄) hcell hkind (fun Cl=>(bU Cl rfl rfl rfl)) s₃ S₃) ?_ fun O O x=>x
 refine fun O s₄ q6=>cm q6 fun O O l₄ S₄ Cl q10=>ch q10 fun q7 q8 q9=>?_;clear q6 q10;subst q7;subst q8;subst q9
 refine codeAny_mono (h₃ Cl s₄ S₄) ?_
 rintro r s₅ h₅
 cases r with
 | error e=>exact h₅.elim
 | ok f =>
  refine cm h₅ fun g₅ O l₅ S₅ l q12=>aL q12 fun M₅ q11 q=>?_;clear q12 h₅;subst q11
  refine aL (S₅.loc (.own (.head _))) fun O hn O=>?_
  exact (aG _ hn (fun h' hs'=>(an g₅ M₅ ((((l₁.trans l₂).trans l₃).trans l₄).trans l₅) (S₅.forget (i:=0) rfl (fun b o ne e=>(hs'.2 b ne).trans e) (dX _)) q)))
theorem jx {e:Expr}{scope:Scope}{pos:Pos}{newAcc first:Sem Value}{gc:Comprehension}{gs:List Comprehension}{cl:List (Str×Addr)}{u:Value→Sem Unit}{Q:PQ Value}(hcl:clausesOf e=gc::gs)(hs:∀ x,foldedSetIterable gc.iter env x=pure x)(hclos:closureFor scope env=pure cl)(hcell:∀ y∈scope.names,y.2≠.cell)(hkind:scope.kind=.function)(hnames:∀ x∈scope.names,x.2=.local→scope.names.lookup x.1=some .local)(h:W C A first g M (fun x g₁ M₁=>W C A (pyIter x) g₁ M₁ (fun it g₂ M₂=>W C A newAcc g₂ M₂ (fun acc g₃ M₃=>∀ Cl,WC C A (.compStart e 0 it acc (compEnvC scope cl Cl env)) g₃ ((Cl,aJ [])::M₃)
   (fun O g₄ M₄=>W C A (u acc) g₄ M₄ (fun O g₅ M₅=>∃ l M₆,M₅=(Cl,aJ l)::M₆∧Q .none g₅ M₆)))))):W C A (comprehension e scope env pos newAcc false first (some u)) g M Q:=fun s S=>by
 refine wpAny_comprehension_free (use:=some u) hcl hs hclos hkind hnames (wpAny_mono (h s S) (fun x s₁ q13=>aK q13 fun g₁ M₁ l₁ S₁ h₁=>wpAny_mono (h₁ s₁ S₁) (fun it s₂ q14=>aK q14 fun g₂ M₂ l₂ S₂ h₂=>wpAny_mono (h₂ s₂ S₂) (fun acc s₃ q15=>aK q15 fun g₃ M₃ l₃ S₃ h₃=>?_) fun O O x=>x) fun O O x=>x) fun O O x=>x)
 refine wpAny_mono (pc (C:=C) (A:=A) (Q:=fun cenv g₄ M₄=>∃ Cl,cenv=newEnv scope Cl env.globals cl env.qual none .none (some env) builtinsNs∧g₃=g₄∧(Cl,aJ [])::M₃=M₄) hcell hkind (fun Cl=>(bU Cl rfl rfl rfl)) s₃ S₃) ?_ fun O O x=>x
 refine fun O s₄ q16=>cm q16 fun O O l₄ S₄ Cl q20=>ch q20 fun q17 q18 q19=>?_;clear q16 q20;subst q17;subst q18;subst q19
 refine codeAny_mono (h₃ Cl s₄ S₄) ?_
 rintro r s₅ h₅
 cases r with
 | error e=>exact h₅.elim
 | ok f =>
  refine aK h₅ fun g₅ M₅ l₅ S₅ q=>?_;clear h₅
  refine wpAny_mono (q s₅ S₅) ?_ fun O O x=>x
  refine fun O s₆ q21=>cm q21 fun g₆ O l₆ S₆ l q23=>aL q23 fun M₆ q22 q=>?_;clear q21 q23;subst q22
  refine aL (S₆.loc (.own (.head _))) fun O hn O=>?_
  exact (aG _ hn (fun h' hs'=>(an g₆ M₆ (((((l₁.trans l₂).trans l₃).trans l₄).trans l₅).trans l₆) (S₆.forget (i:=0) rfl (fun b o ne e=>(hs'.2 b ne).trans e) (dX _)) q)))
theorem iV {elt target iter:Expr}{ifs:List Expr}{scope:Scope}{pos:Pos}{cenv:Env}{I D:Addr}{P:Nat→OP}{n:Nat}{V:Nat→Value→Prop}{Fr:List (Str×Value)→Prop}{J:Nat→Array Value→G→Prop}{Q:PQ Flow}(Dr:DrawsW C A g I P n V)(hn:n≤16777216)(go:∀ (g':G) (M':be) (i k:Nat) (v:Value) (Q':PQ Unit),M'[i]?=some (I,P k)→Q' () g' M'→W C A (letOwnedTupleGo target (.ref I) v) g' M' Q')(turn:∀ k g' ys v l,k<n→G.le g g'→J k ys g'→V k v→Fr l→W C A (assign target cenv v) g' ((cenv.locals,aJ l)::(D,ai ys)::(I,P (k+1))::M) (fun O g₃ M₃=>W C A (gF ifs cenv) g₃ M₃ (fun ok g₄ M₄ =>
   if ok=true then W C A (eval elt cenv) g₄ M₄ (fun y g₅ M₅=>∃ X l',M₅=X++(cenv.locals,aJ l')::(D,ai ys)::(I,P (k+1))::M∧Fr l'∧J (k+1) (ys.push y) g₅)
   else ∃ X l',M₄=X++(cenv.locals,aJ l')::(D,ai ys)::(I,P (k+1))::M∧Fr l'∧J (k+1) ys g₄)))(fin:∀ g' ys l,G.le g g'→J n ys g'→Q .next g' ((cenv.locals,aJ l)::(D,ai ys)::M))(f0:Fr [])(j0:J 0 #[] g) :
  WC C A (.compStart (.ListComp elt [⟨target,iter,ifs,0⟩] scope pos) 0 (.ref I) (.ref D) cenv) g ((cenv.locals,aJ [])::(D,ai #[])::(I,P 0)::M) Q:=by
 have loop:WC C A (.compLoop (.ListComp elt [⟨target,iter,ifs,0⟩] scope pos) 0 (.ref I) (.ref D) cenv) g ((cenv.locals,aJ [])::(D,ai #[])::(I,P 0)::M) Q:=by
  refine gd (target:=target) (ifs:=ifs) (ip:=iter.pos) (Y:=[(cenv.locals,aJ []),(D,ai #[])]) (J:=fun k g' Y=>∃ l ys,Y=[(cenv.locals,aJ l),(D,ai ys)]∧ys.size≤k∧Fr l∧J k ys g')
   (nT elt target iter ifs scope pos (.ref I) (.ref D) cenv) rfl rfl rfl Dr go ?_ ?_ (cb ([]) (#[]) rfl (dX _) f0 j0)
  ·refine fun k g' O v hk l' q24 hv=>bc q24 fun l ys q25 hsz hf j=>?_;clear q24;subst q25
   refine (turn k g' ys v l hk l' j hv hf).mono fun O g₃ M₃ O h=>h.mono fun ok g₄ M₄ O h=>?_
   cases ok with
   | true =>
    rw[if_pos rfl] at h
    rw[if_pos rfl]
    refine ak (h.mono ?_)
    refine fun y g₅ O O q26=>aK q26 fun X l' q27 hf' j'=>?_;clear q26;subst q27
    refine ak ?_
    refine iJ (i:=X.length+1) (xs:=ys) ?_ (bw hsz (bw (bY hk) hn)) (ay (dB X ([(cenv.locals,aJ l'),(D,ai (ys.push y))]) ?_ l' (ys.push y) (cr rfl ?_ hf' j')))
    ·rw[List.getElem?_append_right (dG _ _),xO];rfl
    ·rw[List.set_append_right _ _ (dG _ _),xO];rfl
    ·rw[re];exact mt hsz _
   | false =>
    rw[if_neg jo] at h
    rw[if_neg jo]
    refine aK h fun X l' e hf' j'=>?_;clear h
    exact (dB X _ e l' ys (cr rfl (bw hsz (dG _ _)) hf' j'))
  ·refine fun g' O l' q28=>bc q28 fun l ys q29 hsz hf j=>?_;clear q28;subst q29
   exact fin g' ys l l' j
 refine fun s S=>codeAny_compStart_list (loop s S) (toE (wpAny_mono (Dr.self g _ 2 0 (fun v g' M'=>v=.ref I∧g=g'∧(cenv.locals,aJ [])::(D,ai #[])::(I,P 0)::M=M') .refl rfl (iPPP rfl rfl rfl) s S) ?_ fun O O x=>x))
 refine fun O s₁ q30=>bc q30 fun O O l₁ S₁ q31 q34=>dI q34 fun q32 q33=>?_;clear q30 q34;subst q31;subst q32;subst q33
 exact loop s₁ S₁
theorem nO {elt iter:Expr}{x:Str}{px:Pos}{ifs:List Expr}{scope:Scope}{cl:List (Str×Addr)}{pos:Pos}{Q:PQ Value}(hclos:closureFor scope env=pure cl)(h:W C A (eval iter env) g M (fun xv g₁ M₁=>W C A (pyIter xv) g₁ M₁ (fun itv g₂ M₂=>∃ (I:Addr) (P:Nat→OP) (n:Nat) (V:Nat→Value→Prop) (M₀:be) (J:Nat→Array Value→G→Prop),itv=.ref I∧M₂=(I,P 0)::M₀∧DrawsW C A g₂ I P n V∧n≤16777216∧J 0 #[] g₂ ∧
   (∀ k g' ys v Cl D,k<n→G.le g₂ g'→J k ys g'→V k v →
    let M':=(Cl,aJ [(x,v)])::(D,ai ys)::(I,P (k+1))::M₀
    W C A (gF ifs (compEnvC scope cl Cl env)) g' M' (fun ok g₄ M₄=>if ok=true then W C A (eval elt (compEnvC scope cl Cl env)) g₄ M₄ (fun y g₅ M₅=>(∃ X,M₅=X++M')∧J (k+1) (ys.push y) g₅) else (∃ X,M₄=X++M')∧J (k+1) ys g₄)) ∧
   (∀ g' g'' ys D,G.le g₂ g'→J n ys g'→G.le g' g''→Fz g'' D (ai ys)→Q (.ref D) g'' M₀))))(hcell:∀ y∈scope.names,y.2≠.cell:=by decide)(hkind:scope.kind=.function:=by with_unfolding_all exact Eq.refl ScopeKind.function)(hnames:∀ x∈scope.names,x.2=.local→scope.names.lookup x.1=some .local:=by decide)(hx:scope.names.lookup x=some .local:=by decide)(hs:∀ x,foldedSetIterable iter env x=pure x:=by intro _;with_unfolding_all rfl):W C A (eval (.ListComp elt [⟨.Name x px,iter,ifs,0⟩] scope pos) env) g M Q:=by
 rw[eval_ListComp]
 refine j7 (t':=comprehension (.ListComp elt [⟨.Name x px,iter,ifs,0⟩] scope pos) scope env (firstIterPos [⟨.Name x px,iter,ifs,0⟩] pos) (newList []) false (eval iter env) none) rfl ?_
 suffices H:W C A (comprehension (.ListComp elt [⟨.Name x px,iter,ifs,0⟩] scope pos) scope env (firstIterPos [⟨.Name x px,iter,ifs,0⟩] pos) (newList []) false (eval iter env) none) g M
   (fun D g₁ M₁=>∃ M₀ ys d,D=.ref d∧M₁=(d,ai ys)::M₀∧∀ g'',G.le g₁ g''→Fz g'' d (ai ys)→Q (.ref d) g'' M₀) from
  fun s S=>wpAny_mono (H s S) (fun D s₁ q35=>cm q35 fun g₁ O l₁ S₁ M₀ q36=>aK q36 fun ys d e1 e2 q=>by
   subst e1 e2
   refine bT S₁.freeze fun o p ga S₂=>?_
   exact (an _ M₀ (l₁.trans (G.le_put ga)) S₂ (q _ (G.le_put ga) (aG o G.put_self p)))) fun O O x=>x
 refine eh (gc:=⟨.Name x px,iter,ifs,0⟩) rfl hs hclos hcell hkind hnames (h.mono fun xv g₁ M₁ O h=>h.mono ?_)
 refine fun O g₂ O O q37=>aT q37 fun I P n V M₀ q40=>mz q40 fun J q38 q39 Dr hn q41=>ch q41 fun j0 turn fin=>?_;clear q37 q40 q41;subst q38;subst q39
 refine jk (iE _) fun D Cl=>?_
 refine iV (cenv:=compEnvC scope cl Cl env) (Fr:=fun l=>l=[]∨∃ v,l=[(x,v)]) (J:=J) Dr hn ik ?_ ?_ (.inl rfl) j0
 ·intro k g' ys v l hk l' j hv hf
  refine aF ?_
  have hp:aJ (bR l x v)=aJ [(x,v)]:=by
   rcases hf with rfl|⟨v',rfl⟩
   ·rfl
   ·simp only[bR,if_true]
  refine aX (i:=0) (l:=l) rfl ?_ hkind (lookup_relabel_local hx)
  show W C A _ g' ((Cl,aJ (bR l x v))::(D,ai ys)::(I,P (k+1))::M₀) _
  rw[hp]
  refine (turn k g' ys v Cl D hk l' j hv).mono fun ok g₄ M₄ O h=>?_
  cases ok with
  | true =>
   rw[if_pos rfl] at h ⊢
   refine h.mono ?_
   refine fun y g₅ M₅ O q42=>dI q42 fun q43 j'=>bK q43 fun X e=>?_;clear q42 q43
   exact (an X _ e (.inr ⟨v,rfl⟩) j')
  | false =>
   rw[if_neg jo] at h ⊢
   refine dI h fun q44 j'=>bK q44 fun X e=>?_;clear q44 h
   exact (an X _ e (.inr ⟨v,rfl⟩) j')
 ·intro g' ys l l' j
  exact (dB l _ rfl M₀ ys (bU D rfl rfl (fun g'' l'' f=>fin g' g'' ys D l' j l'' f)))
theorem jt {elt iter:Expr}{x:Str}{px:Pos}{scope:Scope}{cl:List (Str×Addr)}{pos:Pos}{Q:PQ Value}(hclos:closureFor scope env=pure cl)(h:∀ q:PQ Value,(∀ (I:Addr) (P:Nat→OP) (n:Nat) (J:Nat→Array Value→G→Prop) (V:Nat→Value→Prop) (g₂:G) (M₀:be),DrawsW C A g₂ I P n V→n≤16777216→J 0 #[] g₂ →
   (∀ k g' ys v Cl M1,k<n→G.le g₂ g'→J k ys g'→V k v→(∀ p∈M₀,p∈M1)→∀ r:PQ Value,(∀ y g₅ X,J (k+1) (ys.push y) g₅→r y g₅ (X++(Cl,aJ [(x,v)])::M1)) →
    W C A (eval elt (compEnvC scope cl Cl env)) g' ((Cl,aJ [(x,v)])::M1) r) →
   (∀ g' g'' ys D,G.le g₂ g'→J n ys g'→G.le g' g''→Fz g'' D (ai ys)→Q (.ref D) g'' M₀)→q (.ref I) g₂ ((I,P 0)::M₀))→W C A (eval iter env) g M (fun xv g₁ M₁=>W C A (pyIter xv) g₁ M₁ q))(hcell:∀ y∈scope.names,y.2≠.cell:=by decide)(hkind:scope.kind=.function:=by with_unfolding_all exact Eq.refl ScopeKind.function)(hnames:∀ x∈scope.names,x.2=.local→scope.names.lookup x.1=some .local:=by decide)(hx:scope.names.lookup x=some .local:=by decide)(hs:∀ x,foldedSetIterable iter env x=pure x:=by intro _;with_unfolding_all rfl):W C A (eval (.ListComp elt [⟨.Name x px,iter,[],0⟩] scope pos) env) g M Q :=
 nO hclos (h _ fun I P n J V O M₀ Dr hn j0 turn fin=>(ba I P n V M₀ (dy J rfl rfl Dr hn (iPPP j0 (fun k g' ys v Cl D hk l j hv=>dr (turn k g' ys v Cl _ hk l j hv (fun O m=>.tail _ (.tail _ m)) _ fun O O X j'=>⟨⟨X,rfl⟩,j'⟩)) fin)))) hcell hkind hnames hx hs
theorem sC {elt iter test:Expr}{x:Str}{px:Pos}{scope:Scope}{cl:List (Str×Addr)}{pos:Pos}{Q:PQ Value}(hclos:closureFor scope env=pure cl)(h:∀ q:PQ Value,(∀ (I:Addr) (P:Nat→OP) (n:Nat) (J:Nat→Array Value→G→Prop) (V:Nat→Value→Prop) (g₂:G) (M₀:be),DrawsW C A g₂ I P n V→n≤16777216→J 0 #[] g₂ →
   (∀ k g' ys v Cl M1,k<n→G.le g₂ g'→J k ys g'→V k v→(∀ p∈M₀,p∈M1)→∀ (r:PQ Value) (b:PQ Bool),(∀ y g₅ X,J (k+1) (ys.push y) g₅→r y g₅ (X++(Cl,aJ [(x,v)])::M1)) →
    (∀ ok g₄ X,(ok=true→W C A (eval elt (compEnvC scope cl Cl env)) g₄ (X++(Cl,aJ [(x,v)])::M1) r)→(ok=false→J (k+1) ys g₄)→b ok g₄ (X++(Cl,aJ [(x,v)])::M1)) →
    W C A (isTrue test (compEnvC scope cl Cl env) (eval test (compEnvC scope cl Cl env))) g' ((Cl,aJ [(x,v)])::M1) b) →
   (∀ g' g'' ys D,G.le g₂ g'→J n ys g'→G.le g' g''→Fz g'' D (ai ys)→Q (.ref D) g'' M₀)→q (.ref I) g₂ ((I,P 0)::M₀))→W C A (eval iter env) g M (fun xv g₁ M₁=>W C A (pyIter xv) g₁ M₁ q))(hcell:∀ y∈scope.names,y.2≠.cell:=by decide)(hkind:scope.kind=.function:=by with_unfolding_all exact Eq.refl ScopeKind.function)(hnames:∀ x∈scope.names,x.2=.local→scope.names.lookup x.1=some .local:=by decide)(hx:scope.names.lookup x=some .local:=by decide)(hs:∀ x,foldedSetIterable iter env x=pure x:=by intro _;with_unfolding_all rfl):W C A (eval (.ListComp elt [⟨.Name x px,iter,[test],0⟩] scope pos) env) g M Q :=
 nO hclos (h _ fun I P n J V O M₀ Dr hn j0 turn fin=>(ba I P n V M₀ (dy J rfl rfl Dr hn (iPPP j0 (fun k g' ys v Cl D hk l j hv=>rF (turn k g' ys v Cl _ hk l j hv (fun O m=>.tail _ (.tail _ m)) (fun y g₅ M₅=>(∃ X,M₅=X++(Cl,aJ [(x,v)])::(D,ai ys)::(I,P (k+1))::M₀)∧J (k+1) (ys.push y) g₅) _ (fun O O X j'=>⟨⟨X,rfl⟩,j'⟩) fun ok g₄ X h1 h2=>by
  cases ok with
  | true=>rw[if_pos rfl];exact h1 rfl
  | false=>rw[if_neg jo];exact ⟨⟨X,rfl⟩,h2 rfl⟩)) fin)))) hcell hkind hnames hx hs
theorem eM {elt iter:Expr}{x y:Str}{px py:Pos}{ifs:List Expr}{scope:Scope}{cl:List (Str×Addr)}{pos spos:Pos}{Q:PQ Flow}(hclos:closureFor scope env=pure cl)(h:W C A (eval iter env) g M (fun xv g₁ M₁=>W C A (pyIter xv) g₁ M₁ (fun itv g₂ M₂=>∃ (I:Addr) (P:Nat→OP) (n:Nat) (V:Nat→Value→Prop) (M₀:be) (J:Nat→Array Value→G→Prop) (i:Nat) (lo:List (Str×Value)),itv=.ref I∧M₂=(I,P 0)::M₀∧DrawsW C A g₂ I P n V∧n≤16777216∧J 0 #[] g₂ ∧
   (∀ k g' ys v Cl D,k<n→G.le g₂ g'→J k ys g'→V k v →
    let M':=(Cl,aJ [(x,v)])::(D,ai ys)::(I,P (k+1))::M₀
    W C A (gF ifs (compEnvC scope cl Cl env)) g' M' (fun ok g₄ M₄=>if ok=true then W C A (eval elt (compEnvC scope cl Cl env)) g₄ M₄ (fun y g₅ M₅=>(∃ X,M₅=X++M')∧J (k+1) (ys.push y) g₅) else (∃ X,M₄=X++M')∧J (k+1) ys g₄)) ∧
   M₀[i]?=some (env.locals,aJ lo) ∧
   (∀ g' g'' ys D,G.le g₂ g'→J n ys g'→G.le g' g''→Fz g'' D (ai ys)→Q .next g'' (M₀.set i (env.locals,aJ (bR lo y (.ref D))))))))(hsw:swapsWith (.ListComp elt [⟨.Name x px,iter,ifs,0⟩] scope pos) (some (.Name y py)) spos.line env=pure true:=by with_unfolding_all rfl)(hkf:env.scope.kind=.function:=by with_unfolding_all exact Eq.refl ScopeKind.function)(hy:env.kindOf y=some .local:=by with_unfolding_all rfl)(hcell:∀ y∈scope.names,y.2≠.cell:=by decide)(hkind:scope.kind=.function:=by with_unfolding_all exact Eq.refl ScopeKind.function)(hnames:∀ x∈scope.names,x.2=.local→scope.names.lookup x.1=some .local:=by decide)(hx:scope.names.lookup x=some .local:=by decide)(hs:∀ x,foldedSetIterable iter env x=pure x:=by intro _;with_unfolding_all rfl):W C A (exec (.Assign [.Name y py] (.ListComp elt [⟨.Name x px,iter,ifs,0⟩] scope pos) spos) env) g M Q:=by
 rw[exec_Assign_Name_used _ _ _ _ hsw]
 refine ak (aP (ak ?_))
 show W C A (do let _ ← comprehension (.ListComp elt [⟨.Name x px,iter,ifs,0⟩] scope pos) scope env _ (newList []) false (eval iter env) (some (assign (.Name y py) env))) g M _
 refine ak ?_
 refine (jx (gc:=⟨.Name x px,iter,ifs,0⟩) (Q:=fun O=>Q .next) rfl hs hclos hcell hkind hnames (h.mono fun xv g₁ M₁ O h=>h.mono ?_)).mono fun O O O O q=>ay (ay q)
 refine fun O g₂ O O q45=>aT q45 fun I P n V M₀ q48=>bC q48 fun J i lo q46 q47 q49=>cy q49 fun Dr hn j0 turn hi fin=>?_;clear q45 q48 q49;subst q46;subst q47
 refine jk (iE _) fun D Cl=>?_
 refine iV (cenv:=compEnvC scope cl Cl env) (Fr:=fun l=>l=[]∨∃ v,l=[(x,v)]) (J:=J) Dr hn ik ?_ ?_ (.inl rfl) j0
 ·intro k g' ys v l hk l' j hv hf
  refine aF ?_
  have hp:aJ (bR l x v)=aJ [(x,v)]:=by
   rcases hf with rfl|⟨v',rfl⟩
   ·rfl
   ·simp only[bR,if_true]
  refine aX (i:=0) (l:=l) rfl ?_ hkind (lookup_relabel_local hx)
  show W C A _ g' ((Cl,aJ (bR l x v))::(D,ai ys)::(I,P (k+1))::M₀) _
  rw[hp]
  refine (turn k g' ys v Cl D hk l' j hv).mono fun ok g₄ M₄ O h=>?_
  cases ok with
  | true =>
   rw[if_pos rfl] at h ⊢
   refine h.mono ?_
   refine fun y g₅ M₅ O q50=>dI q50 fun q51 j'=>bK q51 fun X e=>?_;clear q50 q51
   exact (an X _ e (.inr ⟨v,rfl⟩) j')
  | false =>
   rw[if_neg jo] at h ⊢
   refine dI h fun q52 j'=>bK q52 fun X e=>?_;clear q52 h
   exact (an X _ e (.inr ⟨v,rfl⟩) j')
 ·intro g' ys l l' j
  refine bM (i:=1) rfl fun g'' l'' F=>?_
  refine aF ?_
  refine aX (i:=i+1) (l:=lo) (by simpa using hi) ?_ hkf hy
  exact (bV l _ rfl (fin g' g'' ys D l' j l'' F))
theorem yU {elt iter:Expr}{x y:Str}{px py:Pos}{scope:Scope}{cl:List (Str×Addr)}{pos spos:Pos}{Q:PQ Flow}(hclos:closureFor scope env=pure cl)(h:∀ q:PQ Value,(∀ (I:Addr) (P:Nat→OP) (n:Nat) (J:Nat→Array Value→G→Prop) (i:Nat) (lo:List (Str×Value)) (V:Nat→Value→Prop) (g₂:G) (M₀:be),DrawsW C A g₂ I P n V→n≤16777216→J 0 #[] g₂ →
   (∀ k g' ys v Cl M1,k<n→G.le g₂ g'→J k ys g'→V k v→(∀ p∈M₀,p∈M1)→∀ r:PQ Value,(∀ y g₅ X,J (k+1) (ys.push y) g₅→r y g₅ (X++(Cl,aJ [(x,v)])::M1)) →
    W C A (eval elt (compEnvC scope cl Cl env)) g' ((Cl,aJ [(x,v)])::M1) r)→M₀[i]?=some (env.locals,aJ lo) →
   (∀ g' g'' ys D,G.le g₂ g'→J n ys g'→G.le g' g''→Fz g'' D (ai ys)→Q .next g'' (M₀.set i (env.locals,aJ (bR lo y (.ref D)))))→q (.ref I) g₂ ((I,P 0)::M₀))→W C A (eval iter env) g M (fun xv g₁ M₁=>W C A (pyIter xv) g₁ M₁ q))(hsw:swapsWith (.ListComp elt [⟨.Name x px,iter,[],0⟩] scope pos) (some (.Name y py)) spos.line env=pure true:=by with_unfolding_all rfl)(hkf:env.scope.kind=.function:=by with_unfolding_all exact Eq.refl ScopeKind.function)(hy:env.kindOf y=some .local:=by with_unfolding_all rfl)(hcell:∀ y∈scope.names,y.2≠.cell:=by decide)(hkind:scope.kind=.function:=by with_unfolding_all exact Eq.refl ScopeKind.function)(hnames:∀ x∈scope.names,x.2=.local→scope.names.lookup x.1=some .local:=by decide)(hx:scope.names.lookup x=some .local:=by decide)(hs:∀ x,foldedSetIterable iter env x=pure x:=by intro _;with_unfolding_all rfl):W C A (exec (.Assign [.Name y py] (.ListComp elt [⟨.Name x px,iter,[],0⟩] scope pos) spos) env) g M Q :=
 eM hclos (h _ fun I P n J i lo V O M₀ Dr hn j0 turn hi fin=>(ba I P n V M₀ (bf J i lo rfl rfl (cx Dr hn j0 (fun k g' ys v Cl D hk l j hv=>dr (turn k g' ys v Cl _ hk l j hv (fun O m=>.tail _ (.tail _ m)) _ fun O O X j'=>⟨⟨X,rfl⟩,j'⟩)) hi fin)))) hsw hkf hy hcell hkind hnames hx hs
end
end
section
section
variable {C:Cx}{A:Around}{g:G}{M:be}{env:Env}
theorem uL {t:Sem Value}{o:Obj}{P:OP}{Q:PQ Value}(hf:o.isFreed=false)(hp:P o)(n:Nat→Nat)(hn:∀ k,k≤n k)(k:∀ s (R:Value→Shared→Prop) (E:Value→Shared→Prop),St C g M s→R (.ref s.heap.objs.size) { s with heap:=s.heap.push o,toks:=n s.toks }→wpAny C.M A t R E s)(h:∀ g' a,G.le g g'→Fz g' a P→Q (.ref a) g' M):W C A t g M Q:=fun s S=>by
 refine bT ((S.push_own (P:=P) (n:=n s.toks) (o:=o) hf hp (hn _)).freeze) fun x p ga S'=>?_
 exact k s _ _ S (an _ _ (G.le_put ga) S' (h _ _ (G.le_put ga) (aG x G.put_self p)))
theorem un {t:Sem Value}{o:Obj}{P:OP}{Q:PQ Value}(hf:o.isFreed=false)(hp:P o)(n:Nat→Nat)(hn:∀ k,k≤n k)(k:∀ s (R:Value→Shared→Prop) (E:Value→Shared→Prop),St C g M s→R (.ref s.heap.objs.size) { s with heap:=s.heap.push o,toks:=n s.toks }→wpAny C.M A t R E s)(h:∀ a,Q (.ref a) g ((a,P)::M)):W C A t g M Q:=fun s S =>
 k s _ _ S (an g _ .refl (S.push_own (P:=P) (n:=n s.toks) (o:=o) hf hp (hn _)) (h _))
theorem et {elts:List Expr}{pos:Pos}{Q:PQ Value}(h:W C A (spliced (backTo pos (starEach elts env))) g M (fun vs g₁ M₁=>vs.length≤sizeLine∧∀ l,Q (.ref l) g₁ ((l,ai vs.toArray)::M₁))):W C A (eval (.List elts pos) env) g M Q:=fun s S =>
 wpAny_List_spliced (wpAny_mono (h s S) (fun vs s₁ q1=>bc q1 fun g₁ M₁ l₁ S₁ hsz q=>(kH hsz g₁ _ l₁ (S₁.push_own (P:=ai vs.toArray) (n:=s₁.toks) rfl ⟨_,rfl⟩) (q _))) fun O O x=>x)
theorem eJ {elts:List Expr}{pos:Pos}{Q:PQ Value}(h:W C A (spliced (backTo pos (starEach elts env))) g M (fun vs g₁ M₁=>vs.length≤sizeLine∧∀ l g₂,G.le g₁ g₂→Fz g₂ l (ai vs.toArray)→Q (.ref l) g₂ M₁)):W C A (eval (.List elts pos) env) g M Q:=fun s S =>
 wpAny_List_spliced (wpAny_mono (h s S) (fun vs s₁ q2=>bc q2 fun g₁ M₁ l₁ S₁ hsz q=>by
  refine bT ((S₁.push_own (P:=ai vs.toArray) (n:=s₁.toks) (o:={ cls:=.type "list",data:=.seq vs.toArray }) rfl ⟨_,rfl⟩).freeze) fun x p ga S'=>?_
  exact (kH hsz _ _ (l₁.trans (G.le_put ga)) S' (q _ _ (G.le_put ga) (aG x G.put_self p)))) fun O O x=>x)
theorem ed {elts:List Expr}{x1}{pos:Pos}{Q:PQ Value}(h:W C A (spliced (backTo pos (starEach elts env))) g M (fun vs g₁ M₁=>vs.length≤sizeLine∧∀ l g₂,G.le g₁ g₂→Fz g₂ l (bS vs.toArray)→Q (.ref l) g₂ M₁)):W C A (eval (.Tuple elts x1 pos) env) g M Q:=fun s S =>
 wpAny_Tuple_spliced (wpAny_mono (h s S) (fun vs s₁ q3=>bc q3 fun g₁ M₁ l₁ S₁ hsz q=>by
  refine bT ((S₁.push_own (P:=bS vs.toArray) (n:=s₁.toks) (o:={ cls:=.type "tuple",data:=.seq vs.toArray }) rfl ⟨_,rfl⟩).freeze) fun x p ga S'=>?_
  exact (kH hsz _ _ (l₁.trans (G.le_put ga)) S' (q _ _ (G.le_put ga) (aG x G.put_self p)))) fun O O x=>x)
theorem fJ {l:Addr}{xs:Array Value}{Q:PQ Value}(hl:Sees g M l (bq xs))(hsz:xs.size<2^62)(h:∀ t,Q (.int xs.size t) g M):W C A (call (.builtin "len") [.ref l]) g M Q:=fun s S =>
 call_len_list (S.list hl) (aQ [_] [] (.T bA (.p 2 63)) (.lt ah (.p 2 62)) ae hsz) (an g M .refl (S.toks (bw (dG _ _) (dG _ _))) (h _))
theorem dS {x:Str}{t:Tok}{Q:PQ Value}(hsz:x.length<2^62)(h:∀ t,Q (.int x.length t) g M):W C A (call (.builtin "len") [.str x t]) g M Q:=fun s S =>
 PySem.P.len_str (aQ [_] [] (.M (.p 2 63) bA) (.lt ah (.p 2 62)) ae hsz) (an g M .refl (S.toks (bw (dG _ _) (dG _ _))) (h _))
theorem aO {l:Addr}{xs:Array Value}{k:Int}{t:Tok}{v:Value}{Q:PQ Value}(hl:Sees g M l (bq xs))(h0:0≤k)(h1:k<2^63)(hx:xs[k.toNat]?=some v)(h:Q v g M):W C A (getItem (.ref l) (.int k t)) g M Q:=fun s S =>
 wpAny_getItem_list (S.list hl) h0 h1 hx (an g M .refl S h)
theorem dW {l:Addr}{xs:Array Value}{k:Int}{t:Tok}{v:Value}{Q:PQ Value}(hl:Sees g M l (bS xs))(h0:0≤k)(h1:k<2^62)(hx:xs[k.toNat]?=some v)(h:Q v g M):W C A (getItem (.ref l) (.int k t)) g M Q:=fun s S=>by
 have hlt:k.toNat<xs.size:=(Array.getElem?_eq_some_iff.mp hx).1
 refine PyProof.Rows.getItem_tuple (j:=k.toNat) (S.tuple hl) (aQ [] [_] (.L (.g (.p 2 63)) dq) (.L b6 dq) ae h0) (aQ [] [_] (.T dq (.p 2 63)) (.T dq (.p 2 62)) ae h1) ?_ hx (an g M .refl S h)
 refine bK (wX h0) fun n q4=>?_;subst q4
 unfold seqIndex?
 simp at hlt ⊢
 lia
theorem nV {l:Addr}{xs:Array Value}{i:Nat}{k:Int}{t:Tok}{v:Value}{Q:PQ Unit}(hi:M[i]?=some (l,bq xs))(h0:0≤k)(h1:k<xs.size)(hsz:xs.size<2^62)(h:Q () g (M.set i (l,bq (xs.setIfInBounds k.toNat v)))):W C A (setItem (.ref l) (.int k t) v) g M Q:=fun s S =>
 wpAny_setItem_list (S.list (.own (iu hi))) h0 (ln2 [_] [_] (.T dq (.p 2 63)) (.T dq bA) (.lt ah (.p 2 62)) ae h1 hsz) h1 fun h' q5 hs=>aL q5 fun o ho r=>(an g _ .refl (S.set (n:=s.toks) hi hs ho r) h)
theorem gX {l sl:Addr}{xs:Array Value}{vl vu vs:Value}{lo hi st:Option Int}{Q:PQ Value}(hl:Sees g M l (bq xs))(hs:Fz g sl (fun o=>o.cls=.type "slice"∧o.data=.fields #[vl,vu,vs]))(pl:IsPart vl lo)(pu:IsPart vu hi)(ps:IsPart vs st)(h0:st≠some 0)(hsz:xs.size≤sizeLine)(h:∀ g' a,G.le g g'→Fz g' a (ai (slicePick xs lo hi st))→Q (.ref a) g' M):W C A (getItem (.ref l) (.ref sl)) g M Q :=
 uL (o:={ cls:=.type "list",data:=.seq (slicePick xs lo hi st) }) rfl ⟨_,rfl⟩ id (fun O=>dX _) (fun s R E S r=>wpAny_getItem_list_slice (S.list hl) (let q6:=S.sees (.fz hs);aL q6 fun o e q=>(aG o e q)) pl pu ps h0 r hsz) h
theorem ud {l:Addr}{xs:Array Value}{x:Int}{u:Tok}{Q:PQ Value}(hl:Sees g M l (ai xs))(hx:0≤x∧x<2^62)(hne:xs.isEmpty=false)(hsz:xs.size*x.toNat≤2^24)(h:∀ a,Q (.ref a) g ((a,ai (List.foldl (fun x1 x2=>x1++x2) #[] (List.replicate x.toNat xs)))::M)):W C A (binaryOp .Mult (.ref l) (.int x u)) g M Q :=
 un (o:={ cls:=.type "list",data:=.seq (List.foldl (fun x1 x2=>x1++x2) #[] (List.replicate x.toNat xs)) }) rfl ⟨_,rfl⟩ id (fun O=>dX _) (fun s R E S r=>by
  refine bK (S.isL hl) fun n hl=>?_
  refine wpAny_binaryOp_repeat_ref (T:="list") (U:="int") (by decide) (aG _ hl rfl) (fun s'=>typeIs_int s' x u) noFill_list_mul F.fills_int_mul F.slot_int_rmul repeat_list F.slot_int_index.lookup
   (call_meets F.slot_int_rmul (typeIs_int s x u) F.entry_int_rmul (F.args_int_rmul_2 _ _) (int___rmul___int_list x u l xs n)
    (cr hl rfl (aG _ hl rfl) (call_meets F.slot_list_mul (aG _ hl rfl) F.entry_list_mul (F.args_list_mul_2 _ _)
     (AutoListH.list___mul___list_int_3 l xs n x u (by simp[Builtin.List.listFitsIndex];exact ⟨aQ [] [_] (.L (.g cE) dq) (.L b6 dq) ae hx.1,aQ [] [_] (.T dq cE) (.T dq (.p 2 62)) ae hx.2⟩) (um (bw hsz (by decide))) (by simp[Builtin.List.listTooLong,sizeLine];exact bw hsz (by decide))) ⟨hl,?_⟩)))
  rw[hne]
  exact r) h
theorem vd {l:Addr}{xs:Array Value}{i:Nat}{Q:PQ Value}(hi:M[i]?=some (l,ai xs))(hsz:xs.size≤sizeLine)(h:Q .none g (M.set i (l,ai xs.reverse))):W C A (call (.builtin "list.reverse") [.ref l]) g M Q:=fun s S=>by
 refine bK (S.isL (.own (iu hi))) fun n hl=>?_
 refine call_meets F.slot_list_reverse (aG _ hl rfl) F.entry_list_reverse (F.args_list_reverse_1 _) (AutoSeq1.list_reverse_list_0 l xs n hsz) ⟨hl,?_⟩
 exact (an g _ .refl (S.set (n:=s.toks) (P':=ai xs.reverse) hi (Heap.SameBut.update ..) (Heap.get?_update_self _ hl rfl) ⟨_,rfl⟩) h)
theorem fG {l:Addr}{xs:Array Value}{name:Str}{id:String}{pl:Sem Bool}{Q:Value×List Value→G→be→Prop}(slot:Slot "list" name id)(hty:typeOf (.builtin id)=pure (.type "method_descriptor"))(hl:Sees g M l (ai xs))(h:Q (.builtin id,[.ref l]) g M):W C A (getMethod (.ref l) name pl) g M Q:=fun s S=>by
 refine bK (S.isL hl) fun n e=>?_
 exact getMethod_list_of slot hty (xG _ e rfl n rfl) (show s.heap.NoDictAt (.ref l) from by first|exact (aG _ e rfl)|exact fun o ho=>by rw[e] at ho;cases ho;rfl) (an g M .refl S h)
theorem fb {l b:Addr}{xs ys:Array Value}{Q:PQ Value}(hl:Sees g M l (ai xs))(hb:Sees g M b (ai ys))(hsz:xs.size+ys.size≤sizeLine)(h:∀ a,Q (.ref a) g ((a,ai (xs++ys))::M)) :
  W C A (binaryOp .Add (.ref l) (.ref b)) g M Q :=
 un (o:={ cls:=.type "list",data:=.seq (xs++ys) }) rfl ⟨_,rfl⟩ id (fun O=>dX _) (fun s R E S r=>let q7:=S.isL hl;bK q7 fun O h1=>let q8:=S.isL hb;bK q8 fun O h2=>PySem.P.add_list h1 h2 r hsz) h
end
end
section
theorem jG {x pos:Pos}{c:Value}:∀ (l:List Value),TriplesOk l→codeAmong x (l++[rawInt pos.line,rawInt pos.col,c])=match codeAmong x l with
  | some d=>some d
  | none=>if pos.line==x.line&&pos.col==x.col then some c else none
 | [],_=>by
  show (if ((pos.line:Int)==x.line&&(pos.col:Int)==x.col)=true then some c else codeAmong x [])=_
  have e1:((pos.line:Int)==x.line)=(pos.line==x.line):=by
   rw[Bool.eq_iff_iff,beq_iff_eq,beq_iff_eq];lia
  have e2:((pos.col:Int)==x.col)=(pos.col==x.col):=by
   rw[Bool.eq_iff_iff,beq_iff_eq,beq_iff_eq];lia
  rw[e1,e2]
  rfl
 | .int a t::.int b u::d::r,h=>by
  have ih:=jG (x:=x) (pos:=pos) (c:=c) r h
  show (if (a==x.line&&b==x.col)=true then some d else codeAmong x (r++_))=_
  rw[ih]
  show _=match (if (a==x.line&&b==x.col)=true then some d else codeAmong x r) with|some d=>some d|none=>_
  split<;>rfl
section
variable {C:Cx}{A:Around}{g:G}{M:be}{env:Env}
theorem i6 {c:Addr}{qs:List (Pos×Str)}{pos:Pos}{firstLine:Nat}{name qual:Str}{p:Arguments}{scope:Scope}{body:FuncBody}{Q:PQ Value}(hT:lU C c qs)(hc:env.code=.ref c)(hin:(pos,qual)∈qs)(huniq:∀ x∈qs,pos.line=x.1.line→pos.col=x.1.col→x.2=qual)(h:∀ c' g',G.le g g'→CodeIn g' (.ref c') qual→Q (.ref c') g' M):W C A (functionCode env pos firstLine name qual p scope body) g M Q:=by
 refine bT hT fun t ht q1 q2=>?_;clear hT;subst q1;subst q2
 refine f8 fun s S=>?_
 refine bT (S.tab t ht) fun ps hok htab hqs=>?_
 cases hf:codeAmong pos ps.toList with
 | some cv =>
  refine c9 (hqs _ hin cv hf) fun a o vs tk q3 q4=>ch q4 fun hg hd hv=>?_;clear q4;subst q3
  exact wpAny_functionCode_hit hc hok hf fun hn=>(an g M .refl S (h _ _ .refl (c4 a o vs tk rfl (iPPP hg hd hv))))
 | none =>
  refine wpAny_functionCodeX hc hok htab hf fun c' h' tk hx hge hlt hok' hrec htab' O hn=>?_
  refine c9 hrec fun O o vs t' ec q5=>ch q5 fun ho hd hv=>?_;clear q5 hrec
  cases ec
  have gn:∀ b,s.heap.objs.size≤b→g.f b=none:=fun b hb=>by
   cases q:g.f b with
   | none=>rfl
   | some x=>exact absurd (Heap.lt_size (S.sub _ _ q)) (Nat.not_lt.mpr hb)
  have gP:=(S.tsep t ht).1
  have neP:∀ b o,g.f b=some o→b≠t.P:=fun b o e q=>by rw[q,gP] at e;cases e
  refine (an (g.put c' o) M (G.le_put (gn c' hge)) ⟨fun b x e=>?_,fun q hq=>?_,fun q hq=>?_,S.nd,fun t2 ht2=>?_,fun t2 ht2=>let q6:=S.tcode t2 ht2;bK q6 fun x e=>⟨x,(G.le_put (gn c' hge)).1 _ _ e⟩,fun t2 ht2=>⟨?_,(S.tsep t2 ht2).2⟩,S.tnd,S.gens,S.os,bw S.tk.1 hn,bw S.tk.2 hn⟩ (h _ _ (G.le_put (gn c' hge)) (c4 c' o vs t' rfl (iPPP G.put_self hd hv))))
  ·unfold G.put at e
   dsimp only at e
   split at e
   ·cases e;rename_i q;rw[q];exact ho
   ·exact hx b x (neP b x e) (S.sub _ _ e)
  ·refine aL (S.own q hq) fun x e p=>?_
   exact (aG x (hx _ _ ((S.tsep t ht).2 q hq) e) p)
  ·unfold G.put
   dsimp only
   refine aL (S.own q hq) fun x e p=>?_
   rw[if_neg (eE (b9 (Heap.lt_size e) hge))]
   exact S.sep q hq
  ·by_cases e:t2.P=t.P
   ·have:t2=t:=by
     obtain ⟨i,hi,rfl⟩:=List.mem_iff_getElem.mp ht2
     obtain ⟨j,hj,rfl⟩:=List.mem_iff_getElem.mp ht
     have:=(List.getElem_inj (xs:=C.T.map Tab.P) (h₀:=by simpa using hi) (h₁:=by simpa using hj) S.tnd).mp (by simpa using e)
     subst this;rfl
    subst this
    refine (bU _ hok' htab' (fun x hx' cv hcv=>?_))
    have hl:(ps++#[rawInt pos.line,rawInt pos.col,Value.ref c']).toList=ps.toList++[rawInt pos.line,rawInt pos.col,.ref c']:=by simp
    have htr:TriplesOk ps.toList:=by refine aT hok fun O O O O O q7=>aT q7 fun O O O O O q8=>cy q8 fun O O O O O q9=>cy q9 fun O O O O r O=>?_;clear q7 q8 q9 hok;exact r
    rw[hl,jG _ htr] at hcv
    cases q:codeAmong x.1 ps.toList with
    | some d =>
     rw[q] at hcv
     cases hcv
     refine c9 (hqs x hx' _ q) fun a o2 vs2 tk2 e1 q10=>dI q10 fun e2 e3=>?_;clear q10
     exact (c4 a o2 vs2 tk2 e1 (jb ((G.le_put (gn c' hge)).1 _ _ e2) e3))
    | none =>
     rw[q] at hcv
     dsimp only at hcv
     split at hcv
     ·rename_i hq
      rw[iO,beq_iff_eq,beq_iff_eq] at hq
      cases hcv
      have:=huniq x hx' hq.1 hq.2
      exact (c4 c' o vs t' rfl (iPPP G.put_self hd (by rw[this];exact hv)))
     ·cases hcv
   ·have hP2:∀ o,s.heap.get? t2.P=some o→h'.get? t2.P=some o:=fun o q=>hx _ _ e q
    refine bK (S.tcode t2 ht2) fun y hy=>?_
    exact (S.tab t2 ht2).keeps (G.le_put (gn c' hge)) (fun o q=>hx _ _ (neP _ _ hy) q) hP2
  ·unfold G.put
   dsimp only
   have hlt2:t2.P<s.heap.objs.size:=let q11:=S.tab t2 ht2;aL q11 fun ps2 k O=>k.lt.2
   rw[if_neg (eE (b9 hlt2 hge))]
   exact (S.tsep t2 ht2).1
noncomputable def cF (name qual:Str)(params:Arguments)(body:FuncBody)(scope:Scope)(cl:List (Str×Addr))(pm cd ct:Value):FuncData :=
 { name,qualname:=qual,params,body,scope,globals:=mainGlobals,closure:=cl,closureTuple:=ct,code:=cd,builtins:=builtinsNs,defaults:=.none,kwdefaults:=.none,pyModule:=pm }
theorem iR {mg:Str→Option Value}{c:Addr}{qs:List (Pos×Str)}{pos:Pos}{firstLine:Nat}{name qual:Str}{params:Arguments}{scope:Scope}{body:FuncBody}{cl:List (Str×Addr)}{Q:PQ Value}(hdoc:(match body with|.stmts b=>docOf b|.expr _=>none)=none)(B:Bi mg g)(hg:env.globals=mainGlobals)(hcl:closureFor scope env=pure cl)(hT:lU C c qs)(hc:env.code=.ref c)(hin:(pos,qual)∈qs)(huniq:∀ x∈qs,pos.line=x.1.line→pos.col=x.1.col→x.2=qual)(h:∀ a c' g' ct,G.le g g'→CodeIn g' (.ref c') qual→Q (.ref a) g' ((a,fV (cF name qual params body scope cl ((mg "__name__").getD .none) (.ref c') ct))::M)) :
  W C A (makeFunction name qual params body scope env [] [] [] pos firstLine) g M Q:=by
 rw[makeFunction_eq]
 simp only[List.zip_nil_right,List.filterMap_nil,ri,if_true,pure_bind]
 have tail:∀ ct g₁,G.le g g₁→W C A (do
   let cd ← functionCode env pos firstLine name qual params scope body
   let bs ← builtinsFor env.globals env.builtins
   let pm ← nsGet env.globals "__name__"
   let doc ← match body with
    | .stmts b=>(match docOf b with|some s=>mkText s|none=>pure .none)
    | .expr _=>pure .none
   newObj (.type "function") (.func { name,qualname:=qual,params,body,scope,globals:=env.globals,closure:=cl,closureTuple:=ct,code:=cd,builtins:=bs,defaults:=.none,kwdefaults:=.none,annotations:=none,pyModule:=pm.getD .none,doc:=doc })) g₁ M Q:=by
  intro ct g₁ l₁
  refine ak (i6 hT hc hin huniq fun c' g₂ l₂ hcd=>?_)
  have B₂:=B.mono (l₁.trans l₂)
  refine bT B₂.bi fun bm hbm hne hf=>?_
  rw[hg]
  refine ak fun s S=>?_
  refine dY (S.sees (.fz hf)) fun o ho h1 h2 h3=>?_
  refine wpAny_builtinsFor (S.ns (.fz B₂.m)) hbm hne ho h1 h2 h3 (an g₂ M .refl S ?_)
  refine ak fun s S=>wpAny_nsGet (S.ns (.fz B₂.m)) (an g₂ M .refl S ?_)
  have fin:W C A (newObj (.type "function") (.func { name,qualname:=qual,params,body,scope,globals:=mainGlobals,closure:=cl,closureTuple:=ct,code:=.ref c',builtins:=builtinsNs,defaults:=.none,kwdefaults:=.none,annotations:=none,pyModule:=(mg "__name__").getD .none,doc:=.none })) g₂ M Q:=fun s S =>
   wpAny_newObj_type (an g₂ _ .refl (S.push_own (P:=fV (cF name qual params body scope cl ((mg "__name__").getD .none) (.ref c') ct)) (n:=s.toks) rfl ⟨rfl,rfl⟩) (h _ c' g₂ ct (l₁.trans l₂) hcd)) (by size_fits)
  cases body with
  | stmts b =>
   dsimp only at hdoc ⊢
   rw[hdoc]
   exact ak (ay fin)
  | expr e=>exact ak (ay fin)
 unfold makeTail
 rw[hcl]
 refine ak (ay ?_)
 cases cl with
 | nil =>
  simp only[ri,if_true]
  exact ak (ay (tail .none g .refl))
 | cons q r =>
  simp only[List.isEmpty_cons,sA,if_false]
  refine ak fun s S=>wpAny_newTextTuple ?_
  refine bT ((S.push_own (P:=fun O=>True) (n:=s.toks) (o:={ cls:=.type "tuple",data:=.seq (List.map (fun x=>Value.ref x.2) ((q::r).mergeSort fun a b=>decide (a.1.cps.toList≤b.1.cps.toList))).toArray }) rfl trivial).freeze) fun x p ga S'=>?_
  exact (an _ M (G.le_put ga) S' (tail _ _ (G.le_put ga)))
theorem iA {mg:Str→Option Value}{c:Addr}{qs:List (Pos×Str)}{pos:Pos}{params:Arguments}{scope:Scope}{qual:Str}{body:Expr}{cl:List (Str×Addr)}{Q:PQ Value}(B:Bi mg g)(hT:lU C c qs)(hcl:closureFor scope env=pure cl)(hc:env.code=.ref c)(hqn:env.qual++"<lambda>"=qual)(hin:(pos,qual)∈qs)(huniq:∀ x∈qs,pos.line=x.1.line→pos.col=x.1.col→x.2=qual)(h:∀ a c' g' ct,G.le g g'→CodeIn g' (.ref c') qual→Q (.ref a) g' ((a,fV (cF "<lambda>" qual params (.expr body) scope cl ((mg "__name__").getD .none) (.ref c') ct))::M))(hg:env.globals=mainGlobals:=by rfl)(hdef:defaultsOf params env=([],[]):=by rfl):W C A (eval (.Lambda params body scope pos) env) g M Q:=fun s S =>
 kla_eval hdef (hqn▸iR rfl B hg hcl hT hc hin huniq h s S)
theorem jI {mg:Str→Option Value}{c:Addr}{qs:List (Pos×Str)}{name qual:Str}{params:Arguments}{body:List Stmt}{scope:Scope}{pos:Pos}{cl:List (Str×Addr)}{Q:PQ Flow}(hexec:PlainDefTree name params body scope pos)(B:Bi mg g)(hT:lU C c qs)(hcl:closureFor scope env=pure cl)(hc:env.code=.ref c)(hqn:qualnameIn env name name=qual)(hin:(pos,qual)∈qs)(huniq:∀ x∈qs,pos.line=x.1.line→pos.col=x.1.col→x.2=qual)(h:∀ a c' g' ct,G.le g g'→CodeIn g' (.ref c') qual→W C A (storeName env name (.ref a)) g' ((a,fV (cF name qual params (.stmts body) scope cl ((mg "__name__").getD .none) (.ref c') ct))::M) (fun O=>Q .next))(hg:env.globals=mainGlobals:=by rfl)(hdoc:docOf body=none:=by rfl):W C A (exec (.FunctionDef name params body [] none [] scope none name pos) env) g M Q:=by
 rw[hexec,hqn]
 exact ak (aP (ak (aD (iR hdoc B hg hcl hT hc hin huniq fun a c' g' ct l hcd=>ak (aP (ak (fQ ((h a c' g' ct l hcd).mono fun O O O O q=>ay q))))))))
end
end
section
structure Rm (A:Around) (k:Nat):Prop where
 h:A.handled=none
 d:A.depth+k≤999
 u:A.units+10*k≤9890
theorem Rm.deeper {A:Around}{k:Nat}{env:Env}(r:Rm A (k+1)):Rm (A.deeper env) k:=⟨r.h,by show A.depth+1+k≤999;have:=r.d;exact aQ [_,_] [] (.le (.a (.a ah av) am) mX) (.le (.a ah (.a am av)) mX) ae this,by show A.units+3+10*k≤9890;have:=r.u;exact aQ [_,_] [] (.le (.a (.a ah pF) (.m 10 am)) ez) (.le (.a ah (.m 10 (.a am av))) ez) ae this⟩
theorem Rm.in1 {A:Around}{k:Nat}(r:Rm A (k+1)):Rm A.in1 k:=⟨r.h,by show A.depth+k≤999;have:=r.d;exact aQ [_,_] [] (.le (.a ah am) mX) (.le (.a ah (.a am av)) mX) ae this,by show A.units+1+10*k≤9890;have:=r.u;exact aQ [_,_] [] (.le (.a (.a ah av) (.m 10 am)) ez) (.le (.a ah (.m 10 (.a am av))) ez) ae this⟩
theorem Rm.le {A:Around}{k j:Nat}(r:Rm A k)(h:j≤k:=by lia):Rm A j:=⟨r.h,by have:=r.d;exact ln2 [_,_,_] [] (.le (.a ah am) mX) (.le am ao) (.le (.a ah ao) mX) ae h this,by have:=r.u;exact ln2 [_,_,_] [] (.le (.a ah (.m 10 am)) ez) (.X 10 (.le am ao)) (.le (.a ah (.m 10 ao)) ez) ae h this⟩
theorem Rm.room {A:Around}{k:Nat}(r:Rm A k):A.depth<recursionLimit:=by have:=r.d;show A.depth<1000;exact aQ [_,_] [] (.lt ah bg) (.le (.a ah am) mX) ae this
theorem bE {g:G}{M:be}{l:Addr}{xs:Array Value}(h:Sees g M l (bq xs)):∃ T id,typeLookup (.type T) "__getitem__"=pure (some (.builtin id))∧pR g M (.ref l) T:=(bV ("list") _ F.slot_list_getitem.lookup (Ah h))
theorem kX {g:G}{M:be}{l:Addr}{xs:Array Value}(h:Sees g M l (bS xs)):∃ T id,typeLookup (.type T) "__getitem__"=pure (some (.builtin id))∧pR g M (.ref l) T:=(bV ("tuple") _ F.slot_tuple_getitem.lookup (AB h))
theorem dA {g:G}{M:be}{x:Str}{t:Tok}:∃ T id,typeLookup (.type T) "__getitem__"=pure (some (.builtin id))∧pR g M (.str x t) T:=(bV ("str") _ F.slot_str_getitem.lookup Bx)
section
variable {C:Cx}{A:Around}{g:G}{M:be}{env:Env}
theorem au {f:Value}{pos:Pos}{args:List (Bool×Sem Value)}{Q:PQ Args}(h:W C A (spliced args) g M (fun vs=>Q ⟨vs,[]⟩))(hs:args=[]∨∃ x r,args=(false,x)::r:=by first|exact .inl rfl|exact .inr ⟨_,_,rfl⟩):W C A (evalArgs f true args (backToKw pos (keywordEach [] env))) g M Q :=
 fK (h.mono fun O O O O q=>d9 q) hs rfl
theorem oj {pos:Pos}{Q:PQ Flow}(h:Q (.ret .none) g M):W C A (exec (.Return none pos) env) g M Q:=by
 rw[exec_Return_none]
 exact ak (aP (ay h))
theorem wk {a c':Addr}{name qual:Str}{params:Arguments}{body:List Stmt}{scope:Scope}{cl:List (Str×Addr)}{pm ct:Value}{pos:List Value}{binds:List (Str×Value)}{Q:PQ Value}(F:Sees g M a (fV (cF name qual params (.stmts body) scope cl pm (.ref c') ct)))(hcd:CodeIn g (.ref c') qual)(lim:LimIn g)(room:A.depth<recursionLimit)(hb:bindArgs (cF name qual params (.stmts body) scope cl pm (.ref c') ct) ⟨pos,[]⟩=pure binds)(hc:aW scope.names=[])(h:∀ L,W C (A.deeper (cV scope L mainGlobals cl (qual++".<locals>.") (some a) (.ref c') builtinsNs)) (execs body (cV scope L mainGlobals cl (qual++".<locals>.") (some a) (.ref c') builtinsNs))
   g ((L,aJ (binds.foldl (fun l x=>bR l x.1 x.2) []))::M) (fun f g₃ M₃=>∃ X M₄,M₃=X++M₄∧Q (match f with|.ret v=>v|_=>.none) g₃ M₄))(hl:(binds.all fun x=>decide (scope.names.lookup x.1=some .local))=true:=by exact Eq.refl true)(hk:scope.kind=.function:=by exact Eq.refl ScopeKind.function)(hco:scope.isCoroutine=false:=by exact Eq.refl false)(hgen:scope.isGenerator=false:=by exact Eq.refl false):W C A (call (.ref a) pos []) g M Q:=by
 refine kL F rfl hcd lim room ?_ hco hgen
 rw[hb]
 refine ay (gH fun L as hl'=>?_)
 have e0:aW (cF name qual params (.stmts body) scope cl pm (.ref c') ct).scope.names=[]:=hc
 rw[e0] at hl'
 have:as=[]:=List.length_eq_zero_iff.mp hl'
 subst this
 have e1:c5 (aW (cF name qual params (.stmts body) scope cl pm (.ref c') ct).scope.names) [] (cF name qual params (.stmts body) scope cl pm (.ref c') ct).closure=cl:=by rw[e0];rfl
 rw[e1]
 have key:∀ (bs:List (Str×Value)) (l:List (Str×Value)),(bs.all fun x=>decide (scope.names.lookup x.1=some .local))=true →
   W C A.in1 (forIn bs PUnit.unit fun (x:Str×Value) (_:PUnit)=>(do storeName (cV scope L mainGlobals cl (qual++".<locals>.") (some a) (.ref c') builtinsNs) x.1 x.2;pure (ForInStep.yield PUnit.unit):Sem (ForInStep PUnit)))
    g ((L,aJ l)::M) (fun O g' M'=>g'=g∧M'=(L,aJ (bs.foldl (fun l x=>bR l x.1 x.2) l))::M):=by
  intro bs
  induction bs with
  | nil=>intro l _;exact W_binds_nil ⟨rfl,rfl⟩
  | cons b r ih =>
   intro l hall
   obtain ⟨x,v⟩:=b
   rw[List.all_cons,iO] at hall
   refine aN (aX (i:=0) rfl ?_ hk (of_decide_eq_true hall.1))
   exact ih _ hall.2
 refine (key binds [] hl).mono ?_
 refine fun O g' M' O q1=>dI q1 fun q2 q3=>?_;clear q1;subst q2;subst q3
 exact h L
theorem mA {a c':Addr}{name qual:Str}{params:Arguments}{body:Expr}{scope:Scope}{cl:List (Str×Addr)}{pm ct:Value}{pos:List Value}{binds:List (Str×Value)}{Q:PQ Value}(F:Sees g M a (fV (cF name qual params (.expr body) scope cl pm (.ref c') ct)))(hcd:CodeIn g (.ref c') qual)(lim:LimIn g)(room:A.depth<recursionLimit)(hb:bindArgs (cF name qual params (.expr body) scope cl pm (.ref c') ct) ⟨pos,[]⟩=pure binds)(hc:aW scope.names=[])(h:∀ L,W C (A.deeper (cV scope L mainGlobals cl (qual++".<locals>.") (some a) (.ref c') builtinsNs)) (eval body (cV scope L mainGlobals cl (qual++".<locals>.") (some a) (.ref c') builtinsNs))
   g ((L,aJ (binds.foldl (fun l x=>bR l x.1 x.2) []))::M) (fun v g₃ M₃=>∃ X M₄,M₃=X++M₄∧Q v g₃ M₄))(hl:(binds.all fun x=>decide (scope.names.lookup x.1=some .local))=true:=by exact Eq.refl true)(hk:scope.kind=.function:=by exact Eq.refl ScopeKind.function)(hco:scope.isCoroutine=false:=by exact Eq.refl false)(hgen:scope.isGenerator=false:=by exact Eq.refl false):W C A (call (.ref a) pos []) g M Q:=by
 refine o3 F rfl hcd lim room ?_ hco hgen
 rw[hb]
 refine ay (gH fun L as hl'=>?_)
 have e0:aW (cF name qual params (.expr body) scope cl pm (.ref c') ct).scope.names=[]:=hc
 rw[e0] at hl'
 have:as=[]:=List.length_eq_zero_iff.mp hl'
 subst this
 have e1:c5 (aW (cF name qual params (.expr body) scope cl pm (.ref c') ct).scope.names) [] (cF name qual params (.expr body) scope cl pm (.ref c') ct).closure=cl:=by rw[e0];rfl
 rw[e1]
 have key:∀ (bs:List (Str×Value)) (l:List (Str×Value)),(bs.all fun x=>decide (scope.names.lookup x.1=some .local))=true →
   W C A.in1 (forIn bs PUnit.unit fun (x:Str×Value) (_:PUnit)=>(do storeName (cV scope L mainGlobals cl (qual++".<locals>.") (some a) (.ref c') builtinsNs) x.1 x.2;pure (ForInStep.yield PUnit.unit):Sem (ForInStep PUnit)))
    g ((L,aJ l)::M) (fun O g' M'=>g'=g∧M'=(L,aJ (bs.foldl (fun l x=>bR l x.1 x.2) l))::M):=by
  intro bs
  induction bs with
  | nil=>intro l _;exact W_binds_nil ⟨rfl,rfl⟩
  | cons b r ih =>
   intro l hall
   obtain ⟨x,v⟩:=b
   rw[List.all_cons,iO] at hall
   refine aN (aX (i:=0) rfl ?_ hk (of_decide_eq_true hall.1))
   exact ih _ hall.2
 refine (key binds [] hl).mono ?_
 refine fun O g' M' O q4=>dI q4 fun q5 q6=>?_;clear q4;subst q5;subst q6
 exact h L
theorem Base.kept {mg mb:Str→Option Value}(B:Base C mg mb g)(i:Nat){a:Addr}(e:mg (ax (st i))=some (.ref a))(h:(match st i with|.FunctionDef ..=>true|_=>false)=true:=by exact Eq.refl true)(h2:i≠2:=by decide):rE (.ref a) g M:=by
 refine aK (B.defs i h h2) fun a' c e' D O=>?_
 have:a'=a:=by rw[e] at e';cases e';rfl
 subst this
 refine bK D.1 fun pm F=>?_
 exact ek (.fz F)
theorem Base.get {mg mb:Str→Option Value}(B:Base C mg mb g)(i:Nat)(h:(match st i with|.FunctionDef ..=>true|_=>false)=true:=by exact Eq.refl true)(h2:i≠2:=by decide):∃ a,mg (ax (st i))=some (.ref a):=let q7:=B.defs i h h2;bJ q7 fun a O e O=>⟨a,e⟩
theorem cU {elts:List Expr}{k:Nat}{tpos pos:Pos}{value:Expr}{Q:PQ Flow}(h:W C A (eval value env) g M (fun v g₁ M₁=>W C A (assign (.Tuple elts k tpos) env v) g₁ M₁ (fun O=>Q .next)))(hs:swapsWithSole [.Tuple elts k tpos] value pos.line env=pure false:=by rfl)(hw:swappedStores [.Tuple elts k tpos] value env=pure none:=by rfl):W C A (exec (.Assign [.Tuple elts k tpos] value pos) env) g M Q:=fun s S =>
 Assign_Tuple (wpAny_mono (h s S) (fun v s₁ q8=>aK q8 fun g₁ M₁ l₁ S₁ h₁=>wpAny_mono (h₁ s₁ S₁) (fun O O q9=>aK q9 fun g₂ M₂ l₂ S₂ q=>(an g₂ M₂ (l₁.trans l₂) S₂ q)) fun O O x=>x) fun O O x=>x) hs hw
theorem bL {mg mb:Str→Option Value}{x:Str}{v:Value}{Q:PQ Value}{pos:Pos}(B:Base C mg mb g)(hb:bootBuiltins x=some v)(h:Q v g M)(hne:x≠"__name__":=by decide)(h1:x ∉ startupNames:=by decide)(h2:x ∉ prog.boundNames:=by decide +kernel)(hg:env.globals=mainGlobals:=by rfl)(hbn:env.builtins=builtinsNs:=by rfl)(hk:env.scope.kind=.function:=by exact Eq.refl ScopeKind.function)(hl:env.kindOf x=some .globalImplicit:=by exact Eq.refl (some NameKind.globalImplicit))(hd:(x==("__debug__":Str))=false:=by decide):W C A (eval (.Name x pos) env) g M Q :=
 vh (mg:=mg) (mb:=mb) (by rw[hg];exact B.m) (B.none x h1 h2) (by rw[hbn];exact B.b) ((B.blt x hne).trans hb) h hk hl hd
theorem bF {mg mb:Str→Option Value}{x:Str}{v:Value}{Q:PQ Value}{pos:Pos}(B:Base C mg mb g)(e:mg x=some v)(h:Q v g M)(hg:env.globals=mainGlobals:=by rfl)(hk:env.scope.kind=.function:=by exact Eq.refl ScopeKind.function)(hl:env.kindOf x=some .globalImplicit:=by exact Eq.refl (some NameKind.globalImplicit))(hd:(x==("__debug__":Str))=false:=by decide):W C A (eval (.Name x pos) env) g M Q :=
 wp (mg:=mg) (by rw[hg];exact B.m) e h hk hl hd
end
theorem eN:bootBuiltins (Str.ofString "len")=some (.builtin "len"):=by kernel_rfl
theorem vm:bootBuiltins (Str.ofString "divmod")=some (.builtin "divmod"):=by kernel_rfl
theorem qq:bootBuiltins (Str.ofString "ord")=some (.builtin "ord"):=by kernel_rfl
theorem xy:bootBuiltins (Str.ofString "chr")=some (.builtin "chr"):=by kernel_rfl
theorem c6:bootBuiltins (Str.ofString "range")=some (.type "range"):=by kernel_rfl
theorem mF:bootBuiltins (Str.ofString "list")=some (.type "list"):=by kernel_rfl
theorem qt:bootBuiltins (Str.ofString "enumerate")=some (.type "enumerate"):=by kernel_rfl
theorem pH:bootBuiltins (Str.ofString "int")=some (.type "int"):=by kernel_rfl
theorem sO:bootBuiltins (Str.ofString "str")=some (.type "str"):=by kernel_rfl
theorem zU:bootBuiltins (Str.ofString "sum")=some (.builtin "sum"):=by kernel_rfl
theorem qc:bootBuiltins (Str.ofString "min")=some (.builtin "min"):=by kernel_rfl
theorem vY:bootBuiltins (Str.ofString "sorted")=some (.builtin "sorted"):=by kernel_rfl
theorem qY:bootBuiltins (Str.ofString "reversed")=some (.type "reversed"):=by kernel_rfl
theorem y9:bootBuiltins (Str.ofString "set")=some (.type "set"):=by kernel_rfl
end
section
noncomputable def Aj (R:Heap→Addr→Prop):OP:=fun o=>∀ h a,h.get? a=some o→R h a
theorem St.ob {C:Cx}{g:G}{M:be}{s:Shared}{a:Addr}{R:Heap→Addr→Prop}(S:St C g M s)(h:Sees g M a (Aj R)):R s.heap a:=let q1:=S.sees h;aL q1 fun O e k=>k _ _ e
noncomputable def aB (C:Cx)(kvs:List (Str×Value)):OP:=fun o=>o.IsDictOf (strKind prog C.w) kvs
noncomputable def xj (C:Cx)(f:Int→Option Value):OP:=Aj fun h a=>h.MapOf (intKind prog C.w) a f
noncomputable def qZ (C:Cx)(S:Int→Bool)(n:Nat):OP:=Aj fun h a=>h.SetOf (intKind prog C.w) a S n
theorem St.dict {C:Cx}{g:G}{M:be}{s:Shared}{a:Addr}{kvs:List (Str×Value)}(S:St C g M s)(h:Sees g M a (aB C kvs)):s.heap.DictOf (strKind prog C.w) a kvs:=let q2:=S.sees h;aL q2 fun o e k=>Heap.dictOf_iff.mpr (aG o e k)
section
variable {C:Cx}{A:Around}{g:G}{M:be}{env:Env}
theorem yA {a:Addr}{S':Int→Bool}{n:Nat}{k:Int}{t:Tok}{Q:PQ Value}(hS:Sees g M a (qZ C S' n))(h:Q (.bool (S' k)) g M):W C A (compareOp .In (.int k t) (.ref a)) g M Q:=fun s S =>
 wpAny_inSet_of (intKind_is prog C.w k t) rfl (S.ob hS) (an g M .refl (S.toks (fB _)) h)
theorem uV {c:Nat}{t:Tok}{Q:PQ Value}(h:∀ t,t≠0→Q (.int c t) g M):W C A (call (.builtin "ord") [.str ⟨#[c]⟩ t]) g M Q:=kh (fun O O O x=>PySem.P.ord_of_char x) h
theorem vC {d:Addr}{P:OP}{name:Str}{id:String}{pl:Sem Bool}{Q:Value×List Value→G→be→Prop}(slot:Slot "dict" name id)(hty:typeOf (.builtin id)=pure (.type "method_descriptor"))(hd:Sees g M d P)(hp:∀ o,P o→o.cls=.type "dict"∧o.dict=none)(h:Q (.builtin id,[.ref d]) g M):W C A (getMethod (.ref d) name pl) g M Q:=fun s S=>by
 refine aL (S.sees hd) fun o e p=>?_
 exact getMethod_builtin (aG o e ((hp o p).1)) PySem.F.plainAttrs_dict slot hty (fun a ha=>by cases ha;exact (aG o e ((hp o p).2))) (an g M .refl S h)
theorem zk {d:Addr}{f:Int→Option Value}{k:Int}{t:Tok}{Q:PQ Value}(hd:Sees g M d (xj C f))(hs:(d==sysModules)=false)(h:Q ((f k).getD .none) g M):W C A (call (.builtin "dict.get") [.ref d,.int k t]) g M Q:=fun s S =>
 have m:=S.ob hd
 call_meetsIn PySem.F.slot_dict_get m.typeIs PySem.F.entry_dict_get (PySem.F.args_dict_get_2 _ _) (meets_dict_get (intKind prog C.w) d (intKind_is prog C.w k t) hs) (ky _ m g M .refl (jb (S.toks (fB _)) h))
theorem ml {x:Str}{t:Tok}{Q:PQ Value}(h:Q (.bool true) g M):W C A (compareOp .IsNot (.str x t) .none) g M Q:=fun s S=>isnot_str_none (an g M .refl S h)
theorem gG {Q:PQ Value}(h:Q (.bool false) g M):W C A (compareOp .IsNot .none .none) g M Q:=fun s S=>wpAny_isNot_self rfl (an g M .refl S h)
theorem ya {x:Str}{t:Tok}{Q:PQ Value}(hfit:Builtin.Str.tooLong (Txt.lower x).length=false)(h:∀ t,t≠0→Q (.str (Txt.lower x) t) g M):W C A (call (.builtin "str.lower") [.str x t]) g M Q:=fun s S =>
 SC.lower hfit (an g M .refl (S.toks (fB _)) (h _ (df S.tk.2)))
end
end
section
noncomputable def gv (pos:Pos)(env:Env):List (Option Expr)→List Expr→List (Sem Value×Sem Value)
 | some k::ks,v::vs=>(eval k env,do let x ← eval v env;standAt pos;pure x)::gv pos env ks vs
 | _,_=>[]
theorem il {pos:Pos}{env:Env}:∀ {keys:List (Option Expr)}{values:List Expr},keys.all Option.isSome=true→keys.length=values.length →
  (evalEachOpt keys env).zip ((evalEach values env).map fun v=>do let x ← v;standAt pos;pure x)=(gv pos env keys values).map fun p=>(some p.1,p.2)
 | [],[],_,_=>rfl
 | some k::ks,v::vs,h,hl=>by
  have ih:=il (pos:=pos) (env:=env) (keys:=ks) (values:=vs) (by simpa using h) (by simpa using hl)
  exact congrArg (fun r=>(some (eval k env),(do let x ← eval v env;standAt pos;pure x))::r) ih
theorem mG {pos:Pos}{env:Env}:∀ {keys:List (Option Expr)}{values:List Expr},keys.all Option.isSome=true→keys.length=values.length→(gv pos env keys values).length=keys.length
 | [],[],_,_=>rfl
 | some k::ks,v::vs,h,hl=>by
  have ih:=mG (pos:=pos) (env:=env) (keys:=ks) (values:=vs) (by simpa using h) (by simpa using hl)
  show (gv pos env ks vs).length+1=ks.length+1
  rw[ih]
section
variable {C:Cx}{A:Around}{g:G}{M:be}{env:Env}
theorem i0 {s:Shared}{P:OP}(S:St C g M s)(hm:Fz g mainGlobals P):(s.heap.objs.size==sysModules)=false:=by
 refine aL hm fun o e O=>?_;clear hm
 have h1:=Heap.lt_size (S.sub _ _ e)
 have h2:sysModules<mainGlobals:=by decide
 exact beq_eq_false_iff_ne.mpr (df (jw h2 h1))
theorem z4 {α:Type}{t:Sem α}{Q:α→G→be→Prop}(h:(M.map Prod.fst).Nodup→W C A t g M Q):W C A t g M Q:=fun s S=>h S.nd s S
theorem mw {pos:Pos}{Q:List (Value×Value)→G→be→Prop}(h:Q [] g M):W C A (evalPairs (gv pos env [] [])) g M Q:=ay h
theorem kT {pos:Pos}{k v:Expr}{ks:List (Option Expr)}{vs:List Expr}{Q:List (Value×Value)→G→be→Prop}(h:W C A (eval k env) g M (fun kv g₁ M₁=>W C A (eval v env) g₁ M₁ (fun vv g₂ M₂=>W C A (evalPairs (gv pos env ks vs)) g₂ M₂ (fun r=>Q ((kv,vv)::r))))):W C A (evalPairs (gv pos env (some k::ks) (v::vs))) g M Q:=by
 show W C A (evalPairs ((eval k env,do let x ← eval v env;standAt pos;pure x)::gv pos env ks vs)) g M Q
 rw[evalPairs]
 exact ak (h.mono fun kv O O O h=>ak (aD (ak (h.mono fun vv O O O h=>ak (aP (ay (ak (aD (h.mono fun r O O O q=>ay q)))))))))
theorem nE {keys:List (Option Expr)}{values:List Expr}{pos:Pos}{Pm:OP}{Q:PQ Value}(hm:Fz g mainGlobals Pm)(h:∀ d,(d==sysModules)=false→W C A (evalPairs (gv pos env keys values)) g ((d,aB C [])::M) (fun vs g₁ M₁=>∃ kvs i,M₁[i]?=some (d,aB C [])∧Carries (strKind prog C.w) vs kvs∧Q (.ref d) g₁ (M₁.set i (d,aB C (merged [] kvs)))))(hk:keys.all Option.isSome=true:=by with_unfolding_all exact Eq.refl true)(hl:keys.length=values.length:=by with_unfolding_all rfl)(h0:(keys.length != 0)=true:=by with_unfolding_all exact Eq.refl true)(hlen:(keys.length).ble 15=true:=by with_unfolding_all exact Eq.refl true):W C A (eval (.Dict keys values pos) env) g M Q:=f8 fun s S=>by
 have hpl:=mG (pos:=pos) (env:=env) hk hl
 refine wpAny_Dict_pairs (knd:=strKind prog C.w) (il hk hl) (fun e=>(bne_iff_ne.mp h0) (by rw[← hpl,e];rfl)) (by rw[hpl];exact Nat.le_of_ble_eq_true hlen) ?_
 have S₁:=S.push_own (P:=aB C []) (n:=s.toks) (o:={ cls:=.type "dict",data:=.dict #[] }) rfl (by
  refine aL (Heap.dictOf_iff.mp (Heap.DictOf.new (knd:=strKind prog C.w) s.heap)) fun o e p=>?_
  rw[Heap.get?_push_size _ rfl] at e
  cases e
  exact p)
 refine wpAny_mono (h _ (i0 S hm) _ S₁) ?_ fun O O x=>x
 refine fun vs s₂ q1=>cm q1 fun g₁ M₁ l₁ S₂ kvs q2=>bT q2 fun i hi hc q=>?_;clear q1 q2
 refine (bU kvs hc (S₂.dict (.own (iu hi))) (fun h' hd hs hn=>?_))
 refine aL (Heap.dictOf_iff.mp hd) fun o e p=>?_
 exact (an g₁ _ l₁ (S₂.set (P':=aB C (merged [] kvs)) hi hs e p (dG _ _)) q)
theorem kK {pos:Pos}{Pm:OP}{Q:PQ Value}(hm:Fz g mainGlobals Pm)(h:∀ d,(d==sysModules)=false→Q (.ref d) g ((d,aB C [])::M)):W C A (eval (.Dict [] [] pos) env) g M Q:=fun s S=>by
 refine wpAny_Dict_empty ?_
 exact (an g _ .refl (S.push_own (P:=aB C []) (n:=s.toks) rfl (by
  refine aL (Heap.dictOf_iff.mp (Heap.DictOf.new (knd:=strKind prog C.w) s.heap)) fun o e p=>?_
  rw[Heap.get?_push_size _ rfl] at e
  cases e
  exact p)) (h _ (i0 S hm)))
theorem jJ {d:Addr}{kvs:List (Str×Value)}{name:Str}{id:String}{pl:Sem Bool}{Q:Value×List Value→G→be→Prop}(slot:Slot "dict" name id)(hty:typeOf (.builtin id)=pure (.type "method_descriptor"))(hd:Sees g M d (aB C kvs))(h:Q (.builtin id,[.ref d]) g M):W C A (getMethod (.ref d) name pl) g M Q:=fun s S=>by
 have m:=S.dict hd
 exact getMethod_builtin m.typeIs PySem.F.plainAttrs_dict slot hty m.mapOf.noDict (an g M .refl S h)
theorem y4 {d:Addr}{kvs:List (Str×Value)}{k:Str}{t:Tok}{Q:PQ Value}(hd:Sees g M d (aB C kvs))(hs:(d==sysModules)=false)(h:Q ((valueAt kvs k).getD .none) g M):W C A (call (.builtin "dict.get") [.ref d,.str k t]) g M Q:=fun s S =>
 have m:=(S.dict hd).mapOf
 call_meetsIn PySem.F.slot_dict_get m.typeIs PySem.F.entry_dict_get (PySem.F.args_dict_get_2 _ _) (meets_dict_get (strKind prog C.w) d (strKind_is prog C.w k t) hs) (ky _ m g M .refl (jb (S.toks (fB _)) h))
theorem yo {d:Addr}{kvs:List (Str×Value)}{k:Str}{t:Tok}{v:Value}{Q:PQ Value}(hd:Sees g M d (aB C kvs))(hs:(d==sysModules)=false)(h:Q ((valueAt kvs k).getD v) g M):W C A (call (.builtin "dict.get") [.ref d,.str k t,v]) g M Q:=fun s S =>
 have m:=(S.dict hd).mapOf
 call_meetsIn PySem.F.slot_dict_get m.typeIs PySem.F.entry_dict_get (PySem.F.args_dict_get_3 _ _ _) (meets_dict_get_default (strKind prog C.w) d (strKind_is prog C.w k t) hs v) (ky _ m g M .refl (jb (S.toks (fB _)) h))
theorem gb {d:Addr}{kvs:List (Str×Value)}{k:Str}{t:Tok}{v:Value}{Q:PQ Value}(hd:Sees g M d (aB C kvs))(hv:valueAt kvs k=some v)(h:Q v g M):W C A (getItem (.ref d) (.str k t)) g M Q:=fun s S =>
 wpAny_getItem_of (strKind_is prog C.w k t) (S.dict hd).mapOf hv (an g M .refl (S.toks (fB _)) h)
theorem gm {d:Addr}{kvs:List (Str×Value)}(hd:Sees g M d (aB C kvs)):∃ T id,typeLookup (.type T) "__getitem__"=pure (some (.builtin id))∧pR g M (.ref d) T:=by
 refine (bV ("dict") _ F.slot_dict_getitem.lookup (z8 hd ?_))
 refine fun o q3=>bJ q3 fun O O h2 O=>?_;clear q3
 exact h2.1
theorem oP {d e:Addr}{kvs more:List (Str×Value)}{i:Nat}{Q:PQ Value}(hi:M[i]?=some (d,aB C kvs))(he:Sees g M e (aB C more))(hne:d≠e)(hs:(e==sysModules)=false)(hsz:kvs.length+more.length≤sizeLine)(h:Q .none g (M.set i (d,aB C (merged kvs more)))):W C A (call (.builtin "dict.update") [.ref d,.ref e]) g M Q:=fun s S=>by
 have m:=S.dict (.own (iu hi))
 refine call_meetsIn PySem.F.slot_dict_update m.typeIs PySem.F.entry_dict_update (PySem.F.args_dict_update_2 _ _) (meets_dict_update (strKind prog C.w) d e hne hs) (cb _ _ m (S.dict he) hsz (fun h' hd O hs'=>?_))
 refine aL (Heap.dictOf_iff.mp hd) fun o eo p=>?_
 exact (an g _ .refl (S.set (P':=aB C (merged kvs more)) (n:=s.toks) hi hs' eo p) h)
end
end
section
local macro_rules | `(tactic| refine' $x) => `(tactic| with_reducible refine $x)
local macro_rules | `(tactic| ac_nf) => `(tactic| repeat tb_start)
local macro_rules | `(tactic| rfl') => `(tactic| with_unfolding_all rfl)
local macro_rules | `(tactic| kst_mem) => `(tactic| first | exact .head _ | (refine .tail _ ?_; kst_mem) | assumption)
local macro_rules | `(tactic| tb_start) => do
  let p (i : Nat) (t : Lean.Syntax) : Lean.MacroM Lean.Syntax := `(tactic| first | refine aX (i := $(Lean.quote i)) (by rfl) ?_ | $(⟨t⟩):tactic)
  let f (x : String) (t : Lean.Syntax) : Lean.MacroM Lean.Syntax := do
    let l := (x.splitOn "/").map fun s => Lean.mkIdent s.toName
    match l with
    | [r] => `(tactic| first | with_reducible refine $r ?_ | $(⟨t⟩):tactic)
    | [r, _] => let u := Lean.mkIdent `O; `(tactic| first | with_reducible refine $r fun $u $u => ?_ | $(⟨t⟩):tactic)
    | [h, c, r] => `(tactic| first | ((with_reducible show W _ _ ($h ($c ..) ..) _ _ _); refine $r ?_) | $(⟨t⟩):tactic)
    | [h, _, _, r] => `(tactic| first | ((with_reducible show W _ _ ($h ..) _ _ _); refine $r ?_) | $(⟨t⟩):tactic)
    | _ => pure t
  let g : Lean.Syntax ← "bx/f eA/f qk pL bh vN eval/Expr.Compare/fH gk mZ aC pw az eval/Expr.Call/bl af bu cz nI gC exec/Stmt.Expr/ld oI isTrue/Expr.Compare/aR W_isTrue_Not ee isTrue/_/_/fI dw c8 gu ff ig lQ fC x4 yM aF callWith/_/_/aq aj spliced/_/_/ab nx/f q0/f wQ W_neI Bn AG aV vt kT mw d9 eO".splitOn " " |>.foldrM f (← `(tactic| fail))
  let q ← [0, 1, 2, 3, 4, 5, 6, 7].foldrM p (← `(tactic| fail))
  `(tactic| first
    | ((with_reducible show W _ _ (eval (Expr.Name ..) _) _ _ _); first
      | refine ar (by kst_mem) (by rfl) ?_
      | refine jV (by rfl) (.fz (by assumption)) ?_
      | refine aU (by rfl) (.fz (by assumption)) ?_)
    | ((with_reducible show W _ _ (exec (Stmt.Assign [Expr.Name ..] ..) _) _ _ _); refine aA ?_)
    | ((with_reducible show W _ _ (exec (Stmt.Assign [Expr.Tuple ..] (Expr.Call ..) _) _) _ _ _); refine cU ?_)
    | ((with_reducible show W _ _ (storeName ..) _ _ _); $(⟨q⟩):tactic)
    | ((with_reducible show W _ _ (evalArgs _ _ _ (backToKw _ (keywordEach [] _))) _ _ _); refine au ?_)
    | ((with_reducible show W _ _ (evalArgs ..) _ _ _); refine fK ?_)
    | $(⟨g⟩):tactic)
section
theorem yE {C:Cx}{A:Around}{g:G}{M:be}{env:Env}{L:Addr}{x y z:Str}{t:Tok}{c k1 k2 k3:Nat}{p1 p2 p3 p4 p5 p6 p7 p8 p9 p10 p11:Pos}{Q:PQ Flow}(hL:env.locals=L)(hk:env.scope.kind=.function)(hl:env.kindOf "text"=some .local)(hy:y=⟨#[c]⟩)(hyz:(y==z)=false)(hb:x.length+(x.length+1)*z.length≤16777216)(hp:(p6.endLine==p9.line)=true)(h:∀ g' t',G.le g g'→Q .next g' ((L,aJ [("text",.str (Txt.replace x y z) t')])::M)) :
  W C A (exec (.If (.Compare (.Constant (.str y) k1 p1) [.In] [.Name "text" p2] p3) [.Assign [.Name "text" p4] (.Call (.Attribute (.Name "text" p5) "replace" p6) [.Constant (.str y) k2 p7,.Constant (.str z) k3 p8] [] p9) p10] [] p11) env)
   g ((L,aJ [("text",.str x t)])::M) Q:=by
 subst hL
 refine nI (aR (eA fun O O=>ar (.head _) (by rfl) ?_ hk hl))
 refine' uG (aV ?_)
 split
 ·refine af (aA (bl (ar (.head _) (by rfl) (fun pl=>?_) hk hl) rfl rfl hp))
  refine' dU ?_
  refine aq (fK (ab (gx fun t1 g1 l1 n1 a1 b1=>ab (gx fun t2 g2 l2 n2 a2 b2=>aj (d9 ⟨ap,?_⟩)))))
  show W _ _ (call (.builtin "str.replace") [.str x t,.str y t1,.str z t2]) _ _ _
  refine' fE n1 n2 (eE (b9 b1 a2)) hyz hb fun t'=>?_
  refine aX (i:=0) rfl ?_ hk hl
  refine bu ?_
  exact h _ _ (l1.trans l2)
 ·rename_i hc
  refine bu ?_
  subst hy
  rw[gZ] at hc
  have hc':c ∉ x.cps.toList:=fun m=>hc (decide_eq_true m)
  have:=h g t .refl
  rw[pW hc'] at this
  exact this
theorem i5 (x z:Str)(c:Nat):(Txt.replace x ⟨#[c]⟩ z).length≤x.length+x.length*z.length:=by
 have:=sQ c z.cps.toList x.cps.toList
 rw[← dM] at this
 simpa [Str.length] using this
theorem bH {C:Cx}{A:Around}{g:G}{M:be}{env:Env}{L:Addr}{x y z:Str}{t:Tok}{k1 k2 k3:Nat}{p1 p2 p3 p4 p5 p6 p7 p8 p9 p10 p11:Pos}{Q:PQ Flow}(c:Nat)(zl:List Nat){n:Nat}(hx:x.length≤n)(hL:env.locals=L)(h:∀ g' t',G.le g g'→(Txt.replace x ⟨#[c]⟩ ⟨zl.toArray⟩).length≤7*n→Q .next g' ((L,aJ [("text",.str (Txt.replace x ⟨#[c]⟩ ⟨zl.toArray⟩) t')])::M))(hy:y=⟨#[c]⟩:=by decide +kernel)(hz:z=⟨zl.toArray⟩:=by decide +kernel)(hw:zl.length≤6∧(([c]:List Nat)==zl)=false:=by decide)(hn:n≤1000000:=by decide)(hk:env.scope.kind=.function:=by exact Eq.refl ScopeKind.function)(hl:env.kindOf "text"=some .local:=by exact Eq.refl (some NameKind.local))(hp:(p6.endLine==p9.line)=true:=by exact Eq.refl true) :
  W C A (exec (.If (.Compare (.Constant (.str y) k1 p1) [.In] [.Name "text" p2] p3) [.Assign [.Name "text" p4] (.Call (.Attribute (.Name "text" p5) "replace" p6) [.Constant (.str y) k2 p7,.Constant (.str z) k3 p8] [] p9) p10] [] p11) env)
   g ((L,aJ [("text",.str x t)])::M) Q:=by
 subst hy hz
 have hzl:(⟨zl.toArray⟩:Str).length=zl.length:=by simp[Str.length]
 have h1:(x.length+1)*zl.length≤(x.length+1)*6:=pZ _ hw.1
 refine yE hL hk hl rfl (beq_eq_false_iff_ne.mpr fun e=>?_) (by rw[hzl];exact cZ [_,_,_] [] (.le (.a ah am) aY) (.X 7 (.le ah ao)) (.X 7 (.le ao eZ)) (.le am (.r (.a ah av) 6)) ae hx hn h1) hp fun g' t' l=>h g' t' l ?_
 ·have e2:([c]:List Nat)=zl:=by
   have:=congrArg (fun q:Str=>q.cps.toList) e
   simpa using this
  exact absurd (beq_iff_eq.mpr e2) (by rw[hw.2];exact jo)
 ·have h2:=i5 x ⟨zl.toArray⟩ c
  have h3:x.length*zl.length≤x.length*6:=pZ _ hw.1
  rw[hzl] at h2
  exact cZ [_,_,_,_] [] (.le ah (.m 7 am)) (.X 7 (.le ao am)) (.le ah (.a ao aM)) (.le aM (.r ao 6)) ae hx h2 h3
noncomputable def rS:Nat→List (Nat×List Nat)
 | 5=>[(38,[38,97,109,112,59]),(60,[38,108,116,59]),(62,[38,103,116,59])]
 | 6=>[(38,[38,97,109,112,59]),(60,[38,108,116,59]),(62,[38,103,116,59]),(34,[38,113,117,111,116,59]),(13,[38,35,49,51,59]),(10,[38,35,49,48,59]),(9,[38,35,48,57,59])]
 | 7=>[(38,[38,97,109,112,59]),(62,[38,103,116,59]),(34,[38,113,117,111,116,59])]
 | 8=>[(38,[38,97,109,112,59]),(60,[38,108,116,59]),(62,[38,103,116,59]),(13,[38,35,120,68,59])]
 | 9=>[(38,[38,97,109,112,59]),(60,[38,108,116,59]),(34,[38,113,117,111,116,59]),(9,[38,35,120,57,59]),(10,[38,35,120,65,59]),(13,[38,35,120,68,59])]
 | _=>[]
noncomputable def ub (i:Nat)(x:Str):Str:=(rS i).foldl (fun x p=>Txt.replace x ⟨#[p.1]⟩ ⟨p.2.toArray⟩) x
section
variable {C:Cx}{A:Around}{g:G}{M:be}{a c:Addr}{x:Str}{t:Tok}
theorem zv (D:DefAt g 5 a c)(lim:LimIn g)(room:A.depth<recursionLimit)(hx:x.length≤7) :
  W C A (call (.ref a) [.str x t] []) g M (fun v O M'=>M'=M∧∃ t',v=.str (ub 5 x) t'):=by
 refine ft D lim room (binds:=[("text",.str x t)]) (fun O=>rfl) rfl fun L=>?_
 refine af (oI ?_)
 refine af (bH 38 [38,97,109,112,59] hx rfl fun O O O h0=>?_)
 refine af (bH 60 [38,108,116,59] h0 rfl fun O O O h1=>?_)
 refine af (bH 62 [38,103,116,59] h1 rfl fun O O O h2=>?_)
 refine af (cz (ar (.head _) (by rfl) ?_))
 exact (bP ([_]) M rfl rfl _ rfl)
theorem zS (D:DefAt g 6 a c)(lim:LimIn g)(room:A.depth<recursionLimit)(hx:x.length≤7) :
  W C A (call (.ref a) [.str x t] []) g M (fun v O M'=>M'=M∧∃ t',v=.str (ub 6 x) t'):=by
 refine ft D lim room (binds:=[("text",.str x t)]) (fun O=>rfl) rfl fun L=>?_
 refine af (oI ?_)
 refine af (bH 38 [38,97,109,112,59] hx rfl fun O O O h0=>?_)
 refine af (bH 60 [38,108,116,59] h0 rfl fun O O O h1=>?_)
 refine af (bH 62 [38,103,116,59] h1 rfl fun O O O h2=>?_)
 refine af (bH 34 [38,113,117,111,116,59] h2 rfl fun O O O h3=>?_)
 refine af (bH 13 [38,35,49,51,59] h3 rfl fun O O O h4=>?_)
 refine af (bH 10 [38,35,49,48,59] h4 rfl fun O O O h5=>?_)
 refine af (bH 9 [38,35,48,57,59] h5 rfl fun O O O h6=>?_)
 refine af (cz (ar (.head _) (by rfl) ?_))
 exact (bP ([_]) M rfl rfl _ rfl)
theorem zu (D:DefAt g 7 a c)(lim:LimIn g)(room:A.depth<recursionLimit)(hx:x.length≤7) :
  W C A (call (.ref a) [.str x t] []) g M (fun v O M'=>M'=M∧∃ t',v=.str (ub 7 x) t'):=by
 refine ft D lim room (binds:=[("text",.str x t)]) (fun O=>rfl) rfl fun L=>?_
 refine af (oI ?_)
 refine af (bH 38 [38,97,109,112,59] hx rfl fun O O O h0=>?_)
 refine af (bH 62 [38,103,116,59] h0 rfl fun O O O h1=>?_)
 refine af (bH 34 [38,113,117,111,116,59] h1 rfl fun O O O h2=>?_)
 refine af (cz (ar (.head _) (by rfl) ?_))
 exact (bP ([_]) M rfl rfl _ rfl)
theorem y8 (D:DefAt g 8 a c)(lim:LimIn g)(room:A.depth<recursionLimit)(hx:x.length≤7) :
  W C A (call (.ref a) [.str x t] []) g M (fun v O M'=>M'=M∧∃ t',v=.str (ub 8 x) t'):=by
 refine ft D lim room (binds:=[("text",.str x t)]) (fun O=>rfl) rfl fun L=>?_
 refine af (oI ?_)
 refine af (bH 38 [38,97,109,112,59] hx rfl fun O O O h0=>?_)
 refine af (bH 60 [38,108,116,59] h0 rfl fun O O O h1=>?_)
 refine af (bH 62 [38,103,116,59] h1 rfl fun O O O h2=>?_)
 refine af (bH 13 [38,35,120,68,59] h2 rfl fun O O O h3=>?_)
 refine af (cz (ar (.head _) (by rfl) ?_))
 exact (bP ([_]) M rfl rfl _ rfl)
theorem Al (D:DefAt g 9 a c)(lim:LimIn g)(room:A.depth<recursionLimit)(hx:x.length≤7) :
  W C A (call (.ref a) [.str x t] []) g M (fun v O M'=>M'=M∧∃ t',v=.str (ub 9 x) t'):=by
 refine ft D lim room (binds:=[("text",.str x t)]) (fun O=>rfl) rfl fun L=>?_
 refine af (oI ?_)
 refine af (bH 38 [38,97,109,112,59] hx rfl fun O O O h0=>?_)
 refine af (bH 60 [38,108,116,59] h0 rfl fun O O O h1=>?_)
 refine af (bH 34 [38,113,117,111,116,59] h1 rfl fun O O O h2=>?_)
 refine af (bH 9 [38,35,120,57,59] h2 rfl fun O O O h3=>?_)
 refine af (bH 10 [38,35,120,65,59] h3 rfl fun O O O h4=>?_)
 refine af (bH 13 [38,35,120,68,59] h4 rfl fun O O O h5=>?_)
 refine af (cz (ar (.head _) (by rfl) ?_))
 exact (bP ([_]) M rfl rfl _ rfl)
end
end
section
noncomputable def dsum (d:Nat→Nat)(n:Nat):Nat→Nat→Nat
 | _,0=>0
 | L,k+1=>d L+2^n*dsum d n (L+1) k
theorem rO (d:Nat→Nat)(n:Nat):∀ (a L b:Nat),dsum d n L (a+b)=dsum d n L a+2^(n*a)*dsum d n (L+a) b
 | 0,L,b=>by simp[dsum]
 | a+1,L,b=>by
  rw[show a+1+b=(a+b)+1 from by exact eF [_,_] [] (.eq (.a (.a ah av) am) (.a (.a ah am) av)) ae]
  simp only[dsum]
  rw[rO d n a (L+1) b,oz,oz,og,oL,show L+1+a=L+(a+1) from by exact eF [_,_] [] (.eq (.a (.a ah av) am) (.a ah (.a am av))) ae,ζ33 (2^(n*a)) (2^n),← pk]
  exact eF [_,_,_] [] (.eq (.a ah (.a am ao)) (.a (.a ah am) ao)) ae
theorem uB {d:Nat→Nat}{n:Nat}(hd:∀ j,d j<2^n):∀ (k L:Nat),dsum d n L k<2^(n*k)
 | 0,L=>by simp[dsum]
 | k+1,L=>by
  have ih:=uB hd k (L+1)
  have h1:=hd L
  simp only[dsum]
  rw[oz,oL,og]
  have h2:2^n*(dsum d n (L+1) k+1)≤2^n*2^(n*k):=pZ _ ih
  rw[oz,oL] at h2
  rw[ζ33 (2^(n*k))]
  exact ln2 [_,_,_,_] [] (.lt (.a ah am) ao) (.lt ah aM) (.le (.a am aM) ao) ae h1 h2
theorem dF {a k:Nat}(h:a<2^k):Builtin.Int.intBits (a:Int)≤k:=intBits_le (by simpa using h)
theorem mY {a:Int}(h:a.natAbs<2^64):Builtin.Int.intBits a≤64:=intBits_le h
noncomputable def pb (d:Nat→Nat)(k:Nat):OP:=fun o=>∃ xs,bq xs o∧xs.size=k∧∀ j,j<k→∃ t,xs[j]?=some (.int (d j) t)
noncomputable abbrev zj:Stmt:=aI (aw (st 15)) 0
noncomputable abbrev q15:Str:=ax (st 15)++".<locals>."++"inner"
section
variable {C:Cx}{g:G}{M:be}{mg mb:Str→Option Value}
theorem zi {d:Nat→Nat}{n K:Nat}{tn:Tok}{cd cn ci a c' D:Addr}{pm ct:Value}(hd:∀ j,d j<2^n)(hn:n*K≤1000000)(hn1:n≤1000000)(hK:K≤1000000) :
  ∀ (k:Nat) (A:Around) (L R:Nat) (t u:Tok) (g:G) (M:be),R=L+k→0<k→R≤K→Rm A (k+1)→LimIn g→Fz g cn (ag (some (.int n tn)))→Fz g cd (ag (some (.ref D)))→Fz g ci (ag (some (.ref a))) →
   Fz g D (pb d K)→Fz g a (fV (cF "inner" q15 (dD zj) (.stmts (aw zj)) (bB zj) [("n",cn),("inner",ci),("digits",cd)] pm (.ref c') ct))→CodeIn g (.ref c') q15 →
   W C A (call (.ref a) [.int L t,.int R u] []) g M (fun v g' M'=>M'=M∧∃ t',v=.int (dsum d n L k) t'):=by
 intro k
 induction k using Nat.strongRecOn with
 | ind k ih =>
 intro A L R t u g M hR hk hRK rm lim Hn Hd Hi HD Ha hcd
 refine wk (binds:=[("L",.int L t),("R",.int R u)]) (.fz Ha) hcd lim rm.room rfl rfl fun Lf=>?_
 refine af ?_
 ac_nf
 have em:((L:Int)+(R:Int)).fdiv (2^(1:Int).toNat)=(((L+R)/2:Nat):Int):=by
  rw[show (2:Int)^(1:Int).toNat=2 from rfl,gV _ (by decide)]
  lia
 split
 ·rename_i h
  have h1:(L:Int)+1=R:=by simpa using h
  have hk1:k=1:=by exact ln2 [_,_,_] [] (.eq ah av) (.Y 1 (.eq am (.a ao ah))) (.Y 1 (.Q (.a lK av) eG)) ae hR h1
  subst hk1
  refine hH (id HD) fun oD gD xs hxs hsz hval=>?_
  have SD:Fz g D (bq xs):=(aG oD gD hxs)
  refine bK (hval L (b9 (cG hR.symm) hRK)) fun t' hv=>?_
  ac_nf
  refine ⟨bE (.fz SD),aO (v:=.int (d L) t') (.fz SD) (cY _) (cZ [_,_,_] [] (.T bA (.p 2 63)) (.le am eZ) (.le ao am) (.Q (.a bA av) lK) ae hK hRK h1) (by simpa using hv) ?_⟩
  exact (bP ([_]) M rfl rfl t' (by simp[dsum]))
 ·rename_i h
  have h1:¬ (L:Int)+1=R:=by simpa using h
  ac_nf
  refine xS (by decide) fun O O=>?_
  rw[em]
  generalize hm:(L+R)/2=mid
  have hm1:L<mid∧mid<R:=by exact ⟨cZ [_,_,_,_] [] (.X 2 (.lt ah am)) (.X 2 (.eq ao am)) (.lt (.a ah aM) (.r (.a ao av) 2)) (.T (.a bA av) nq) ae hm (yR _ (by decide)) (Aw (ln2 [_,_,_] [] (.L (.a bA av) eG) (.Y 1 (.eq am (.a ah ao))) (.lt b6 ao) ae hR hk) h1),cZ [_,_,_,_] [] (.X 2 (.lt ah am)) (.Y 2 (.eq ao ah)) (.le (.r ao 2) (.a aM am)) (.T (.a nq av) eG) ae hm (Nat.div_mul_le_self _ _) (Aw (ln2 [_,_,_] [] (.L (.a bA av) eG) (.Y 1 (.eq am (.a ah ao))) (.lt b6 ao) ae hR hk) h1)⟩
  ac_nf
  have es:(mid:Int)-(L:Int)=((mid-L:Nat):Int):=by exact aQ [_,_,_] [] (.Q (.s bA eG) lK) (.Y 1 (.eq (.a ao am) ah)) ae (bn (bY hm1.1))
  rw[es]
  have hb1:(mid-L)*n≤n*K:=by rw[ζ33];exact pZ _ (cZ [_,_,_,_,_] [] (.le ah am) (.le ao am) (.lt aM ao) (.Y 1 (.Q (.s nq vX) bA)) ae hRK hm1.2 es)
  refine gl (IntMulOk.of_left (mY (gh [_,_,_,_,_] [] (.lt ah (.p 2 64)) (.le am eZ) (.le ao am) (.lt aM ao) (.Y 1 (.Q (.s nq vX) bA)) ae hK hRK hm1.2 es))) fun O O=>?_
  rw[show ((mid-L:Nat):Int)*(n:Int)=(((mid-L)*n:Nat):Int) from (ol _ _).symm]
  ac_nf
  refine ⟨ek (.fz Ha),?_⟩
  refine (ih (R-mid) (cZ [_,_,_,_,_] [] (.lt ah am) (.eq ao (.a aM am)) (.lt aM bD) (.eq (.a ah bD) ao) ae hR hm1.1 (bn (bY hm1.2))) _ mid R _ _ _ _ (aQ [_,_,_] [] (.eq ah (.a am ao)) (.Y 1 (.eq (.a ao am) ah)) ae (bn (bY hm1.2))) (ln2 [_,_,_] [] (.lt b6 ah) (.lt am ao) (.le ao (.a ah am)) ae hm1.2 (aE _ _)) hRK (rm.deeper.le (cZ [_,_,_,_,_] [] (.le (.a ah av) am) (.eq ao (.a aM am)) (.lt aM bD) (.eq (.a ah bD) ao) ae hR hm1.1 (bn (bY hm1.2)))) lim Hn Hd Hi HD Ha hcd).mono ?_
  refine fun O g₁ O l₁ q1=>ew q1 fun q2 t₁ q3=>?_;clear q1;subst q2;subst q3
  have h2:=uB hd (R-mid) mid
  ac_nf
  refine xq (cY _) ?_ fun O O=>?_
  ·have h3:=dF h2
   have h4:n*(R-mid)≤n*K:=pZ _ (bw (de _ _) hRK)
   exact gh [_,_,_,_] [] (.L (.a bA eG) (.p 2 27)) (.X 2 (.le ao eZ)) (.le am ao) (.le ah aM) (.le aM ao) ae hn hb1 h3 h4
  have Hi':=Hi.mono l₁
  ac_nf
  refine ⟨ek (.fz (Ha.mono l₁)),?_⟩
  refine (ih (mid-L) (cZ [_,_,_,_,_] [] (.lt ah am) (.eq ao (.a aM am)) (.lt bD ao) (.Y 1 (.Q (.s vX nq) bA)) ae hR hm1.2 es) _ L mid _ _ _ _ (aQ [_,_,_] [] (.eq ah (.a am ao)) (.Q (.s bA eG) lK) ae es) (ln2 [_,_,_] [] (.lt b6 ah) (.lt am ao) (.Q (.s lK eG) bA) ae hm1.1 es) (bY (b9 hm1.2 hRK)) (rm.deeper.le (cZ [_,_,_,_,_] [] (.le (.a ah av) am) (.eq ao (.a aM am)) (.lt bD ao) (.Y 1 (.Q (.s vX nq) bA)) ae hR hm1.2 es)) (lim.mono l₁) (Hn.mono l₁) (Hd.mono l₁) (Hi.mono l₁) (HD.mono l₁) (Ha.mono l₁) (hcd.mono l₁)).mono ?_
  refine fun O g₂ O l₂ q4=>ew q4 fun q5 t₂ q6=>?_;clear q4;subst q5;subst q6
  ac_nf
  have e:=rO d n (mid-L) L (R-mid)
  rw[show mid-L+(R-mid)=k from by exact cZ [_,_,_,_,_,_] [] (.eq (.a ah am) ao) (.eq aM (.a bD ao)) (.Y 1 (.Q (.s Cs vX) bA)) (.eq (.a am dc) aM) ae hR es (bn (bY hm1.2)),show L+(mid-L)=mid from by exact aQ [_,_,_] [] (.eq (.a ah am) ao) (.Y 1 (.Q (.s lK bA) eG)) ae es] at e
  have key:((dsum d n mid (R-mid):Nat):Int)*2^(((mid-L)*n:Nat):Int).toNat+((dsum d n L (mid-L):Nat):Int)=((dsum d n L k:Nat):Int):=by
   rw[e,d3]
   push_cast
   rw[ζ33 n (mid-L),pP,Int.add_comm]
  exact (bP ([_]) M rfl rfl _ (congrArg (fun z=>Value.int z _) key))
theorem ou {A:Around}{l:Addr}{xs:Array Value}{Q:PQ Bool}(hl:Sees g M l (bq xs))(hsz:xs.size<2^62)(h:Q (!xs.isEmpty) g M):W C A (truthy (.ref l)) g M Q:=fun s S =>
 wpAny_truthy_list (S.list hl) (aQ [_] [] (.T bA (.p 2 63)) (.lt ah (.p 2 62)) ae hsz) (an g M .refl (S.toks (bw (dG _ _) (dG _ _))) h)
theorem gY {A:Around}{d:Nat→Nat}{n K:Nat}{tn:Tok}{a D:Addr}(B:Base C mg mb g)(e:mg (ax (st 15))=some (.ref a))(hd:∀ j,d j<2^n)(hn:n*K≤1000000)(hn1:n≤1000000)(hK:K≤1000000)(rm:Rm A (K+2))(HD:Fz g D (pb d K)):W C A (call (.ref a) [.ref D,.int n tn] []) g M (fun v g' M'=>M'=M∧∃ t',v=.int (dsum d n 0 K) t'):=by
 refine aK (B.defs 15 rfl (by decide)) fun a' c e' Da hq=>?_
 have:a'=a:=by rw[e] at e';cases e';rfl
 subst this
 have hT:=hq (by decide)
 refine ic (k:=3) (binds:=[("digits",.ref D),("n",.int n tn)]) Da B.lim rm.room (fun O=>rfl) rfl fun L as has=>?_
 obtain ⟨a1,a2,a3,rfl⟩:∃ a1 a2 a3,as=[a1,a2,a3]:=by
  refine rg has fun x r h=>?_
  refine rg h fun y r h=>?_
  refine rg h fun z r h=>?_
  exact BZ h (gJ x y z rfl)
 refine aN (aH (i:=2) (by rfl) (by rfl) ?_)
 refine aN (aH (i:=1) (by rfl) (by rfl) ?_)
 refine W_binds_nil ?_
 refine af (jI (c:=c) (qs:=qsOf 15) (qual:=q15) (cl:=[("n",a2),("inner",a3),("digits",a1)]) (fun O=>rfl) B.bi hT rfl rfl rfl (.head _) (fun x hx O O=>by cases hx with|head=>rfl|tail _ h=>cases h) fun f c' g₁ ct l₁ hcd=>?_)
 refine aH (i:=1) (by rfl) (by rfl) ?_
 refine bM (i:=0) rfl fun g₂ l₂ Hf=>?_
 refine bM (i:=0) rfl fun g₃ l₃ Hi=>?_
 refine bM (i:=0) rfl fun g₄ l₄ Hn=>?_
 refine bM (i:=0) rfl fun g₅ l₅ Hd=>?_
 replace Hn:=Hn.mono l₅
 replace Hi:=Hi.mono (l₄.trans l₅)
 replace Hf:=Hf.mono (l₃.trans (l₄.trans l₅))
 have l₆:=l₁.trans (l₂.trans (l₃.trans (l₄.trans l₅)))
 replace HD:=HD.mono l₆
 replace hcd:=hcd.mono (l₂.trans (l₃.trans (l₄.trans l₅)))
 replace B:=B.mono l₆
 clear l₁ l₂ l₃ l₄ l₅
 refine hH (id HD) fun oD gD xs hxs hsz hval=>?_
 have SD:Fz g₅ D (bq xs):=(aG oD gD hxs)
 ac_nf
 refine ou (.fz SD) (ln2 [_,_] [] (.lt ah (.p 2 62)) (.le am eZ) (.eq ah am) ae hK hsz) ?_
 rcases u9 K with h0|h0
 ·have hne:(!xs.isEmpty)=false:=by
   rw[Array.isEmpty,hsz,h0];rfl
  rw[hne,if_neg jo]
  subst h0
  ac_nf
  exact (bP ([_]) M rfl rfl _ rfl)
 have hne:(!xs.isEmpty)=true:=by
  rw[Array.isEmpty,hsz];simp;exact df h0
 rw[hne,if_pos rfl]
 ac_nf
 refine bL B eN ?_
 ac_nf
 refine ⟨ap,?_⟩
 show W _ _ (call (.builtin "len") [.ref D]) _ _ _
 refine fJ (.fz SD) (ln2 [_,_] [] (.lt ah (.p 2 62)) (.le am eZ) (.eq ah am) ae hK hsz) fun t'=>?_
 ac_nf
 refine ⟨ek (.fz Hf),?_⟩
 rw[hsz]
 refine (zi hd hn hn1 hK K _ 0 K _ t' _ _ (eF [_] [] (.eq ah (.a b6 ah)) ae) h0 (dX _) (rm.deeper.le (dX _)) B.lim Hn Hd Hi HD Hf hcd).mono ?_
 refine fun O g₆ O l₆ q7=>ew q7 fun q8 t₁ q9=>?_;clear q7;subst q8;subst q9
 exact (bP ([_]) M rfl rfl t₁ rfl)
end
end
section
theorem xW (x s:Nat):Builtin.bitXor (x:Int) ((x/2^s*2^s:Nat):Int)=((x%2^s:Nat):Int):=by
 have e:x &&& (x/2^s*2^s)=x/2^s*2^s:=by
  apply Nat.eq_of_testBit_eq
  intro i
  rw[Nat.testBit_and,Nat.testBit_mul_two_pow,Nat.testBit_div_two_pow]
  by_cases h:s≤i
  ·simp[h,bn h]
  ·simp[h]
 rw[bitXor_and,bitAnd_pp (cY _) (cY _),d3,d3,e]
 have h2:=rl x (2^s)
 rw[ζ33] at h2
 exact aQ [_,_,_] [] (.Q (.s (.a bA eG) (.m 2 eG)) lK) (.Y 1 (.eq (.a am ao) ah)) ae h2
theorem x9 {x n a j:Nat}(h:j<a):x%2^(a*n)/2^(n*j)%2^n=x/2^(n*j)%2^n:=by
 apply Nat.eq_of_testBit_eq
 intro i
 simp only[Nat.testBit_mod_two_pow,Nat.testBit_div_two_pow]
 by_cases hi:i<n
 ·have:i+n*j<a*n:=by
   have:n*(j+1)≤n*a:=pZ _ h
   rw[oz,oL] at this
   rw[ζ33 a n];exact ln2 [_,_,_,_] [] (.lt (.a ah am) ao) (.lt ah aM) (.le (.a am aM) ao) ae hi this
  simp[hi,this]
 ·simp[hi]
noncomputable abbrev Ad:Stmt:=aI (aw (st 14)) 1
noncomputable abbrev q14:Str:=ax (st 14)++".<locals>."++"inner"
noncomputable def An (x n L R:Nat)(xs ys:Array Value):Prop:=ys.size=xs.size∧(∀ j,L≤j→j<R→∃ t,ys[j]?=some (.int ((x/2^(n*(j-L))%2^n:Nat):Int) t))∧∀ j,j<L∨R≤j→ys[j]?=xs[j]?
section
variable {C:Cx}{g:G}{M:be}{mg mb:Str→Option Value}
theorem y6 {n:Nat}{tn:Tok}{cd cn ci a c' D:Addr}{pm ct:Value}(hn1:n≤1000000) :
  ∀ (k:Nat) (A:Around) (x L R:Nat) (t u v:Tok) (g:G) (M:be) (i:Nat) (xs:Array Value),R=L+k→0<k→R≤xs.size→xs.size≤1000→n*xs.size≤1000000→x<2^(n*k)→Rm A (k+1)→LimIn g→Fz g cn (ag (some (.int n tn)))→Fz g cd (ag (some (.ref D)))→Fz g ci (ag (some (.ref a))) →
   M[i]?=some (D,bq xs)→Fz g a (fV (cF "inner" q14 (dD Ad) (.stmts (aw Ad)) (bB Ad) [("n",cn),("inner",ci),("a_digits",cd)] pm (.ref c') ct))→CodeIn g (.ref c') q14 →
   W C A (call (.ref a) [.int x t,.int L u,.int R v] []) g M (fun v g' M'=>v=.none∧∃ ys,An x n L R xs ys∧M'=M.set i (D,bq ys)):=by
 intro k
 induction k using Nat.strongRecOn with
 | ind k ih =>
 intro A x L R t u v g M i xs hR hk hRK hxs hnK hx rm lim Hn Hd Hi HD Ha hcd
 refine wk (binds:=[("x",.int x t),("L",.int L u),("R",.int R v)]) (.fz Ha) hcd lim rm.room rfl rfl fun Lf=>?_
 refine af ?_
 ac_nf
 have em:((L:Int)+(R:Int)).fdiv (2^(1:Int).toNat)=(((L+R)/2:Nat):Int):=by
  rw[show (2:Int)^(1:Int).toNat=2 from rfl,gV _ (by decide)]
  lia
 split
 ·rename_i h
  have h1:(L:Int)+1=R:=by simpa using h
  have hk1:k=1:=by exact ln2 [_,_,_] [] (.eq ah av) (.Y 1 (.eq am (.a ao ah))) (.Y 1 (.Q (.a lK av) eG)) ae hR h1
  subst hk1
  refine af (jU ?_)
  ac_nf
  refine nV (i:=i+1) (by simpa using HD) (cY _) (ln2 [_,_,_] [] (.T bA eG) (.le ao am) (.Q (.a bA av) lK) ae hRK h1) (dV hxs (by decide)) ?_
  refine af (oj ?_)
  refine (bP ([_]) _ rfl rfl _ (jb (iPPP (by simp) (fun j h2 h3=>⟨t,?_⟩) (fun j hj=>?_)) rfl))
  ·have:j=L:=by exact nY (ln2 [_,_,_] [] (.le ah am) (.Y 1 (.Q (.a eG av) lK)) (.lt ah ao) ae h1 h3) h2
   subst this
   rw[oL] at hx
   simp only[d3,nh,Nat.mul_zero,Nat.pow_zero,Nat.div_one,uI hx]
   rw[Array.getElem?_setIfInBounds_self_of_lt (b9 h3 hRK)]
  ·rw[Array.getElem?_setIfInBounds_ne (by rw[d3];lia)]
 ·rename_i h
  have h1:¬ (L:Int)+1=R:=by simpa using h
  ac_nf
  refine xS (by decide) fun O O=>?_
  rw[em]
  generalize hm:(L+R)/2=mid
  have hm1:L<mid∧mid<R:=by exact ⟨cZ [_,_,_,_] [] (.X 2 (.lt ah am)) (.X 2 (.eq ao am)) (.lt (.a ah aM) (.r (.a ao av) 2)) (.T (.a bA av) nq) ae hm (yR _ (by decide)) (Aw (ln2 [_,_,_] [] (.L (.a bA av) eG) (.Y 1 (.eq am (.a ah ao))) (.lt b6 ao) ae hR hk) h1),cZ [_,_,_,_] [] (.X 2 (.lt ah am)) (.Y 2 (.eq ao ah)) (.le (.r ao 2) (.a aM am)) (.T (.a nq av) eG) ae hm (Nat.div_mul_le_self _ _) (Aw (ln2 [_,_,_] [] (.L (.a bA av) eG) (.Y 1 (.eq am (.a ah ao))) (.lt b6 ao) ae hR hk) h1)⟩
  ac_nf
  have es:(mid:Int)-(L:Int)=((mid-L:Nat):Int):=by exact aQ [_,_,_] [] (.Q (.s bA eG) lK) (.Y 1 (.eq (.a ao am) ah)) ae (bn (bY hm1.1))
  rw[es]
  refine gl (IntMulOk.of_left (mY (gh [_,_,_,_,_] [] (.lt ah (.p 2 64)) (.le am ao) (.le ao bg) (.lt aM am) (.Y 1 (.Q (.s nq vX) bA)) ae hRK hxs hm1.2 es))) fun O O=>?_
  rw[show ((mid-L:Nat):Int)*(n:Int)=(((mid-L)*n:Nat):Int) from (ol _ _).symm]
  have hb1:n*(mid-L)≤n*xs.size:=pZ _ (cZ [_,_,_,_,_] [] (.le ah am) (.le ao am) (.lt aM ao) (.Y 1 (.Q (.s nq vX) bA)) ae hRK hm1.2 es)
  have hb2:n*(R-L)≤n*xs.size:=pZ _ (bw (de _ _) hRK)
  generalize hsh:(mid-L)*n=sh
  have hsh':n*(mid-L)=sh:=by rw[← hsh,ζ33]
  ac_nf
  refine xS (cY _) fun O O=>?_
  have eu:(x:Int).fdiv (2^((sh:Nat):Int).toNat)=((x/2^sh:Nat):Int):=by
   rw[d3,gV _ (Int.le_of_lt (Int.pow_pos (by decide)))]
   push_cast
   rfl
  rw[eu]
  ac_nf
  have hup:x/2^sh<2^(n*(R-mid)):=by
   rw[Nat.div_lt_iff_lt_mul (ot _),← og]
   have:n*(R-mid)+sh=n*k:=by rw[← hsh',← oz];congr 1;exact cZ [_,_,_,_,_,_] [] (.eq (.a ah am) ao) (.eq aM (.a bD ao)) (.Y 1 (.Q (.s Cs vX) eG)) (.eq (.a ah dc) aM) ae hR es (bn (bY hm1.2))
   rw[this];exact hx
  refine xq (cY _) ?_ fun O O=>?_
  ·have h3:=dF hup
   have h4:n*(R-mid)≤n*xs.size:=pZ _ (bw (de _ _) hRK)
   exact vc [_,_,_,_,_] [] (.L (.a bA eG) (.p 2 27)) (.X 2 (.le ao eZ)) (.le aM ao) (.Y 1 (.eq aM am)) (.le ah bD) (.le bD ao) ae hnK hb1 hsh' h3 h4
  have el:((x/2^sh:Nat):Int)*2^((sh:Nat):Int).toNat=((x/2^sh*2^sh:Nat):Int):=by
   rw[d3];push_cast;rfl
  rw[el]
  refine Be fun O O=>?_
  rw[xW]
  ac_nf
  refine ⟨ek (.fz Ha),?_⟩
  refine (ih (mid-L) (cZ [_,_,_,_,_] [] (.lt ah am) (.eq ao (.a aM am)) (.lt bD ao) (.Y 1 (.Q (.s vX nq) bA)) ae hR hm1.2 es) _ (x%2^sh) L mid _ _ _ _ _ (i+1) xs (aQ [_,_,_] [] (.eq ah (.a am ao)) (.Q (.s bA eG) lK) ae es) (ln2 [_,_,_] [] (.lt b6 ah) (.lt am ao) (.Q (.s lK eG) bA) ae hm1.1 es) (bY (b9 hm1.2 hRK)) hxs hnK (by rw[hsh'];exact cQ _ (ot _)) (rm.deeper.le (cZ [_,_,_,_,_] [] (.le (.a ah av) am) (.eq ao (.a aM am)) (.lt bD ao) (.Y 1 (.Q (.s vX nq) bA)) ae hR hm1.2 es)) lim Hn Hd Hi (by simpa using HD) Ha hcd).mono ?_
  refine fun O g₁ O l₁ q1=>d6 q1 fun q2 ys F1 q3=>?_;clear q1;subst q2;subst q3
  refine ⟨fun O h=>Value.noConfusion h,?_⟩
  have Hi':=Hi.mono l₁
  ac_nf
  refine ⟨ek (.fz (Ha.mono l₁)),?_⟩
  have hlt:i<M.length:=(List.getElem?_eq_some_iff.mp HD).1
  refine (ih (R-mid) (cZ [_,_,_,_,_] [] (.lt ah am) (.eq ao (.a aM am)) (.lt aM bD) (.eq (.a ah bD) ao) ae hR hm1.1 (bn (bY hm1.2))) _ (x/2^sh) mid R _ _ _ _ _ (i+1) ys (aQ [_,_,_] [] (.eq ah (.a am ao)) (.Y 1 (.eq (.a ao am) ah)) ae (bn (bY hm1.2))) (ln2 [_,_,_] [] (.lt b6 ah) (.lt am ao) (.le ao (.a ah am)) ae hm1.2 (aE _ _)) (by rw[F1.1];exact hRK) (by rw[F1.1];exact hxs) (by rw[F1.1];exact hnK) hup (rm.deeper.le (cZ [_,_,_,_,_] [] (.le (.a ah av) am) (.eq ao (.a aM am)) (.lt aM bD) (.eq (.a ah bD) ao) ae hR hm1.1 (bn (bY hm1.2)))) (lim.mono l₁) (Hn.mono l₁) (Hd.mono l₁) (Hi.mono l₁) (by simp[hlt]) (Ha.mono l₁) (hcd.mono l₁)).mono ?_
  refine fun O g₂ O l₂ q4=>d6 q4 fun q5 zs F2 q6=>?_;clear q4;subst q5;subst q6
  refine ⟨fun O h=>Value.noConfusion h,?_⟩
  ac_nf
  refine (bP ([_]) ((M.set i (D,bq ys)).set i (D,bq zs)) rfl rfl zs (jb (iPPP (F2.1.trans F1.1) (fun j h2 h3=>?_) (fun j hj=>?_)) (List.set_set _)))
  ·by_cases hj:j<mid
   ·rw[F2.2.2 j (.inl hj)]
    refine bK (F1.2.1 j h2 hj) fun t' e=>?_
    refine ⟨t',e.trans ?_⟩
    rw[← hsh,x9 (by exact cZ [_,_,_,_,_] [] (.lt ah am) (.Q (.s lK nq) eG) (.lt bD ao) (.eq (.a ah aM) bD) ae es hj (bn h2))]
   ·refine bK (F2.2.1 j (uJ hj) h3) fun t' e=>?_
    refine ⟨t',e.trans ?_⟩
    rw[Nat.div_div_eq_div_mul,← og,← hsh',← oz]
    rw[show mid-L+(j-mid)=j-L from by exact cZ [_,_,_,_,_,_] [] (.eq (.a ah am) ao) (.Y 1 (.Q (.s nq vX) bA)) (.eq (.a am aM) dc) (.Y 1 (.eq (.a ao bD) dc)) ae es (bn (aQ [_,_] [] (.le ah am) (.nlt am ah) ae hj)) (bn h2)]
  ·rw[F2.2.2 j (by lia),F1.2.2 j (by lia)]
theorem yg {a n:Nat}:((Builtin.Int.intBits (a:Int):Int)+(n:Int)-1).fdiv (n:Int)=(((Builtin.Int.intBits (a:Int)+n-1)/n:Nat):Int)∨n=0:=by
 rcases u9 n with h|h
 ·exact .inr h
 ·left
  rw[gV _ (cY _),show (Builtin.Int.intBits (a:Int):Int)+(n:Int)-1=((Builtin.Int.intBits (a:Int)+n-1:Nat):Int) from by exact aQ [_,_,_] [] (.Q (.s (.a bA eG) av) lK) (.Y 1 (.eq (.a ao av) (.a ah am))) ae (bn (aQ [_,_] [] (.le av (.a ah am)) (.lt b6 am) ae h))]
  rfl
theorem xI {v:Value}:∀ k:Nat,List.foldl (fun x1 x2=>x1++x2) (#[]:Array Value) (List.replicate k #[v])=Array.replicate k v:=by
 have key:∀ (k:Nat) (acc:Array Value),List.foldl (fun x1 x2=>x1++x2) acc (List.replicate k #[v])=acc++Array.replicate k v:=by
  intro k
  induction k with
  | zero=>intro acc;simp
  | succ k ih =>
   intro acc
   rw[ru,rH,ih]
   apply Array.toList_inj.mp
   simp[ru]
 intro k
 rw[key];simp
noncomputable def digCount (a n:Nat):Nat:=(Builtin.Int.intBits (a:Int)+n-1)/n
theorem ii {A:Around}{x n:Nat}{t tn:Tok}{a:Addr}(B:Base C mg mb g)(e:mg (ax (st 14))=some (.ref a))(hn0:0<n)(hn1:n≤1000)(hx:x<2^1000)(hK:digCount x n≤500)(rm:Rm A (digCount x n+2)) :
  W C A (call (.ref a) [.int x t,.int n tn] []) g M (fun v g' M'=>M'=M∧∃ D,v=.ref D∧Fz g' D (pb (fun j=>x/2^(n*j)%2^n) (digCount x n))):=by
 refine aK (B.defs 14 rfl (by decide)) fun a' c e' Da hq=>?_
 have:a'=a:=by rw[e] at e';cases e';rfl
 subst this
 have hT:=hq (by decide)
 have hbits:Builtin.Int.intBits (x:Int)≤1000:=dF hx
 have hnk:Builtin.Int.intBits (x:Int)≤n*digCount x n:=by
  unfold digCount
  have:=rl (Builtin.Int.intBits (x:Int)+n-1) n
  have h2:=cQ (Builtin.Int.intBits (x:Int)+n-1) hn0
  exact cZ [_,_,_,_,_] [] (.le ah am) (.Y 1 (.eq (.a am ao) aM)) (.lt ao bD) (.le (.a ah bD) (.a aM av)) ae this h2 (aE _ _)
 refine ic (k:=3) (binds:=[("a",.int x t),("n",.int n tn)]) Da B.lim rm.room (fun O=>rfl) rfl fun L as has=>?_
 obtain ⟨a1,a2,a3,rfl⟩:∃ a1 a2 a3,as=[a1,a2,a3]:=by
  match as,has with
  | [x,y,z],_=>exact (gJ x y z rfl)
 refine aN (aX (i:=3) (by rfl) ?_)
 refine aN (aH (i:=2) (by rfl) (by rfl) ?_)
 refine W_binds_nil ?_
 refine bM (i:=2) rfl fun g₁ l₁ Hn=>?_
 refine af ?_
 refine aA ?_
 refine bh ?_
 refine et ?_
 ac_nf
 refine ⟨by simp only[List.length];decide,fun D₀=>?_⟩
 ac_nf
 intro pl
 refine' lD ?_
 ac_nf
 refine ⟨ap,?_⟩
 show W _ _ (call (.builtin "int.bit_length") [.int x t]) _ _ _
 refine tM fun O O=>?_
 ac_nf
 refine cX (ku (aQ [_] [] (.T b6 bA) (.lt b6 ah) ae hn0)) (PyProof.noPylong_small (aQ [_] [] (.lt ah cI) (.le ah bg) ae hn1)) fun O O=>?_
 rw[(yg (a:=x) (n:=n)).resolve_right (df hn0)]
 change W _ _ (binaryOp .Mult (.ref D₀) (.int ((digCount x n:Nat):Int) _)) _ _ _
 generalize hKd:digCount x n=K at *
 refine ud (.own (.head _)) (⟨eF [_] [] (.L b6 bA) ae,aQ [_] [] (.T bA (.p 2 62)) (.le ah (.l 500)) ae hK⟩) (by rfl) (by show 1*_≤_;exact ln2 [_,_] [] (.le (.m 1 ah) (.p 2 24)) (.le am (.l 500)) (.Q bA eG) ae hK (jX (eF [_] [] (.L b6 bA) ae))) fun D=>?_
 rw[show ((K:Nat):Int).toNat=K from d3 K,xI]
 refine aH (i:=3) (by rfl) (by rfl) ?_
 refine eP (i:=1) ?_
 refine af (jI (c:=c) (qs:=qsOf 14) (qual:=q14) (cl:=[("n",a1),("inner",a3),("a_digits",a2)]) (fun O=>rfl) (B.mono l₁).bi hT rfl rfl rfl (.head _) (fun x hx O O=>by cases hx with|head=>rfl|tail _ h=>cases h) fun f c' g₂ ct l₂ hcd=>?_)
 refine aH (i:=2) (by rfl) (by rfl) ?_
 refine bM (i:=0) rfl fun g₃ l₃ Hf=>?_
 refine bM (i:=1) rfl fun g₄ l₄ Hi=>?_
 refine bM (i:=1) rfl fun g₅ l₅ Hd=>?_
 replace Hi:=Hi.mono l₅
 replace Hf:=Hf.mono (l₄.trans l₅)
 have l₆:=l₂.trans (l₃.trans (l₄.trans l₅))
 replace Hn:=Hn.mono l₆
 replace hcd:=hcd.mono (l₃.trans (l₄.trans l₅))
 replace B:=B.mono (l₁.trans l₆)
 clear l₁ l₂ l₃ l₄ l₅ l₆
 refine rU (i:=0) (P':=bq (Array.replicate K (.int 0 _))) rfl (fun o h=>bj h) ?_
 ac_nf
 split
 ·rename_i hx0
  have hx0':x≠0:=by simpa using hx0
  have hKp:0<K:=by
   rw[← hKd]
   unfold digCount
   refine Nat.div_pos ?_ hn0
   have:0<Builtin.Int.intBits (x:Int):=by
    unfold Builtin.Int.intBits
    simp[hx0']
   exact ln2 [_,_,_] [] (.le ah am) (.lt b6 ao) (.le (.a ao ah) (.a am av)) ae this (aE _ _)
  ac_nf
  refine bL B eN ?_
  ac_nf
  refine ⟨ap,?_⟩
  show W _ _ (call (.builtin "len") [.ref D]) _ _ _
  refine fJ (.own (.head _)) (by rw[vH];exact dV hK (by decide)) fun t'=>?_
  rw[vH]
  ac_nf
  refine ⟨ek (.fz Hf),?_⟩
  refine (y6 (bw hn1 (by decide)) K _ x 0 K _ _ t' _ _ 0 (Array.replicate K (.int 0 _)) (eF [_] [] (.eq ah (.a b6 ah)) ae) hKp (by rw[vH];exact dX _) (by rw[vH];exact bw hK (by decide)) (by rw[vH];exact bw (lF hn1 hK) (by decide)) ?_ (rm.deeper.le (dX _)) B.lim Hn Hd Hi rfl Hf hcd).mono ?_
  ·have h1:=natAbs_lt_pow_bits (x:Int)
   rw[jr] at h1
   exact b9 h1 (fv (by decide) hnk)
  refine fun O g₆ O l₆ q7=>d6 q7 fun q8 ys F q9=>?_;clear q7;subst q8;subst q9
  refine ⟨fun O h=>Value.noConfusion h,?_⟩
  refine bu ?_
  refine bM (i:=0) rfl fun g₇ l₇ FD=>?_
  replace Hd:=Hd.mono (l₆.trans l₇)
  ac_nf
  refine (bP ([_]) M rfl rfl D (jb rfl (FD.imp fun o h=>(bU ys h (by rw[F.1,vH]) (fun j hj=>?_)))))
  refine bK (F.2.1 j (iE _) hj) fun t₂ e₂=>?_
  exact ⟨t₂,e₂⟩
 ·rename_i hx0
  have hx0':x=0:=by simpa using hx0
  subst hx0'
  have hK0:K=0:=by
   rw[← hKd]
   unfold digCount
   rw[show Builtin.Int.intBits ((0:Nat):Int)=0 from rfl]
   exact rd (aQ [_,_] [] (.lt ah am) (.eq (.a ah av) (.a b6 am)) ae (bn (aQ [_] [] (.le av (.a b6 ah)) (.lt b6 ah) ae hn0)))
  subst hK0
  refine bM (i:=0) rfl fun g₇ l₇ FD=>?_
  replace Hd:=Hd.mono l₇
  ac_nf
  exact (bP ([_]) M rfl rfl D (jb rfl (FD.imp fun o h=>(bU _ h (by simp) (fun j hj=>absurd hj (qN _))))))
end
end
section
section
variable {C:Cx}{g:G}{M:be}{mg mb:Str→Option Value}
theorem u7 {A:Around}{x b n:Nat}{t u v:Tok}{a:Addr}(B:Base C mg mb g)(e:mg (ax (st 12))=some (.ref a))(hb:0<b)(hb2:b<2^9000)(hx:Builtin.Int.intBits (x:Int)≤n+4000)(rm:Rm A 1) :
  W C A (call (.ref a) [.int x t,.int b u,.int n v] []) g M (fun r g' M'=>M'=M∧∃ T t u,r=.ref T∧Fz g' T (bS #[.int ((x/b:Nat):Int) t,.int ((x%b:Nat):Int) u])):=by
 refine aK (B.defs 12 rfl (by decide)) fun a' c e' Da O=>?_
 have:a'=a:=by rw[e] at e';cases e';rfl
 subst this
 refine bK B.divl fun td hdiv=>?_
 refine ft Da B.lim rm.room (binds:=[("a",.int x t),("b",.int b u),("n",.int n v)]) (fun O=>rfl) rfl fun L=>?_
 refine af ?_
 ac_nf
 intro pl
 refine' lD ?_
 ac_nf
 refine ⟨ap,?_⟩
 show W _ _ (call (.builtin "int.bit_length") [.int x t]) _ _ _
 refine tM fun O O=>?_
 ac_nf
 refine bF B hdiv ?_
 ac_nf
 rw[if_pos (by simp;exact aQ [_,_] [] (.L (.s bA eG) (.l 4000)) (.le ah (.a am (.l 4000))) ae hx)]
 ac_nf
 refine bL B vm ?_
 ac_nf
 refine ⟨ap,?_⟩
 show W _ _ (call (.builtin "divmod") [.int x t,.int b u]) _ _ _
 refine xH (ku (aQ [_] [] (.T b6 bA) (.lt b6 ah) ae hb)) (PyProof.noPylong_of_log2 ?_) fun g' T t' u' l' F=>?_
 ·rw[jr]
  exact (Nat.log2_lt (df hb)).mpr hb2
 have e1:(x:Int).fdiv (b:Int)=((x/b:Nat):Int):=by rw[gV _ (cY _)];rfl
 have e2:(x:Int).fmod (b:Int)=((x%b:Nat):Int):=by rw[im _ (cY _)];rfl
 rw[e1,e2] at F
 exact (bP ([_]) M rfl rfl T (bV t' u' rfl F))
theorem wv {x:Str}{v:Value}{r:List (Str×Value)}:∀ {l:List (Str×Value)},lk l x=some v→lk (l++r) x=some v
 | [],h=>by cases h
 | (y,u)::l,h=>by
  simp only[lk,lC] at h ⊢
  split
  ·rename_i q;rw[if_pos q] at h;exact h
  ·rename_i q;rw[if_neg q] at h;exact wv h
theorem uX {l r:List (Str×Value)}(o:Obj)(h:aJ (l++r) o):aJ l o:=xh (fun O O e=>wv e) o h
noncomputable def qd (a b n j:Nat):Nat:=(a/2^(n*(j+1))%b*2^n+a/2^(n*j)%2^n)/b
theorem rk (a n j:Nat):a/2^(n*j)=a/2^(n*(j+1))*2^n+a/2^(n*j)%2^n:=by
 have h:=rl (a/2^(n*j)) (2^n)
 rw[Nat.div_div_eq_div_mul,← og,show n*j+n=n*(j+1) from by rw[oz,oL],ζ33] at h
 exact h.symm
theorem zy {a b n j:Nat}(hb:0<b):(a/2^(n*(j+1))%b*2^n+a/2^(n*j)%2^n)%b=a/2^(n*j)%b:=by
 conv=>rhs;rw[rk a n j]
 rw[Nat.add_mod,Nat.mul_mod,Nat.mod_mod,← Nat.mul_mod,← Nat.add_mod]
theorem zn {a b n j:Nat}(hb:0<b):a/2^(n*j)/b=qd a b n j+2^n*(a/2^(n*(j+1))/b):=by
 unfold qd
 conv=>lhs;rw[rk a n j]
 generalize hA:a/2^(n*(j+1))=A1
 generalize a/2^(n*j)%2^n=d
 have h:=rl A1 b
 have e:A1*2^n+d=A1%b*2^n+d+2^n*(A1/b)*b:=by
  conv=>lhs;rw[← h]
  rw[lc,ζ33 b (A1/b),pk,ζ33 b (2^n),← pk,ζ33 (A1/b) (2^n)]
  exact eF [_,_,_] [] (.eq (.a (.a ah am) ao) (.a (.a am ao) ah)) ae
 rw[e,Nat.add_mul_div_right _ _ hb]
theorem Bj {a b n j:Nat}(hb:0<b):qd a b n j<2^n:=by
 unfold qd
 rw[Nat.div_lt_iff_lt_mul hb]
 have h1:a/2^(n*(j+1))%b<b:=cQ _ hb
 have h2:a/2^(n*j)%2^n<2^n:=cQ _ (ot n)
 generalize a/2^(n*(j+1))%b=r at *
 have h3:(r+1)*2^n≤b*2^n:=rn _ h1
 rw[lc,j9,ζ33 b] at h3
 exact ln2 [_,_,_,_] [] (.lt (.a ah am) ao) (.lt am aM) (.le (.a ah aM) ao) ae h2 h3
theorem xr {a b n:Nat}(hb:0<b):∀ (k j:Nat),a/2^(n*(j+k))=0→dsum (qd a b n) n j k=a/2^(n*j)/b
 | 0,j,h=>by
  rw[pj] at h
  simp[dsum,h]
 | k+1,j,h=>by
  simp only[dsum]
  rw[xr hb k (j+1) (by rw[← h];congr 3;exact eF [_,_] [] (.eq (.a (.a ah av) am) (.a ah (.a am av))) ae),← zn hb]
theorem pG {A:Around}{x b:Nat}{t u:Tok}{a:Addr}(B:Base C mg mb g)(e:mg (ax (st 16))=some (.ref a))(hb:0<b)(hb2:b<2^1000)(hx:x<2^1000)(hK:digCount x (Builtin.Int.intBits (b:Int))≤500)(rm:Rm A (digCount x (Builtin.Int.intBits (b:Int))+4))(hA:A.handled=none) :
    W C A (call (.ref a) [.int x t,.int b u] []) g M (fun r g' M'=>M'=M∧∃ T t u,r=.ref T∧Fz g' T (bS #[.int ((x/b:Nat):Int) t,.int ((x%b:Nat):Int) u])):=by
  refine aK (B.defs 16 rfl (by decide)) fun a' c e' Da O=>?_
  have:a'=a:=by rw[e] at e';cases e';rfl
  subst this
  refine bK (B.get 14) fun a14 e14=>?_
  refine bK (B.get 15) fun a15 e15=>?_
  refine bK (B.get 12) fun a12 e12=>?_
  have hn0:0<Builtin.Int.intBits (b:Int):=by
    unfold Builtin.Int.intBits
    rw[if_neg (by simp;exact df hb)]
    exact b9 (by decide) (j6 _ _)
  have hn1:Builtin.Int.intBits (b:Int)≤1000:=dF hb2
  have hbn:b<2^Builtin.Int.intBits (b:Int):=by
    have:=natAbs_lt_pow_bits (b:Int)
    rwa [jr] at this
  refine ft Da B.lim rm.room (binds:=[("a",.int x t),("b",.int b u)]) (fun O=>rfl) rfl fun L=>?_
  refine af ?_
  ac_nf
  intro pl
  refine' lD ?_
  ac_nf
  refine ⟨ap,?_⟩
  show W _ _ (call (.builtin "int.bit_length") [.int b u]) _ _ _
  refine tM fun tn O=>?_
  generalize hn:Builtin.Int.intBits (b:Int)=n at *
  ac_nf
  refine bF B e14 ?_
  ac_nf
  refine ⟨B.kept 14 e14,?_⟩
  refine (ii B e14 hn0 hn1 hx hK (rm.deeper.le (eF [_] [] (.le (.a ah cH) (.a ah pF)) ae))).mono ?_
  refine fun O g₁ O l₁ q1=>d6 q1 fun q2 D q3 FD=>?_;clear q1;subst q2;subst q3
  replace B:=B.mono l₁
  ac_nf
  refine et ?_
  ac_nf
  refine ⟨by simp only[List.length];decide,fun Dq=>?_⟩
  refine aX (i:=1) (by rfl) ?_
  refine hH (id FD) fun oD gD xs hxs hsz hval=>?_
  have SD:Fz g₁ D (bq xs):=(aG oD gD hxs)
  refine af (uw ?_)
  ac_nf
  refine bL B qY ?_
  ac_nf
  refine ⟨br,?_⟩
  show W _ _ (call (.type "reversed") [.ref D]) _ _ _
  refine sP SD fun I hI=>?_
  refine sG SD hI fun P Dr=>?_
  generalize hKd:digCount x n=K at *
  have hxK:x<2^(n*K):=by
    have h1:=natAbs_lt_pow_bits (x:Int)
    rw[jr] at h1
    refine b9 h1 (fv (by decide) ?_)
    rw[← hKd]
    unfold digCount
    have:=rl (Builtin.Int.intBits (x:Int)+n-1) n
    have h2:=cQ (Builtin.Int.intBits (x:Int)+n-1) hn0
    exact cZ [_,_,_,_,_] [] (.le ah am) (.Y 1 (.eq (.a am ao) aM)) (.lt ao bD) (.le (.a ah bD) (.a aM av)) ae this h2 (aE _ _)
  refine (ba I P xs.size _ _ (dy (fun k g' M'=>∃ ys tr,M'=(Dq,ai ys)::(L,aJ [("a",.int x t),("b",.int b u),("n",.int n tn),("a_digits",.ref D),("r",.int ((x/2^(n*(K-k))%b:Nat):Int) tr),("q_digits",.ref Dq)])::M∧ys.size=k∧∀ j,j<k→∃ t,ys[j]?=some (.int ((qd x b n (K-1-j):Nat):Int) t)) rfl rfl (Dr _ hA) ?_ (iPPP ik ?_ ?_)))
  · refine (an (#[]) ?tok ?eq rfl (fun j hj=>absurd hj (qN _)))
    case eq =>
     have h0:x/2^(n*(K-0))%b=0:=by
      rw[Nat.sub_zero,rd hxK,Nat.zero_mod]
     rw[h0]
     exact rfl
  · refine fun k g' O v hk l' q4 hv=>aK q4 fun ys tr q5 hys hdig=>?_;clear q4;subst q5
    rw[hsz] at hk hv
    refine bK (hval (K-1-k) (ln2 [_,_,_] [] (.lt ah am) (.le ah ao) (.eq (.a ao av) am) ae (de _ _) (bn (aQ [_,_] [] (.le av ah) (.lt am ah) ae hk)))) fun td hvd=>?_
    rw[hvd] at hv
    cases hv
    replace B:=B.mono l'
    refine aF (aX (i:=2) (by rfl) ?_)
    ac_nf
    refine bF B e12 ?_
    ac_nf
    have hr:x/2^(n*(K-k))%b<b:=cQ _ hb
    have hd:x/2^(n*(K-1-k))%2^n<2^n:=cQ _ (ot n)
    refine xq (cY _) ?_ fun O O=>?_
    · have h3:=dF (jw hr hb2)
      exact ln2 [_,_] [] (.L (.a bA eG) (.p 2 27)) (.le am bg) (.le ah bg) ae hn1 h3
    ac_nf
    refine ⟨B.kept 12 e12,?_⟩
    have e1:((x/2^(n*(K-k))%b:Nat):Int)*2^((n:Nat):Int).toNat+((x/2^(n*(K-1-k))%2^n:Nat):Int)=((x/2^(n*(K-1-k+1))%b*2^n+x/2^(n*(K-1-k))%2^n:Nat):Int):=by
      rw[d3,show K-1-k+1=K-k from by exact cZ [_,_,_,_,_] [] (.eq (.a ah av) am) (.eq (.a ah ao) aM) (.eq (.a aM av) bD) (.Y 1 (.eq (.a am ao) bD)) ae (bn (ln2 [_,_,_] [] (.le ah am) (.lt ah ao) (.le ao (.a am av)) ae hk (aE _ _))) (bn (aQ [_,_] [] (.le av ah) (.lt am ah) ae hk)) (bn (bY hk))]
      push_cast
      rfl
    rw[e1]
    refine (u7 B e12 hb (jw hb2 (wa (by decide) (by decide))) ?_ (rm.deeper.le (bw (by decide) (j6 _ _)))).mono ?_
    · have h4:x/2^(n*(K-1-k+1))%b*2^n+x/2^(n*(K-1-k))%2^n<2^(n+n):=by
        rw[show K-1-k+1=K-k from by exact cZ [_,_,_,_,_] [] (.eq (.a ah av) am) (.eq (.a ah ao) aM) (.eq (.a aM av) bD) (.Y 1 (.eq (.a am ao) bD)) ae (bn (ln2 [_,_,_] [] (.le ah am) (.lt ah ao) (.le ao (.a am av)) ae hk (aE _ _))) (bn (aQ [_,_] [] (.le av ah) (.lt am ah) ae hk)) (bn (bY hk)),og]
        generalize x/2^(n*(K-k))%b=r at *
        have h5:(r+1)*2^n≤2^n*2^n:=rn _ (bw hr (bY hbn))
        rw[lc,j9] at h5
        exact ln2 [_,_,_,_] [] (.lt (.a ah am) ao) (.lt am aM) (.le (.a ah aM) ao) ae hd h5
      have h6:=dF h4
      exact ln2 [_,_] [] (.le ah (.a am (.l 4000))) (.le am bg) (.le ah (.a am am)) ae hn1 h6
    refine fun O g₂ O l₂ q6=>gr q6 fun q7 T t₁ t₂ q8 FT=>?_;clear q6;subst q7;subst q8
    refine cj hA (.fz FT) ?_
    ac_nf
    intro pl
    refine fG F.slot_list_append F.type_list_append (.own (.tail _ (.head _))) ?_
    ac_nf
    refine ⟨ap,?_⟩
    show W _ _ (call (.builtin "list.append") [.ref Dq,.int ((qd x b n (K-1-k):Nat):Int) t₁]) _ _ _
    refine iJ (i:=1) (by rfl) (by rw[hys];exact bw (bY hk) (bw hK (by decide))) ?_
    refine ⟨fun O h=>Value.noConfusion h,?_⟩
    refine rU (i:=2) (P:=aJ ([(("a":Str),Value.int x t),(("b":Str),Value.int b u),(("n":Str),Value.int n tn),(("a_digits":Str),Value.ref D),(("r":Str),Value.int _ t₂),(("q_digits":Str),Value.ref Dq)]++[(("a_digit":Str),Value.int _ td),(("q_digit":Str),Value.int _ t₁)])) (by rfl) uX ?_
    refine bu ?_
    refine (dB ([]) _ rfl (ys.push (.int ((qd x b n (K-1-k):Nat):Int) t₁)) t₂ (iPPP ?_ (by rw[re,hys]) (fun j hj=>?_)))
    · rw[zy hb,show K-(k+1)=K-1-k from by exact cZ [_,_,_,_,_] [] (.eq ah am) (.eq (.a ah (.a ao av)) aM) (.Y 1 (.eq (.a am ao) bD)) (.Y 1 (.eq (.a bD av) aM)) ae (bn (aQ [_,_] [] (.le (.a ah av) am) (.lt ah am) ae hk)) (bn (ln2 [_,_,_] [] (.le ah am) (.lt ah ao) (.le ao (.a am av)) ae hk (aE _ _))) (bn (aQ [_,_] [] (.le av ah) (.lt am ah) ae hk))]
      rfl
    · rcases Nat.lt_succ_iff_lt_or_eq.mp hj with h|h
      · refine bK (hdig j h) fun t₃ e₃=>?_
        exact ⟨t₃,by rw[Array.getElem?_push_lt (b9 h (cG hys.symm))];rw[← e₃,Array.getElem?_eq_getElem]⟩
      · subst h
        exact ⟨t₁,by rw[← hys,Array.getElem?_push_size,hys]⟩
  · refine fun g' O l' q9=>aK q9 fun ys tr q10 hys hdig=>?_;clear q9;subst q10
    rw[hsz] at hys hdig
    replace B:=B.mono l'
    refine af ?_
    ac_nf
    intro pl
    refine fG F.slot_list_reverse F.type_list_reverse (.own (.head _)) ?_
    ac_nf
    refine ⟨ap,?_⟩
    show W _ _ (call (.builtin "list.reverse") [.ref Dq]) _ _ _
    refine vd (i:=0) (by rfl) (by rw[hys];exact bw hK (by decide)) ?_
    refine ⟨fun O h=>Value.noConfusion h,?_⟩
    refine bM (i:=0) rfl fun g₃ l₃ FQ=>?_
    replace B:=B.mono l₃
    ac_nf
    refine bF B e15 ?_
    ac_nf
    refine ⟨B.kept 15 e15,?_⟩
    have hDig:Fz g₃ Dq (pb (qd x b n) K):=FQ.imp fun o h=>(bU _ (bj h) (by rw[Array.size_reverse,hys]) (fun j hj=>by
      refine bK (hdig (K-1-j) (ln2 [_,_,_] [] (.lt ah am) (.le ah ao) (.eq (.a ao av) am) ae (de _ _) (bn (aQ [_,_] [] (.le av ah) (.lt am ah) ae hj)))) fun t₄ e₄=>?_
      refine ⟨t₄,?_⟩
      rw[Array.getElem?_reverse (b9 hj (cG hys.symm)),hys,e₄]
      rw[show K-1-(K-1-j)=j from by exact ln2 [_,_,_,_] [] (.eq ah am) (.eq (.a ah ao) aM) (.Y 1 (.eq (.a ao am) aM)) ae (bn (de _ _)) (bn (ln2 [_,_,_] [] (.le ah am) (.lt ah ao) (.le ao (.a am av)) ae hj (aE _ _)))]))
    refine (gY B e15 (fun j=>Bj hb) ?_ (bw hn1 (by decide)) (bw hK (by decide)) (rm.deeper.le (eF [_] [] (.le (.a ah cH) (.a ah pF)) ae)) hDig).mono ?_
    · exact bw (lF hn1 hK) (by decide)
    refine fun O g₄ O l₄ q11=>ew q11 fun q12 t₅ q13=>?_;clear q11;subst q12;subst q13
    ac_nf
    refine ed ?_
    ac_nf
    refine ⟨by simp only[List.length];decide,fun T g₅ l₅ FT=>?_⟩
    refine (bP ([_]) M rfl rfl T (bV t₅ tr rfl ?_))
    have e1:dsum (qd x b n) n 0 K=x/b:=by
      rw[xr hb K 0 (by rw[qx];exact rd hxK),Nat.mul_zero,Nat.pow_zero,Nat.div_one]
    have e2:x/2^(n*(K-K))%b=x%b:=by rw[nh,Nat.mul_zero,Nat.pow_zero,Nat.div_one]
    rw[hsz,e2,e1] at FT
    exact FT
end
end
section
section
variable {C:Cx}{g:G}{M:be}{mg mb:Str→Option Value}
theorem rR {y m n:Nat}(hn:0<n)(hy:y<2^m)(hm:m≤150*n):digCount y n≤150:=by
 unfold digCount
 have:=dF hy
 have h:Builtin.Int.intBits (y:Int)+n-1<151*n:=by exact cZ [_,_,_,_] [] (.lt ah (.m 151 am)) (.le ao (.m 150 am)) (.le aM ao) (.eq (.a ah av) (.a aM am)) ae hm this (bn (aQ [_,_] [] (.le av (.a ah am)) (.lt b6 am) ae hn))
 have:=Nat.div_lt_of_lt_mul (by rw[ζ33];exact h:Builtin.Int.intBits (y:Int)+n-1<n*151)
 exact aQ [_] [] (.le ah (.l 150)) (.lt ah (.l 151)) ae this
noncomputable abbrev pS (a b:Int)(M:be):PQ Value:=fun r g' M'=>M'=M∧∃ T t u,r=.ref T∧Fz g' T (bS #[.int (a.fdiv b) t,.int (a.fmod b) u])
theorem xn {b:Int}(h:b≠0):0<Builtin.Int.intBits b:=by
 unfold Builtin.Int.intBits
 rw[if_neg (by simpa using h)]
 exact b9 (by decide) (j6 _ _)
theorem xd (b:Int):Builtin.Int.intBits (-b)=Builtin.Int.intBits b:=by
 unfold Builtin.Int.intBits
 rw[Int.natAbs_neg]
 simp
theorem rM {A:Around}{x b:Nat}{t u:Tok}{a:Addr}{m:Nat}(B:Base C mg mb g)(e:mg (ax (st 17))=some (.ref a))(hb:0<b)(hb2:b<2^900)(hx:x<2^m)(hm:m≤900)(hmb:m≤150*Builtin.Int.intBits (b:Int))(rm:Rm A 160) :
  W C A (call (.ref a) [.int x t,.int b u] []) g M (pS x b M):=by
 refine aK (B.defs 17 rfl (by decide)) fun a' c e' Da O=>?_
 have:a'=a:=by rw[e] at e';cases e';rfl
 subst this
 refine bK (B.get 16) fun a16 e16=>?_
 refine ft Da B.lim rm.room (binds:=[("a",.int x t),("b",.int b u)]) (fun O=>rfl) rfl fun L=>?_
 refine af ?_
 ac_nf
 rw[if_neg (by simp;exact df hb)]
 ac_nf
 rw[if_neg (by simp)]
 ac_nf
 rw[if_neg (by simp)]
 ac_nf
 refine bF B e16 ?_
 ac_nf
 refine ⟨B.kept 16 e16,?_⟩
 have hd:=rR (xn (b:=b) (ku (aQ [_] [] (.T b6 bA) (.lt b6 ah) ae hb))) hx hmb
 have h1000:(2:Nat)^900≤2^1000:=fv (by decide) (by decide)
 have hx2:x<2^1000:=b9 hx (fv (by decide) (bw hm (by decide)))
 refine (pG B e16 hb (b9 hb2 h1000) hx2 (bw hd (by decide)) (rm.deeper.le (mt (bw hd (by decide)) _)) rm.h).mono ?_
 refine fun O g₁ O l₁ q1=>gr q1 fun q2 T t₁ t₂ q3 F=>?_;clear q1;subst q2;subst q3
 refine (bP ([_]) M rfl rfl T (bV t₁ t₂ rfl ?_))
 rw[gV _ (cY _),im _ (cY _)]
 exact F
theorem qM {A:Around}{x:Int}{b:Nat}{t u:Tok}{a:Addr}{m:Nat}(B:Base C mg mb g)(e:mg (ax (st 17))=some (.ref a))(hb:0<b)(hb2:b<2^900)(hx:x.natAbs<2^m)(hm:m≤900)(hmb:m≤150*Builtin.Int.intBits (b:Int))(rm:Rm A 161) :
  W C A (call (.ref a) [.int x t,.int b u] []) g M (pS x b M):=by
 by_cases hx0:0≤x
 ·refine bK (wX hx0) fun n q4=>?_;subst q4
  exact rM B e hb hb2 (by simpa using hx) hm hmb (rm.le (by decide))
 refine aK (B.defs 17 rfl (by decide)) fun a' c e' Da O=>?_
 have:a'=a:=by rw[e] at e';cases e';rfl
 subst this
 refine ft Da B.lim rm.room (binds:=[("a",.int x t),("b",.int b u)]) (fun O=>rfl) rfl fun L=>?_
 refine af ?_
 ac_nf
 rw[if_neg (by simp;exact df hb)]
 ac_nf
 rw[if_neg (by simp)]
 ac_nf
 rw[if_pos (by simp;exact aQ [] [_] (.T dq b6) (.M b6 dq) ae hx0)]
 ac_nf
 refine bF B e ?_
 ac_nf
 refine xa fun O O=>?_
 ac_nf
 refine ⟨B.kept 17 e,?_⟩
 have en:Builtin.bitNot x=(((-x-1).toNat:Nat):Int):=by unfold Builtin.bitNot;exact aQ [_] [_] (.Q (.s (.g dq) av) bA) (.Y 1 (.Q bA (.s (.g dq) av))) ae (jX (aQ [] [_] (.L b6 (.s (.g dq) av)) (.M b6 dq) ae hx0))
 rw[en]
 refine (rM B e hb hb2 (by omega) hm hmb (rm.deeper.le (dX _))).mono ?_
 refine fun O g₁ O l₁ q5=>gr q5 fun q6 T t₁ t₂ q7 F=>?_;clear q5;subst q6;subst q7
 refine cj rm.h (.fz F) ?_
 ac_nf
 refine ed ?_
 ac_nf
 refine xa fun O O=>?_
 ac_nf
 refine xa fun O O=>?_
 ac_nf
 have e1:Builtin.bitNot ((Builtin.bitNot x).fdiv b)=x.fdiv b:=by
  unfold Builtin.bitNot
  rw[gV _ (cY _),gV _ (cY _)]
  have h1:=Int.mul_ediv_add_emod (-x-1) b
  have h2:=Int.emod_nonneg (-x-1) (b:=b) (ku (aQ [_] [] (.T b6 bA) (.lt b6 ah) ae hb))
  have h3:=Int.emod_lt_of_pos (-x-1) (b:=b) (by exact aQ [_] [] (.T b6 bA) (.lt b6 ah) ae hb)
  symm
  rw[Int.ediv_eq_iff_of_pos (by exact aQ [_] [] (.T b6 bA) (.lt b6 ah) ae hb)]
  generalize (-x-1)/(b:Int)=q at *
  rw[Int.sub_mul,pi,nB,pP]
  constructor<;>(first|exact ln2 [_] [_,_,_] (.L (.s (.g dq) bA) ji) (.T sw bA) (.Y 1 (.Q (.a dq sw) (.s (.g ji) av))) ae h3 h1|exact ln2 [_] [_,_,_] (.T dq (.a (.s (.g ji) bA) bA)) (.L b6 sw) (.Q (.a ji sw) (.s (.g dq) av)) ae h2 h1)
 have e2:(b:Int)+Builtin.bitNot ((Builtin.bitNot x).fmod b)=x.fmod b:=by
  have h1:=wq x b
  have h2:=wq (Builtin.bitNot x) b
  rw[← e1] at h1
  unfold Builtin.bitNot at h1 h2 ⊢
  generalize (-x-1).fdiv (b:Int)=q at *
  rw[Int.mul_sub,Int.mul_neg,ph] at h1
  exact ln2 [_] [_,_,_,_] (.Q (.a bA (.s (.g dq) av)) ji) (.Y 1 (.Q (.a (.s (.g sw) bA) ji) At)) (.Y 1 (.Q (.a sw dq) (.s (.g At) av))) ae h1 h2
 refine ⟨by simp only[List.length];decide,fun T' g₂ l₂ F'=>?_⟩
 rw[← en,e1,e2] at F'
 exact (bP ([_]) M rfl rfl T' (bV _ _ rfl F'))
theorem ij {A:Around}{x b:Int}{t u:Tok}{a:Addr}{m:Nat}(B:Base C mg mb g)(e:mg (ax (st 17))=some (.ref a))(hb:b≠0)(hb2:b.natAbs<2^900)(hx:x.natAbs<2^m)(hm:m≤900)(hmb:m≤150*Builtin.Int.intBits b)(rm:Rm A 162) :
  W C A (call (.ref a) [.int x t,.int b u] []) g M (pS x b M):=by
 by_cases hb0:0≤b
 ·refine bK (wX hb0) fun n q8=>?_;subst q8
  exact qM B e (by exact aQ [_] [] (.lt b6 ah) (.T b6 bA) ae (Aw hb0 (Ne.symm hb))) (by simpa using hb2) hx hm hmb (rm.le (by exact by decide))
 refine aK (B.defs 17 rfl (by decide)) fun a' c e' Da O=>?_
 have:a'=a:=by rw[e] at e';cases e';rfl
 subst this
 refine ft Da B.lim rm.room (binds:=[("a",.int x t),("b",.int b u)]) (fun O=>rfl) rfl fun L=>?_
 refine af ?_
 ac_nf
 rw[if_neg (by simp;exact Int.ne_of_lt (aQ [] [_] (.T dq b6) (.M b6 dq) ae hb0))]
 ac_nf
 rw[if_pos (by simp;exact aQ [] [_] (.T dq b6) (.M b6 dq) ae hb0)]
 ac_nf
 refine bF B e ?_
 ac_nf
 refine fy fun O O=>?_
 ac_nf
 refine fy fun O O=>?_
 ac_nf
 refine ⟨B.kept 17 e,?_⟩
 have en:-b=(((-b).toNat:Nat):Int):=by exact aQ [_] [_] (.Q (.g dq) bA) (.Y 1 (.Q bA (.g dq))) ae (jX (aQ [] [_] (.L b6 (.g dq)) (.M b6 dq) ae hb0))
 rw[en]
 refine (qM B e (by exact ln2 [_] [_] (.lt b6 ah) (.M b6 dq) (.Q (.g dq) bA) ae hb0 en) (by omega) (by rw[Int.natAbs_neg];exact hx) hm (by rw[← en,xd];exact hmb) (rm.deeper.le (by exact dX _))).mono ?_
 refine fun O g₁ O l₁ q9=>gr q9 fun q10 T t₁ t₂ q11 F=>?_;clear q9;subst q10;subst q11
 refine cj rm.h (.fz F) ?_
 ac_nf
 refine ed ?_
 ac_nf
 refine fy fun O O=>?_
 ac_nf
 have e1:(-x).fdiv (-b)=x.fdiv b:=Int.neg_fdiv_neg _ _
 have e2:-(-x).fmod (-b)=x.fmod b:=by
  have h1:=wq x b
  have h2:=wq (-x) (-b)
  rw[e1,pi] at h2
  exact ln2 [] [_,_,_,_] (.Q (.g dq) ji) (.Y 1 (.Q (.a sw ji) At)) (.Y 1 (.Q (.a (.g sw) dq) (.g At))) ae h1 h2
 refine ⟨by simp only[List.length];decide,fun T' g₂ l₂ F'=>?_⟩
 rw[← en,e1,e2] at F'
 exact (bP ([_]) M rfl rfl T' (bV _ _ rfl F'))
end
end
section
noncomputable def vy:Option Expr→Option Int
 | some (.Constant (.int k) _ _)=>some k
 | _=>none
noncomputable def vw:Expr→Option Str
 | .Constant (.str x) _ _=>some x
 | _=>none
noncomputable def uD:List (Option Expr)→List Expr→List (Int×Str)
 | k::ks,v::vs=>((vy k).getD 0,(vw v).getD "")::uD ks vs
 | _,_=>[]
noncomputable def zp:List (Int×Str) :=
 match st 21 with
 | .Assign _ (.Dict ks vs _) _=>uD ks vs
 | _=>[]
noncomputable def BU (k:Int):Option Str:=(zp.find? fun p=>p.1==k).map (·.2)
noncomputable def ju:List Int:=[173,847,6150,6155,6156,6157,8203,8204,8205,8288,65279,65024,65025,65026,65027,65028,65029,65030,65031,65032,65033,65034,65035,65036,65037,65038,65039]
structure Prep (C:Cx) (mg:Str→Option Value) (g:G):Prop where
 b1:∃ a,mg "b1_set"=some (.ref a)∧Fz g a (qZ C (fun k=>decide (k∈ju)) 27)
 b3:∃ a f,mg "b3_exceptions"=some (.ref a)∧(a==sysModules)=false∧Fz g a (fun o=>xj C f o∧o.cls=.type "dict"∧o.dict=none)∧∀ k,match BU k with|some x=>∃ t,f k=some (.str x t)|none=>f k=none
theorem Prep.mono {C:Cx}{mg:Str→Option Value}{g g':G}(k:G.le g g')(B:Prep C mg g):Prep C mg g' :=
 ⟨aL B.b1 fun a e f=>(aG a e (f.mono k)),bc B.b3 fun a f e n F h=>(cb a f e n (F.mono k) h)⟩
noncomputable def dZ (c:Nat):Str:=(BU c).getD (Txt.lower ⟨#[c]⟩)
section
variable {C:Cx}{g:G}{M:be}{mg mb:Str→Option Value}
theorem yC {A:Around}{c:Nat}{t:Tok}{a:Addr}(B:Base C mg mb g)(P:Prep C mg g)(e:mg (ax (st 20))=some (.ref a))(rm:Rm A 1) :
  W C A (call (.ref a) [.str ⟨#[c]⟩ t] []) g M (fun r g' M'=>M'=M∧r=.bool (decide ((c:Int)∈ju))):=by
 refine aK (B.defs 20 rfl (by decide)) fun a' c' e' Da O=>?_
 have:a'=a:=by rw[e] at e';cases e';rfl
 subst this
 refine aL P.b1 fun s es Fs=>?_
 refine ft Da B.lim rm.room (binds:=[("code",.str ⟨#[c]⟩ t)]) (fun O=>rfl) rfl fun L=>?_
 refine af ?_
 ac_nf
 refine bL B qq ?_
 ac_nf
 refine ⟨ap,?_⟩
 show W _ _ (call (.builtin "ord") [.str ⟨#[c]⟩ t]) _ _ _
 refine uV fun O O=>?_
 refine bF B es ?_
 refine yA (.fz Fs) ?_
 exact (an ([_]) M rfl rfl rfl)
theorem wK {A:Around}{c:Nat}{t:Tok}{a:Addr}(B:Base C mg mb g)(P:Prep C mg g)(e:mg (ax (st 22))=some (.ref a))(hl:Builtin.Str.tooLong (Txt.lower ⟨#[c]⟩).length=false)(rm:Rm A 1) :
  W C A (call (.ref a) [.str ⟨#[c]⟩ t] []) g M (fun r g' M'=>M'=M∧∃ t',r=.str (dZ c) t'):=by
 refine aK (B.defs 22 rfl (by decide)) fun a' c' e' Da O=>?_
 have:a'=a:=by rw[e] at e';cases e';rfl
 subst this
 refine bc P.b3 fun s f es hs Fs hf=>?_
 refine ft Da B.lim rm.room (binds:=[("code",.str ⟨#[c]⟩ t)]) (fun O=>rfl) rfl fun L=>?_
 refine af ?_
 ac_nf
 refine bF B es ?_
 intro pl
 refine vC F.slot_dict_get F.type_dict_get (.fz Fs) (fun o h=>h.2) ?_
 ac_nf
 refine bL B qq ?_
 ac_nf
 refine ⟨ap,?_⟩
 show W _ _ (call (.builtin "ord") [.str ⟨#[c]⟩ t]) _ _ _
 refine uV fun to O=>?_
 ac_nf
 refine ⟨ap,?_⟩
 show W _ _ (call (.builtin "dict.get") [.ref s,.int c to]) _ _ _
 refine zk (f:=f) (.fz (Fs.imp fun o h=>h.1)) hs ?_
 have hc:=hf c
 cases hb:BU c with
 | some x =>
  rw[hb] at hc
  refine bK hc fun tx hx=>?_;clear hc
  rw[hx]
  show W _ _ (storeName _ _ (.str x tx)) _ _ _
  ac_nf
  refine ml ?_
  ac_nf
  rw[if_pos rfl]
  ac_nf
  exact (bP ([_]) M rfl rfl tx (by rw[dZ,hb];rfl))
 | none =>
  rw[hb] at hc
  rw[hc]
  show W _ _ (storeName _ _ Value.none) _ _ _
  ac_nf
  refine gG ?_
  ac_nf
  rw[if_neg jo]
  ac_nf
  intro pl
  refine' tT ?_
  ac_nf
  refine ⟨ap,?_⟩
  show W _ _ (call (.builtin "str.lower") [.str ⟨#[c]⟩ t]) _ _ _
  refine ya hl fun t' O=>?_
  exact (bP ([_]) M rfl rfl t' (by rw[dZ,hb];rfl))
end
end
theorem dz (p:Str×Value)(r:List (Str×Value))(x:Str):valueAt (p::r) x=if p.1=x then some p.2 else valueAt r x:=by
 unfold valueAt
 rw[List.find?_cons]
 by_cases h:p.1=x
 ·simp[h]
 ·simp[h]
theorem iF (x:Str):valueAt ([]:List (Str×Value)) x=none:=rfl
theorem lS (k:Str)(v:Value)(x:Str):∀ kvs:List (Str×Value),valueAt (kvs.map fun kv=>if kv.1=k then (kv.1,v) else kv) x=if x=k then (valueAt kvs x).map (fun O=>v) else valueAt kvs x
 | []=>by rw[oH,iF];split<;>rfl
 | p::r=>by
  have ih:=lS k v x r
  rw[dC,dz,dz,ih]
  by_cases hp:p.1=k
  ·rw[if_pos hp]
   by_cases hx:p.1=x
   ·have:x=k:=by rw[← hx];exact hp
    simp[hx,this]
   ·have:x≠k:=fun e=>hx (by rw[e];exact hp)
    simp[hx,this]
  ·rw[if_neg hp]
   by_cases hx:p.1=x
   ·have:x≠k:=fun e=>hp (by rw[hx];exact e)
    simp[hx,this]
   ·simp[hx]
theorem lG {k:Str}:∀ {kvs:List (Str×Value)},(kvs.any fun kv=>decide (kv.1=k))=true→∃ v,valueAt kvs k=some v
 | [],h=>by cases h
 | p::r,h=>by
  rw[dz]
  by_cases hp:p.1=k
  ·exact ⟨p.2,if_pos hp⟩
  ·rw[if_neg hp]
   exact lG (by simpa [hp] using h)
theorem iC {k:Str}:∀ {kvs:List (Str×Value)},¬ (kvs.any fun kv=>decide (kv.1=k))=true→valueAt kvs k=none
 | [],h=>rfl
 | p::r,h=>by
  rw[dz]
  have hp:p.1≠k:=fun e=>h (by simp[e])
  rw[if_neg hp]
  exact iC (fun e=>h (by rw[List.any_cons,e,Bool.or_true]))
theorem i9 (x:Str)(b:List (Str×Value)):∀ a:List (Str×Value),valueAt (a++b) x=(valueAt a x).or (valueAt b x)
 | []=>by rw[si,iF];rfl
 | p::r=>by
  rw[lC,dz,dz,i9 x b r]
  split<;>rfl
theorem fN (kvs:List (Str×Value))(k:Str)(v:Value)(x:Str):valueAt (stored kvs k v) x=if x=k then some v else valueAt kvs x:=by
 unfold stored
 by_cases h:(kvs.any fun kv=>decide (kv.1=k))=true
 ·rw[if_pos h,lS]
  by_cases hx:x=k
  ·subst hx
   refine bK (lG h) fun u hu=>?_
   rw[if_pos rfl,if_pos rfl,hu]
   rfl
  ·rw[if_neg hx,if_neg hx]
 ·rw[if_neg h,i9,dz,iF]
  by_cases hx:x=k
  ·subst hx
   rw[iC h]
   simp
  ·rw[if_neg hx,if_neg (fun e=>hx e.symm)]
   cases valueAt kvs x<;>rfl
noncomputable def lastOf (x:Str):List (Str×Value)→Option Value→Option Value
 | [],o=>o
 | (k,v)::r,o=>lastOf x r (if x=k then some v else o)
theorem dL (x:Str):∀ (more kvs:List (Str×Value)),valueAt (merged kvs more) x=lastOf x more (valueAt kvs x)
 | [],kvs=>rfl
 | (k,v)::r,kvs=>by
  show valueAt (merged (stored kvs k v) r) x=lastOf x r (if x=k then some v else valueAt kvs x)
  rw[dL x r,fN]
theorem ib:∀ (more kvs:List (Str×Value)),(merged kvs more).length≤kvs.length+more.length
 | [],kvs=>dX _
 | (k,v)::r,kvs=>by
  show (merged (stored kvs k v) r).length≤_
  have h1:=ib r (stored kvs k v)
  have h2:=stored_length_le kvs k v
  simp only[eR]
  exact ln2 [_,_,_,_] [] (.le ah (.a am (.a ao av))) (.le ah (.a aM ao)) (.le aM (.a am av)) ae h1 h2
section
noncomputable def bp:Nat→Str
 | 0=>"&<>"
 | 1=>"&<>\"\r\n\t"
 | 2=>"&>\""
 | 3=>"&<>\r"
 | _=>"&<\"\t\n\r"
noncomputable def kz (w:Nat)(x:Str):Option Str :=
 if x="\r" then some (if w=1 then "&#13;" else "&#xD;") else if x="\n" then some (if w=1 then "&#10;" else "&#xA;") else if x="\t" then some (if w=1 then "&#09;" else "&#x9;")
 else if x="&" then some "&amp;" else if x="<" then some "&lt;" else if x=">" then some "&gt;" else if x="\"" then some "&quot;" else none
noncomputable def gi (C:Cx)(w:Nat):OP:=fun o=>∃ kvs,aB C kvs o∧∀ x,match kz w x with|some nm=>∃ t,valueAt kvs x=some (.str nm t)|none=>True
section
variable {C:Cx}{g:G}{M:be}{mg mb:Str→Option Value}
theorem yh {mg:Str→Option Value}{w:Nat}{a5 a6 a7 a8 a9:Addr}(hw:w<5)(e5:mg (ax (st 5))=some (.ref a5))(e6:mg (ax (st 6))=some (.ref a6))(e7:mg (ax (st 7))=some (.ref a7))(e8:mg (ax (st 8))=some (.ref a8))(e9:mg (ax (st 9))=some (.ref a9)) :
  ∃ (f':Addr) (i:Nat),(#[.ref a5,.ref a6,.ref a7,.ref a8,.ref a9]:Array Value)[((w:Nat):Int).toNat]?=some (.ref f')∧i=5+w∧mg (ax (st i))=some (.ref f'):=by
 rcases (show w=0∨w=1∨w=2∨w=3∨w=4 from by lia) with rfl|rfl|rfl|rfl|rfl
 ·exact (an a5 5 rfl rfl e5)
 ·exact (an a6 6 rfl rfl e6)
 ·exact (an a7 7 rfl rfl e7)
 ·exact (an a8 8 rfl rfl e8)
 ·exact (an a9 9 rfl rfl e9)
theorem tj {A:Around}{w:Nat}{t:Tok}{a:Addr}(B:Base C mg mb g)(e:mg (ax (st 24))=some (.ref a))(hw:w<5)(rm:Rm A 1) :
  W C A (call (.ref a) [.int w t] []) g M (fun r g' M'=>M'=M∧∃ (T i f N:Addr) (tm:Tok),r=Value.ref T∧i=5+w∧mg (ax (st i))=some (Value.ref f)∧Fz g' T (bS #[.ref f,.str (bp w) tm,.ref N])∧(N==sysModules)=false∧Fz g' N (gi C w)):=by
 refine aK (B.defs 24 rfl (by decide)) fun a' c' e' Da O=>?_
 have:a'=a:=by rw[e] at e';cases e';rfl
 subst this
 refine bK (B.get 5) fun a5 e5=>?_
 refine bK (B.get 6) fun a6 e6=>?_
 refine bK (B.get 7) fun a7 e7=>?_
 refine bK (B.get 8) fun a8 e8=>?_
 refine bK (B.get 9) fun a9 e9=>?_
 refine ft Da B.lim rm.room (binds:=[("which",.int w t)]) (fun O=>rfl) rfl fun L=>?_
 refine af ?_
 refine aA ?_
 refine eJ ?_
 ac_nf
 refine bF B e5 ?_
 ac_nf
 refine bF B e6 ?_
 ac_nf
 refine bF B e7 ?_
 ac_nf
 refine bF B e8 ?_
 ac_nf
 refine bF B e9 ?_
 ac_nf
 refine ⟨by simp only[List.length];decide,fun H g₁ l₁ FH=>?_⟩
 replace B:=B.mono l₁
 ac_nf
 refine eJ ?_
 ac_nf
 refine ⟨by simp only[List.length];decide,fun N g₂ l₂ FN=>?_⟩
 replace B:=B.mono l₂
 ac_nf
 have hmm:∃ tm xs,Fz g₂ N (ai xs)∧xs[((w:Nat):Int).toNat]?=some (.str (bp w) tm):=by
  rcases BS hw with e|e|e|e|e<;>rw[e]<;>exact (bV _ _ FN rfl)
 refine bJ hmm fun tm xs FN' hxm=>?_;clear hmm
 have SN:Sees g₂ (((L,aJ [("which",.int w t),("hands",.ref H)]))::M) N (bq xs):=.fz (FN'.imp fun O=>bj)
 refine ⟨bE SN,?_⟩
 refine aO SN (cY _) (aQ [_] [] (.T bA (.p 2 63)) (.lt ah (.l 5)) ae hw) hxm ?_
 ac_nf
 have hB:=B.m
 refine' nE hB fun d hd=>?_
 ac_nf
 refine (an ([(_,_),(_,_),(_,_),(_,_),(_,_),(_,_),(_,_)]) 0 rfl (cx (strKind_is _ _ _ _) rfl (strKind_is _ _ _ _) rfl (strKind_is _ _ _ _) (cx rfl (strKind_is _ _ _ _) rfl (strKind_is _ _ _ _) rfl (gU (strKind_is _ _ _ _) rfl (strKind_is _ _ _ _) rfl trivial))) ?_)
 ac_nf
 intro pl
 refine jJ F.slot_dict_update F.type_dict_update (.own (.head _)) ?_
 ac_nf
 have fin:∀ g₃ (kvs:List (Str×Value)),G.le g₂ g₃→(∀ x,match kz w x with|some nm=>∃ t,valueAt kvs x=some (.str nm t)|none=>True) →
   W C (A.deeper (cV (bB (st 24)) L mainGlobals [] (ax (st 24)++".<locals>.") (some a') (.ref c') builtinsNs)) (execs [aI (aw (st 24)) 4] (cV (bB (st 24)) L mainGlobals [] (ax (st 24)++".<locals>.") (some a') (.ref c') builtinsNs))
    g₃ ((d,aB C kvs)::(L,aJ [("which",.int w t),("hands",.ref H),("menu",.str (bp w) tm),("names",.ref d)])::M) (fun f g₃ M₃=>∃ X M₄,M₃=X++M₄∧M₄=M∧∃ (T i f' N:Addr) (tm:Tok),(match f with|.ret v=>v|_=>.none)=Value.ref T∧i=5+w∧mg (ax (st i))=some (Value.ref f')∧Fz g₃ T (bS #[.ref f',.str (bp w) tm,.ref N])∧(N==sysModules)=false∧Fz g₃ N (gi C w)):=by
  intro g₃ kvs l₃ hk
  refine bM (i:=0) rfl fun g₄ l₄ Fd=>?_
  replace B:=B.mono (l₃.trans l₄)
  refine af (cz ?_)
  refine ed ?_
  ac_nf
  have SH:Sees g₄ ((L,aJ [("which",.int w t),("hands",.ref H),("menu",.str (bp w) tm),("names",.ref d)])::M) H (bq #[.ref a5,.ref a6,.ref a7,.ref a8,.ref a9]):=.fz ((FH.mono (l₂.trans (l₃.trans l₄))).imp fun O=>bj)
  refine ⟨bE SH,?_⟩
  have hh:=yh hw e5 e6 e7 e8 e9
  refine aK hh fun f' i hf1 hf0 hf2=>?_;clear hh
  refine aO SH (cY _) (aQ [_] [] (.T bA (.p 2 63)) (.lt ah (.l 5)) ae hw) hf1 ?_
  ac_nf
  refine ⟨by simp only[List.length];decide,fun T g₅ l₅ FT=>?_⟩
  exact (bP ([_]) M rfl rfl T (c4 i f' d tm rfl (gU hf0 hf2 FT hd ((Fd.mono l₅).imp fun o h=>(aG kvs h hk)))))
 split
 ·rename_i hw1
  have hw1':w=1:=by (have:(w:Int)=1:=by simpa using hw1);exact aQ [_] [] (.eq ah av) (.Q bA av) ae this
  refine' nE hB fun d2 hd2=>?_
  ac_nf
  refine (an ([(_,_),(_,_),(_,_)]) 0 rfl (cx (strKind_is _ _ _ _) rfl (strKind_is _ _ _ _) rfl (strKind_is _ _ _ _) (jb rfl trivial)) ?_)
  ac_nf
  refine ⟨ap,?_⟩
  show W _ _ (call (.builtin "dict.update") [.ref d,.ref d2]) _ _ _
  refine z4 fun nd=>?_
  have hne:d≠d2:=by
   intro e
   simp[e] at nd
  refine oP (i:=1) (by rfl) (.own (.head _)) hne hd2 (bw (Nat.add_le_add (ib _ _) (ib _ _)) (by simp only[eR,lj];decide)) ?_
  refine ⟨fun O h=>Value.noConfusion h,?_⟩
  refine eP (i:=0) ?_
  refine fin _ _ .refl fun x=>?_
  rw[dL,dL]
  subst hw1'
  unfold kz
  rw[if_pos rfl,if_pos rfl,if_pos rfl]
  split
  ·rename_i nm hnm
   split at hnm
   ·cases hnm;rename_i hx;subst hx;exact ⟨_,rfl⟩
   split at hnm
   ·cases hnm;rename_i hx;subst hx;exact ⟨_,rfl⟩
   split at hnm
   ·cases hnm;rename_i hx;subst hx;exact ⟨_,rfl⟩
   split at hnm
   ·cases hnm;rename_i hx;subst hx;exact ⟨_,rfl⟩
   split at hnm
   ·cases hnm;rename_i hx;subst hx;exact ⟨_,rfl⟩
   split at hnm
   ·cases hnm;rename_i hx;subst hx;exact ⟨_,rfl⟩
   split at hnm
   ·cases hnm;rename_i hx;subst hx;exact ⟨_,rfl⟩
   ·cases hnm
  ·trivial
 ·rename_i hw1
  have hw1':w≠1:=by (have:¬ (w:Int)=1:=by simpa using hw1);exact fun ε=>this (aQ [_] [] (.Q bA av) (.eq ah av) ae ε)
  refine kK hB fun d2 hd2=>?_
  ac_nf
  refine ⟨ap,?_⟩
  show W _ _ (call (.builtin "dict.update") [.ref d,.ref d2]) _ _ _
  refine z4 fun nd=>?_
  have hne:d≠d2:=by
   intro e
   simp[e] at nd
  refine oP (i:=1) (by rfl) (.own (.head _)) hne hd2 (bw (mt (ib _ _) _) (by simp only[List.length];decide)) ?_
  refine ⟨fun O h=>Value.noConfusion h,?_⟩
  refine eP (i:=0) ?_
  refine fin _ _ .refl fun x=>?_
  rw[dL,dL]
  unfold kz
  rw[if_neg hw1',if_neg hw1',if_neg hw1']
  split
  ·rename_i nm hnm
   split at hnm
   ·cases hnm;rename_i hx;subst hx;exact ⟨_,rfl⟩
   split at hnm
   ·cases hnm;rename_i hx;subst hx;exact ⟨_,rfl⟩
   split at hnm
   ·cases hnm;rename_i hx;subst hx;exact ⟨_,rfl⟩
   split at hnm
   ·cases hnm;rename_i hx;subst hx;exact ⟨_,rfl⟩
   split at hnm
   ·cases hnm;rename_i hx;subst hx;exact ⟨_,rfl⟩
   split at hnm
   ·cases hnm;rename_i hx;subst hx;exact ⟨_,rfl⟩
   split at hnm
   ·cases hnm;rename_i hx;subst hx;exact ⟨_,rfl⟩
   ·cases hnm
  ·trivial
end
end
section
section
variable {C:Cx}{A:Around}{g:G}{M:be}{env:Env}
theorem St.move {s:Shared}{M':be}{h':Heap}{n:Nat}{wr:List Addr}(S:St C g M s)(hmap:M'.map Prod.fst=M.map Prod.fst)(keep:∀ b o,b ∉ wr→s.heap.get? b=some o→h'.get? b=some o)(hwr:∀ b∈wr,∃ P,(b,P)∈M)(own:∀ p∈M',∃ o,h'.get? p.1=some o∧p.2 o)(hn:s.toks≤n):St C g M' { s with heap:=h',toks:=n }:=by
 have gw:∀ b∈wr,g.f b=none:=fun b hb=>let q1:=hwr b hb;bK q1 fun P hp=>S.sep _ hp
 have nw:∀ b o,g.f b=some o→b ∉ wr:=fun b o e h=>by rw[gw b h] at e;cases e
 have fm:∀ p∈M',∃ q∈M,q.1=p.1:=fun p hp=>by
  have:p.1∈M.map Prod.fst:=hmap▸List.mem_map_of_mem hp
  refine aL (List.mem_map.mp this) fun q hq e=>?_
  exact (aG q hq e)
 refine ⟨fun b o e=>keep b o (nw b o e) (S.sub b o e),own,fun p hp=>?_,by rw[hmap];exact S.nd,fun t ht=>?_,S.tcode,fun t ht=>⟨(S.tsep t ht).1,fun p hp=>?_⟩,S.tnd,S.gens,S.os,bw S.tk.1 hn,bw S.tk.2 hn⟩
 ·refine aL (fm p hp) fun q hq e=>?_
  rw[← e];exact S.sep q hq
 ·refine (S.tab t ht).keeps .refl (fun o e=>keep _ o ?_ e) fun o e=>keep _ o ?_ e
  ·refine bK (S.tcode t ht) fun x e=>?_
   exact nw _ _ e
  ·intro h
   refine bK (hwr _ h) fun P hp=>?_
   exact (S.tsep t ht).2 _ hp rfl
 ·refine aL (fm p hp) fun q hq e=>?_
  rw[← e];exact (S.tsep t ht).2 q hq
theorem St.adopt {s:Shared}{a:Addr}{o:Obj}{P:OP}(S:St C g M s)(hg:g.f a=none)(hM:∀ p∈M,p.1≠a)(hT:∀ t∈C.T,a≠t.P)(ho:s.heap.get? a=some o)(hp:P o):St C g ((a,P)::M) s:=by
 refine ⟨S.sub,fun p hp'=>?_,fun p hp'=>?_,?_,S.tab,S.tcode,fun t ht=>⟨(S.tsep t ht).1,fun p hp'=>?_⟩,S.tnd,S.gens,S.os,S.tk⟩
 ·rcases List.mem_cons.mp hp' with rfl|hp'
  ·exact (aG o ho hp)
  ·exact S.own p hp'
 ·rcases List.mem_cons.mp hp' with rfl|hp'
  ·exact hg
  ·exact S.sep p hp'
 ·rw[dC,qn]
  exact ⟨fun h=>let q2:=List.mem_map.mp h;aL q2 fun p hp' e=>hM p hp' e,S.nd⟩
 ·rcases List.mem_cons.mp hp' with rfl|hp'
  ·exact hT t ht
  ·exact (S.tsep t ht).2 p hp'
theorem St.newAt {s:Shared}{h':Heap}{n:Nat}{o:Obj}{P:OP}(S:St C g M s)(k:∀ b o,s.heap.get? b=some o→h'.get? b=some o)(ho:h'.get? s.heap.objs.size=some o)(hp:P o)(hn:s.toks≤n) :
  St C g ((s.heap.objs.size,P)::M) { s with heap:=h',toks:=n }:=by
 refine ch S.fresh fun f1 f2 f3=>?_
 exact (S.keeps k hn).adopt f1 f2 f3 ho hp
theorem jA {r:Addr}{a b:Int}{Q:PQ Value}(hA:A.handled=none)(hr:Fz g r (oX a b))(ha:-(2^62)<a∧a<2^62)(hb:-(2^62)<b∧b<2^62)(hsz:(b-a).toNat≤16777216)(h:∀ l xs,xs.size=(b-a).toNat→(∀ (j:Nat) v,xs[j]?=some v→∃ t,v=.int (a+j) t)→Q (.ref l) g ((l,ai xs)::M)):W C A (call (.type "list") [.ref r]) g M Q:=f8 fun s S=>by
 refine jf (S.sees (.fz hr)) fun o ho t u v q3=>?_;subst q3
 have hn:Builtin.Range.rangeSize a b 1=((b-a).toNat:Int):=by
  unfold Builtin.Range.rangeSize
  simp only[Int.ediv_one,show ((1:Int) > 0) from by decide,if_true]
  split<;>lia
 have hsmall:Builtin.Range.small a b 1=true:=by
  unfold Builtin.Range.small
  rw[hn]
  simp[Builtin.Range.rangeFitsLong]
  lia
 refine call_list_range (n:=(b-a).toNat) hA ho hsmall hn (by (have:(2:Nat)^24=16777216:=by decide);exact bw hsz (by decide)) fun h' tk acc' c' k hS hI htk=>?_
 refine (an g _ .refl (S.newAt (P:=ai acc') k hS ⟨c',rfl⟩ htk) (h _ acc' hI.1 fun j v hv=>?_))
 refine bK (hI.2 j v hv) fun t e=>?_
 exact ⟨t,by rw[e,ph]⟩
theorem md {w:World}{E:Value→Shared→Prop}{s:Shared}{l b:Addr}{xs ys:Array Value}{n m:Nat}{Q:Value→Shared→Prop}(hl:s.heap.get? l=some { cls:=.type "list",data:=.seq xs n })(hb:s.heap.get? b=some { cls:=.type "list",data:=.seq ys m })(hsz:xs.size+ys.size≤sizeLine)(h:Q (.ref l) { s with heap:=s.heap.update l (Obj.mapSeq fun x=>x++ys) }):wpAny (model prog w) A (inplaceOp .Add (.ref l) (.ref b)) Q E s:=by
 have e1:typeLookup (.type "list") (dunderI "add")=pure (some (.builtin "list.__iadd__")):=F.slot_list_iadd.lookup
 have e2:fillsInplaceSlot (.type "list") "add" (Operator.Add==.Add)=pure false:=by
  unfold fillsInplaceSlot
  show (typeLookup (.type "list") (dunderI "add") >>= fun fi=>pure (fi.isSome&&!isSeqSlot fi))=pure false
  rw[e1]
  have:isSeqSlot (some (Value.builtin "list.__iadd__"))=true:=by kernel_rfl
  simp[this]
 have e3:seqSlot? (.type "list") (dunderI "add")=pure (some (.builtin "list.__iadd__")):=PySem.seqSlot_of e1 (by kernel_rfl)
 have T1:s.TypeIs (.ref l) "list":=(aG _ hl rfl)
 have T2:s.TypeIs (.ref b) "list":=(aG _ hb rfl)
 unfold inplaceOp
 refine wpAny_holding ?_
 refine wpAny_bind (wpAny_typeOf T1 (wpAny_bind (wpAny_of_eq e2 ?_)))
 show wpAny _ A (if false=true then _ else _) Q E s
 rw[if_neg jo]
 refine wpAny_bind (wpAny_binaryOp1_none (nm:="add") T1 T2 noFill_list_add ?_)
 refine wpAny_bind (wpAny_of_eq e3 ?_)
 refine wpAny_bind (wpAny_rule ?_)
 exact (call_meets F.slot_list_iadd T1 F.entry_list_iadd (F.args_list_iadd_2 _ _) (AutoSeq1.list___iadd___list_list_0 l xs n b ys m (by simp[Builtin.List.listTooLong,sizeLine] at hsz ⊢;lia) (by lia) (bw hsz (dG _ _))) (iPPP hl hb h))
theorem tE {l b:Addr}{xs ys:Array Value}{i:Nat}{Q:PQ Value}(hi:M[i]?=some (l,ai xs))(hb:Sees g M b (ai ys))(hsz:xs.size+ys.size≤sizeLine)(h:Q (.ref l) g (M.set i (l,ai (xs++ys)))):W C A (inplaceOp .Add (.ref l) (.ref b)) g M Q:=fun s S=>by
 refine bK (S.isL (.own (iu hi))) fun n hl=>?_
 refine bK (S.isL hb) fun m hb=>?_
 refine md hl hb hsz ?_
 exact (an g _ .refl (S.set (n:=s.toks) (P':=ai (xs++ys)) hi (Heap.SameBut.update ..) (Heap.get?_update_self _ hl rfl) ⟨_,rfl⟩) h)
noncomputable def iK (it:Addr)(k:Nat):OP:=fun o=>∃ old,o={ cls:=.type "enumerate",data:=.fields #[.none,.bool false,.ref it,rawInt (k:Int),.none,old] }
noncomputable def uC (it:Addr)(k:Nat)(T:Addr):OP:=fun o=>∃ x,o={ cls:=.type "enumerate",data:=.fields #[rawInt T,.bool false,.ref it,rawInt (k:Int),.none,x] }
noncomputable def iQ (x:Str)(t:Tok)(k:Nat):OP:=fun o=>o.cls=.type (strIterType x)∧o.data=.fields #[.str x t,.int k 0]
theorem vo {x:Str}{t:Tok}{Q:PQ Value}(h:∀ e it,e≠it→Q (.ref e) g ((e,iK it 0)::(it,iQ x t 0)::M)):W C A (call (.type "enumerate") [.str x t]) g M Q:=fun s S=>by
 refine call_enumerate_str fun h' he hit hz k=>?_
 have hne:s.heap.objs.size+1≠s.heap.objs.size:=Nat.succ_ne_self _
 refine bT hit fun o ho hc hd=>?_;clear hit
 have S1:=S.newAt (n:=s.toks) (P:=iQ x t 0) k ho ⟨hc,hd⟩ (dX _)
 refine (an g _ .refl (S1.adopt (a:=s.heap.objs.size+1) (P:=iK s.heap.objs.size 0) ?_ ?_ ?_ he ⟨_,rfl⟩) (h _ _ hne))
 ·cases q:g.f (s.heap.objs.size+1) with
  | none=>rfl
  | some o=>exact absurd (Heap.lt_size (S.sub _ _ q)) (Nat.lt_asymm (kI _))
 ·intro p hp e
  rcases List.mem_cons.mp hp with rfl|hp
  ·exact hne e.symm
  ·refine aL (S.own p hp) fun o q O=>?_
   rw[e] at q
   exact absurd (Heap.lt_size q) (Nat.lt_asymm (kI _))
 ·intro t ht e
  refine aL (S.tab t ht) fun ps x O=>?_
  have:=x.lt.2
  rw[← e] at this
  exact absurd this (Nat.lt_asymm (kI _))
theorem oN {w:World}(hA:A.handled=none)(it:Addr)(x:Str)(t:Tok):Draws prog w A it [it] x.cps.size (fun i v=>∃ c u,x.cps[i]?=some c∧v=.str ⟨#[c]⟩ u) (fun i h=>h.IsStrIter it (strIterType x) x t i):=by
 unfold strIterType
 split
 ·exact Draws.strAscii hA it x t
 ·exact Draws.strWide hA it x t
theorem sY {e it:Addr}{x:Str}{t:Tok}{k:Nat}{Q:Option Value→G→be→Prop}(hA:A.handled=none)(hne:e≠it)(hk:k<x.cps.size)(h:∀ g' T c tk u,G.le g g'→x.cps[k]?=some c→Fz g' T (bS #[.int k tk,.str ⟨#[c]⟩ u])→Q (some (.ref T)) g' ((e,uC it (k+1) T)::(it,iQ x t (k+1))::M)) :
  W C A (pyNext (.ref e)) g ((e,iK it k)::(it,iQ x t k)::M) Q:=f8 fun s S=>by
 refine jC (S.own _ (.head _)) fun oe he old q4=>?_;subst q4
 refine bT (S.own _ (.tail _ (.head _))) fun oi hi hic hid=>?_
 refine wpAny_pyNext_enum_itemD (oN (A:=A.in1) hA it x t) he (bU oi hi hic hid) hk hne (by simpa using hne) fun v h' tk hv ho hst hT hsz keep hn=>?_
 refine bJ hv fun c u hc q5=>?_;clear hv;subst q5
 refine bT hst fun oi' hi' hic' hid'=>?_;clear hst
 have S1:St C g ((e,uC it (k+1) s.heap.objs.size)::(it,iQ x t (k+1))::M) { s with heap:=h',toks:=tk+1 }:=S.move (wr:=[e,it]) rfl (fun b o hb q=>keep b o (fun e'=>hb (by simp[e'])) (fun e'=>hb (by simp[e'])) q) (fun b hb=>by
   rcases List.mem_cons.mp hb with rfl|hb
   ·exact ⟨_,.head _⟩
   ·rw[List.mem_singleton.mp hb];exact ⟨_,.tail _ (.head _)⟩) (fun p hp=>by
   rcases List.mem_cons.mp hp with rfl|hp
   ·exact (yX _ ho _ rfl)
   rcases List.mem_cons.mp hp with rfl|hp
   ·exact (bU _ hi' hic' hid')
   ·refine aL (S.own p (.tail _ (.tail _ hp))) fun o q r=>?_
    have nd:=S.nd
    rw[dC,dC,qn,qn] at nd
    exact (aG o (keep _ _ (fun e'=>nd.1 (.tail _ (List.mem_map.mpr (aG p hp e')))) (fun e'=>nd.2.1 (List.mem_map.mpr (aG p hp e'))) q) r)) hn
 refine ch S.fresh fun f1 f2 f3=>?_
 have S2:=S1.adopt (a:=s.heap.objs.size) (P:=bS #[.int k tk,.str ⟨#[c]⟩ u]) f1 (fun p hp=>by
   rcases List.mem_cons.mp hp with rfl|hp
   ·exact f2 (e,iK it k) (.head _)
   rcases List.mem_cons.mp hp with rfl|hp
   ·exact f2 (it,iQ x t k) (.tail _ (.head _))
   ·exact f2 p (.tail _ (.tail _ hp))) f3 hT ⟨_,rfl⟩
 refine bT S2.freeze fun o p ga S3=>?_
 exact (an _ _ (G.le_put ga) S3 (h _ _ c tk u (G.le_put ga) hc (aG o G.put_self p)))
theorem s4 {e it:Addr}{x:Str}{t:Tok}{Q:Option Value→G→be→Prop}(hA:A.handled=none)(hne:e≠it)(h:Q none g M):W C A (pyNext (.ref e)) g ((e,iK it x.cps.size)::(it,iQ x t x.cps.size)::M) Q:=f8 fun s S=>by
 refine jC (S.own _ (.head _)) fun oe he old q6=>?_;subst q6
 refine bT (S.own _ (.tail _ (.head _))) fun oi hi hic hid=>?_
 refine wpAny_pyNext_enum_endD (oN (A:=A.in1) hA it x t) he (bU oi hi hic hid) fun h' keep hn=>?_
 have S0:St C g ((it,iQ x t x.cps.size)::M) s:=S.erase 0
 exact (an g _ .refl (S0.forget (i:=0) rfl (fun b o ne q=>keep b o ne q) hn) h)
theorem xw {e it T:Addr}{k:Nat}{elts:List Expr}{j:Nat}{pos:Pos}{Q:PQ Unit}(h:Q () g ((e,iK it k)::M)):W C A (letOwnedTupleGo (.Tuple elts j pos) (.ref e) (.ref T)) g ((e,uC it k T)::M) Q:=fun s S=>by
 refine jC (S.own _ (.head _)) fun oe he x q7=>?_;subst q7
 refine wpAny_letOwnedTupleGo_enum he fun h' he' hs=>?_
 exact (an g _ .refl (S.set (i:=0) (n:=s.toks) (P':=iK it k) rfl hs he' ⟨_,rfl⟩) h)
theorem sB {e it:Addr}{k:Nat}{Q:PQ Value}(h:Q (.ref e) g ((e,iK it k)::M)):W C A (pyIter (.ref e)) g ((e,iK it k)::M) Q:=fun s S=>by
 refine jC (S.own _ (.head _)) fun oe he x q8=>?_;subst q8
 exact wpAny_pyIter_enum he (an g _ .refl S h)
theorem vB {a b iter:Expr}{j:Nat}{tpos:Pos}{body:List Stmt}{pos:Pos}{Q:PQ Flow}(hA:A.handled=none)(h:W C A (eval iter env) g M (fun xv g₂ M₂=>∃ (e it:Addr) (x:Str) (t:Tok) (M₀:be) (J:Nat→G→be→Prop),e≠it∧xv=.ref e∧M₂=(e,iK it 0)::(it,iQ x t 0)::M₀∧J 0 g₂ M₀ ∧
   (∀ k g' g₁ M' c tk u,k<x.cps.size→G.le g₂ g'→G.le g' g₁→J k g' M'→x.cps[k]?=some c →
    W C A (assign a env (.int k tk)) g₁ ((e,iK it (k+1))::(it,iQ x t (k+1))::M') (fun O g₂ M₂=>W C A (assign b env (.str ⟨#[c]⟩ u)) g₂ M₂ (fun O g₃ M₃=>W C A (execs body env) g₃ M₃ (fun f g₄ M₄ =>
     ∃ X M₅,M₄=X++(e,iK it (k+1))::(it,iQ x t (k+1))::M₅∧match f with|.next|.cont=>J (k+1) g₄ M₅|.brk=>Q .next g₄ M₅|.ret v=>Q (.ret v) g₄ M₅)))) ∧
   (∀ g' M',G.le g₂ g'→J x.cps.size g' M'→Q .next g' M')))(hs2:assignEach [a,b] env=[(false,assign a env),(false,assign b env)]:=by rfl)(hs:∀ x,foldedSetIterable iter env x=pure x:=by intro _;rfl):W C A (exec (.For (.Tuple [a,b] j tpos) iter body [] pos) env) g M Q:=fun s S=>by
 refine wpAny_For (wpAny_mono (h s S) (fun xv s₂ h₂=>?_) fun O O x=>x.elim) hs
 refine cm h₂ fun g₂ M₂ l₂ S₂ e q9=>aT q9 fun it x t M₀ J q10=>cy q10 fun hne e1 e2 j0 turn fin=>?_;clear q9 q10 h₂
 subst e1 e2
 have toE:∀ {α:Type}{x:Sem α}{R:α→Shared→Prop}{s:Shared}{E:Value→Shared→Prop},wpAny C.M A x R (fun O O=>False) s→wpAny C.M A x R E s:=fun h=>wpAny_mono h (fun O O x=>x) fun O O x=>x.elim
 refine toE (wpAny_mono (sB (C:=C) (A:=A) (Q:=fun v g' M'=>v=.ref e∧g₂=g'∧(e,iK it 0)::(it,iQ x t 0)::M₀=M') (iPPP rfl rfl rfl) s₂ S₂) ?_ fun O O x=>x)
 refine fun O s₃ q11=>bc q11 fun O O l₃ S₃ q12 q15=>dI q15 fun q13 q14=>?_;clear q11 q15;subst q12;subst q13;subst q14
 refine codeAny_forLoop_any (I:=fun m s=>∃ k g' M',k+m=x.cps.size∧G.le g₂ g'∧St C g' ((e,iK it k)::(it,iQ x t k)::M') s∧J k g' M') (fun m s q16=>bC q16 fun k g' M' hk l' q17=>dI q17 fun S' jj=>?_) x.cps.size (bf 0 g₂ M₀ (qx _) .refl (jb S₃ j0))
 by_cases hkn:k<x.cps.size
 ·refine toE (wpAny_mono (sY (C:=C) (Q:=fun r g₁ M₁=>∃ T c tk u,r=some (.ref T)∧G.le g' g₁∧x.cps[k]?=some c∧Fz g₁ T (bS #[.int k tk,.str ⟨#[c]⟩ u])∧(e,uC it (k+1) T)::(it,iQ x t (k+1))::M'=M₁) hA hne hkn (fun g₁ T c tk u l hc F=>(c4 T c tk u rfl (cr l hc F rfl))) s S') ?_ fun O O x=>x)
  refine fun r s₁ q18=>cm q18 fun g₁ O l1 S₁ T q21=>bC q21 fun c tk u q19 O q22=>ch q22 fun hc F q20=>?_;clear q18 q21 q22;subst q19;subst q20
  refine toE (wpAny_mono (xw (C:=C) (Q:=fun O g' M₁=>g₁=g'∧(e,iK it (k+1))::(it,iQ x t (k+1))::M'=M₁) ⟨rfl,rfl⟩ s₁ S₁) ?_ fun O O x=>x)
  refine fun O s₄ q23=>bc q23 fun O O l4 S₄ q24 q25=>?_;clear q23;subst q24;subst q25
  have F':W C A (assign (.Tuple [a,b] j tpos) env (.ref T)) g₁ ((e,iK it (k+1))::(it,iQ x t (k+1))::M') (fun O g₃ M₃=>W C A (execs body env) g₃ M₃ (fun f g₄ M₄ =>
     ∃ X M₅,M₄=X++(e,iK it (k+1))::(it,iQ x t (k+1))::M₅∧match f with|.next|.cont=>J (k+1) g₄ M₅|.brk=>Q .next g₄ M₅|.ret v=>Q (.ret v) g₄ M₅)) :=
   cj hA (.fz F) (turn k g' g₁ M' c tk u hkn l' l1 jj hc) hs2
  refine toE (wpAny_mono (F' s₄ S₄) (fun O s₅ q26=>aK q26 fun g₅ M₅ l5 S₅ h₅=>toE (wpAny_mono (h₅ s₅ S₅) ?_ fun O O x=>x)) fun O O x=>x)
  refine fun f s₆ q27=>cm q27 fun g₆ O l6 S₆ X q29=>aL q29 fun M₇ q28 hf=>?_;clear q27 q29;subst q28
  have la:=((l'.trans l1).trans l5).trans l6
  cases f with
  | next=>exact (mD (x.cps.size-(k+1)) (ln2 [_,_,_,_] [] (.lt ah am) (.Y 1 (.eq (.a ao am) aM)) (.eq (.a ah (.a ao av)) aM) ae hk (bn (aQ [_,_] [] (.le (.a ah av) am) (.lt ah am) ae hkn))) (k+1) g₆ M₇ (cr (aQ [_,_,_] [] (.eq (.a (.a ah av) am) ao) (.eq (.a am (.a ah av)) ao) ae (bn (aQ [_,_] [] (.le (.a ah av) am) (.lt ah am) ae hkn))) la S₆.drop hf))
  | cont=>exact (mD (x.cps.size-(k+1)) (ln2 [_,_,_,_] [] (.lt ah am) (.Y 1 (.eq (.a ao am) aM)) (.eq (.a ah (.a ao av)) aM) ae hk (bn (aQ [_,_] [] (.le (.a ah av) am) (.lt ah am) ae hkn))) (k+1) g₆ M₇ (cr (aQ [_,_,_] [] (.eq (.a (.a ah av) am) ao) (.eq (.a am (.a ah av)) ao) ae (bn (aQ [_,_] [] (.le (.a ah av) am) (.lt ah am) ae hkn))) la S₆.drop hf))
  | brk=>exact (an g₆ M₇ (l₂.trans la) (S₆.drop.drop (X:=[_,_])) hf)
  | ret v=>exact (an g₆ M₇ (l₂.trans la) (S₆.drop.drop (X:=[_,_])) hf)
 ·have hkn':k=x.cps.size:=by exact nY (aQ [_,_,_] [] (.le ah am) (.eq (.a ah ao) am) ae hk) (aQ [_,_] [] (.le ah am) (.nlt am ah) ae hkn)
  subst hkn'
  refine toE (wpAny_mono (s4 (C:=C) (Q:=fun r g₁ M₁=>r=none∧g'=g₁∧M'=M₁) hA hne (iPPP rfl rfl rfl) s S') ?_ fun O O x=>x)
  refine fun r s₁ q30=>bc q30 fun O O l3 S₅ q31 q34=>dI q34 fun q32 q33=>?_;clear q30 q34;subst q31;subst q32;subst q33
  exact toE (wpAny_pure (an g' M' (l₂.trans l') S₅ (fin g' M' l' jj)))
theorem yP {x:Sem Value}{r:Str}{Q:PQ Value}(k:∀ s (Q:Value→Shared→Prop) E,Q (.str r s.toks) { s with toks:=s.toks+1 }→wpAny C.M A x Q E s)(h:∀ t,t≠0→Q (.str r t) g M):W C A x g M Q :=
 fun s S=>k s _ _ (an g M .refl (S.toks (fB _)) (h _ (df S.tk.2)))
theorem yO {i:Int}{t:Tok}{Q:PQ Value}(hi:0≤i∧i≤0x10FFFF)(h:∀ t,t≠0→Q (.str ⟨#[i.toNat]⟩ t) g M):W C A (call (.builtin "chr") [.int i t]) g M Q :=
 yP (fun O O O x=>P.chr_of_int (by simp;exact ⟨hi.1,hi.2⟩) x) h
theorem kJ {a b:Bool}{Q:PQ Value}(h:Q (.bool (a==b)) g M):W C A (compareOp .Is (.bool a) (.bool b)) g M Q:=fun s S=>by
 refine wpAny_is_plain rfl ?_
 have e:(Value.bool a==Value.bool b)=(a==b):=by cases a<;>cases b<;>rfl
 rw[e]
 exact (an g M .refl S h)
theorem xk {l:Addr}{xs:Array Value}{ns:List Int}{k:Int}{t:Tok}{Q:PQ Value}(hl:Sees g M l (bq xs))(hi:IntsAre xs.toList ns)(h:Q (.bool (ns.any (·==k))) g M):W C A (compareOp .In (.int k t) (.ref l)) g M Q:=fun s S =>
 in_list_ints (vs:=xs.toList) (by simpa using S.list hl) hi (an g M .refl S h)
theorem er {l:Addr}{xs:Array Value}{ys:List Str}{x:Str}{t:Tok}{Q:PQ Value}(hl:Sees g M l (bq xs))(hi:StrsAre xs.toList ys)(hok:(ys.map (·.length)).sum+ys.length*x.length≤16777216)(h:∀ t',Q (.str (Txt.join x ys) t') g M):W C A (call (.builtin "str.join") [.str x t,.ref l]) g M Q:=f8 fun s S =>
 join_list (S.list hl) hi hok fun t' k hn=>(an g M .refl (S.toks hn) (h t'))
theorem w7 {a b:Value}{da db:PyData}{Q:PQ Value}(h:∀ s,St C g M s→∃ as bs,Reads s.heap a da as∧Reads s.heap b db bs)(ha:SeqAt.shaped da=true)(hb:SeqAt.shaped db=true)(hu:A.units+64<cLine)(q:Q (.bool (PyData.eqv da db)) g M):W C A (compareOp .Eq a b) g M Q:=fun s S=>let q35:=h s S;bJ q35 fun O O ra rb=>eq_dataH ra rb ha hb hu (an g M .refl S q)
theorem rY {a b:Value}{da db:PyData}{Q:PQ Value}(h:∀ s,St C g M s→∃ as bs,Reads s.heap a da as∧Reads s.heap b db bs)(ha:SeqAt.shaped da=true)(hb:SeqAt.shaped db=true)(hu:A.units+64<cLine)(q:Q (.bool (!PyData.eqv da db)) g M):W C A (compareOp .NotEq a b) g M Q:=fun s S=>let q36:=h s S;bJ q36 fun O O ra rb=>ne_dataH ra rb ha hb hu (an g M .refl S q)
end
section
variable {α:Type}{C:Cx}{A:Around}{g:G}{M:be}{t:Sem α}{a:Addr}{P:OP}{Q:α→G→be→Prop}
theorem dE (h:∀ g',G.le g g'→Fz g' a P→W C A t g' (M) Q):W C A t g ((a,P)::M) Q:=bM (i:=0) rfl h
theorem xQ {p:Addr×OP}(h:W C A t g (M) Q):W C A t g (p::M) Q:=eP (i:=0) h
theorem fo {p0:Addr×OP}(h:∀ g',G.le g g'→Fz g' a P→W C A t g' (p0::M) Q):W C A t g (p0::(a,P)::M) Q:=bM (i:=1) rfl h
theorem Bc {p0 p:Addr×OP}(h:W C A t g (p0::M) Q):W C A t g (p0::p::M) Q:=eP (i:=1) h
theorem Bw {p0 p1:Addr×OP}(h:∀ g',G.le g g'→Fz g' a P→W C A t g' (p0::p1::M) Q):W C A t g (p0::p1::(a,P)::M) Q:=bM (i:=2) rfl h
theorem yY {p0 p1 p:Addr×OP}(h:W C A t g (p0::p1::M) Q):W C A t g (p0::p1::p::M) Q:=eP (i:=2) h
theorem BK {p0 p1 p2:Addr×OP}(h:∀ g',G.le g g'→Fz g' a P→W C A t g' (p0::p1::p2::M) Q):W C A t g (p0::p1::p2::(a,P)::M) Q:=bM (i:=3) rfl h
theorem bI {M':be}(e:M=M')(h:W C A t g M' Q):W C A t g M Q:=e▸h
end
end
section
noncomputable def sing (c:Nat):Str:=⟨#[c]⟩
noncomputable def alphL:List Nat:=[97,65,119808,119860,119912,120016,120172,120224,120276,120328,120380,120432]
noncomputable def figR (number k:Nat):Nat:=number/13^k%36
noncomputable def fO (pair:Str)(f c:Nat):Nat:=if Txt.contains pair (sing c)=true then alphL.getD (f%12) 0+c-97 else c
noncomputable def markR (number k:Nat):Nat:=(ju.getD (number/(k+2)%27) 0).toNat
noncomputable def eI (pair:Str)(number k c:Nat):List Nat :=
 if figR number k<12 then [fO pair (figR number k) c] else if figR number k<24 then [markR number k,fO pair (figR number k) c] else [fO pair (figR number k) c,markR number k]
noncomputable def typedUp (pair:Str)(number:Nat)(x:Str):Nat→List Nat
 | 0=>[]
 | k+1=>typedUp pair number x k++eI pair number k (x.cps.getD k 0)
theorem iP (pair:Str)(number:Nat)(x:Str):∀ k,(typedUp pair number x k).length≤2*k
 | 0=>dX _
 | k+1=>by
  have h:(eI pair number k (x.cps.getD k 0)).length≤2:=by
   unfold eI
   split
   ·simp
   ·split<;>simp
  have:=iP pair number x k
  rw[typedUp,ζ17]
  exact ln2 [_,_,_] [] (.le (.a ah am) (.m 2 (.a ao av))) (.le am cH) (.le ah (.m 2 ao)) ae h this
noncomputable def typedX (word pair both:Str)(number:Nat):Str:=if number%2=1 then Txt.replace word pair both else word
noncomputable def eC (c:Nat):Bool:=!decide ((c:Int)∈ju)
noncomputable def r7 (word pair both:Str)(number:Nat):Str :=
 let x:=typedX word pair both number
 Txt.join Str.empty (((typedUp pair number x x.cps.size).filter eC).map dZ)
theorem iZ:∀ {xs:List Value}{ns:List Int},xs.length=ns.length→(∀ (j:Nat) v,xs[j]?=some v→∃ t,v=.int (ns.getD j 0) t)→IntsAre xs ns
 | [],[],_,_=>.nil
 | v::xs,n::ns,hl,h=>by
  refine bK (h 0 v rfl) fun t e=>?_
  subst e
  exact .cons n t (iZ (by simpa using hl) fun j v hj=>h (j+1) v hj)
theorem c7 {xs:List Value}{ys:List Str}{j:Nat}{v:Value}(h:StrsAre xs ys)(hv:xs[j]?=some v):∃ y t,ys[j]?=some y∧v=.str y t:=by
 induction h generalizing j with
 | nil=>cases hv
 | cons y t r ih =>
  cases j with
  | zero=>cases hv;exact (bV y t rfl rfl)
  | succ j=>exact ih hv
theorem f9 {xs:List Value}{ys:List Int}{j:Nat}{v:Value}(h:IntsAre xs ys)(hv:xs[j]?=some v):∃ y t,ys[j]?=some y∧v=.int y t:=by
 induction h generalizing j with
 | nil=>cases hv
 | cons y t r ih =>
  cases j with
  | zero=>cases hv;exact (bV y t rfl rfl)
  | succ j=>exact ih hv
theorem fh {xs:List Value}{ys:List Int}{j:Nat}(h:IntsAre xs ys)(hj:j<ys.length):∃ t,xs[j]?=some (.int (ys.getD j 0) t):=by
 induction h generalizing j with
 | nil=>exact absurd hj (qN _)
 | cons y t r ih =>
  cases j with
  | zero=>exact ⟨t,rfl⟩
  | succ j=>exact ih (by simpa using hj)
section
variable {C:Cx}{A:Around}{g:G}{M:be}{env:Env}{mg mb:Str→Option Value}
theorem rK {x:Str}{c:Addr}{v:Value}{Q:PQ Value}(hc:env.cells.lookup x=some c)(hv:Sees g M c (ag (some v)))(h:Q v g M)(hk:env.scope.kind=.function:=by exact Eq.refl ScopeKind.function)(hl:env.kindOf x=some .cell:=by exact Eq.refl (some NameKind.cell)):W C A (loadName env x) g M Q:=fun s S =>
 wpAny_loadName_cell hk hl hc (S.cell hv) (an g M .refl S h)
theorem nF {α:Type}{t:Sem α}{i:Nat}{L:Addr}{l r:List (Str×Value)}{Q:α→G→be→Prop}(hi:M[i]?=some (L,aJ (l++r)))(h:W C A t g (M.set i (L,aJ l)) Q):W C A t g M Q:=rU hi (fun o ho=>uX o ho) h
noncomputable abbrev iH (L a1 a2 a3 a c:Addr):Env:=cV (bB (st 25)) L mainGlobals (c5 (aW (bB (st 25)).names) [a1,a2,a3] []) (ax (st 25)++".<locals>.") (some a) (.ref c) builtinsNs
noncomputable def jg:Stmt→List Stmt
 | .For _ _ b ..=>b
 | _=>[]
noncomputable def z5:Stmt→Expr
 | .AugAssign _ _ v _=>v
 | _=>.Constant .none 0 ⟨0,0,0,0⟩
noncomputable def zR (x y:Int)(h:y.natAbs<2^900):Builtin.divisionGoesByPylong x y=false:=by
 unfold Builtin.divisionGoesByPylong
 dsimp only
 have:(if (y==0)=true then 0 else y.natAbs.log2/30+1)≤300:=by
  split
  ·exact by decide
  ·rename_i h0
   have:y.natAbs≠0:=by simpa using h0
   have:=(Nat.log2_lt this).mpr h
   exact ln2 [_,_] [] (.X 30 (.le (.a ah av) (.l 300))) (.lt am (.l 900)) (.le (.r ah 30) am) ae this (Nat.div_mul_le_self _ _)
 rw[decide_eq_false (um this)]
 rfl
theorem vq {A:Around}{L a1 a2 a3 a c0 e it D l3 l4:Addr}{word pair both x:Str}{tw tp tb tn t tk u:Tok}{number k c:Nat}{ts us cs:Array Value}{P1 P2:OP}(B:Base C mg mb g)(hn:number<2^60)(hk:k<8)(hc:Txt.contains pair (sing c)=true→97≤c∧c≤122)(hcell:Fz g a1 (ag (some (.ref l3))))(hl3:Fz g l3 (ai us))(hus:IntsAre us.toList ju)(hl4:Fz g l4 (ai cs))(hcs:IntsAre cs.toList (alphL.map Int.ofNat))(hsz:ts.size≤16){Q:PQ Flow}(kQ:∀ g',G.le g g'→∀ vs,StrsAre vs ((eI pair number k c).map sing)→∀ X,Q .next g' (X++(e,P1)::(it,P2)::(D,ai (ts++vs.toArray))::(a3,ag none)::(a2,ag (some (.ref D)))::(L,aJ [("word",.str word tw),("pair",.str pair tp),("both",.str both tb),("number",.int number tn),("codes",.ref l4)])::M)) :
  W C A (execs (jg (aI (aw (st 25)) 3)) (iH L a1 a2 a3 a c0)) g
   ((e,P1)::(it,P2)::(D,ai ts)::(a3,ag none)::(a2,ag (some (.ref D)))::(L,aJ [("word",.str word tw),("pair",.str pair tp),("both",.str both tb),("number",.int number tn),("codes",.ref l4),("place",.int k tk),("sign",.str (sing c) u)])::M) Q:=by
 refine' bQ fun qQ KQ=>?_
 refine af ?_
 ac_nf
 have hp:(13:Int)^((k:Nat):Int).toNat=((13^k:Nat):Int):=by rw[d3];push_cast;rfl
 have hp1:13^k<2^32:=dV (fv (by decide) (show k≤7 by exact aQ [_] [] (.le ah fs) (.lt ah vM) ae hk)) (by decide)
 have hp0:0<13^k:=n9 (by decide)
 refine lW (cY _) ?_ fun O O=>?_
 ·show (4:Int)*(k:Int)≤2^27
  exact aQ [_] [] (.L (.m 4 bA) (.p 2 27)) (.X 4 (.lt ah vM)) ae hk
 rw[hp]
 refine cX (ku (aQ [_] [] (.T b6 bA) (.lt b6 ah) ae hp0)) (zR _ _ ?_) fun O O=>?_
 ·rw[jr]
  exact jw hp1 (wa (by decide) (by decide))
 ac_nf
 refine fq (by decide) fun O O=>?_
 have hf:(((number:Int).fdiv ((13^k:Nat):Int))).fmod 36=((figR number k:Nat):Int):=by
  rw[gV _ (by exact cY _),im _ (by exact cY _)]
  rfl
 rw[hf]
 generalize hfg:figR number k=f
 have hf36:f<36:=by rw[← hfg];exact cQ _ (by decide)
 ac_nf
 have fin:∀ (g₃:G) (tf tbd:Tok),G.le g g₃→W C A (execs [aI (jg (aI (aw (st 25)) 3)) 2,aI (jg (aI (aw (st 25)) 3)) 3] (iH L a1 a2 a3 a c0)) g₃
   ((e,P1)::(it,P2)::(D,ai ts)::(a3,ag none)::(a2,ag (some (.ref D)))::(L,aJ [("word",.str word tw),("pair",.str pair tp),("both",.str both tb),("number",.int number tn),("codes",.ref l4),("place",.int k tk),("sign",.str (sing c) u),("figure",.int f tf),("body",.str (sing (fO pair f c)) tbd)])::M)
   qQ:=by
  intro g₃ tf tbd l₃
  replace B:=B.mono l₃
  replace hcell:=hcell.mono l₃
  replace hl3:=hl3.mono l₃
  refine af ?_
  refine aA ?_
  ac_nf
  refine bL B xy ?_
  ac_nf
  refine cX (ku (eF [_] [] (.T b6 (.a bA cH)) ae)) (zR _ _ ?_) fun O O=>?_
  ·have e:((k:Int)+2).natAbs=k+2:=by lia
   rw[e]
   exact b9 (show k+2<2^4 by exact Nat.add_lt_add_right (b9 hk (by decide)) _) (fv (by decide) (by decide))
  ac_nf
  refine fq (by decide) fun O O=>?_
  have hm:(((number:Int).fdiv ((k:Int)+2))).fmod 27=((number/(k+2)%27:Nat):Int):=by
   rw[gV _ (by exact cY _),im _ (by exact cY _)]
   push_cast
   rfl
  rw[hm]
  have hm27:number/(k+2)%27<27:=cQ _ (by decide)
  have SU:∀ M,Sees g₃ M l3 (bq us):=fun O=>.fz (hl3.imp fun O=>bj)
  refine ⟨bE (SU _),?_⟩
  refine bK (fh hus (j:=number/(k+2)%27) hm27) fun tu hu=>?_
  have hmk:(ju.getD (number/(k+2)%27) 0)=((markR number k:Nat):Int)∧markR number k≤0x10FFFF:=by
   unfold markR
   have h27:∀ j,j<27→0≤ju.getD j 0∧ju.getD j 0≤0x10FFFF:=by decide
   have:=h27 _ hm27
   exact ⟨aQ [_] [_] (.Q dq bA) (.Y 1 (.Q bA dq)) ae (jX this.1),ln2 [_] [_] (.le ah gL) (.L dq gL) (.Q bA dq) ae this.2 (jX this.1)⟩
  rw[hmk.1] at hu
  refine aO (v:=.int ((markR number k:Nat):Int) tu) (SU _) (cY _) (aQ [_] [] (.T bA (.p 2 63)) (.lt ah (.l 27)) ae hm27) (by rw[d3,← Array.getElem?_toList];exact hu) ?_
  ac_nf
  refine ⟨ap,?_⟩
  show W _ _ (call (.builtin "chr") [.int ((markR number k:Nat):Int) tu]) _ _ _
  refine yO (by have:=hmk.2;exact ⟨eF [_] [] (.L b6 bA) ae,aQ [_] [] (.L bA gL) (.le ah gL) ae hmk.2⟩) fun tm O=>?_
  rw[d3]
  refine aX (i:=5) (by rfl) ?_
  refine af ?_
  refine gC ?_
  refine rK (c:=a2) (by rfl) (.own (by kst_mem)) ?_
  have val:W C A (eval (z5 (aI (jg (aI (aw (st 25)) 3)) 3)) (iH L a1 a2 a3 a c0)) g₃
    ((e,P1)::(it,P2)::(D,ai ts)::(a3,ag none)::(a2,ag (some (.ref D)))::(L,aJ [("word",.str word tw),("pair",.str pair tp),("both",.str both tb),("number",.int number tn),("codes",.ref l4),("place",.int k tk),("sign",.str (sing c) u),("figure",.int f tf),("body",.str (sing (fO pair f c)) tbd),("mark",.str (sing (markR number k)) tm)])::M)
    (fun v g' M'=>∃ l vs,v=.ref l∧M'=(l,ai vs.toArray)::(e,P1)::(it,P2)::(D,ai ts)::(a3,ag none)::(a2,ag (some (.ref D)))::(L,aJ [("word",.str word tw),("pair",.str pair tp),("both",.str both tb),("number",.int number tn),("codes",.ref l4),("place",.int k tk),("sign",.str (sing c) u),("figure",.int f tf),("body",.str (sing (fO pair f c)) tbd),("mark",.str (sing (markR number k)) tm)])::M∧vs.length≤2∧StrsAre vs ((eI pair number k c).map sing)):=by
   refine gk ?_
   ac_nf
   split
   ·rename_i h12
    have h12':f<12:=by (have:(f:Int)<12:=by simpa using h12);exact aQ [_] [] (.lt ah (.l 12)) (.T bA (.l 12)) ae this
    refine et ?_
    ac_nf
    refine ⟨by simp only[List.length];decide,fun l=>?_⟩
    refine (cb l ([_]) rfl rfl (by simp) ?_)
    unfold eI
    rw[hfg,if_pos h12']
    exact .cons _ _ .nil
   ·rename_i h12
    have h12':¬ f<12:=by (have:¬ (f:Int)<12:=by simpa using h12);exact aQ [_] [] (.nlt ah (.l 12)) (.U bA (.l 12)) ae this
    refine gk ?_
    ac_nf
    split
    ·rename_i h24
     have h24':f<24:=by (have:(f:Int)<24:=by simpa using h24);exact aQ [_] [] (.lt ah (.l 24)) (.T bA (.l 24)) ae this
     refine et ?_
     ac_nf
     refine ⟨by simp only[List.length];decide,fun l=>?_⟩
     refine (cb l ([_,_]) rfl rfl (by simp) ?_)
     unfold eI
     rw[hfg,if_neg h12',if_pos h24']
     exact .cons _ _ (.cons _ _ .nil)
    ·rename_i h24
     have h24':¬ f<24:=by (have:¬ (f:Int)<24:=by simpa using h24);exact aQ [_] [] (.nlt ah (.l 24)) (.U bA (.l 24)) ae this
     refine et ?_
     ac_nf
     refine ⟨by simp only[List.length];decide,fun l=>?_⟩
     refine (cb l ([_,_]) rfl rfl (by simp) ?_)
     unfold eI
     rw[hfg,if_neg h12',if_neg h24']
     exact .cons _ _ (.cons _ _ .nil)
  refine val.mono ?_
  refine fun O g₄ O l₄ q1=>bc q1 fun l vs q2 q3 hl2 hvs=>?_;clear q1;subst q2;subst q3
  refine tE (i:=3) (by rfl) (.own (.head _)) (by rw[vz];show ts.size+vs.length≤2^24;exact ln2 [_,_] [] (.le (.a ah am) (.p 2 24)) (.le ah mx) (.le am cH) ae hsz hl2) ?_
  refine aH (i:=5) (by rfl) (by rfl) ?_
  refine nF (i:=6) (l:=[("word",.str word tw),("pair",.str pair tp),("both",.str both tb),("number",.int number tn),("codes",.ref l4)]) (r:=[_,_,_,_,_]) (by rfl) ?_
  refine bu ?_
  exact KQ _ _ _ fun l=>kQ _ l vs hvs ([_])
 refine' uG ?_
 ac_nf
 split
 ·rename_i hin
  have hcc:=hc hin
  ac_nf
  refine bL B xy ?_
  ac_nf
  refine fq (by decide) fun O O=>?_
  have hm12:((f:Nat):Int).fmod 12=((f%12:Nat):Int):=by
   rw[im _ (by exact cY _)]
   push_cast
   rfl
  rw[hm12]
  have h12:f%12<12:=cQ _ (by decide)
  have SU:∀ M,Sees g M l4 (bq cs):=fun O=>.fz (hl4.imp fun O=>bj)
  refine ⟨bE (SU _),?_⟩
  refine bK (fh hcs (j:=f%12) h12) fun tu hu=>?_
  have hal:(alphL.map Int.ofNat).getD (f%12) 0=((alphL.getD (f%12) 0:Nat):Int)∧65≤alphL.getD (f%12) 0∧alphL.getD (f%12) 0≤120432:=by
   have h12':∀ j,j<12→(alphL.map Int.ofNat).getD j 0=((alphL.getD j 0:Nat):Int)∧65≤alphL.getD j 0∧alphL.getD j 0≤120432:=by decide
   exact h12' _ h12
  rw[hal.1] at hu
  refine aO (v:=.int ((alphL.getD (f%12) 0:Nat):Int) tu) (SU _) (cY _) (aQ [_] [] (.T bA (.p 2 63)) (.lt ah (.l 12)) ae h12) (by rw[d3,← Array.getElem?_toList];exact hu) ?_
  ac_nf
  refine bL B qq ?_
  ac_nf
  refine ⟨ap,?_⟩
  show W _ _ (call (.builtin "ord") [.str ⟨#[c]⟩ u]) _ _ _
  refine uV fun O O=>?_
  ac_nf
  refine ⟨ap,?_⟩
  show W _ _ (call (.builtin "chr") [.int (((alphL.getD (f%12) 0:Nat):Int)+c-97) _]) _ _ _
  refine yO (by have:=hal.2;exact ⟨aQ [_,_] [] (.L b6 (.s (.a bA eG) mo)) (.le mo am) ae hcc.1,ln2 [_,_] [] (.L (.s (.a bA eG) mo) gL) (.le am (.l 122)) (.le ah (.l 120432)) ae hcc.2 hal.2.2⟩) fun tm O=>?_
  have e:(((alphL.getD (f%12) 0:Nat):Int)+c-97).toNat=fO pair f c:=by
   unfold fO
   rw[if_pos hin]
   exact ln2 [_,_,_,_] [] (.eq ah am) (.Q bA (.s (.a lK nq) mo)) (.Y 1 (.eq (.a am mo) (.a ao aM))) ae (jX (aQ [_,_] [] (.L b6 (.s (.a bA eG) mo)) (.le mo am) ae hcc.1)) (bn (aQ [_,_] [] (.le mo (.a ah am)) (.le mo am) ae hcc.1))
  rw[e]
  refine aX (i:=5) (by rfl) ?_
  exact fin g _ _ .refl
 ·rename_i hin
  tb_start
  refine aX (i:=5) (by rfl) ?_
  have e:fO pair f c=c:=by
   unfold fO
   rw[if_neg hin]
  have fin':=fin g
  rw[e] at fin'
  exact fin' _ _ .refl
end
end
section
noncomputable def x6:Stmt→Expr
 | .For _ i _ ..=>i
 | _=>.Constant .none 0 ⟨0,0,0,0⟩
noncomputable def Cf:Expr→Expr
 | .Call _ (a::_) _ _=>a
 | e=>e
section
variable {C:Cx}{A:Around}{g:G}{M:be}{env:Env}{mg mb:Str→Option Value}{L a1 a2 a3 a c0:Addr}{word pair both:Str}{tw tp tb tn:Tok}{number:Nat}
theorem AC {lo:List (Str×Value)}(hA:A.handled=none)(B:Base C mg mb g){Q:PQ Flow}(kQ:∀ g',G.le g g'→∀ l us,Fz g' l (ai us)→IntsAre us.toList ju→Q .next g' ((a3,ag none)::(a2,ag none)::(a1,ag (some (.ref l)))::(L,aJ lo)::M)):W C A (exec (aI (aw (st 25)) 0) (iH L a1 a2 a3 a c0)) g ((a3,ag none)::(a2,ag none)::(a1,ag none)::(L,aJ lo)::M) Q:=by
 refine' bQ fun qQ KQ=>?_
 refine aA ?_
 refine' bh ?_
 refine et ?_
 ac_nf
 refine ⟨by simp only[List.length];decide,fun l1=>?_⟩
 ac_nf
 refine bL B mF ?_
 ac_nf
 refine bL B c6 ?_
 ac_nf
 refine ⟨br,?_⟩
 show W _ _ (call (.type "range") [.int 65024 _,.int 65040 _]) _ _ _
 refine iW fun g₁ r l₁ Fr=>?_
 replace B:=B.mono l₁
 ac_nf
 refine ⟨br,?_⟩
 show W _ _ (call (.type "list") [.ref r]) _ _ _
 refine jA hA Fr (by decide) (by decide) (by decide) fun l2 ys hys hval=>?_
 refine fb (.own (.tail _ (.head _))) (.own (.head _)) (by rw[hys];show 11+16≤2^24;exact by decide) fun l3=>?_
 have hI3:∀ t1 t2 t3 t4 t5 t6 t7 t8 t9 t10 t11,IntsAre ((#[.int 173 t1,.int 847 t2,.int 6150 t3,.int 6155 t4,.int 6156 t5,.int 6157 t6,.int 8203 t7,.int 8204 t8,.int 8205 t9,.int 8288 t10,.int 65279 t11]:Array Value)++ys).toList ju:=by
  intro t1 t2 t3 t4 t5 t6 t7 t8 t9 t10 t11
  rw[kf]
  have h2:IntsAre ys.toList [65024,65025,65026,65027,65028,65029,65030,65031,65032,65033,65034,65035,65036,65037,65038,65039]:=by
   refine iZ hys fun j v hv=>?_
   rw[Array.getElem?_toList] at hv
   refine bK (hval j v hv) fun t q1=>?_;subst q1
   have hj:j<16:=by have:=(Array.getElem?_eq_some_iff.mp hv).1;rw[hys] at this;exact this
   refine ⟨t,?_⟩
   have h16:∀ j:Nat,j<16→(65024:Int)+j=([65024,65025,65026,65027,65028,65029,65030,65031,65032,65033,65034,65035,65036,65037,65038,65039]:List Int).getD j 0:=by decide
   rw[h16 j hj]
  exact IntsAre.append (.cons _ _ (.cons _ _ (.cons _ _ (.cons _ _ (.cons _ _ (.cons _ _ (.cons _ _ (.cons _ _ (.cons _ _ (.cons _ _ (.cons _ _ .nil))))))))))) h2
 refine' eP (i:=1) ?_
 refine' eP (i:=1) ?_
 refine' bM (i:=0) rfl fun g₂ l₂ F3=>?_
 refine aH (i:=2) (by rfl) (by rfl) ?_
 exact KQ _ _ _ fun l=>kQ _ l _ _ F3 (hI3 _ _ _ _ _ _ _ _ _ _ _)
noncomputable abbrev zY:List Int:=[0,1,2,4,7,8,9,10,11,12]
theorem BJ (hA:A.handled=none)(B:Base C mg mb g){Q:PQ Flow}(kQ:∀ g',G.le g g'→∀ l cs,Fz g' l (ai cs)→IntsAre cs.toList (alphL.map Int.ofNat)→Q .next g' ((a3,ag none)::(a2,ag none)::(L,aJ [("word",.str word tw),("pair",.str pair tp),("both",.str both tb),("number",.int number tn),("codes",.ref l)])::M)):W C A (exec (aI (aw (st 25)) 1) (iH L a1 a2 a3 a c0)) g ((a3,ag none)::(a2,ag none)::(L,aJ [("word",.str word tw),("pair",.str pair tp),("both",.str both tb),("number",.int number tn)])::M) Q:=by
 refine' bQ fun qQ KQ=>?_
 refine aA ?_
 refine' bh ?_
 refine et ?_
 ac_nf
 refine ⟨by simp only[List.length];decide,fun l5=>?_⟩
 refine' jt (cl:=[]) (by rfl') fun q_1 K_1=>?_
 refine ed ?_
 ac_nf
 refine ⟨by simp only[List.length];decide,fun T g₄ l₄ FT=>?_⟩
 replace B:=B.mono l₄
 refine qH FT fun I P' Dr=>?_
 have hI:∀ t1 t2 t3 t4 t5 t6 t7 t8 t9 t10,IntsAre [.int 0 t1,.int 1 t2,.int 2 t3,.int 4 t4,.int 7 t5,.int 8 t6,.int 9 t7,.int 10 t8,.int 11 t9,.int 12 t10] zY:=fun t1 t2 t3 t4 t5 t6 t7 t8 t9 t10 =>
  .cons _ _ (.cons _ _ (.cons _ _ (.cons _ _ (.cons _ _ (.cons _ _ (.cons _ _ (.cons _ _ (.cons _ _ (.cons _ _ .nil)))))))))
 refine K_1 I P' _ (fun k ys O=>IntsAre ys.toList ((zY.take k).map fun j=>119808+52*j)) _ _ _ (Dr _ hA) (by simp) .nil ?_ ?_
 ·intro k g' ys v Cl D hk l' j hv hM_1 r_1 R_1
  replace hv:=(Array.getElem?_toList).trans hv
  refine bJ (f9 (hI _ _ _ _ _ _ _ _ _ _) hv) fun y t hy q2=>?_;subst q2
  ac_nf
  refine gl (IntMulOk.of_left (by show 6≤64;decide)) fun O O=>?_
  ac_nf
  refine R_1 _ _ [] ?_
  show IntsAre (ys.push _).toList ((zY.take (k+1)).map fun j=>119808+52*j)
  rw[uN,hy,ζ18,fM]
  exact IntsAre.append j (.cons _ _ .nil)
 ·intro g₅ g₆ cs D l₅ hcs l₆ FD
  refine fb (.own (.head _)) (.fz FD) ?_ fun l3=>?_
  ·have h10:=IntsAre.length hcs
   rw[fA] at h10
   show 2+cs.size≤2^24
   rw[h10]
   show 2+10≤2^24
   exact by decide
  refine' eP (i:=1) ?_
  refine' bM (i:=0) rfl fun g₇ l₇ F3=>?_
  refine aX (i:=2) (by rfl) ?_
  refine KQ _ _ _ fun l=>kQ _ l _ _ F3 ?_
  rw[kf]
  exact IntsAre.append (.cons _ _ (.cons _ _ .nil)) hcs
theorem AO:W C A (exec (aI (aw (st 25)) 2) (iH L a1 a2 a3 a c0)) g ((a3,ag none)::(a2,ag none)::M) (fun f g' M'=>f=.next∧∃ D,M'=(D,ai #[])::(a3,ag none)::(a2,ag (some (.ref D)))::M∧g'=g):=by
 refine aA ?_
 refine et ?_
 ac_nf
 refine ⟨by simp only[List.length];decide,fun D=>?_⟩
 refine aH (i:=2) (by rfl) (by rfl) ?_
 exact (ut rfl D rfl rfl)
noncomputable abbrev BB (word pair both:Str)(tw tp tb tn:Tok)(number:Nat)(l4:Addr):List (Str×Value):=[("word",.str word tw),("pair",.str pair tp),("both",.str both tb),("number",.int number tn),("codes",.ref l4)]
theorem Ag {M:be}{l4:Addr}(B:Base C mg mb g)(htp:tp≠0)(htb:tb≠0)(htt:tp≠tb)(hpb:(pair==both)=false)(hwl:word.length+(word.length+1)*both.length≤16777216){D:Addr×OP} :
  W C A (eval (Cf (x6 (aI (aw (st 25)) 3))) (iH L a1 a2 a3 a c0)) g (D::(a3,ag none)::(a2,ag (some (.ref D.1)))::(L,aJ (BB word pair both tw tp tb tn number l4))::M)
   (fun v g' M'=>M'=D::(a3,ag none)::(a2,ag (some (.ref D.1)))::(L,aJ (BB word pair both tw tp tb tn number l4))::M∧∃ t,v=.str (typedX word pair both number) t):=by
 refine gk ?_
 ac_nf
 refine fq (by decide) fun O O=>?_
 ac_nf
 have e:(number:Int).fmod 2=((number%2:Nat):Int):=by
  rw[im _ (by exact cY _)]
  push_cast
  rfl
 rw[e]
 split
 ·rename_i h1
  have h1':number%2=1:=by (have:((number%2:Nat):Int)=1:=by simpa using h1);exact aQ [_] [] (.eq ah av) (.Q bA av) ae this
  ac_nf
  intro pl
  refine' dU ?_
  ac_nf
  refine ⟨ap,?_⟩
  show W _ _ (call (.builtin "str.replace") [.str word tw,.str pair tp,.str both tb]) _ _ _
  refine' fE htp htb htt hpb hwl fun t'=>?_
  exact (lx rfl t' (by unfold typedX;rw[if_pos h1']))
 ·rename_i h1
  have h1':¬ number%2=1:=by (have:¬ ((number%2:Nat):Int)=1:=by simpa using h1);exact eE (aQ [_] [] (.lt ah av) (.T bA av) ae (Aw (aQ [_] [] (.L bA av) (.lt ah cH) ae (cQ _ (by decide))) this))
  ac_nf
  exact (lx rfl tw (by unfold typedX;rw[if_neg h1']))
theorem BM {l3 l4 D:Addr}{us cs:Array Value}(hA:A.handled=none)(B:Base C mg mb g)(htp:tp≠0)(htb:tb≠0)(htt:tp≠tb)(hpb:(pair==both)=false)(hwl:word.length+(word.length+1)*both.length≤16777216)(hxl:(typedX word pair both number).cps.size≤7)(hn:number<2^60)(hpc:∀ c,Txt.contains pair (sing c)=true→97≤c∧c≤122)(hcell:Fz g a1 (ag (some (.ref l3))))(hl3:Fz g l3 (ai us))(hus:IntsAre us.toList ju)(hl4:Fz g l4 (ai cs))(hcs:IntsAre cs.toList (alphL.map Int.ofNat)){Q:PQ Flow}(kQ:∀ g',G.le g g'→∀ ts,StrsAre ts.toList ((typedUp pair number (typedX word pair both number) (typedX word pair both number).cps.size).map sing)→Q .next g' ((D,ai ts)::(a3,ag none)::(a2,ag (some (.ref D)))::(L,aJ (BB word pair both tw tp tb tn number l4))::M)) :
  W C A (exec (aI (aw (st 25)) 3) (iH L a1 a2 a3 a c0)) g ((D,ai #[])::(a3,ag none)::(a2,ag (some (.ref D)))::(L,aJ (BB word pair both tw tp tb tn number l4))::M) Q:=by
 refine' bQ fun qQ KQ=>?_
 refine vB hA ?_
 refine az ?_
 refine bL B qt ?_
 refine aq ?_
 refine au ?_
 refine ab ?_
 refine (Ag (D:=(D,ai #[])) B htp htb htt hpb hwl).mono ?_
 refine fun O g₁ O l₁ q3=>ew q3 fun q4 t q5=>?_;clear q3;subst q4;subst q5
 refine aj ?_
 refine ⟨br,?_⟩
 show W _ _ (call (.type "enumerate") [.str (typedX word pair both number) t]) _ _ _
 refine vo fun e it hne=>?_
 generalize typedX word pair both number=x at *
 refine (ba e it x t _ (dy (fun k g' M'=>∃ ts,M'=(D,ai ts)::(a3,ag none)::(a2,ag (some (.ref D)))::(L,aJ (BB word pair both tw tp tb tn number l4))::M∧StrsAre ts.toList ((typedUp pair number x k).map sing)) hne rfl rfl (aG (#[]) rfl .nil) (jb ?_ ?_)))
 ·refine fun k g' g₂ O c tk u hk l' l2 q6 hc=>aL q6 fun ts q7 hts=>?_;clear q6;subst q7
  have ll:=l₁.trans (l'.trans l2)
  refine aF (aX (i:=5) (by rfl) ?_)
  refine aF (aX (i:=5) (by rfl) ?_)
  have hsz:ts.size≤16:=by
   have h1:=StrsAre.length hts
   rw[fA,fZ] at h1
   have h2:=iP pair number x k
   exact gh [_,_,_,_] [] (.le ah mx) (.X 2 (.le am fs)) (.X 2 (.lt ao am)) (.eq ah aM) (.le aM (.m 2 ao)) ae hxl hk h1 h2
  refine vq (x:=x) (t:=u) (B.mono ll) hn (b9 hk (bw hxl (by decide))) (hpc c) (hcell.mono ll) (hl3.mono ll) hus (hl4.mono ll) hcs hsz ?_
  intro g₅ l₅ vs hvs X
  refine (pT X _ rfl (ts++vs.toArray) rfl ?_)
  rw[typedUp,ζ18,kf]
  have e:x.cps.getD k 0=c:=by simp[Array.getD_eq_getD_getElem?,hc]
  rw[e]
  exact StrsAre.append' hts hvs
 ·refine fun g' O l' q11=>aL q11 fun ts q12 hts=>?_;clear q11;subst q12
  exact KQ _ _ _ fun l=>kQ _ l ts hts
noncomputable def cJ (codes:List Nat):List Value:=codes.map fun (c:Nat)=>Value.bool (decide ((c:Int)∈ju))
theorem ny {ts:Array Value}{codes:List Nat}{k:Nat}{v:Value}(h:StrsAre ts.toList (codes.map sing))(hv:ts[k]?=some v):∃ c t,codes[k]?=some c∧v=.str (sing c) t:=by
 rw[← Array.getElem?_toList] at hv
 refine bJ (c7 h hv) fun y t hy q13=>?_;subst q13
 rw[List.getElem?_map] at hy
 cases hc:codes[k]? with
 | none=>rw[hc] at hy;cases hy
 | some c=>rw[hc] at hy;cases hy;exact (bV c t rfl rfl)
theorem cu {α β:Type}(f:α→β){l:List α}{k:Nat}{c:α}(h:l[k]?=some c):(l.take (k+1)).map f=(l.take k).map f++[f c]:=by
 rw[uN,h,ζ18]
 rfl
theorem Bh {D:Addr}{ts:Array Value}{codes:List Nat}(rm:Rm A 2)(B:Base C mg mb g)(P:Prep C mg g)(Fc:Fz g a2 (ag (some (.ref D))))(FD:Fz g D (ai ts))(hts:StrsAre ts.toList (codes.map sing))(hsz:codes.length≤16){Q:PQ Flow}(kQ:∀ g',G.le g g'→∀ K ks,Fz g' K (ai ks)→ks.toList=cJ codes→Q .next g' ((a3,ag (some (.ref K)))::M)) :
  W C A (exec (aI (aw (st 25)) 4) (iH L a1 a2 a3 a c0)) g ((a3,ag none)::M) Q:=by
 refine' bQ fun qQ KQ=>?_
 refine bK (B.get 20) fun a20 e20=>?_
 have hlen:ts.size=codes.length:=by
  have:=StrsAre.length hts
  rwa [fA,fZ] at this
 refine aA ?_
 refine' jt (cl:=[]) (by rfl') fun q_2 K_2=>?_
 refine aU (c:=a2) (by rfl) (.fz Fc) ?_
 refine bX (FD.imp fun O=>bj) fun I P' Dr go=>?_
 refine K_2 I P' _ (fun k ys O=>ys.toList=cJ (codes.take k)) _ _ _ (Dr _ rm.h) (ln2 [_,_] [] (.le ah aY) (.le am mx) (.eq ah am) ae hsz hlen) rfl ?_ ?_
 ·intro k g' ys v Cl D' hk l' j hv hM_2 r_2 R_2
  refine bJ (ny hts hv) fun c t hc q14=>?_;subst q14
  ac_nf
  refine bF (B.mono l') e20 ?_
  ac_nf
  refine ⟨(B.mono l').kept 20 e20,?_⟩
  refine (yC (B.mono l') (P.mono l') e20 rm.le).mono ?_
  refine fun O g₂ O l₂ q15=>dI q15 fun q16 q17=>?_;clear q15;subst q16;subst q17
  refine R_2 _ _ [] ?_
  show (ys.push _).toList=cJ (codes.take (k+1))
  rw[fM,j,cJ,cJ,cu _ hc]
 ·intro g₅ g₆ ks K l₅ hks l₆ FK
  refine aH (i:=0) (by rfl) (by rfl) ?_
  refine KQ _ _ _ fun l=>kQ _ l K ks FK ?_
  rw[hks,hlen,mu]
theorem i8 (h:Heap):∀ bs:List Bool,ReadsAll h (bs.map Value.bool) (bs.map PyData.bool) []
 | []=>.nil
 | b::r=>by
  have:=ReadsAll.cons (Reads.bool (h:=h) b) (i8 h r)
  simpa using this
theorem lJ {h:Heap}{a:Addr}{xs:Array Value}{bs:List Bool}(hl:h.IsList a xs)(e:xs.toList=bs.map Value.bool):Reads h (.ref a) (.list (bs.map PyData.bool)) [a]:=by
 refine tV hl fun o ho hc n hd=>?_;clear hl
 exact Reads.list ho hc hd (by rw[e];exact i8 h bs)
theorem kj (bs:List Bool):SeqAt.shaped (.list (bs.map PyData.bool))=true:=by
 have h1:∀ bs:List Bool,PyData.canLayAll0 (bs.map PyData.bool)=true:=by
  intro bs
  induction bs with
  | nil=>simp[PyData.canLayAll0]
  | cons b r ih=>simp[PyData.canLayAll0,PyData.canLay0,ih]
 have h2:∀ bs:List Bool,PyData.depthAll (bs.map PyData.bool)≤1:=by
  intro bs
  induction bs with
  | nil=>simp[PyData.depthAll]
  | cons b r ih=>simp only[dC,PyData.depthAll,PyData.depth];lia
 have h3:=h2 bs
 show (PyData.canLay0 (.list (bs.map PyData.bool))&&decide (PyData.depth (.list (bs.map PyData.bool))≤64))=true
 rw[iO]
 exact ⟨by simp only[PyData.canLay0];exact h1 bs,decide_eq_true (by simp only[PyData.depth];exact mt (bw h3 (by decide)) _)⟩
theorem o9:∀ bs:List Bool,PyData.eqvAll (bs.map PyData.bool) (bs.map PyData.bool)=true
 | []=>by simp[PyData.eqvAll]
 | b::r=>by cases b<;>simp[PyData.eqvAll,PyData.eqv,o9 r]
theorem By {D K l3:Addr}{ts ks us:Array Value}{codes:List Nat}(rm:Rm A 7)(B:Base C mg mb g)(Fc:Fz g a2 (ag (some (.ref D))))(FD:Fz g D (ai ts))(hts:StrsAre ts.toList (codes.map sing))(hsz:codes.length≤16)(Fk:Fz g a3 (ag (some (.ref K))))(FK:Fz g K (ai ks))(hks:ks.toList=cJ codes)(Fu:Fz g a1 (ag (some (.ref l3))))(hl3:Fz g l3 (ai us))(hus:IntsAre us.toList ju){Q:PQ Flow}(kQ:∀ g',G.le g g'→Q .next g' M) :
  W C A (exec (aI (aw (st 25)) 5) (iH L a1 a2 a3 a c0)) g M Q:=by
 refine' bQ fun qQ KQ=>?_
 have hlen:ts.size=codes.length:=by
  have:=StrsAre.length hts
  rwa [fA,fZ] at this
 have hlenk:ks.size=codes.length:=by
  have:=congrArg List.length hks
  rwa [fA,cJ,fZ] at this
 refine nI ?_
 refine aR ?_
 refine' jt (cl:=[]) (by rfl') fun q_3 K_3=>?_
 refine aU (c:=a3) (by rfl) (.fz Fk) ?_
 refine bX (FK.imp fun O=>bj) fun I P' Dr go=>?_
 refine K_3 I P' _ (fun k ys O=>ys.toList=cJ (codes.take k)) _ _ _ (Dr _ rm.h) (ln2 [_,_] [] (.le ah aY) (.le am mx) (.eq ah am) ae hsz hlenk) rfl ?_ ?_
 ·intro k g' ys v Cl D' hk l' j hv hM_3 r_3 R_3
  rw[← Array.getElem?_toList,hks,cJ,List.getElem?_map] at hv
  cases hc:codes[k]? with
  | none=>rw[hc] at hv;cases hv
  | some c =>
  rw[hc] at hv
  cases hv
  ac_nf
  refine kJ ?_
  refine R_3 _ _ [] ?_
  show (ys.push _).toList=cJ (codes.take (k+1))
  rw[fM,j,cJ,cJ,cu _ hc]
  cases (decide ((c:Int)∈ju))<;>rfl
 intro g₅ g₆ ks1 K1 l₅ hks1 l₆ FK1
 rw[hlenk,mu] at hks1
 have l56:=l₅.trans l₆
 replace B:=B.mono l56
 refine' jt (cl:=[("unseen",a1)]) (by rfl') fun q_4 K_4=>?_
 refine aU (c:=a2) (by rfl) (.fz (Fc.mono l56)) ?_
 refine bX ((FD.mono l56).imp fun O=>bj) fun I P' Dr go=>?_
 refine K_4 I P' _ (fun k ys O=>ys.toList=cJ (codes.take k)) _ _ _ (Dr _ rm.h) (ln2 [_,_] [] (.le ah aY) (.le am mx) (.eq ah am) ae hsz hlen) rfl ?_ ?_
 ·intro k g' ys v Cl D' hk l' j hv hM_4 r_4 R_4
  refine bJ (ny hts hv) fun c t hc q18=>?_;subst q18
  ac_nf
  refine bL (B.mono l') qq ?_
  ac_nf
  refine ⟨ap,?_⟩
  show W _ _ (call (.builtin "ord") [.str ⟨#[c]⟩ t]) _ _ _
  refine uV fun O O=>?_
  refine aU (c:=a1) (by rfl) (.fz (Fu.mono (l56.trans l'))) ?_
  refine xk (.fz (((hl3.mono (l56.trans l')).imp fun O=>bj))) hus ?_
  refine R_4 _ _ [] ?_
  show (ys.push _).toList=cJ (codes.take (k+1))
  rw[fM,j,cJ,cJ,cu _ hc]
  have e:(ju.any fun x=>x==(c:Int))=decide ((c:Int)∈ju):=by
   rw[Bool.eq_iff_iff,List.any_eq_true,decide_eq_true_iff]
   exact ⟨fun q19=>aL q19 fun x hx h=>by rw[← (beq_iff_eq.mp h)];exact hx,fun h=>(aG _ h (by simp))⟩
  rw[e]
 intro g₇ g₈ ks2 K2 l₇ hks2 l₈ FK2
 rw[hlen,mu] at hks2
 have hk:cJ codes=(codes.map fun (c:Nat)=>decide ((c:Int)∈ju)).map Value.bool:=by rw[jW];rfl
 rw[hk] at hks1 hks2
 refine rY (fun s S=>(bV _ _ (lJ (S.list (.fz ((FK1.mono (l₇.trans l₈)).imp fun O=>bj))) hks1) (lJ (S.list (.fz (FK2.imp fun O=>bj))) hks2))) (kj _) (kj _) ?_ ?_
 ·have:=rm.u
  show A.units+64<9900
  exact aQ [_] [] (.lt (.a ah oE) ir) (.le (.a ah (.m 10 fs)) ez) ae this
 have e:PyData.eqv (.list ((codes.map fun (c:Nat)=>decide ((c:Int)∈ju)).map PyData.bool)) (.list ((codes.map fun (c:Nat)=>decide ((c:Int)∈ju)).map PyData.bool))=true:=by
  simp only[PyData.eqv]
  exact o9 _
 rw[e]
 refine aV ?_
 rw[if_neg (by simp)]
 refine bu ?_
 exact KQ _ _ _ fun l=>kQ _ l
theorem gQ {α β:Type}(f:α→β)(p:α→Bool){l:List α}{k:Nat}{c:α}(h:l[k]?=some c):((l.take (k+1)).filter p).map f=((l.take k).filter p).map f++(if p c=true then [f c] else []):=by
 rw[uN,h,s5,ζ18]
 congr 1
 cases hp:p c<;>simp[hp]
theorem Bf {D K:Addr}{ts ks:Array Value}{codes:List Nat}(rm:Rm A 7)(B:Base C mg mb g)(P:Prep C mg g)(Fc:Fz g a2 (ag (some (.ref D))))(FD:Fz g D (ai ts))(hts:StrsAre ts.toList (codes.map sing))(hsz:codes.length≤16)(Fk:Fz g a3 (ag (some (.ref K))))(FK:Fz g K (ai ks))(hks:ks.toList=cJ codes)(hlow:∀ c∈codes,eC c=true→Builtin.Str.tooLong (Txt.lower ⟨#[c]⟩).length=false)(hjoin:(((codes.filter eC).map dZ).map (·.length)).sum≤16777216){Q:PQ Flow}(kQ:∀ g',G.le g g'→∀ t,Q (.ret (.str (Txt.join Str.empty ((codes.filter eC).map dZ)) t)) g' M) :
  W C A (exec (aI (aw (st 25)) 6) (iH L a1 a2 a3 a c0)) g M Q:=by
 refine' bQ fun qQ KQ=>?_
 obtain ⟨a22,e22⟩:=B.get 22
 have hlen:ts.size=codes.length:=by
  have:=StrsAre.length hts
  rwa [fA,fZ] at this
 refine cz ?_
 ac_nf
 intro pl
 refine' fg ?_
 ac_nf
 refine' sC (cl:=[("typed",a2),("kinds",a3)]) (by rfl') fun q_5 K_5=>?_
 ac_nf
 refine bL B c6 ?_
 ac_nf
 refine bL B eN ?_
 ac_nf
 refine ⟨ap,?_⟩
 show W _ _ (call (.builtin "len") [.ref D]) _ _ _
 refine fJ (.fz (FD.imp fun O=>bj)) (ln2 [_,_] [] (.lt ah (.p 2 62)) (.le am mx) (.eq ah am) ae hsz hlen) fun t'=>?_
 refine aj ?_
 refine ⟨br,?_⟩
 show W _ _ (call (.type "range") [.int ts.size t']) _ _ _
 refine fu fun g₁ r l₁ Fr=>?_
 refine cw Fr (by decide) (⟨eF [_] [] (.T (.g (.p 2 62)) bA) ae,ln2 [_,_] [] (.T bA (.p 2 62)) (.le am mx) (.eq ah am) ae hsz hlen⟩) fun I P' Dr=>?_
 have hn:((ts.size:Int)-0).toNat=codes.length:=by exact ln2 [_,_,_] [] (.eq ah am) (.eq ao am) (.Q bA (.s lK b6)) ae hlen (jX (eF [_] [] (.L b6 (.s bA b6)) ae))
 rw[hn] at Dr
 refine K_5 I P' _ (fun k ys O=>StrsAre ys.toList (((codes.take k).filter eC).map dZ)) _ _ _ (Dr _ rm.h) (bw hsz (by decide)) .nil ?_ ?_
 ·refine fun k g' ys O Cl D' hk l' j q20 hM r b R K_b=>bK q20 fun tv q21=>?_;clear q20;subst q21
  have l2:=l₁.trans l'
  have hc:codes[k]?=some codes[k]:=List.getElem?_eq_getElem hk
  generalize codes[k]=c at hc
  ac_nf
  refine aU (c:=a3) (by rfl) (.fz (Fk.mono l2)) ?_
  ac_nf
  have SK:∀ M,Sees g' M K (bq ks):=fun O=>.fz ((FK.mono l2).imp fun O=>bj)
  refine ⟨bE (SK _),?_⟩
  have hx:ks[((0:Int)+(k:Int)).toNat]?=some (.bool (decide ((c:Int)∈ju))):=by
   rw[show ((0:Int)+(k:Int)).toNat=k from by exact qx _,← Array.getElem?_toList,hks,cJ,List.getElem?_map,hc]
   rfl
  refine aO (SK _) (cY _) (ln2 [_,_] [] (.T (.a b6 bA) (.p 2 63)) (.le am mx) (.lt ah am) ae hsz hk) hx ?_
  ac_nf
  refine kJ ?_
  ac_nf
  have en:(decide ((c:Int)∈ju)==false)=eC c:=by unfold eC;cases decide ((c:Int)∈ju)<;>rfl
  rw[en]
  cases hp:eC c with
  | true =>
   refine K_b _ _ [] (fun O=>?_) (fun h=>nomatch h)
   show W _ _ (eval _ _) _ ((Cl,_)::_) _
   ac_nf
   refine bF (B.mono l2) e22 ?_
   ac_nf
   refine aU (c:=a2) (by rfl) (.fz (Fc.mono l2)) ?_
   ac_nf
   have SD:∀ M,Sees g' M D (bq ts):=fun O=>.fz ((FD.mono l2).imp fun O=>bj)
   refine ⟨bE (SD _),?_⟩
   obtain ⟨tt,htt⟩:∃ tt,ts[((0:Int)+(k:Int)).toNat]?=some (.str (sing c) tt):=by
    rw[show ((0:Int)+(k:Int)).toNat=k from by exact qx _]
    have hk2:k<ts.size:=by exact b9 hk (cG hlen.symm)
    refine bJ (ny hts (Array.getElem?_eq_getElem hk2)) fun c' t hc' e=>?_
    rw[hc] at hc'
    cases hc'
    exact ⟨t,by rw[Array.getElem?_eq_getElem hk2,e]⟩
   refine aO (SD _) (cY _) (ln2 [_,_] [] (.T (.a b6 bA) (.p 2 63)) (.le am mx) (.lt ah am) ae hsz hk) htt ?_
   ac_nf
   refine ⟨(B.mono l2).kept 22 e22,?_⟩
   refine (wK (B.mono l2) (P.mono l2) e22 (hlow c (iu hc) hp) rm.le).mono ?_
   refine fun O g₃ O l₃ q22=>ew q22 fun q23 t3 q24=>?_;clear q22;subst q23;subst q24
   refine R _ _ [] ?_
   show StrsAre (ys.push _).toList (((codes.take (k+1)).filter eC).map dZ)
   rw[fM,gQ _ _ hc,hp,if_pos rfl]
   exact StrsAre.append' j (.cons _ _ .nil)
  | false =>
   refine K_b _ _ [] (fun h=>nomatch h) (fun O=>?_)
   show StrsAre ys.toList (((codes.take (k+1)).filter eC).map dZ)
   rw[gQ _ _ hc,hp,if_neg (by simp),tD]
   exact j
 intro g₅ g₆ ys K1 l₅ hys l₆ FK1
 rw[mu] at hys
 refine aj ?_
 refine ⟨ap,?_⟩
 show W _ _ (call (.builtin "str.join") [.str _ _,.ref K1]) _ _ _
 refine er (.fz (FK1.imp fun O=>bj)) hys (by show _+_*0≤_;exact aQ [_,_] [] (.le (.a ah (.r am 0)) aY) (.le ah aY) ae hjoin) fun t'=>?_
 exact KQ _ _ _ fun l=>kQ _ l t'
theorem Ao:aw (st 25)=[aI (aw (st 25)) 0,aI (aw (st 25)) 1,aI (aw (st 25)) 2,aI (aw (st 25)) 3,aI (aw (st 25)) 4,aI (aw (st 25)) 5,aI (aw (st 25)) 6]:=by rfl
theorem ua {A:Around}{word pair both:Str}{tw tp tb tn:Tok}{number:Nat}{a:Addr}(B:Base C mg mb g)(P:Prep C mg g)(e:mg (ax (st 25))=some (.ref a))(htp:tp≠0)(htb:tb≠0)(htt:tp≠tb)(hpb:(pair==both)=false)(hwl:word.length+(word.length+1)*both.length≤16777216)(hxl:(typedX word pair both number).cps.size≤7)(hn:number<2^60)(hpc:∀ c,Txt.contains pair (sing c)=true→97≤c∧c≤122)(hlow:∀ c∈typedUp pair number (typedX word pair both number) (typedX word pair both number).cps.size,eC c=true→Builtin.Str.tooLong (Txt.lower ⟨#[c]⟩).length=false)(hjoin:(((((typedUp pair number (typedX word pair both number) (typedX word pair both number).cps.size).filter eC).map dZ)).map (·.length)).sum≤16777216)(rm:Rm A 8) :
  W C A (call (.ref a) [.str word tw,.str pair tp,.str both tb,.int number tn] []) g M (fun r g' M'=>M'=M∧∃ t,r=.str (r7 word pair both number) t):=by
 refine aK (B.defs 25 rfl (by decide)) fun a' c e' Da O=>?_
 have:a'=a:=by rw[e] at e';cases e';rfl
 subst this
 refine ic (k:=3) (binds:=[("word",.str word tw),("pair",.str pair tp),("both",.str both tb),("number",.int number tn)]) Da B.lim rm.room (fun O=>rfl) rfl fun L as has=>?_
 obtain ⟨a1,a2,a3,rfl⟩:∃ a1 a2 a3,as=[a1,a2,a3]:=by
  match as,has with
  | [x,y,z],_=>exact (gJ x y z rfl)
 refine aN (aX (i:=3) (by rfl) ?_)
 refine aN (aX (i:=3) (by rfl) ?_)
 refine aN (aX (i:=3) (by rfl) ?_)
 refine aN (aX (i:=3) (by rfl) ?_)
 refine W_binds_nil ?_
 have hcl:=iP pair number (typedX word pair both number) (typedX word pair both number).cps.size
 rw[Ao]
 have rm':∀ env,Rm (A.deeper env) 7:=fun env=>rm.deeper
 refine' bI (M':=(a3,ag none)::(a2,ag none)::(a1,ag none)::(L,aJ [("word",.str word tw),("pair",.str pair tp),("both",.str both tb),("number",.int number tn)])::M) (by rfl') ?_
 refine' af ?_
 refine' AC (rm' _).h B fun g₁ l₁ l3 us F3 hus=>?_
 refine' Bw fun g₂ l₂ Fc1=>?_
 have l02:=l₁.trans l₂
 refine' af ?_
 refine' BJ (rm' _).h (B.mono l02) fun g₃ l₃ l4 cs F4 hcs=>?_
 refine' af ?_
 refine' AO.mono ?_
 refine fun O g₄ O l₄ q31=>d6 q31 fun q32 D q33 q34=>?_;clear q31;subst q32;subst q33;subst q34
 have l04:=l02.trans l₃
 refine' af ?_
 refine' BM (rm' _).h (B.mono l04) htp htb htt hpb hwl hxl hn hpc (Fc1.mono l₃) (F3.mono (l₂.trans l₃)) hus F4 hcs fun g₅ l₅ ts hts=>?_
 have hr:r7 word pair both number=Txt.join Str.empty (((typedUp pair number (typedX word pair both number) (typedX word pair both number).cps.size).filter eC).map dZ):=rfl
 generalize typedUp pair number (typedX word pair both number) (typedX word pair both number).cps.size=codes at *
 refine' dE fun g₆ l₆ FD=>?_
 refine' fo fun g₇ l₇ Fc2=>?_
 replace FD:=FD.mono l₇
 have l07:=l04.trans (l₅.trans (l₆.trans l₇))
 refine' af ?_
 refine' Bh (rm' _).le (B.mono l07) (P.mono l07) Fc2 FD hts (by with_unfolding_all exact ln2 [_,_] [] (.le ah mx) (.X 2 (.le am fs)) (.le ah (.m 2 am)) ae hxl hcl) fun g₈ l₈ K ks FK hks=>?_
 refine' dE fun g₉ l₉ Fc3=>?_
 have l79:=l₈.trans l₉
 have l09:=l07.trans l79
 replace FK:=FK.mono l₉
 replace FD:=FD.mono l79
 replace Fc2:=Fc2.mono l79
 refine' af ?_
 refine' By (rm' _) (B.mono l09) Fc2 FD hts (by with_unfolding_all exact ln2 [_,_] [] (.le ah mx) (.X 2 (.le am fs)) (.le ah (.m 2 am)) ae hxl hcl) Fc3 FK hks (Fc1.mono (l₃.trans (l₅.trans (l₆.trans (l₇.trans l79))))) (F3.mono (l₂.trans (l₃.trans (l₅.trans (l₆.trans (l₇.trans l79)))))) hus fun g₁₀ l₁₀=>?_
 refine' af ?_
 refine' Bf (rm' _) (B.mono (l09.trans l₁₀)) (P.mono (l09.trans l₁₀)) (Fc2.mono l₁₀) (FD.mono l₁₀) hts (by with_unfolding_all exact ln2 [_,_] [] (.le ah mx) (.X 2 (.le am fs)) (.le ah (.m 2 am)) ae hxl hcl) (Fc3.mono l₁₀) (FK.mono l₁₀) hks hlow hjoin fun g₁₁ l₁₁ t=>?_
 exact (bP ([_]) M rfl rfl t (by rw[hr]))
end
end
section
section
variable {C:Cx}{A:Around}{g:G}{M:be}{env:Env}
theorem dk {na nb:Str}{elts:List Expr}{k:Nat}{tpos pos:Pos}{value:Expr}{Q:PQ Flow}(hA:A.handled=none)(h:W C A (eval value env) g M (fun v g₁ M₁=>∃ T u w,v=.ref T∧Sees g₁ M₁ T (bS #[u,w])∧W C A (storeName env nb w) g₁ M₁ (fun O g₂ M₂=>W C A (storeName env na u) g₂ M₂ (fun O=>Q .next))))(hs:swapsWithSole [.Tuple elts k tpos] value pos.line env=pure false:=by rfl')(hw:swappedStores [.Tuple elts k tpos] value env=pure (some [na,nb]):=by rfl'):W C A (exec (.Assign [.Tuple elts k tpos] value pos) env) g M Q:=by
 have e:exec (.Assign [.Tuple elts k tpos] value pos) env=(do
   standAt pos
   let v ← eval value env
   rule "assign.swapped-stores"
   let items ← unpackItems v 2 none
   assignInOrder [fun w=>bindName env nb w,fun u=>bindName env na u] items.reverse
   pure .next):=by
  rw[PyProof.Rows.exec_Assign,hs,hw]
  rfl
 rw[e]
 refine ak (aP (ak (h.mono ?_)))
 refine fun O g₁ M₁ O q1=>bC q1 fun T u w q2 hT h=>?_;clear q1;subst q2
 refine ak (xN (ak (j3 (items:=#[u,w]) hA hT ?_)))
 show W C A (do (do holding [u] (bindName env nb w);(do holding [] (bindName env na u);pure ()));pure .next) g₁ M₁ Q
 exact ak (ak (aD (fQ (h.mono fun O O O O h=>ak (aD (fQ (h.mono fun O O O O h=>ay (ay h))))))))
noncomputable abbrev xK (l u st:Option (Int×Tok)):OP:=fun o=>o.cls=.type "slice"∧o.data=.fields #[partValue l,partValue u,partValue st]
theorem gp {x:Str}{t:Tok}{sl:Addr}{l u st:Option (Int×Tok)}{z:Str}{Q:PQ Value}(hs:Sees g M sl (xK l u st))(h0:((st.map (·.1)).getD 1==0)=false)(hz:(if ((st.map (·.1)).getD 1==1&&(slicePicked x l u st).length==x.length)=true then x else ⟨((slicePicked x l u st).filterMap (x.cps[·]?)).toArray⟩)=z)(hl:z.length≤sizeLine)(h:∀ t',Q (.str z t') g M):W C A (getItem (.str x t) (.ref sl)) g M Q:=f8 fun s S=>by
 refine bT (S.sees hs) fun o ho hc hd=>?_
 refine getItem_meets (typeIs_str s x t) (by decide) F.slot_str_getitem F.entry_str_getitem (F.args_str_getitem_2 _ _) (meets_str_getitem_slice x t sl l u st h0) ⟨(bU o ho hc hd),?_⟩
 unfold sliceMade
 split
 ·rename_i hh
  rw[if_pos hh] at hz
  subst hz
  exact fun hn=>(an g M .refl (S.toks hn) (h t))
 ·rename_i hh
  rw[if_neg hh] at hz
  subst hz
  exact ⟨hl,fun hn=>(an g M .refl (S.toks hn) (h _))⟩
theorem te {x:Str}{t:Tok}{sl:Addr}{a b:Nat}{ta tb:Tok}{Q:PQ Value}(hs:Sees g M sl (xK (some ((a:Int),ta)) (some ((b:Int),tb)) none))(hab:a≤b)(hb:b≤x.length)(hl:x.length≤sizeLine)(h:∀ t',Q (.str ⟨((x.cps.toList.drop a).take (b-a)).toArray⟩ t') g M):W C A (getItem (.str x t) (.ref sl)) g M Q :=
 gp hs rfl (z:=⟨((x.cps.toList.drop a).take (b-a)).toArray⟩) (StrLaws.sliceText_nat x hab hb) (by
                            show ((x.cps.toList.drop a).take (b-a)).toArray.size≤sizeLine
                            simp only[vz,js,gA]
                            have:x.length=x.cps.toList.length:=rfl
                            lia) h
theorem gj {x:Str}{t:Tok}{sl:Addr}{a:Nat}{ta:Tok}{Q:PQ Value}(hs:Sees g M sl (xK (some ((a:Int),ta)) none none))(ha:a≤x.length)(hl:x.length≤sizeLine)(h:∀ t',Q (.str ⟨(x.cps.toList.drop a).toArray⟩ t') g M):W C A (getItem (.str x t) (.ref sl)) g M Q:=by
 refine gp hs rfl ?_ (by (show (x.cps.toList.drop a).toArray.size≤sizeLine);simp only[vz,gA];have:x.length=x.cps.toList.length:=rfl;lia) h
 have e:=StrLaws.sliceText_nat x ha (dX _)
 unfold StrLaws.sliceText at e
 rw[← StrLaws.sliceIdx_none_hi] at e
 have e2:(x.cps.toList.drop a).take (x.length-a)=x.cps.toList.drop a:=sL (by rw[gA];exact dX _)
 rw[e2] at e
 exact e
theorem pp {x:Str}{t:Tok}{sl:Addr}{b:Nat}{tb:Tok}{Q:PQ Value}(hs:Sees g M sl (xK none (some ((b:Int),tb)) none))(hb:b≤x.length)(hl:x.length≤sizeLine)(h:∀ t',Q (.str ⟨(x.cps.toList.take b).toArray⟩ t') g M):W C A (getItem (.str x t) (.ref sl)) g M Q:=by
 refine gp hs rfl ?_ (by (show (x.cps.toList.take b).toArray.size≤sizeLine);simp only[vz,js];have:x.length=x.cps.toList.length:=rfl;exact bw (Nat.min_le_left _ _) (bw hb hl)) h
 have e:=StrLaws.sliceText_nat x (iE b) hb
 unfold StrLaws.sliceText at e
 rw[show ((0:Nat):Int)=0 from rfl,← StrLaws.sliceIdx_none_lo,List.drop_zero,Nat.sub_zero] at e
 exact e
theorem nW {x:Str}{t:Tok}{sl:Addr}{tb:Tok}{Q:PQ Value}(hs:Sees g M sl (xK none none (some (-1,tb))))(hl:x.length≤sizeLine)(h:∀ t',Q (.str ⟨x.cps.toList.reverse.toArray⟩ t') g M):W C A (getItem (.str x t) (.ref sl)) g M Q:=by
 refine gp hs rfl ?_ (by (show x.cps.toList.reverse.toArray.size≤sizeLine);simp only[vz,kY];exact hl) h
 rw[if_neg (by simp)]
 have e:slicePicked x none none (some (-1,tb))=(List.range x.cps.size).reverse:=by
  show Builtin.Str.strSliceIndices none none (-1) x.cps.size=_
  unfold Builtin.Str.strSliceIndices
  show sliceRange ((x.cps.size:Int)-1) (-1) (-1)=_
  rw[krv_sliceRange,krv_range]
 rw[e,List.filterMap_reverse,krv_all]
theorem xB {x:Str}{n:Int}{t u:Tok}{Q:PQ Value}(hok:MulOk x n)(h:∀ t',Q (.str (Txt.mul x n) t') g M):W C A (binaryOp .Mult (.str x t) (.int n u)) g M Q:=f8 fun s S =>
 SB.mul hok fun t' k hn=>(an g M .refl (S.toks hn) (h t'))
theorem my {x:Str}{t:Tok}{n:Int}{Q:PQ Value}(hn:PySem.intText? x=some n)(hl:x.length≤640)(h:∀ t,t≠0→Q (.int n t) g M):W C A (call (.type "int") [.str x t]) g M Q:=kh (fun O O O q=>KIN.call_text hn hl q) h
theorem qC {a:Int}{t:Tok}{Q:PQ Value}(ha:a.natAbs.log2<1920)(h:∀ t,t≠0→Q (.str (toString a) t) g M):W C A (call (.type "str") [.int a t]) g M Q:=yP (fun O O O q=>P.str_of_int ha q) h
theorem pX {x y:Str}{t u:Tok}{Q:PQ Value}(h:Q (.bool (x==y)) g M):W C A (compareOp .Eq (.str x t) (.str y u)) g M Q:=fun s S=>eq_str (an g M .refl S h)
theorem kM {x y:Str}{t u:Tok}{Q:PQ Value}(h:Q (.bool (x != y)) g M):W C A (compareOp .NotEq (.str x t) (.str y u)) g M Q:=fun s S=>ne_str (an g M .refl S h)
theorem yk {x y:Str}{t u:Tok}{Q:PQ Value}(h:Q (.bool (x.cps.toList<y.cps.toList)) g M):W C A (compareOp .Lt (.str x t) (.str y u)) g M Q:=fun s S=>lt_str (an g M .refl S h)
theorem nC {l:Addr}{xs:Array Value}{ys:List Str}{k:Str}{t:Tok}{j:Nat}{Q:PQ Value}(hl:Sees g M l (ai xs))(hi:StrsAre xs.toList ys)(hj:ys[j]?=some k)(hno:∀ m,m<j→ys[m]?≠some k)(hsz:ys.length≤16777216)(h:∀ t',t'≠0→Q (.int j t') g M):W C A (call (.builtin "list.index") [.ref l,.str k t]) g M Q:=fun s S=>by
 refine bK (S.isL hl) fun n hl=>?_
 have hlen:=StrsAre.length hi
 rw[fA] at hlen
 have hjl:=(List.getElem?_eq_some_iff.mp hj).1
 have at_:∀ m (hm:m<xs.size),∃ t,xs[m]=.str (ys[m]'(b9 hm (cG hlen))) t:=fun m hm=>by
  refine bJ (c7 hi (j:=m) (v:=xs[m]) (by rw[Array.getElem?_toList];exact Array.getElem?_eq_getElem hm)) fun y u hy e=>?_
  exact ⟨u,by rw[e,(List.getElem?_eq_some_iff.mp hy).2]⟩
 refine call_meets F.slot_list_index (aG _ hl rfl) F.entry_list_index (F.args_list_index_2 _ _)
  (MeetsSeq.list_index l xs n (.str k t) (isStrOf k) (fun y hy=>eq_isStrOf k t hi y (by simpa using hy)) j (b9 hjl (cG hlen.symm)) (ln2 [_,_] [] (.T bA (.s (.p 2 63) av)) (.le am aY) (.lt ah am) ae hsz hjl) ?_ ?_) (kH hl g M .refl (S.toks (fB _)) (h _ (df S.tk.2)))
 ·refine bK (at_ j (b9 hjl (cG hlen.symm))) fun u e=>?_
  rw[e]
  show (ys[j]==k)=true
  rw[(List.getElem?_eq_some_iff.mp hj).2]
  exact beq_self_eq_true k
 ·intro m hm hlt
  refine bK (at_ m hm) fun u e=>?_
  rw[e]
  show (ys[m]==k)=false
  have:=hno m hlt
  rw[List.getElem?_eq_getElem (b9 hm (cG hlen))] at this
  exact beq_eq_false_iff_ne.mpr fun e=>this (by rw[e])
end
end
section
open AutoSeq1 (wpAny_loadPart')
theorem va {w:World}{A:Around}{E:Value→Shared→Prop}{s:Shared}{a b:Addr}{x i y j:Value}{n m:Nat}{Q:Fin→Shared→Prop}(ha:s.heap.get? a=some { cls:=.type "tuple",data:=.seq #[x,i] n })(hb:s.heap.get? b=some { cls:=.type "tuple",data:=.seq #[y,j] m })(he:∀ Q' E',Q' false s→wpAny (model prog w) A (eqBool x y) Q' E' s){r:Bool}(hl:∀ Q' E',Q' (.bool r) s→wpAny (model prog w) A (richCompare .Lt x y) Q' E' s)(hQ:Q (.done (.ret (.bool r))) s):wpAny (model prog w) A (Builtin.«tuple.__lt__» ⟨[.ref a,.ref b],[]⟩) Q E s:=by
 obtain ⟨hp,g,d,tk,os⟩:=s
 have f2:=AutoSeq1.sub_tuple_tuple
 wp_walk using wpAny_loadPart' ha,wpAny_loadPart' hb,he,hl
 exact hQ
section
variable {C:Cx}{A:Around}{g:G}{M:be}{env:Env}
theorem eY {α:Type}{m:Sem α}{k:Value→Sem α}{Q:α→G→be→Prop}(h:W C A m g M Q):W C A (tryCatch m k) g M Q:=fun s S =>
 wpAny_tryCatch (wpAny_mono (h s S) (fun O O x=>x) fun O O x=>x.elim)
theorem mC {r k:List Value}{Q:PQ Unit}(h:Q () g M):W C A (letGo r k) g M Q:=fun s S=>wpAny_letGo (an g M .refl S h)
theorem iD {l:Addr}{xs:Array Value}{Q:Option (Array Value)→G→be→Prop}(hl:Sees g M l (bq xs))(h:Q (some xs) g M):W C A (seqItems? (.ref l)) g M Q:=fun s S=>by
 refine tV (S.sees hl) fun o e hc n hd=>?_
 exact wpAny_seqItems e hd (an g M .refl S h)
theorem iN {l:Addr}{xs:Array Value}{f:Array Value→Array Value}{i:Nat}{Q:PQ Unit}(hi:M[i]?=some (l,ai xs))(hz:xs.size≤sizeLine)(hz':(f xs).size≤sizeLine+1)(h:Q () g (M.set i (l,ai (f xs)))) :
  W C A (updateSeq l f) g M Q:=fun s S=>by
 refine bK (S.isL (.own (iu hi))) fun n hl=>?_
 refine wpAny_updateSeq hl rfl ?_ hz hz'
 exact (an g _ .refl (S.set (n:=s.toks) (P':=ai (f xs)) hi (Heap.SameBut.update ..) (Heap.get?_update_self _ hl rfl) ⟨_,rfl⟩) h)
theorem jK {id:String}{args:Args}{b:Builtin}{Q:PQ Flow}(hb:entryFor table id=some b)(hp:plainId id=true)(h:W C A.in1 (b args) g M (fun fin g' M'=>match fin with|.done f=>Q f g' M'|.again c'=>c'.quiet=true∧WC C A c' g' M' Q)):WC C A (.builtin id args) g M Q:=fun s S=>by
 refine codeAny_builtin hb ?_
 rw[Around.under_plainId hp _]
 refine wpAny_mono (h s S) ?_ fun O O x=>x.elim
 refine fun fin s' q1=>aK q1 fun g' M' l S' q=>?_;clear q1
 cases fin with
 | done f=>exact (an g' M' l S' q)
 | again c' =>
  refine ⟨q.1,codeAny_mono (q.2 s' S') ?_⟩
  rintro r s'' h2
  cases r with
  | ok f=>refine aK h2 fun g2 M2 l2 S2 q2=>?_;clear h2;exact (an g2 M2 (l.trans l2) S2 q2)
  | error e=>exact h2
theorem fa (bt:Nat→Nat→Bool):∀ k,argBest bt k≤k
 | 0=>dX _
 | k+1=>by
  have:=fa bt k
  unfold argBest
  split<;>(first|exact dX _|exact aQ [_,_] [] (.le ah (.a am av)) (.le ah am) ae this)
theorem rz {I S:Addr}{P:Nat→OP}{n:Nat}{V:Nat→Value→Prop}{bt:Nat→Nat→Bool}{g₀:G}(D:DrawsW C A.in1 g₀ I P n V)(hcmp:∀ i j vi vj g' (M':be) (Q:PQ Value),G.le g₀ g'→i<n→j<n→i≠j→V i vi→V j vj→Q (.bool (bt i j)) g' M'→W C A.in1 (richCompare .Lt vi vj) g' M' Q){Q:PQ Flow} :
  ∀ (k j:Nat) (g':G) (vb:Value),n-(j+1)=k→j+1≤n→argBest bt j<n→G.le g₀ g'→V (argBest bt j) vb→(∀ v g'',G.le g₀ g''→V (argBest bt (n-1)) v→Q (.ret v) g'' ((S,ai #[])::M)) →
  WC C A (.builtin "min.loop" ⟨[.ref I,.none,.ref S],[]⟩) g' ((S,ai #[vb,vb])::(I,P (j+1))::M) Q:=by
 have hname:(toString "min"++toString ".loop":String)="min.loop":=by decide
 intro k
 induction k with
 | zero =>
  intro j g' vb hk hj hlt l hV hQ
  have hin:j+1=n:=by exact ln2 [_,_,_] [] (.eq (.a ah av) am) (.Y 1 (.eq ao b6)) (.eq (.a ao (.a ah av)) am) ae hk (bn hj)
  refine jK F.entry_min_loop F.plain_min_loop ?_
  show W _ A.in1 (seqItems? (.ref S) >>= _) _ _ _
  refine ak (iD ((Sees.own (List.Mem.head _)).imp fun O=>bj) ?_)
  show W _ A.in1 (tryCatch (pyNext (.ref I)) _ >>= _) _ _ _
  subst hin
  refine ak (eY (D.done g' _ 1 _ l (by rfl) ?_))
  show W _ A.in1 (updateSeq S (fun O=>#[]) >>= _) _ _ _
  refine ak (iN (i:=0) (xs:=#[vb,vb]) (by rfl) (by show 2≤2^24;decide) (by show 0≤2^24+1;decide) ?_)
  refine ak (mC (ay ?_))
  exact hQ vb g' l hV
 | succ k ih =>
  intro j g' vb hk hj hlt l hV hQ
  have hjn:j+1<n:=by exact ln2 [_,_,_,_] [] (.lt (.a ah av) am) (.Y 1 (.eq ao (.a aM av))) (.eq (.a ao (.a ah av)) am) ae hk (bn hj)
  refine jK F.entry_min_loop F.plain_min_loop ?_
  show W _ A.in1 (seqItems? (.ref S) >>= _) _ _ _
  refine ak (iD ((Sees.own (List.Mem.head _)).imp fun O=>bj) ?_)
  show W _ A.in1 (tryCatch (pyNext (.ref I)) _ >>= _) _ _ _
  refine ak (eY (D.item g' _ 1 (j+1) _ l (by rfl) hjn fun v hv=>?_))
  show W _ A.in1 (tryCatch (holding [v,v] (richCompare .Lt v vb >>= _)) _ >>= _) _ _ _
  refine ak (eY (aD (ak (hcmp (j+1) (argBest bt j) v vb g' _ _ l hjn hlt (by have:=fa bt j;exact df (dV this (kI _))) hv hV ?_))))
  refine ak (aD fun s S'=>wpAny_truthy_bool (an g' _ .refl S' ?_))
  refine ak (mC (ay ?_))
  cases hb:bt (j+1) (argBest bt j) with
  | true =>
   simp only[if_true]
   refine ak (iN (i:=0) (xs:=#[vb,vb]) (by rfl) (by show 2≤2^24;decide) (by show 2≤2^24+1;decide) ?_)
   refine ak (mC ?_)
   rw[hname]
   refine ay ⟨plainId_quiet F.plain_min_loop _,ih (j+1) g' v (cZ [_,_,_,_,_] [] (.eq ah am) (.eq ao (.a am av)) (.eq (.a ah (.a (.a aM av) av)) bD) (.Y 1 (.eq (.a ao (.a aM av)) bD)) ae hk (bn (aQ [_,_] [] (.le (.a (.a ah av) av) am) (.lt (.a ah av) am) ae hjn)) (bn hj)) (hjn) ?_ l ?_ hQ⟩
   ·simp only[argBest,hb,if_true];exact hjn
   ·simp only[argBest,hb,if_true];exact hv
  | false =>
   simp only[sA,if_false]
   refine ak (mC ?_)
   rw[hname]
   refine ay ⟨plainId_quiet F.plain_min_loop _,ih (j+1) g' vb (cZ [_,_,_,_,_] [] (.eq ah am) (.eq ao (.a am av)) (.eq (.a ah (.a (.a aM av) av)) bD) (.Y 1 (.eq (.a ao (.a aM av)) bD)) ae hk (bn (aQ [_,_] [] (.le (.a (.a ah av) av) am) (.lt (.a ah av) am) ae hjn)) (bn hj)) (hjn) ?_ l ?_ hQ⟩
   ·simp only[argBest,hb,sA,if_false];exact hlt
   ·simp only[argBest,hb,sA,if_false];exact hV
theorem qv {I S:Addr}{P:Nat→OP}{n:Nat}{V:Nat→Value→Prop}{bt:Nat→Nat→Bool}(D:DrawsW C A.in1 g I P n V)(hn:0<n)(hcmp:∀ i j vi vj g' (M':be) (Q:PQ Value),G.le g g'→i<n→j<n→i≠j→V i vi→V j vj→Q (.bool (bt i j)) g' M'→W C A.in1 (richCompare .Lt vi vj) g' M' Q){Q:PQ Flow}(hQ:∀ v g'',G.le g g''→V (argBest bt (n-1)) v→Q (.ret v) g'' ((S,ai #[])::M)) :
  WC C A (.builtin "min.loop" ⟨[.ref I,.none,.ref S],[]⟩) g ((S,ai #[])::(I,P 0)::M) Q:=by
 have hname:(toString "min"++toString ".loop":String)="min.loop":=by decide
 refine jK F.entry_min_loop F.plain_min_loop ?_
 show W _ A.in1 (seqItems? (.ref S) >>= _) _ _ _
 refine ak (iD ((Sees.own (List.Mem.head _)).imp fun O=>bj) ?_)
 show W _ A.in1 (tryCatch (pyNext (.ref I)) _ >>= _) _ _ _
 refine ak (eY (D.item g _ 1 0 _ .refl (by rfl) hn fun v hv=>?_))
 show W _ A.in1 (updateSeq S (fun O=>#[v,v]) >>= _) _ _ _
 refine ak (iN (i:=0) (xs:=#[]) (by rfl) (by show 0≤2^24;decide) (by show 2≤2^24+1;decide) ?_)
 rw[hname]
 exact ay ⟨plainId_quiet F.plain_min_loop _,rz D hcmp _ 0 g v rfl hn hn .refl hv hQ⟩
theorem w4 {x:Value}{bt:Nat→Nat→Bool}{Q:PQ Value}(h:W C A.in1 (pyIter x) g M (fun it g₂ M₂=>∃ (I:Addr) (P:Nat→OP) (n:Nat) (V:Nat→Value→Prop) (M₀:be),it=.ref I∧M₂=(I,P 0)::M₀∧DrawsW C A.in1 g₂ I P n V∧0<n ∧
   (∀ i j vi vj g' (M':be) (Q:PQ Value),G.le g₂ g'→i<n→j<n→i≠j→V i vi→V j vj→Q (.bool (bt i j)) g' M'→W C A.in1 (richCompare .Lt vi vj) g' M' Q) ∧
   (∀ v g'',G.le g₂ g''→V (argBest bt (n-1)) v→Q v g'' M₀))):W C A (call (.builtin "min") [x]) g M Q:=fun s S=>by
 have hname:(toString "min"++toString ".loop":String)="min.loop":=by decide
 refine call_function_tree F.kind_min F.plain_min F.entry_min (F.args_min1 _) ?_
 show wpAny _ A.in1 (Builtin.Builtins.bindParams "min" ["key","default"] 0 ⟨[],[]⟩ >>= _) _ _ s
 refine wpAny_bind (wpAny_of_eq (show Builtin.Builtins.bindParams "min" ["key","default"] 0 ⟨[],[]⟩=pure [none,none] from rfl) ?_)
 refine wpAny_bind (wpAny_pure ?_)
 refine wpAny_bind (wpAny_mono (h s S) (fun it s₂ h₂=>?_) fun O O x=>x.elim)
 refine cm h₂ fun g₂ O l₂ S₂ I q4=>c9 q4 fun P n V M₀ q2 q5=>di q5 fun q3 D hn hcmp hQ=>?_;clear q4 q5 h₂;subst q2;subst q3
 refine wpAny_bind (wpAny_newObj_type ?_)
 have S₃:=S₂.push_own (P:=ai #[]) (n:=s₂.toks) (o:={ cls:=.type "list",data:=.seq #[] }) rfl ⟨_,rfl⟩
 rw[hname]
 refine wpAny_pure ⟨plainId_quiet F.plain_min_loop _,?_⟩
 refine codeAny_mono (qv (S:=s₂.heap.objs.size) (M:=M₀) (Q:=fun f g' M'=>∃ v,f=.ret v∧∃ L,M'=L::M₀∧Q v g' M₀) D hn hcmp (fun v g'' l hv=>(zL v rfl _ rfl (hQ v g'' l hv))) _ S₃) ?_
 rintro r s' h'
 cases r with
 | error e=>exact h'.elim
 | ok f =>
  refine cm h' fun g' O l' S' v q8=>d6 q8 fun q6 L q7 q=>?_;clear q8 h';subst q6;subst q7
  exact (an g' M₀ (l₂.trans l') (S'.drop (X:=[L])) q)
theorem vR {l:Addr}{xs:Array Value}{ns:List Int}{Q:PQ Value}(hA:A.handled=none)(hl:Fz g l (bq xs))(hi:IntsAre xs.toList ns)(hne:0<ns.length)(h:∀ v t g',G.le g g'→v∈ns→(∀ a∈ns,v≤a)→Q (.int v t) g' M):W C A (call (.builtin "min") [.ref l]) g M Q:=by
 have hlen:=IntsAre.length hi
 rw[fA] at hlen
 refine w4 (bt:=fun i j=>decide (ns.getD i 0<ns.getD j 0)) ?_
 refine bX hl fun I P Dr go=>?_
 have hv:∀ {i:Nat}{v:Value},xs[i]?=some v→∃ t,v=.int (ns.getD i 0) t:=fun {i v} hv=>by
  rw[← Array.getElem?_toList] at hv
  refine bJ (f9 hi hv) fun y t hy q9=>?_;subst q9
  exact ⟨t,by rw[List.getD_eq_getElem?_getD,hy];rfl⟩
 refine (ba I P _ _ _ (cx rfl rfl (Dr _ hA) (b9 hne (cG hlen.symm)) ?_ ?_))
 ·intro i j vi vj g' M' Q l hi' hj _ hvi hvj hq s S
  refine bK (hv hvi) fun t q10=>?_;subst q10
  refine bK (hv hvj) fun u q11=>?_;subst q11
  exact richCompare_gives (op:=.Lt) (typeIs_int s _ t) (typeIs_int s _ u) F.slot_int_lt F.entry_int_lt (F.args_int_lt_2 _ _) (gives_int_lt _ _ t u) (fun x=>nomatch x) (an g' M' .refl S hq)
 ·intro v g'' l hv'
  refine bK (hv hv') fun t q12=>?_;subst q12
  have hb:=argBest_lt (fun i=>ns.getD i 0) (xs.size-1)
  have hle:=fa (fun i j=>decide (ns.getD i 0<ns.getD j 0)) (xs.size-1)
  refine h _ t g'' l ?_ fun a ha=>?_
  ·rw[List.getD_eq_getElem?_getD,List.getElem?_eq_getElem (by exact cZ [_,_,_,_] [] (.lt ah am) (.eq ao am) (.le ah aM) (.eq (.a aM av) ao) ae hlen hb.1 (bn (ln2 [_,_] [] (.le av ah) (.lt b6 am) (.Y 1 (.eq ah am)) ae hne hlen))),Option.getD_some]
   exact me _
  ·obtain ⟨i,hi2,rfl⟩:=List.getElem_of_mem ha
   have:=hb.2 i (cZ [_,_,_,_] [] (.le ah am) (.Y 1 (.eq ao aM)) (.lt ah aM) (.le ao (.a am av)) ae hlen hi2 (aE _ _))
   simpa [List.getD_eq_getElem?_getD,List.getElem?_eq_getElem hi2] using this
theorem iz {α:Type}(lt:α→α→Bool)(htr:∀ a b c,lt a b=true→lt b c=true→lt a c=true)(hir:∀ a,lt a a=false)(key:Nat→α) :
  ∀ k j,j≤k→lt (key j) (key (argBest (fun i j=>lt (key i) (key j)) k))=false
 | 0,j,hj=>by
  have:j=0:=by exact nY hj (iE _)
  subst this
  exact hir _
 | k+1,j,hj=>by
  have ih:=iz lt htr hir key k
  unfold argBest
  split
  ·rename_i hb
   rcases Nat.lt_or_ge j (k+1) with hlt|hge
   ·have h1:=ih j (vk hlt)
    cases h2:lt (key j) (key (k+1)) with
    | false=>rfl
    | true=>rw[htr _ _ _ h2 hb] at h1;cases h1
   ·have:j=k+1:=by exact nY hj hge
    subst this
    exact hir _
  ·rename_i hb
   rcases Nat.lt_or_ge j (k+1) with hlt|hge
   ·exact ih j (vk hlt)
   ·have:j=k+1:=by exact nY hj hge
    subst this
    simpa using hb
theorem As (a b c:List Nat)(h1:decide (a<b)=true)(h2:decide (b<c)=true):decide (a<c)=true:=decide_eq_true (qP (of_decide_eq_true h1) (of_decide_eq_true h2))
theorem zq (a:List Nat):decide (a<a)=false:=decide_eq_false (nK a)
theorem vK {l:Addr}{xs:Array Value}{ys:List Str}{Q:PQ Value}(hA:A.handled=none)(hl:Fz g l (bq xs))(hi:StrsAre xs.toList ys)(hne:0<ys.length)(h:∀ v t g',G.le g g'→v∈ys→(∀ a∈ys,¬ a.cps.toList<v.cps.toList)→Q (.str v t) g' M):W C A (call (.builtin "min") [.ref l]) g M Q:=by
 have hlen:=StrsAre.length hi
 rw[fA] at hlen
 let key:Nat→List Nat:=fun i=>(ys.getD i Str.empty).cps.toList
 refine w4 (bt:=fun i j=>decide (key i<key j)) ?_
 refine bX hl fun I P Dr go=>?_
 have hv:∀ {i:Nat}{v:Value},xs[i]?=some v→∃ t,v=.str (ys.getD i Str.empty) t:=fun {i v} hv=>by
  rw[← Array.getElem?_toList] at hv
  refine bJ (c7 hi hv) fun y t hy q13=>?_;subst q13
  exact ⟨t,by rw[List.getD_eq_getElem?_getD,hy];rfl⟩
 refine (ba I P _ _ _ (cx rfl rfl (Dr _ hA) (b9 hne (cG hlen.symm)) ?_ ?_))
 ·intro i j vi vj g' M' Q l hi' hj _ hvi hvj hq s S
  refine bK (hv hvi) fun t q14=>?_;subst q14
  refine bK (hv hvj) fun u q15=>?_;subst q15
  exact richCompare_gives (op:=.Lt) (typeIs_str s _ t) (typeIs_str s _ u) F.slot_str_lt F.entry_str_lt (F.args_str_lt_2 _ _) (gives_str_lt _ _ t u) (fun x=>nomatch x) (an g' M' .refl S hq)
 ·intro v g'' l hv'
  refine bK (hv hv') fun t q16=>?_;subst q16
  have hb:=iz (fun a b:List Nat=>decide (a<b)) As zq key (xs.size-1)
  have hle:=fa (fun i j=>decide (key i<key j)) (xs.size-1)
  refine h _ t g'' l ?_ fun a ha=>?_
  ·rw[List.getD_eq_getElem?_getD,List.getElem?_eq_getElem (by exact cZ [_,_,_,_] [] (.lt ah am) (.eq ao am) (.le ah aM) (.eq (.a aM av) ao) ae hlen hle (bn (ln2 [_,_] [] (.le av ah) (.lt b6 am) (.Y 1 (.eq ah am)) ae hne hlen))),Option.getD_some]
   exact me _
  ·obtain ⟨i,hi2,rfl⟩:=List.getElem_of_mem ha
   have:=of_decide_eq_false (hb i (cZ [_,_,_,_] [] (.le ah am) (.Y 1 (.eq ao aM)) (.lt ah aM) (.le ao (.a am av)) ae hlen hi2 (aE _ _)))
   simpa [key,List.getD_eq_getElem?_getD,List.getElem?_eq_getElem hi2] using this
theorem xZ {T1 T2:Addr}{x i y j:Value}{r:Bool}{Q:PQ Value}(h1:Sees g M T1 (bS #[x,i]))(h2:Sees g M T2 (bS #[y,j]))(hu:A.units<cLine)(he:∀ s (E:Value→Shared→Prop) (Q:Bool→Shared→Prop),Q false s→wpAny C.M A.in1 (eqBool x y) Q E s)(hl:∀ s (E:Value→Shared→Prop) (Q:Value→Shared→Prop),Q (.bool r) s→wpAny C.M A.in1 (richCompare .Lt x y) Q E s)(h:Q (.bool r) g M):W C A (richCompare .Lt (.ref T1) (.ref T2)) g M Q:=fun s S=>by
 refine jC (S.sees h1) fun O e1 n q17=>?_;subst q17
 refine jC (S.sees h2) fun O e2 m q18=>?_;subst q18
 exact wpAny_richCompare_same_room (op:=.Lt) (aG _ e1 rfl) (aG _ e2 rfl) F.slot_tuple_lt
  (wpAny_call_entry F.slot_tuple_lt (aG _ e1 rfl) F.entry_tuple_lt (va e1 e2 (fun Q' E'=>he s E' Q') (fun Q' E'=>hl s E' Q') (bU _ rfl (fun e=>nomatch e) (an g M .refl S h))) (F.args_tuple_lt_2 _ _)) hu
theorem tO {l:Addr}{xs:Array Value}{KV:Nat→Value→Prop}{iv:Nat→Int}{lt:Nat→Nat→Bool}{Q:PQ Value}(hA:A.handled=none)(hu:A.units+1<cLine)(hl:Fz g l (bq xs))(hne:0<xs.size)(hx:∀ i v,xs[i]?=some v→∃ T x t,v=.ref T∧KV i x∧Fz g T (bS #[x,.int (iv i) t]))(he:∀ i j x y,i≠j→KV i x→KV j y→∀ s (E:Value→Shared→Prop) (Q:Bool→Shared→Prop),Q false s→wpAny C.M A.in1.in1 (eqBool x y) Q E s)(hlt:∀ i j x y,KV i x→KV j y→∀ s (E:Value→Shared→Prop) (Q:Value→Shared→Prop),Q (.bool (lt i j)) s→wpAny C.M A.in1.in1 (richCompare .Lt x y) Q E s)(h:∀ T x t g',G.le g g'→Fz g' T (bS #[x,.int (iv (argBest lt (xs.size-1))) t])→Q (.ref T) g' M):W C A (call (.builtin "min") [.ref l]) g M Q:=by
 refine w4 (bt:=lt) ?_
 refine bX hl fun I P Dr go=>?_
 refine (ba I P _ _ _ (cx rfl rfl (Dr _ hA) hne ?_ ?_))
 ·intro i j vi vj g' M' Q l hi' hj hij hvi hvj hq
  refine bC (hx i vi hvi) fun T1 x t q19 k1 F1=>?_;subst q19
  refine bC (hx j vj hvj) fun T2 y u q20 k2 F2=>?_;subst q20
  exact xZ (.fz (F1.mono l)) (.fz (F2.mono l)) (by show A.units+1<cLine;exact hu) (he i j x y hij k1 k2) (hlt i j x y k1 k2) hq
 ·intro v g'' l hv'
  refine bC (hx _ v hv') fun T1 x t q21 k1 F1=>?_;subst q21
  exact h T1 x t g'' l (F1.mono l)
end
end
noncomputable def bk (ds:List Nat):Str:=⟨(ds.map (·+48)).toArray⟩
noncomputable def bO (k:Nat)(ds:List Nat):List Nat:=ds.drop k++ds.take k
noncomputable def bz (B:Nat)(ds:List Nat):Nat:=ds.foldl (fun a d=>a*B+d) 0
noncomputable def DG (ds:List Nat):Prop:=∀ d∈ds,1≤d∧d≤4
theorem cM (ds:List Nat):(bk ds).cps.toList=ds.map (·+48):=rfl
theorem bo (ds:List Nat):(bk ds).length=ds.length:=by
 show (ds.map (·+48)).toArray.size=_
 simp
theorem wW {a b:List Nat}(h:bk a=bk b):a=b:=by
 have h2:a.map (·+48)=b.map (·+48):=by rw[← cM,← cM,h]
 induction a generalizing b with
 | nil=>cases b<;>simp_all
 | cons x a ih =>
  cases b with
  | nil=>simp at h2
  | cons y b =>
   simp only[dC,List.cons.injEq] at h2
   have:=ih (b:=b) (by unfold bk;rw[h2.2]) h2.2
   rw[this]
   congr 1
   exact aQ [_,_] [] (.eq ah am) (.eq (.a ah qK) (.a am qK)) ae h2.1
theorem jP (B:Nat):∀ (ds:List Nat) (a:Nat),ds.foldl (fun a d=>a*B+d) a=a*B^ds.length+bz B ds
 | [],a=>by simp[bz]
 | d::ds,a=>by
  rw[rH,jP B ds]
  unfold bz
  rw[rH,jP B ds (0*B+d),eR,Nat.pow_succ,lc,lc,Nat.zero_mul,Nat.zero_mul,qx,pk,ζ33 B (B^ds.length),Nat.add_assoc]
  rfl
theorem dP (B:Nat)(a b:List Nat):bz B (a++b)=bz B a*B^b.length+bz B b:=by
 unfold bz
 rw[List.foldl_append,jP]
 rfl
theorem eD (B d:Nat)(b:List Nat):bz B (d::b)=d*B^b.length+bz B b:=by
 have:=dP B [d] b
 simpa [bz] using this
theorem dT {B:Nat}:∀ {ds:List Nat},(∀ d∈ds,d<B)→bz B ds<B^ds.length
 | [],_=>by simp[bz]
 | d::ds,h=>by
  have h1:=dT (ds:=ds) fun x hx=>h x (.tail _ hx)
  have h2:=h d (.head _)
  rw[eD,eR,Nat.pow_succ,ζ33 (B^ds.length)]
  have h3:(d+1)*B^ds.length≤B*B^ds.length:=rn _ h2
  rw[lc,j9] at h3
  exact ln2 [_,_,_,_] [] (.lt (.a ah am) ao) (.lt am aM) (.le (.a ah aM) ao) ae h1 h3
theorem wE {B:Nat}(hB:0<B):∀ {ds:List Nat},DG ds→ds≠[]→0<bz B ds
 | [],_,h=>absurd rfl h
 | d::ds,h,_=>by
  rw[eD]
  have h2:=(h d (.head _)).1
  have:0<d*B^ds.length:=Nat.mul_pos h2 (n9 hB)
  exact b9 this (dG _ _)
theorem DG.lt {B:Nat}(hB:5≤B){ds:List Nat}(h:DG ds):∀ d∈ds,d<B:=fun d hd=>by have:=(h d hd).2;exact dV this (b9 (by decide) hB)
theorem wY {B:Nat}(hB:8≤B):∀ {ds:List Nat},DG ds→ds≠[]→bz B ds+1<B^ds.length
 | [],_,h=>absurd rfl h
 | d::ds,h,_=>by
  have h1:=dT (h.lt (bw (by decide) hB):∀ x∈d::ds,x<B)
  have h3:=dT (B:=B) (ds:=ds) fun x hx=>h.lt (bw (by decide) hB) x (.tail _ hx)
  have h2:=(h d (.head _)).2
  rw[eD,eR,Nat.pow_succ,ζ33 (B^ds.length)]
  have hp:0<B^ds.length:=n9 (b9 (by decide) hB)
  have h4:d*B^ds.length≤4*B^ds.length:=rn _ h2
  have h5:8*B^ds.length≤B*B^ds.length:=rn _ hB
  exact cZ [_,_,_,_] [] (.X 4 (.lt (.a (.a ah am) av) ao)) (.X 8 (.lt am aM)) (.X 4 (.le ah (.m 4 aM))) (.X 3 (.le (.m 8 aM) ao)) ae h3 h4 h5
theorem DG.rot {ds:List Nat}(h:DG ds)(k:Nat):DG (bO k ds):=fun d hd=>by
 unfold bO at hd
 rcases List.mem_append.mp hd with hd|hd
 ·exact h d (xg hd)
 ·exact h d (uY hd)
theorem cg {k:Nat}{ds:List Nat}:(bO k ds).length=ds.length:=by
 unfold bO
 simp only[ζ17,gA,js]
 lia
theorem wP {B:Nat}{ds:List Nat}{k d:Nat}(hd:ds[k]?=some d):bz B (bO k ds)*B+d=d*B^ds.length+bz B (bO (k+1) ds):=by
 have hk:=(List.getElem?_eq_some_iff.mp hd).1
 have e1:ds.drop k=d::ds.drop (k+1):=by
  rw[nR hk,(List.getElem?_eq_some_iff.mp hd).2]
 have e2:ds.take (k+1)=ds.take k++[d]:=by rw[uN,hd];rfl
 unfold bO
 rw[e1,e2,lC,eD,← iY,dP B (ds.drop (k+1)++ds.take k) [d]]
 have hl:(ds.drop (k+1)++ds.take k).length+1=ds.length:=by
  simp only[ζ17,gA,js]
  exact ln2 [_,_,_,_] [] (.eq (.a (.a ah am) av) ao) (.eq (.a ah (.a aM av)) ao) (.eq am aM) ae (bn (aQ [_,_] [] (.le (.a ah av) am) (.lt ah am) ae hk)) (qm (bY hk))
 have e3:bz B [d]=d:=by simp[bz]
 rw[e3,← hl,Nat.pow_succ,s6,Nat.pow_one,lc]
 generalize (ds.drop (k+1)++ds.take k).length=l
 rw[pk]
 exact Nat.add_assoc _ _ _
theorem lB (W:Nat):∀ (l:List Nat) (pre:List Nat),dsum (fun j=>(pre++l).getD j 0) W pre.length l.length=bz (2^W) l.reverse
 | [],pre=>by simp[dsum,bz]
 | d::l,pre=>by
  have ih:=lB W l (pre++[d])
  rw[iY,xp,ζ17,s6] at ih
  rw[eR,dsum,ih,List.reverse_cons,dP]
  have e:(pre++d::l).getD pre.length 0=d:=by simp[List.getD_eq_getElem?_getD]
  have e3:bz (2^W) [d]=d:=by simp[bz]
  rw[e,e3,s6,Nat.pow_one,ζ33,lV]
theorem jS {B:Nat}(hB:0<B):∀ {l:List Nat}{j:Nat},(∀ d∈l,d<B)→j<l.length→bz B l.reverse/B^j%B=l.getD j 0
 | [],j,_,h=>absurd h (qN _)
 | d::l,j,h,hj=>by
  have e3:bz B [d]=d:=by simp[bz]
  rw[List.reverse_cons,dP,e3,s6,Nat.pow_one]
  cases j with
  | zero =>
   rw[Nat.pow_zero,Nat.div_one,ζ33,Nat.mul_add_mod,uI (h d (.head _))]
   rfl
  | succ j =>
   have ih:=jS hB (l:=l) (j:=j) (fun x hx=>h x (.tail _ hx)) (by simpa using hj)
   rw[Nat.pow_succ,ζ33 (B^j) B,← Nat.div_div_eq_div_mul,ζ33,Nat.mul_add_div hB,rd (h d (.head _)),pj,ih]
   rfl
theorem yK {B:Nat}{d:Nat}{l:List Nat}(hd:1≤d):B^l.length≤bz B (d::l):=by
 rw[eD]
 have:=rn (B^l.length) hd
 exact aQ [_,_,_] [] (.le ah (.a am ao)) (.le (.m 1 ah) am) ae this
theorem jB {W:Nat}(hW:0<W){u:List Nat}(hu:DG u)(hne:u≠[])(hB:5≤2^W):digCount (bz (2^W) u) W=u.length:=by
 cases u with
 | nil=>exact absurd rfl hne
 | cons d l =>
  have h1:=dT (hu.lt hB)
  have h2:=yK (B:=2^W) (l:=l) (hu d (.head _)).1
  rw[← nu] at h1 h2
  generalize bz (2^W) (d::l)=N at *
  have hN:N≠0:=by
   have:0<2^(W*l.length):=ot _
   exact df (b9 this h2)
  have hb1:N.log2<W*(d::l).length:=(Nat.log2_lt hN).mpr h1
  have hb2:W*l.length≤N.log2:=(Nat.le_log2 hN).mpr h2
  have hbits:Builtin.Int.intBits (N:Int)=N.log2+1:=by
   unfold Builtin.Int.intBits
   rw[if_neg (by simpa using hN)]
   simp
  unfold digCount
  rw[hbits,eR]
  rw[eR] at hb1
  rw[Nat.div_eq_iff hW]
  rw[Nat.mul_succ] at hb1
  rw[lc,j9,ζ33 l.length W]
  exact ⟨ln2 [_,_,_,_] [] (.le (.a ah am) ao) (.le ah aM) (.le (.a (.a aM av) am) (.a ao av)) ae hb2 (aE _ _),cZ [_,_,_,_,_] [] (.le ah am) (.lt ao (.a aM bD)) (.le (.a (.a aM bD) bD) (.a am av)) (.eq (.a ah av) (.a (.a ao av) bD)) ae hb1 (aE _ _) (bn (eF [_,_] [] (.le av (.a (.a ah av) am)) ae))⟩
theorem iL {B:Nat}:∀ {a b:List Nat},a.length=b.length→(∀ d∈a,d<B)→(∀ d∈b,d<B)→(a<b↔bz B a<bz B b)
 | [],[],_,_,_=>by simp[bz]
 | [],_::_,h,_,_=>by simp at h
 | _::_,[],h,_,_=>by simp at h
 | x::a,y::b,h,ha,hb=>by
  have hl:a.length=b.length:=by simpa using h
  have ih:=iL hl (fun d hd=>ha d (.tail _ hd)) (fun d hd=>hb d (.tail _ hd))
  have h1:=dT (B:=B) (ds:=a) fun d hd=>ha d (.tail _ hd)
  have h2:=dT (B:=B) (ds:=b) fun d hd=>hb d (.tail _ hd)
  rw[eD,eD,hl]
  rw[hl] at h1
  rw[qR,ih]
  rcases Nat.lt_trichotomy x y with hxy|hxy|hxy
  ·have:=rn (B^b.length) (show x+1≤y from hxy)
   rw[lc,j9] at this
   constructor
   ·intro _;exact ln2 [_,_,_,_,_] [] (.lt (.a ah am) (.a ao aM)) (.lt am bD) (.le (.a ah bD) ao) ae h1 this
   ·intro _;exact .inl hxy
  ·subst hxy
   constructor
   ·rintro (h|⟨_,h⟩)
    ·exact absurd h (ro _)
    ·exact aQ [_,_,_] [] (.lt (.a ah am) (.a ah ao)) (.lt am ao) ae h
   ·intro h;exact .inr ⟨rfl,by exact aQ [_,_,_] [] (.lt ah am) (.lt (.a ao ah) (.a ao am)) ae h⟩
  ·have:=rn (B^b.length) (show y+1≤x from hxy)
   rw[lc,j9] at this
   constructor
   ·rintro (h|⟨h,_⟩)<;>lia
   ·intro _;lia
theorem nJ:∀ {a b:List Nat},(a.map (·+48)<b.map (·+48))↔a<b
 | [],[]=>by simp
 | [],_::_=>by simp
 | _::_,[]=>by simp
 | x::a,y::b=>by
  have ih:=nJ (a:=a) (b:=b)
  rw[dC,dC,qR,qR,ih]
  constructor
  ·rintro (h|⟨h,k⟩)
   ·exact .inl (aQ [_,_] [] (.lt ah am) (.lt (.a ah qK) (.a am qK)) ae h)
   ·exact .inr ⟨by exact aQ [_,_] [] (.eq ah am) (.eq (.a ah qK) (.a am qK)) ae h,k⟩
  ·rintro (h|⟨h,k⟩)
   ·exact .inl (Nat.add_lt_add_right h _)
   ·exact .inr ⟨by exact aQ [_,_] [] (.eq (.a ah qK) (.a am qK)) (.eq ah am) ae h,k⟩
theorem kV {a b:List Nat}(h1:¬ a<b)(h2:¬ b<a):a=b:=List.le_antisymm (List.not_lt.mp h2) (List.not_lt.mp h1)
noncomputable def AW:List Nat→List Nat
 | []=>[]
 | x::l=>l++[x]
noncomputable def kO:Nat→List Nat→List Nat
 | 0,l=>l
 | k+1,l=>kO k (AW l)
theorem iT:∀ (a b:Nat) (l:List Nat),kO (a+b) l=kO b (kO a l)
 | 0,b,l=>by rw[qx];rfl
 | a+1,b,l=>by rw[show a+1+b=(a+b)+1 from by exact eF [_,_] [] (.eq (.a (.a ah av) am) (.a (.a ah am) av)) ae];exact iT a b (AW l)
theorem hO:∀ (k:Nat) (l:List Nat),k≤l.length→bO k l=kO k l
 | 0,l,_=>by simp[bO,kO]
 | k+1,[],h=>by simp at h
 | k+1,x::l,h=>by
  have hk:k≤l.length:=by simpa using h
  have ih:=hO k (l++[x]) (by rw[ζ17];exact bw hk (dG _ _))
  show _=kO k (l++[x])
  rw[← ih]
  unfold bO
  rw[List.drop_succ_cons,List.take_succ_cons,za hk,List.take_append_of_le_length hk,iY]
  rfl
theorem oM (l:List Nat):bO l.length l=l:=by unfold bO;simp
noncomputable def reps (q:Nat)(u:List Nat):List Nat:=(List.replicate q u).flatten
theorem gM (q:Nat)(u:List Nat):reps (q+1) u=u++reps q u:=by unfold reps;rw[ru,oC]
theorem sf (q:Nat)(u:List Nat):(reps q u).length=q*u.length:=by
 induction q with
 | zero=>simp[reps]
 | succ q ih=>rw[gM,ζ17,ih,Nat.succ_mul];exact lV _ _
theorem ki:∀ (q:Nat) (u r:List Nat),r.length=q*u.length→r++u=u++r→r=reps q u
 | 0,u,r,hl,_=>by
  rw[Nat.zero_mul] at hl
  rw[List.length_eq_zero_iff.mp hl]
  rfl
 | q+1,u,r,hl,h=>by
  rw[Nat.succ_mul] at hl
  have e1:r=u++r.drop u.length:=by
   have h1:=congrArg (List.take u.length) h
   rw[List.take_append_of_le_length (by exact aQ [_,_,_] [] (.le ah am) (.Y 1 (.eq am (.a ao ah))) ae hl),List.take_left'] at h1
   ·conv=>lhs;rw[← rt u.length r,h1]
   ·rfl
  generalize r.drop u.length=r' at e1
  subst e1
  rw[iY] at h
  have h2:=List.append_cancel_left h
  rw[ζ17] at hl
  rw[gM,ki q u r' (aQ [_,_,_] [] (.eq ah am) (.eq (.a ao ah) (.a am ao)) ae hl) h2]
theorem r0 {p:Nat}{l:List Nat}(h:kO p l=l):∀ q,kO (q*p) l=l
 | 0=>by rw[Nat.zero_mul];rfl
 | q+1=>by rw[Nat.succ_mul,iT,r0 h q,h]
theorem sE {l:List Nat}{p:Nat}(hp:0<p)(hpl:p≤l.length)(h:bO p l=l)(hmin:∀ j,0<j→j<p→bO j l≠l):l.length%p=0:=by
 have e1:kO p l=l:=by rw[← hO p l hpl];exact h
 have e2:kO l.length l=l:=by rw[← hO _ l (dX _),oM]
 have e3:=r0 e1 (l.length/p)
 have hd:=rl l.length p
 rw[ζ33] at hd
 rw[← hd,iT,e3] at e2
 have hm:=cQ l.length hp
 rcases u9 (l.length%p) with h0|h0
 ·exact h0
 ·refine absurd ?_ (hmin _ h0 hm)
  rw[hO _ l (bY (b9 hm hpl))]
  exact e2
theorem lT {l t:List Nat}{p j:Nat}(hp:0<p)(hpl:p≤l.length)(h:bO p l=l)(hj:j≤l.length)(ht:t=bO j l)(hd:l.length%p=0):t=reps (l.length/p) (t.take p):=by
 have e1:kO p l=l:=by rw[← hO p l hpl];exact h
 have htl:t.length=l.length:=by rw[ht,cg]
 have e2:kO p t=t:=by
  rw[ht,hO j l hj,← iT,lV,iT,e1]
 rw[← hO p t (bw hpl (cG htl.symm))] at e2
 unfold bO at e2
 have hlt:(t.take p).length=p:=by rw[js];exact qm (ln2 [_,_,_] [] (.le ah am) (.le ah ao) (.Y 1 (.eq am ao)) ae hpl htl)
 have hdiv:=rl l.length p
 rw[hd,pj] at hdiv
 have e3:t.drop p++t.take p=t.take p++t.drop p:=by rw[e2,rt]
 have hq:l.length/p=(l.length/p-1)+1:=by
  have:0<l.length/p:=Nat.div_pos hpl hp
  exact aQ [_,_] [] (.eq ah (.a am av)) (.Y 1 (.eq (.a am av) ah)) ae (bn (aQ [_] [] (.le av ah) (.lt b6 ah) ae this))
 have hdl:(t.drop p).length=(l.length/p-1)*(t.take p).length:=by
  rw[gA,hlt,htl,Nat.sub_mul,j9,ζ33,hdiv]
 have e4:=ki _ _ _ hdl e3
 rw[hq,gM,← e4,rt]
theorem oO (B:Nat)(hB:0<B)(u:List Nat):∀ q,bz B (reps q u)*(B^u.length-1)=bz B u*(B^(q*u.length)-1)
 | 0=>by simp[reps,bz]
 | q+1=>by
  have ih:=oO B hB u q
  rw[gM,dP,sf,lc,ih,Nat.succ_mul,og]
  have h1:1≤B^(q*u.length):=n9 hB
  have h2:1≤B^u.length:=n9 hB
  generalize B^(q*u.length)=a at *
  generalize B^u.length=b at *
  generalize bz B u=n
  obtain ⟨a,rfl⟩:∃ c,a=c+1:=⟨a-1,by exact aQ [_,_] [] (.eq ah (.a am av)) (.Y 1 (.eq (.a am av) ah)) ae (bn h1)⟩
  obtain ⟨b,rfl⟩:∃ c,b=c+1:=⟨b-1,by exact aQ [_,_] [] (.eq ah (.a am av)) (.Y 1 (.eq (.a am av) ah)) ae (bn h2)⟩
  have e:(a+1)*(b+1)-1=(a+1)*b+a:=by
   rw[Nat.mul_succ];exact rfl
  rw[e,Nat.add_sub_cancel,Nat.add_sub_cancel,pk,← oz]
section
section
variable {C:Cx}{A:Around}{g:G}{M:be}{env:Env}{mg mb:Str→Option Value}{L a1 a2 a c0:Addr}{ds:List Nat}{Wd:Nat}{tf tw:Tok}
noncomputable abbrev fR (L a1 a2 a c:Addr):Env:=cV (bB (st 26)) L mainGlobals (c5 (aW (bB (st 26)).names) [a1,a2] []) (ax (st 26)++".<locals>.") (some a) (.ref c) builtinsNs
theorem zM (Wd:Nat):(2:Int)^((Wd:Nat):Int).toNat=((2^Wd:Nat):Int):=by rw[d3];push_cast;rfl
theorem xJ (ds:List Nat)(k:Nat):((⟨((bk ds).cps.toList.drop k).toArray⟩:Str)++⟨((bk ds).cps.toList.take k).toArray⟩)=bk (bO k ds):=by
 apply Str.ext'
 show ((bk ds).cps.toList.drop k).toArray++((bk ds).cps.toList.take k).toArray=_
 unfold bk bO
 simp[List.map_drop,List.map_take]
theorem rX (ds:List Nat):(⟨(bk ds).cps.toList.reverse.toArray⟩:Str)=bk ds.reverse:=by
 unfold bk
 simp
theorem mE {d:Nat}(h:1≤d∧d≤4):PySem.intText? ⟨#[d+48]⟩=some (d:Int):=by
 have h2:∀ d,d<5→1≤d→PySem.intText? ⟨#[d+48]⟩=some (d:Int):=by decide +kernel
 exact h2 d (dV h.2 (by decide)) h.1
theorem AN {turn:Int}{tt:Tok}(hA:A.handled=none)(B:Base C mg mb g)(F1:Fz g a1 (ag (some (.str (bk ds) tf))))(F2:Fz g a2 (ag (some (.int Wd tw))))(hW:Wd≤62)(hn:ds.length≤7){Q:PQ Flow}(kQ:∀ g',G.le g g'→∀ tb ts,Q .next g' ((L,aJ [("turn",.int turn tt),("base",.int ((2^Wd:Nat):Int) tb),("size",.int ds.length ts)])::M)) :
  W C A (exec (aI (aw (st 26)) 0) (fR L a1 a2 a c0)) g ((L,aJ [("turn",.int turn tt)])::M) Q:=by
 refine' bQ fun qQ KQ=>?_
 refine dk (na:="size") (nb:="base") hA ?_
 refine ed ?_
 ac_nf
 refine bL B eN ?_
 ac_nf
 refine ⟨ap,?_⟩
 show W _ _ (call (.builtin "len") [.str (bk ds) tf]) _ _ _
 refine dS (by rw[bo];exact dV hn (by decide)) fun ts=>?_
 rw[bo]
 ac_nf
 refine lW (cY _) (by show (2:Int)*(Wd:Int)≤2^27;exact aQ [_] [] (.L (.m 2 bA) (.p 2 27)) (.X 2 (.le ah rj)) ae hW) fun tb O=>?_
 rw[zM]
 ac_nf
 refine ⟨by simp only[List.length];decide,fun T g₁ l₁ FT=>?_⟩
 refine (bf T _ _ rfl (.fz FT) ?_)
 refine aX (i:=0) (by rfl) ?_
 refine aX (i:=0) (by rfl) ?_
 exact KQ _ _ _ fun l=>kQ _ l tb ts
theorem Bb {lo:List (Str×Value)}{ts:Tok}(hA:A.handled=none)(B:Base C mg mb g)(F1:Fz g a1 (ag (some (.str (bk ds) tf))))(hn:ds.length≤7)(hs:lk lo "size"=some (.int ds.length ts)){Q:PQ Flow}(kQ:∀ g',G.le g g'→∀ D xs,Fz g' D (ai xs)→(StrsAre xs.toList ((List.range (ds.length+1)).map fun k=>bk (bO k ds)))→Q .next g' ((L,aJ (bR lo "turns" (.ref D)))::M)) :
  W C A (exec (aI (aw (st 26)) 1) (fR L a1 a2 a c0)) g ((L,aJ lo)::M) Q:=by
 refine' bQ fun qQ KQ=>?_
 show W _ _ (exec (Stmt.Assign [Expr.Name _ _] (Expr.ListComp _ _ _ _) _) _) _ _ _
 refine' yU (cl:=[("figures",a1)]) (by rfl') fun q_1 K_1=>?_
 ac_nf
 refine bL B c6 ?_
 ac_nf
 refine ar (l:=lo) (.head _) hs ?_
 ac_nf
 refine ⟨br,?_⟩
 show W _ _ (call (.type "range") [.int ((ds.length:Int)+1) _]) _ _ _
 refine fu fun g₁ r l₁ Fr=>?_
 refine cw Fr (by decide) (⟨eF [_] [] (.T (.g (.p 2 62)) (.a bA av)) ae,aQ [_] [] (.T (.a bA av) (.p 2 62)) (.le ah fs) ae hn⟩) fun I P' Dr=>?_
 have hn':(((ds.length:Int)+1)-0).toNat=ds.length+1:=by exact rfl
 rw[hn'] at Dr
 refine K_1 I P' _ (fun k ys O=>StrsAre ys.toList ((List.range k).map fun k=>bk (bO k ds))) 0 lo _ _ _ (Dr _ hA) (mt (bw hn (by decide)) _) .nil ?_ rfl ?_
 ·intro k g' ys v Cl D hk l' j hv hM_1 r_1 R_1
  obtain ⟨tv,rfl⟩:∃ t,v=.int (k:Int) t:=by refine bK hv fun t q1=>?_;clear hv;subst q1;exact ⟨t,by rw[mi]⟩
  have F1':=(F1.mono l₁).mono l'
  ac_nf
  intro sl g₂ l₂ Fs
  refine ⟨dA,?_⟩
  refine gj (a:=k) (ta:=tv) (.fz Fs) (by rw[bo];exact vk hk) (by rw[bo];show ds.length≤2^24;exact bw hn (by decide)) fun t1=>?_
  have F1'':=F1'.mono l₂
  ac_nf
  intro sl2 g₃ l₃ Fs2
  refine ⟨dA,?_⟩
  refine pp (b:=k) (tb:=tv) (.fz Fs2) (by rw[bo];exact vk hk) (by rw[bo];show ds.length≤2^24;exact bw hn (by decide)) fun t2=>?_
  refine fT ?_ fun t3=>?_
  ·show ((bk ds).cps.toList.drop k).toArray.size+((bk ds).cps.toList.take k).toArray.size≤2^24
   have:(bk ds).cps.toList.length=ds.length:=bo ds
   simp only[vz,gA,js]
   exact gh [_,_,_,_,_] [] (.le (.a ah am) (.p 2 24)) (.le ao fs) (.eq aM ao) (.le am bD) (.eq (.a ah bD) aM) ae hn this (Nat.min_le_left _ _) (bn (ln2 [_,_,_] [] (.le ah am) (.lt ah (.a ao av)) (.Y 1 (.eq am ao)) ae hk this))
  rw[xJ]
  refine R_1 _ _ [] ?_
  show StrsAre (ys.push _).toList ((List.range (k+1)).map fun k=>bk (bO k ds))
  rw[fM,qX,ζ18]
  exact StrsAre.append' j (.cons _ _ .nil)
 ·intro g₅ g₆ xs D l₅ hxs l₆ FD
  exact KQ _ _ _ fun l=>kQ _ l D xs FD hxs
theorem BG {lo:List (Str×Value)}{TL:Addr}{xs:Array Value}(hd:DG ds)(rm:Rm A 12)(B:Base C mg mb g)(F2:Fz g a2 (ag (some (.int Wd tw))))(hW1:3≤Wd)(hW:Wd≤62)(hn:ds.length≤7)(hs:lk lo "turns"=some (.ref TL))(FT:Fz g TL (ai xs))(hxs:StrsAre xs.toList ((List.range (ds.length+1)).map fun k=>bk (bO k ds))){Q:PQ Flow}(kQ:∀ g',G.le g g'→∀ D ys,Fz g' D (ai ys)→(IntsAre ys.toList ((List.range (ds.length+1)).map fun k=>((bz (2^Wd) (bO k ds):Nat):Int)))→Q .next g' ((L,aJ (bR lo "numbers" (.ref D)))::M)) :
  W C A (exec (aI (aw (st 26)) 2) (fR L a1 a2 a c0)) g ((L,aJ lo)::M) Q:=by
 refine' bQ fun qQ KQ=>?_
 refine bK (B.get 15) fun a15 e15=>?_
 have hlen:=StrsAre.length hxs
 rw[fA,fZ,rC] at hlen
 show W _ _ (exec (Stmt.Assign [Expr.Name _ _] (Expr.ListComp _ _ _ _) _) _) _ _ _
 refine' yU (cl:=[("width",a2)]) (by rfl') fun q_2 K_2=>?_
 refine ar (l:=lo) (.head _) hs ?_
 refine bX (FT.imp fun O=>bj) fun I P' Dr go=>?_
 refine K_2 I P' _ (fun k ys O=>IntsAre ys.toList ((List.range k).map fun k=>((bz (2^Wd) (bO k ds):Nat):Int))) 0 lo _ _ _ (Dr _ rm.h) (ln2 [_,_] [] (.le ah aY) (.le am fs) (.eq ah (.a am av)) ae hn hlen) .nil ?_ rfl ?_
 ·intro k g₁ ys v Cl D hk l₁ j hv hM_2 r_2 R_2
  rw[← Array.getElem?_toList] at hv
  refine bJ (c7 hxs hv) fun y t hy q2=>?_;subst q2
  rw[List.getElem?_map,List.getElem?_range (b9 hk (cG hlen))] at hy
  cases hy
  replace B:=B.mono l₁
  have F2':=F2.mono l₁
  ac_nf
  refine bF B e15 ?_
  ac_nf
  refine' jt (cl:=[]) (by rfl') fun q_3 K_3=>?_
  ac_nf
  refine fy fun tm O=>?_
  intro sl g₂ l₂ Fs
  refine ⟨dA,?_⟩
  refine nW (tb:=tm) (.fz Fs) (by rw[bo,cg];show ds.length≤2^24;exact bw hn (by decide)) fun t1=>?_
  rw[rX]
  refine fe fun I2 P2 Dr2=>?_
  have hsz:(bk (bO k ds).reverse).cps.size=ds.length:=by
   have:=bo (bO k ds).reverse
   rw[kY,cg] at this
   exact this
  rw[hsz] at Dr2
  refine K_3 I2 P2 _ (fun i zs O=>IntsAre zs.toList (((bO k ds).reverse.take i).map Int.ofNat)) _ _ _ (Dr2 _ rm.h) (bw hn (by decide)) .nil ?_ ?_
  ·refine fun i g₃ zs O Cl2 D2 hi l₃ j2 q3 hM_3 r_3 R_3=>bJ q3 fun c u hc q4=>?_;clear q3;subst q4
   rw[← Array.getElem?_toList,cM,List.getElem?_map] at hc
   cases hd':(bO k ds).reverse[i]? with
   | none=>rw[hd'] at hc;cases hc
   | some d =>
   rw[hd'] at hc
   cases hc
   have hdg:=hd.rot k d (List.mem_reverse.mp (iu hd'))
   ac_nf
   refine bL ((B.mono l₂).mono l₃) pH ?_
   ac_nf
   refine ⟨br,?_⟩
   show W _ _ (call (.type "int") [.str ⟨#[d+48]⟩ u]) _ _ _
   refine my (mE hdg) (by show 1≤640;decide) fun t3 O=>?_
   refine R_3 _ _ [] ?_
   show IntsAre (zs.push _).toList (((bO k ds).reverse.take (i+1)).map Int.ofNat)
   rw[fM,cu _ hd']
   exact IntsAre.append j2 (.cons _ _ .nil)
  intro g₃ g₄ zs D2 l₃ hzs l₄ FD2
  rw[sL (by rw[kY,cg];exact dX _)] at hzs
  have l24:=l₂.trans (l₃.trans l₄)
  have F2'':=F2'.mono l24
  ac_nf
  refine ⟨(B.mono l24).kept 15 e15,?_⟩
  have hzl:=IntsAre.length hzs
  rw[fA,fZ,kY,cg] at hzl
  have HD:Fz g₄ D2 (pb (fun j=>(bO k ds).reverse.getD j 0) ds.length):=FD2.imp fun o h=>(bU zs (bj h) hzl (fun j hj=>by
   refine bK (fh hzs (j:=j) (by rw[fZ,kY,cg];exact hj)) fun t ht=>?_
   refine ⟨t,?_⟩
   rw[← Array.getElem?_toList,ht]
   have e:(List.map Int.ofNat (bO k ds).reverse).getD j 0=(((bO k ds).reverse.getD j 0:Nat):Int):=by
    rw[List.getD_eq_getElem?_getD,List.getD_eq_getElem?_getD,List.getElem?_map]
    cases (bO k ds).reverse[j]?<;>rfl
   rw[e]))
  have hdl:∀ j,(bO k ds).reverse.getD j 0<2^Wd:=fun j=>by
   have h8:2^3≤2^Wd:=fv (by decide) hW1
   rw[List.getD_eq_getElem?_getD]
   cases hj:(bO k ds).reverse[j]? with
   | none=>exact ot _
   | some d =>
    have:=(hd.rot k d (List.mem_reverse.mp (iu hj))).2
    show d<_
    exact dV this (b9 (by decide) h8)
  have hWn:Wd*ds.length≤1000000:=by
   have:=lF hW hn
   exact bw this (by decide)
  refine (gY (B.mono l24) e15 hdl hWn (bw hW (by decide)) (bw hn (by decide)) (rm.le (mt (bw hn (by decide)) _)) HD).mono ?_
  refine fun O g₅ O l₅ q5=>ew q5 fun q6 t5 q7=>?_;clear q5;subst q6;subst q7
  have e5:=lB Wd (bO k ds).reverse []
  rw[si,lj,kY,cg,ui] at e5
  rw[e5]
  refine R_2 _ _ [] ?_
  show IntsAre (ys.push _).toList ((List.range (k+1)).map fun k=>((bz (2^Wd) (bO k ds):Nat):Int))
  rw[fM,qX,ζ18]
  exact IntsAre.append j (.cons _ _ .nil)
 ·intro g₅ g₆ ys D l₅ hys l₆ FD
  rw[hlen] at hys
  exact KQ _ _ _ fun l=>kQ _ l D ys FD hys
end
end
section
noncomputable def jZ (i:Nat):Int:=if i<2 then 1 else -1
noncomputable def gT (i:Nat):Int:=if i%2=0 then 1 else -1
noncomputable def Pairs4 (g:G)(S:Addr)(p q:Nat→Int):Prop:=∃ xs,Fz g S (ai xs)∧∀ i,i<4→∃ T t u,xs[i]?=some (.ref T)∧Fz g T (bS #[.int (p i) t,.int (q i) u])
theorem Pairs4.mono {g g':G}{S:Addr}{p q:Nat→Int}(k:G.le g g')(h:Pairs4 g S p q):Pairs4 g' S p q :=
 aL h fun xs F h=>(aG xs (F.mono k) (fun i hi=>let q1:=h i hi;dm q1 fun T t u e f=>(dQ T t u e (f.mono k))))
theorem xA {g:G}{S T0 T1 T2 T3:Addr}{p q:Nat→Int}{t0 u0 t1 u1 t2 u2 t3 u3:Tok}(F:Fz g S (ai #[.ref T0,.ref T1,.ref T2,.ref T3]))(F0:Fz g T0 (bS #[.int (p 0) t0,.int (q 0) u0]))(F1:Fz g T1 (bS #[.int (p 1) t1,.int (q 1) u1]))(F2:Fz g T2 (bS #[.int (p 2) t2,.int (q 2) u2]))(F3:Fz g T3 (bS #[.int (p 3) t3,.int (q 3) u3])):Pairs4 g S p q:=(aG _ F (fun i hi=>by
 refine sq hi (dQ T0 t0 u0 rfl F0) fun i hi=>?_
 refine sq hi (dQ T1 t1 u1 rfl F1) fun i hi=>?_
 refine sq hi (dQ T2 t2 u2 rfl F2) fun i hi=>?_
 exact sq hi (dQ T3 t3 u3 rfl F3) fun i hi=>Cz hi))
section
variable {C:Cx}{A:Around}{g:G}{M:be}{env:Env}{mg mb:Str→Option Value}{L a1 a2 a c0:Addr}{ds:List Nat}{Wd:Nat}{tf tw:Tok}
theorem eL {x y:Expr}{k:Nat}{pos:Pos}{Q:PQ Value}(h:W C A (eval x env) g M (fun u g₁ M₁=>W C A (eval y env) g₁ M₁ (fun v g₂ M₂=>∀ T g₃,G.le g₂ g₃→Fz g₃ T (bS #[u,v])→Q (.ref T) g₃ M₂)))(h1:starEach [x,y] env=(false,eval x env)::starEach [y] env:=by rfl)(h2:starEach [y] env=(false,eval y env)::starEach [] env:=by rfl):W C A (eval (.Tuple [x,y] k pos) env) g M Q:=by
 refine ed ?_
 refine ab (h.mono fun u g₁ M₁ O h=>?_) h1
 refine ab (h.mono fun v g₂ M₂ O h=>?_) h2
 refine aj ?_
 exact ⟨by show 2≤2^24;decide,fun T g₃ l F=>h T g₃ l F⟩
theorem AP {lo:List (Str×Value)}{tb ts:Tok}(hA:A.handled=none)(B:Base C mg mb g)(hW:Wd≤62)(hn:ds.length≤7)(hb:lk lo "base"=some (.int ((2^Wd:Nat):Int) tb))(hs:lk lo "size"=some (.int ds.length ts)){Q:PQ Flow}(kQ:∀ g',G.le g g'→∀ S tm,Pairs4 g' S jZ gT→Q .next g' ((L,aJ (bR (bR lo "signs" (.ref S)) "modulus" (.int ((((2^Wd)^ds.length:Nat):Int)-1) tm)))::M)) :
  W C A (exec (aI (aw (st 26)) 3) (fR L a1 a2 a c0)) g ((L,aJ lo)::M) Q:=by
 refine' bQ fun qQ KQ=>?_
 refine dk (na:="modulus") (nb:="signs") hA ?_
 refine eL ?_
 ac_nf
 refine ar (l:=lo) (.head _) hb ?_
 refine ar (l:=lo) (.head _) hs ?_
 refine lW (cY _) ?_ fun t1 O=>?_
 ·have h1:2^Wd<2^63:=wa (by decide) (dV hW (by decide))
  have h2:=dF h1
  have h3:=lF h2 hn
  exact Int.le_trans (Int.le_of_eq (ol _ _).symm) (Int.le_trans (Int.ofNat_le.mpr h3) (by decide))
 have e:((2^Wd:Nat):Int)^((ds.length:Nat):Int).toNat=(((2^Wd)^ds.length:Nat):Int):=by
  rw[d3];exact (Int.natCast_pow _ _).symm
 rw[e]
 ac_nf
 refine eJ ?_
 refine ab ?_
 refine eL ?_
 ac_nf
 intro T0 g₁ l₁ F0
 refine ab ?_
 refine eL ?_
 ac_nf
 refine fy fun O O=>?_
 intro T1 g₂ l₂ F1
 refine ab ?_
 refine eL ?_
 ac_nf
 refine fy fun O O=>?_
 ac_nf
 intro T2 g₃ l₃ F2
 refine ab ?_
 refine eL ?_
 ac_nf
 refine fy fun O O=>?_
 ac_nf
 refine fy fun O O=>?_
 intro T3 g₄ l₄ F3
 refine aj ?_
 refine ⟨by show 4≤2^24;decide,fun S g₅ l₅ FS=>?_⟩
 intro T g₆ l₆ FT
 refine (bf T _ _ rfl (.fz FT) ?_)
 refine aX (i:=0) (by rfl) ?_
 refine aX (i:=0) (by rfl) ?_
 exact KQ _ _ _ fun l=>kQ _ l S _ (xA (FS.mono l₆) (F0.mono (l₂.trans (l₃.trans (l₄.trans (l₅.trans l₆))))) (F1.mono (l₃.trans (l₄.trans (l₅.trans l₆)))) (F2.mono (l₄.trans (l₅.trans l₆))) (F3.mono (l₅.trans l₆)))
noncomputable def Ab (d i:Nat):Int:=if i=1∨i=2 then -(d:Int)-1 else d
noncomputable def zm (r m:Int):Nat→Int
 | 0=>r
 | 1=>r-m
 | 2=>m-r
 | _=>-r
noncomputable abbrev fk:List Stmt:=jg (aI (aw (st 26)) 4)
theorem Cj {lo:List (Str×Value)}{k d:Nat}{tk:Tok}{NL:Addr}{ys:Array Value}{left:Int}(hA:A.handled=none)(B:Base C mg mb g)(F1:Fz g a1 (ag (some (.str (bk ds) tf))))(hd:ds[k]?=some d)(hdg:1≤d∧d≤4)(hn:ds.length≤7)(hk:lk lo "k"=some (.int k tk))(hN:lk lo "numbers"=some (.ref NL))(FN:Fz g NL (ai ys))(hy:∃ t,ys[k+1]?=some (.int left t)){Q:PQ Flow}(kQ:∀ g',G.le g g'→∀ t u,Q .next g' ((L,aJ (bR (bR lo "left" (.int left t)) "figure" (.int d u)))::M)) :
  W C A (exec (aI fk 0) (fR L a1 a2 a c0)) g ((L,aJ lo)::M) Q:=by
 refine' bQ fun qQ KQ=>?_
 have hkl:=(List.getElem?_eq_some_iff.mp hd).1
 refine dk (na:="figure") (nb:="left") hA ?_
 refine eL ?_
 ac_nf
 refine bL B pH ?_
 ac_nf
 refine ar (l:=lo) (.head _) hk ?_
 refine ⟨dA,?_⟩
 have hit:Txt.item (bk ds) ((k:Nat):Int)=⟨#[d+48]⟩:=item_meets (cY _) (by rw[d3,← Array.getElem?_toList,cM,List.getElem?_map,hd];rfl)
 refine oJ (by simp[fitsSsize];exact ln2 [_,_] [] (.T bA cE) (.le am fs) (.lt ah am) ae hn hkl) (charAt_isSome (by rw[bo];exact eF [_,_] [] (.L (.g bA) eG) ae) (by rw[bo];exact aQ [_,_] [] (.T bA eG) (.lt ah am) ae hkl)) fun t1 O=>?_
 rw[hit]
 refine aj ?_
 refine ⟨br,?_⟩
 show W _ _ (call (.type "int") [.str ⟨#[d+48]⟩ t1]) _ _ _
 refine my (mE hdg) (by show 1≤640;decide) fun t3 O=>?_
 ac_nf
 refine ar (l:=lo) (.head _) hN ?_
 ac_nf
 refine ar (l:=lo) (.head _) hk ?_
 ac_nf
 have SN:∀ M,Sees g M NL (bq ys):=fun O=>.fz (FN.imp fun O=>bj)
 refine ⟨bE (SN _),?_⟩
 revert hy;refine fun q2=>bK q2 fun t4 hy=>?_;clear q2
 refine aO (SN _) (cY _) (ln2 [_,_] [] (.T (.a bA av) (.p 2 63)) (.le am fs) (.lt ah am) ae hn hkl) (by rw[show ((k:Int)+1).toNat=k+1 from by exact rfl];exact hy) ?_
 intro T g₁ l₁ FT
 refine (bf T _ _ rfl (.fz FT) ?_)
 refine aX (i:=0) (by rfl) ?_
 refine aX (i:=0) (by rfl) ?_
 exact KQ _ _ _ fun l=>kQ _ l _ _
theorem Ci {lo:List (Str×Value)}{d:Nat}{tl td tm:Tok}{left m:Int}(hA:A.handled=none)(hl:lk lo "left"=some (.int left tl))(hd:lk lo "figure"=some (.int d td))(hm:lk lo "modulus"=some (.int m tm)){Q:PQ Flow}(kQ:∀ g',G.le g g'→∀ D,Pairs4 g' D (Ab d) (zm left m)→Q .next g' ((L,aJ (bR lo "due" (.ref D)))::M)) :
  W C A (exec (aI fk 1) (fR L a1 a2 a c0)) g ((L,aJ lo)::M) Q:=by
 refine' bQ fun qQ KQ=>?_
 refine aA ?_
 refine eJ ?_
 refine ab ?_
 refine eL ?_
 refine ar (l:=lo) (.head _) hd ?_
 refine ar (l:=lo) (.head _) hl ?_
 intro T0 g₁ l₁ F0
 refine ab ?_
 refine eL ?_
 ac_nf
 refine ar (l:=lo) (.head _) hd ?_
 refine fy fun O O=>?_
 ac_nf
 refine ar (l:=lo) (.head _) hl ?_
 refine ar (l:=lo) (.head _) hm ?_
 ac_nf
 intro T1 g₂ l₂ F1
 refine ab ?_
 refine eL ?_
 ac_nf
 refine ar (l:=lo) (.head _) hd ?_
 refine fy fun O O=>?_
 ac_nf
 refine ar (l:=lo) (.head _) hm ?_
 refine ar (l:=lo) (.head _) hl ?_
 ac_nf
 intro T2 g₃ l₃ F2
 refine ab ?_
 refine eL ?_
 refine ar (l:=lo) (.head _) hd ?_
 ac_nf
 refine ar (l:=lo) (.head _) hl ?_
 refine fy fun O O=>?_
 intro T3 g₄ l₄ F3
 refine aj ?_
 refine ⟨by show 4≤2^24;decide,fun S g₅ l₅ FS=>?_⟩
 refine aX (i:=0) (by rfl) ?_
 exact KQ _ _ _ fun l=>kQ _ l S (xA FS (F0.mono (l₂.trans (l₃.trans (l₄.trans l₅)))) (F1.mono (l₃.trans (l₄.trans l₅))) (F2.mono (l₄.trans l₅)) (F3.mono l₅))
theorem Ca {lo:List (Str×Value)}{k turn:Nat}{tk tt:Tok}{S:Addr}(hA:A.handled=none)(hk:lk lo "k"=some (.int k tk))(ht:lk lo "turn"=some (.int turn tt))(hS:lk lo "signs"=some (.ref S))(FS:Pairs4 g S jZ gT){Q:PQ Flow}(kQ:∀ g',G.le g g'→∀ t u,Q .next g' ((L,aJ (bR (bR lo "one" (.int (jZ ((turn+k)%4)) t)) "other" (.int (gT ((turn+k)%4)) u)))::M)) :
  W C A (exec (aI fk 2) (fR L a1 a2 a c0)) g ((L,aJ lo)::M) Q:=by
 refine' bQ fun qQ KQ=>?_
 refine aL FS fun xs FX hx=>?_;clear FS
 refine cU ?_
 ac_nf
 refine ar (l:=lo) (.head _) hS ?_
 ac_nf
 refine ar (l:=lo) (.head _) ht ?_
 refine ar (l:=lo) (.head _) hk ?_
 ac_nf
 refine fq (by decide) fun O O=>?_
 have e:((turn:Int)+k).fmod 4=(((turn+k)%4:Nat):Int):=by
  rw[im _ (by exact cY _)]
  push_cast
  rfl
 rw[e]
 have hi:(turn+k)%4<4:=cQ _ (by decide)
 generalize (turn+k)%4=i at *
 refine dm (hx i hi) fun T t u hT FT=>?_
 have SN:∀ M,Sees g M S (bq xs):=fun O=>.fz (FX.imp fun O=>bj)
 refine ⟨bE (SN _),?_⟩
 refine aO (SN _) (cY _) (aQ [_] [] (.T bA (.p 2 63)) (.lt ah oK) ae hi) (by rw[d3];exact hT) ?_
 refine cj hA (.fz FT) ?_
 refine aF ?_
 refine aX (i:=0) (by rfl) ?_
 refine aF ?_
 refine aX (i:=0) (by rfl) ?_
 exact KQ _ _ _ fun l=>kQ _ l t u
end
end
section
set_option exponentiation.threshold 2000
theorem Au {a b q r:Int}(h:a=b*q+r)(hb:(0<b∧0≤r∧r<b)∨(b<0∧b<r∧r≤0)):a.fdiv b=q∧a.fmod b=r:=by
 have key:∀ {a b q r:Int},a=b*q+r→0<b→0≤r→r<b→a.fdiv b=q:=by
  intro a b q r h h1 h2 h3
  rw[gV _ (Int.le_of_lt h1),Int.ediv_eq_iff_of_pos h1,h]
  rw[pP]
  constructor<;>(first|exact aQ [] [_,_] (.L dq (.a dq ji)) (.L b6 ji) ae h2|exact aQ [] [_,_,_] (.T (.a dq ji) (.a dq sw)) (.T ji sw) ae h3)
 have hq:a.fdiv b=q:=by
  rcases hb with ⟨h1,h2,h3⟩|⟨h1,h2,h3⟩
  ·exact key h h1 h2 h3
  ·rw[← Int.neg_fdiv_neg]
   exact key (b:=-b) (r:=-r) (by rw[h,Int.neg_add,pi]) (aQ [] [_] (.T b6 (.g dq)) (.T dq b6) ae h1) (aQ [] [_] (.L b6 (.g dq)) (.L dq b6) ae h3) (aQ [] [_,_] (.T (.g dq) (.g ji)) (.T ji dq) ae h2)
 have:=wq a b
 rw[hq] at this
 exact ⟨hq,by exact ln2 [] [_,_,_,_] (.Q dq ji) (.Q sw (.a At ji)) (.Q (.a At dq) sw) ae h this⟩
theorem w0 {N B d:Nat}{m r:Int}(h:(N:Int)*B=d*m+r)(h0:0<r)(h1:r<m){i:Nat}(hi:i<4) :
  (jZ i*N*B).fdiv (gT i*m)=Ab d i∧(jZ i*N*B).fmod (gT i*m)=zm r m i:=by
 rcases (show i=0∨i=1∨i=2∨i=3 from by lia) with rfl|rfl|rfl|rfl
 ·refine Au ?_ (.inl ?_)
  ·show 1*(N:Int)*B=1*m*d+r
   rw[nB,nB,h,pP]
  ·show 0<1*m∧0≤r∧r<1*m
   exact ⟨ln2 [] [_,_] (.T b6 (.m 1 dq)) (.T b6 ji) (.T ji dq) ae h0 h1,⟨Int.le_of_lt h0,aQ [] [_,_] (.T dq (.m 1 ji)) (.T dq ji) ae h1⟩⟩
 ·refine Au ?_ (.inr ?_)
  ·show 1*(N:Int)*B=-1*m*(-(d:Int)-1)+(r-m)
   rw[nB,h,Int.mul_sub,tF,Int.neg_mul_neg,ph,pP]
   exact eF [] [_,_,_] (.Q (.a dq ji) (.a (.s dq (.g sw)) (.s ji sw))) ae
  ·show -1*m<0∧-1*m<r-m∧r-m≤0
   lia
 ·refine Au ?_ (.inl ?_)
  ·show -1*(N:Int)*B=1*m*(-(d:Int)-1)+(m-r)
   rw[tF,pi,h,nB,Int.mul_sub,Int.mul_neg,ph,pP]
   exact eF [] [_,_,_] (.Q (.g (.a dq ji)) (.a (.s (.g dq) sw) (.s sw ji))) ae
  ·show 0<1*m∧0≤m-r∧m-r<1*m
   exact ⟨ln2 [] [_,_] (.T b6 (.m 1 dq)) (.T b6 ji) (.T ji dq) ae h0 h1,⟨aQ [] [_,_] (.L b6 (.s dq ji)) (.T ji dq) ae h1,aQ [] [_,_] (.T (.s dq ji) (.m 1 dq)) (.T b6 ji) ae h0⟩⟩
 ·refine Au ?_ (.inr ?_)
  ·show -1*(N:Int)*B=-1*m*(d:Int)+-r
   rw[tF,pi,h,tF,pi,pP]
   exact eF [] [_,_] (.Q (.g (.a dq ji)) (.a (.g dq) (.g ji))) ae
  ·show -1*m<0∧-1*m < -r∧-r≤0
   lia
theorem pK (i:Nat):(jZ i).natAbs=1:=by unfold jZ;split<;>rfl
theorem uT (i:Nat):(gT i).natAbs=1:=by unfold gT;split<;>rfl
theorem sI (i:Nat)(x:Int):IntMulOk (jZ i) x:=IntMulOk.of_left (by unfold jZ;split<;>decide)
theorem wi (i:Nat)(x:Int):IntMulOk (gT i) x:=IntMulOk.of_left (by unfold gT;split<;>decide)
theorem mJ {C:Cx}{g:G}{M:be}{s:Shared}{T:Addr}{a b:Int}{t u:Tok}(S:St C g M s)(h:Sees g M T (bS #[.int a t,.int b u])):∃ as,Reads s.heap (.ref T) (.tuple [.int a,.int b]) as:=by
 refine jC (S.sees h) fun o e n q1=>?_;subst q1
 exact ⟨_,Reads.tuple e rfl rfl (.cons (.int a t) (.cons (.int b u) .nil))⟩
theorem wx (a b:Int):PyData.eqv (.tuple [.int a,.int b]) (.tuple [.int a,.int b])=true:=by simp[PyData.eqv,PyData.eqvAll]
theorem lY (a b:Int):SeqAt.shaped (.tuple [.int a,.int b])=true:=by
 simp[SeqAt.shaped,PyData.canLay0,PyData.canLayAll0,PyData.depth,PyData.depthAll]
section
variable {C:Cx}{A:Around}{g:G}{M:be}{env:Env}{mg mb:Str→Option Value}{L a1 a2 a c0:Addr}{ds:List Nat}{Wd:Nat}{tf tw:Tok}
theorem Cd {lo:List (Str×Value)}{k turn d N Bs:Nat}{tk tt t1 t2 t3 t4:Tok}{NL D:Addr}{ys:Array Value}{left m:Int}(rm:Rm A 163)(B:Base C mg mb g)(hk:lk lo "k"=some (.int k tk))(ht:lk lo "turn"=some (.int turn tt))(h1:lk lo "one"=some (.int (jZ ((turn+k)%4)) t1))(h2:lk lo "other"=some (.int (gT ((turn+k)%4)) t2))(hN:lk lo "numbers"=some (.ref NL))(FN:Fz g NL (ai ys))(hy:∃ t,ys[k]?=some (.int (N:Int) t))(hb:lk lo "base"=some (.int (Bs:Int) t3))(hm:lk lo "modulus"=some (.int m t4))(hD:lk lo "due"=some (.ref D))(FD:Pairs4 g D (Ab d) (zm left m))(hk7:k≤7)(hBs:Bs<2^63)(hNs:N<2^434)(hm0:8≤m)(hm1:m<2^434)(heq:(N:Int)*Bs=d*m+left)(hl0:0<left)(hl1:left<m) :
  W C A (exec (aI fk 3) (fR L a1 a2 a c0)) g ((L,aJ lo)::M) (fun f g' M'=>f=.next∧M'=(L,aJ lo)::M):=by
 refine bK (B.get 17) fun a17 e17=>?_
 refine nI ?_
 refine aR ?_
 ac_nf
 refine bF B e17 ?_
 ac_nf
 refine ar (l:=lo) (.head _) h1 ?_
 ac_nf
 refine ar (l:=lo) (.head _) hN ?_
 ac_nf
 refine ar (l:=lo) (.head _) hk ?_
 have SN:∀ M,Sees g M NL (bq ys):=fun O=>.fz (FN.imp fun O=>bj)
 refine ⟨bE (SN _),?_⟩
 revert hy;refine fun q2=>bK q2 fun t5 hy=>?_;clear q2
 refine aO (SN _) (cY _) (aQ [_] [] (.T bA (.p 2 63)) (.le ah fs) ae hk7) (by rw[d3];exact hy) ?_
 refine gl (sI _ _) fun O O=>?_
 refine ar (l:=lo) (.head _) hb ?_
 have hBb:=dF hBs
 refine gl (IntMulOk.of_right (bw hBb (by decide))) fun O O=>?_
 ac_nf
 refine ar (l:=lo) (.head _) h2 ?_
 refine ar (l:=lo) (.head _) hm ?_
 refine gl (wi _ _) fun O O=>?_
 ac_nf
 refine ⟨B.kept 17 e17,?_⟩
 have hi:(turn+k)%4<4:=cQ _ (by decide)
 have hx:(jZ ((turn+k)%4)*N*Bs).natAbs<2^500:=by
  rw[mL,mL,pK,j9,jr,jr]
  have h:=Nat.mul_lt_mul'' hNs hBs
  exact b9 h (by decide)
 have hbm:(gT ((turn+k)%4)*m).natAbs=m.natAbs:=by rw[mL,uT,j9]
 have hbits:4≤Builtin.Int.intBits (gT ((turn+k)%4)*m):=by
  unfold Builtin.Int.intBits
  have h0:(gT ((turn+k)%4)*m)≠0:=by
   intro e
   rw[e] at hbm
   simp at hbm
   lia
  rw[if_neg (by simpa using h0),hbm]
  have:3≤m.natAbs.log2:=(Nat.le_log2 (by lia)).mpr (by lia)
  exact aQ [_] [] (.le oK (.a ah av)) (.le pF ah) ae this
 refine (ij (m:=500) B e17 (fun e=>by rw[e] at hbm;simp at hbm;lia) (by rw[hbm];exact jw (show m.natAbs<2^434 by lia) (by decide)) hx (by decide) (aQ [_] [] (.le (.l 500) (.m 150 ah)) (.X 125 (.le oK ah)) ae hbits) (rm.le (by decide))).mono ?_
 refine fun O g₁ O l₁ q3=>gr q3 fun q4 T t6 t7 q5 FT=>?_;clear q3;subst q4;subst q5
 refine dI (w0 heq hl0 hl1 hi) fun e1 e2=>?_
 rw[e1,e2] at FT
 ac_nf
 refine ar (l:=lo) (.head _) hD ?_
 ac_nf
 refine ar (l:=lo) (.head _) ht ?_
 refine ar (l:=lo) (.head _) hk ?_
 ac_nf
 refine fq (by decide) fun O O=>?_
 have e:((turn:Int)+k).fmod 4=(((turn+k)%4:Nat):Int):=by
  rw[im _ (by exact cY _)]
  push_cast
  rfl
 rw[e]
 refine aL (FD.mono l₁) fun xs FX hx4=>?_
 refine dm (hx4 _ hi) fun T2 t8 t9 hT2 FT2=>?_
 have SX:∀ M,Sees g₁ M D (bq xs):=fun O=>.fz (FX.imp fun O=>bj)
 refine ⟨bE (SX _),?_⟩
 refine aO (SX _) (cY _) (aQ [_] [] (.T bA (.p 2 63)) (.lt ah oK) ae hi) (by rw[d3];exact hT2) ?_
 refine rY (fun s S=>let q6:=mJ S (.fz FT);bK q6 fun O r1=>let q7:=mJ S (.fz FT2);bK q7 fun O r2=>(bV _ _ r1 r2)) (lY _ _) (lY _ _) (by have:=rm.u;show A.units+64<9900;exact aQ [_] [] (.lt (.a ah oE) ir) (.le (.a ah (.m 10 (.l 163))) ez) ae this) ?_
 rw[wx]
 refine aV ?_
 rw[if_neg (by simp)]
 refine bu ?_
 exact ⟨rfl,rfl⟩
end
end
section
set_option exponentiation.threshold 2000
theorem qg {P:Nat→Prop}:∀ n,P n→∃ m,m≤n∧P m∧∀ j,j<m→¬ P j:=by
 intro n
 induction n using Nat.strongRecOn with
 | _ n ih =>
  intro h
  by_cases q:∃ j,j<n∧P j
  ·refine aL q fun j hj hp=>?_;clear q
   refine bT (ih j hj hp) fun m h1 h2 h3=>?_
   exact (bU m (bw h1 (bY hj)) h2 h3)
  ·exact (bU n (dX _) h (fun j hj hp=>q (aG j hj hp)))
theorem fc {Wd n:Nat}(hW:Wd≤62)(hn:n≤7):(2^Wd)^n≤2^434:=by
 rw[← nu]
 exact fv (by decide) (bw (lF hW hn) (by decide))
theorem vp {items:Array Value}(h:1≤items.size):(slicePick items (some 1) none none).toList=items.toList.drop 1:=by
 have e:sliceBounds (some 1) none none items.size=(((1:Nat):Int),((items.size:Nat):Int),1):=by
  unfold sliceBounds
  simp
  lia
 rw[kmk_pick_nat items e]
 rw[List.toList_toArray,sL]
 rw[gA,fA]
 exact dX _
section
variable {C:Cx}{A:Around}{g:G}{M:be}{env:Env}{mg mb:Str→Option Value}{L a1 a2 a c0:Addr}{ds:List Nat}{Wd:Nat}{tf tw:Tok}
noncomputable abbrev yx (Wd:Nat)(ds:List Nat):List Int:=(List.range (ds.length+1)).map fun k=>((bz (2^Wd) (bO k ds):Nat):Int)
theorem uk {ys:Array Value}(h:IntsAre ys.toList (yx Wd ds)){k:Nat}(hk:k≤ds.length):∃ t,ys[k]?=some (.int ((bz (2^Wd) (bO k ds):Nat):Int) t):=by
 refine bK (fh h (j:=k) (by simp;exact dV hk (kI _))) fun t ht=>?_
 refine ⟨t,?_⟩
 rw[← Array.getElem?_toList,ht]
 congr 2
 unfold yx
 rw[List.getD_eq_getElem?_getD,List.getElem?_map,List.getElem?_range (dV hk (kI _))]
 rfl
noncomputable abbrev y5 (turn:Nat)(tt tb ts tm:Tok)(Wd:Nat)(n:Nat)(TL NL S:Addr):List (Str×Value) :=
 [("turn",.int turn tt),("base",.int ((2^Wd:Nat):Int) tb),("size",.int n ts),("turns",.ref TL),("numbers",.ref NL),("signs",.ref S),("modulus",.int ((((2^Wd)^n:Nat):Int)-1) tm)]
theorem A8 {turn:Nat}{tt tb ts tm:Tok}{TL NL S:Addr}{ys:Array Value}(hd:DG ds)(rm:Rm A 163)(B:Base C mg mb g)(F1:Fz g a1 (ag (some (.str (bk ds) tf))))(hW1:3≤Wd)(hW:Wd≤62)(hn1:2≤ds.length)(hn:ds.length≤7)(FN:Fz g NL (ai ys))(hys:IntsAre ys.toList (yx Wd ds))(FS:Pairs4 g S jZ gT){Q:PQ Flow}(kQ:∀ g',G.le g g'→Q .next g' ((L,aJ (y5 turn tt tb ts tm Wd ds.length TL NL S))::M)) :
  W C A (exec (aI (aw (st 26)) 4) (fR L a1 a2 a c0)) g ((L,aJ (y5 turn tt tb ts tm Wd ds.length TL NL S))::M) Q:=by
 refine' bQ fun qQ KQ=>?_
 have hB8:8≤2^Wd:=bw (show 8≤2^3 by decide) (fv (by decide) hW1)
 refine uw ?_
 ac_nf
 refine bL B c6 ?_
 ac_nf
 refine ⟨br,?_⟩
 show W _ _ (call (.type "range") [.int (ds.length:Int) ts]) _ _ _
 refine fu fun g₁ r l₁ Fr=>?_
 refine cw Fr (by decide) (⟨eF [_] [] (.T (.g (.p 2 62)) bA) ae,aQ [_] [] (.T bA (.p 2 62)) (.le ah fs) ae hn⟩) fun I P' Dr=>?_
 have hnn:((ds.length:Int)-0).toNat=ds.length:=by exact rfl
 rw[hnn] at Dr
 refine (ba I P' ds.length _ _ (dy (fun k g' M'=>M'=(L,aJ (y5 turn tt tb ts tm Wd ds.length TL NL S))::M) rfl rfl (Dr _ rm.h) rfl (iPPP ik ?_ ?_)))
 ·rintro k g₂ _ v hk l₂ rfl hv
  obtain ⟨tk,rfl⟩:∃ t,v=.int (k:Int) t:=by refine bK hv fun t q1=>?_;clear hv;subst q1;exact ⟨t,by rw[mi]⟩
  have l12:=l₁.trans l₂
  refine aF ?_
  refine aX (i:=1) (by rfl) ?_
  obtain ⟨d,hdk⟩:∃ d,ds[k]?=some d:=⟨_,List.getElem?_eq_getElem hk⟩
  have hdg:=hd d (iu hdk)
  have body:fk=[aI fk 0,aI fk 1,aI fk 2,aI fk 3]:=by rfl
  show W C A (execs fk (fR L a1 a2 a c0)) _ _ _
  rw[body]
  refine' bI (M':=(I,P' (k+1))::(L,aJ (y5 turn tt tb ts tm Wd ds.length TL NL S++([("k",.int (k:Int) tk)]:List (Str×Value))))::M) (by rfl') ?_
  refine' iG (List.Perm.swap _ _ _) ?_
  refine' af ?_
  refine' Cj rm.h (B.mono l12) (F1.mono l12) hdk hdg hn (tk:=tk) (by rfl') (by rfl') (FN.mono l12) (uk hys (k:=k+1) (by with_unfolding_all exact aQ [_,_] [] (.le (.a ah av) am) (.lt ah am) ae hk)) fun g₃ l₃ t3 u3=>?_
  refine' af ?_
  refine' Ci rm.h (tl:=t3) (td:=u3) (tm:=tm) (by rfl') (by rfl') (by rfl') fun g₄ l₄ D FD=>?_
  refine' af ?_
  refine' Ca rm.h (tk:=tk) (tt:=tt) (by rfl') (by rfl') (by rfl') (FS.mono (l12.trans (l₃.trans l₄))) fun g₅ l₅ t5 u5=>?_
  have hne:bO (k+1) ds≠[]:=fun e=>by have:=congrArg List.length e;rw[cg] at this;simp at this;rw[this] at hn1;simp at hn1
  have hr1:=wY hB8 (hd.rot (k+1)) hne
  have hr0:=wE (B:=2^Wd) (b9 (by decide) hB8) (hd.rot (k+1)) hne
  have hN1:=dT ((hd.rot k).lt (B:=2^Wd) (bw (by decide) hB8))
  rw[cg] at hr1 hN1
  have hpb:=fc hW hn
  have hrot:=wP (B:=2^Wd) hdk
  have hX:64≤(2^Wd)^ds.length:=by
   have h1:=fv (show 0<2^Wd by exact b9 (by decide) hB8) hn1
   have h2:=lF hB8 hB8
   rw[Nat.pow_two] at h1
   exact ln2 [_,_] [] (.le oE ah) (.le am ah) (.le (.m 8 vM) am) ae h1 h2
  have heq:((bz (2^Wd) (bO k ds):Nat):Int)*((2^Wd:Nat):Int)=d*((((2^Wd)^ds.length:Nat):Int)-1)+((bz (2^Wd) (bO (k+1) ds):Nat):Int):=by
   have h2:=congrArg (Int.ofNat) hrot
   simp only[Int.ofNat_eq_natCast,rP,ol] at h2
   rw[Int.mul_sub,ph]
   exact aQ [_,_] [_,_] (.Q dq (.a (.s ji bA) eG)) (.Q (.a dq bA) (.a ji eG)) ae h2
  refine' af ?_
  refine' (Cd (tk:=tk) (tt:=tt) (t1:=t5) (t2:=u5) (t3:=tb) (t4:=tm) rm (B.mono (l12.trans (l₃.trans (l₄.trans l₅)))) (by rfl') (by rfl') (by rfl') (by rfl') (by rfl') (FN.mono (l12.trans (l₃.trans (l₄.trans l₅))))
   (uk hys (k:=k) (bY hk)) (by rfl') (by rfl') (by rfl') (FD.mono l₅) (bY (b9 hk hn)) (wa (by decide) (dV hW (by decide))) (b9 hN1 hpb) ?_ ?_ heq (by with_unfolding_all exact aQ [_] [] (.T b6 bA) (.lt b6 ah) ae hr0) (by with_unfolding_all exact aQ [_,_] [] (.T bA (.s eG av)) (.lt (.a ah av) am) ae hr1)).mono ?_
  ·exact aQ [_] [] (.L vM (.s bA av)) (.le oE ah) ae hX
  ·exact aQ [_] [] (.T (.s bA av) (.p 2 434)) (.le ah (.p 2 434)) ae hpb
  refine fun O g₆ O l₆ q11=>dI q11 fun q12 q13=>?_;clear q11;subst q12;subst q13
  refine' nF (i:=0) (l:=y5 turn tt tb ts tm Wd ds.length TL NL S) (r:=[_,_,_,_,_,_]) (by rfl') ?_
  refine' bI (M':=(L,aJ (y5 turn tt tb ts tm Wd ds.length TL NL S))::(I,P' (k+1))::M) (by rfl') ?_
  refine' iG (List.Perm.swap _ _ _) ?_
  refine bu ?_
  exact (bV ([]) _ rfl rfl)
 ·rintro g' _ l' rfl
  exact KQ _ _ _ fun l=>kQ _ l
end
end
section
set_option exponentiation.threshold 2000
theorem kN:∀ l:List Str,(Str.join Str.empty l).cps.toList=(l.map fun s=>s.cps.toList).flatten
 | []=>rfl
 | [x]=>by simp[Str.join]
 | x::y::r=>by
  have ih:=kN (y::r)
  show ((x++Str.empty)++Str.join Str.empty (y::r)).cps.toList=_
  rw[Str.append_empty]
  show (x.cps++(Str.join Str.empty (y::r)).cps).toList=_
  rw[kf,ih]
  rfl
theorem eH (l:List Str):(Txt.join Str.empty l).cps.toList=(l.map fun s=>s.cps.toList).flatten:=by
 rw[show Txt.join Str.empty l=Str.join Str.empty l from StrLaws.glued_eq_join _ _]
 exact kN l
theorem gf {a b:Str}(h:a.cps.toList=b.cps.toList):a=b:=Str.ext' (Array.toList_inj.mp h)
theorem lw (u:List Nat):Txt.join Str.empty (u.map fun d=>bk [d])=bk u:=by
 apply gf
 rw[eH,jW,cM]
 induction u with
 | nil=>rfl
 | cons d u ih=>rw[dC,oC,ih];rfl
theorem pJ {d:Nat}(h:1≤d∧d≤4):Str.ofString (toString (d:Int))=bk [d]:=by
 rcases (show d=1∨d=2∨d=3∨d=4 from by lia) with rfl|rfl|rfl|rfl<;>decide +kernel
section
variable {C:Cx}{A:Around}{g:G}{M:be}{env:Env}{mg mb:Str→Option Value}{L a1 a2 a c0:Addr}{ds:List Nat}{Wd:Nat}{tf tw:Tok}
noncomputable abbrev nA (ds:List Nat):List Str:=(List.range (ds.length+1)).map fun k=>bk (bO k ds)
theorem pe {k:Nat}(hk:k≤ds.length):(nA ds)[k]?=some (bk (bO k ds)):=by
 unfold nA
 rw[List.getElem?_map,List.getElem?_range (dV hk (kI _))]
 rfl
theorem Az {lo:List (Str×Value)}{TL:Addr}{xs:Array Value}{p:Nat}(hA:A.handled=none)(B:Base C mg mb g)(F1:Fz g a1 (ag (some (.str (bk ds) tf))))(hn:ds.length≤7)(hT:lk lo "turns"=some (.ref TL))(FT:Fz g TL (ai xs))(hxs:StrsAre xs.toList (nA ds))(hp1:1≤p)(hp2:p≤ds.length)(hp3:bO p ds=ds)(hp4:∀ j,0<j→j<p→bO j ds≠ds) :
  W C A (exec (aI (aw (st 26)) 5) (fR L a1 a2 a c0)) g ((L,aJ lo)::M) (fun f g' M'=>f=.next∧∃ t,M'=(L,aJ (bR lo "period" (.int p t)))::M):=by
 have hlen:=StrsAre.length hxs
 rw[fA,fZ,rC] at hlen
 refine aA ?_
 ac_nf
 refine ar (l:=lo) (.head _) hT ?_
 ac_nf
 intro sl g₁ l₁ Fs
 have ST:∀ M,Sees g₁ M TL (bq xs):=fun O=>.fz ((FT.mono l₁).imp fun O=>bj)
 refine ⟨bE (ST _),?_⟩
 refine gX (lo:=some 1) (hi:=none) (st:=none) (ST _) Fs (.int 1 _) .none .none (by decide) (by show xs.size≤2^24;exact ln2 [_,_] [] (.le ah (.p 2 24)) (.le am fs) (.eq ah (.a am av)) ae hn hlen) fun g₂ D l₂ FD=>?_
 intro pl
 refine fG F.slot_list_index F.type_list_index (.fz FD) ?_
 have F1':=(F1.mono l₁).mono l₂
 ac_nf
 refine ⟨ap,?_⟩
 show W _ _ (call (.builtin "list.index") [.ref D,.str (bk ds) tf]) _ _ _
 have hsl:StrsAre (slicePick xs (some 1) none none).toList ((nA ds).drop 1):=by
  rw[vp (aQ [_,_] [] (.le av ah) (.Y 1 (.eq ah (.a am av))) ae hlen)]
  exact StrsAre.drop' hxs 1
 refine nC (j:=p-1) (.fz FD) hsl ?_ ?_ ?_ fun t3 O=>?_
 ·rw[List.getElem?_drop,show 1+(p-1)=p from by exact aQ [_,_] [] (.eq (.a av ah) am) (.eq (.a ah av) am) ae (bn hp1),pe (hp2),hp3]
 ·intro m hm
  rw[List.getElem?_drop,pe (by exact cZ [_,_,_,_] [] (.le (.a av ah) am) (.le ao am) (.lt ah aM) (.le aM ao) ae hp2 hm (de _ _))]
  intro e
  exact hp4 (1+m) (b9 (by decide) (dG _ _)) (ln2 [_,_,_] [] (.lt (.a av ah) am) (.lt ah ao) (.eq (.a ao av) am) ae hm (bn hp1)) (wW (Option.some.inj e))
 ·rw[gA,fZ,rC];exact ln2 [_,_] [] (.le ah aY) (.le am fs) (.le ah (.a am av)) ae hn (de _ _)
 ac_nf
 refine (lx rfl ?tt ?eq)
 case eq =>
  have e:(1:Int)+((p-1:Nat):Int)=(p:Int):=by exact aQ [_,_] [] (.Q (.a av bA) eG) (.eq (.a ah av) am) ae (bn hp1)
  rw[e]
  rfl
theorem AA {lo:List (Str×Value)}{n turn:Nat}{ts tt:Tok}{S:Addr}(hA:A.handled=none)(hs:lk lo "size"=some (.int n ts))(ht:lk lo "turn"=some (.int turn tt))(hS:lk lo "signs"=some (.ref S))(FS:Pairs4 g S jZ gT){Q:PQ Flow}(kQ:∀ g',G.le g g'→∀ t u,Q .next g' ((L,aJ (bR (bR lo "one" (.int (jZ ((turn+n)%4)) t)) "other" (.int (gT ((turn+n)%4)) u)))::M)) :
  W C A (exec (aI (aw (st 26)) 6) (fR L a1 a2 a c0)) g ((L,aJ lo)::M) Q:=by
 refine' bQ fun qQ KQ=>?_
 refine aL FS fun xs FX hx=>?_;clear FS
 refine cU ?_
 ac_nf
 refine ar (l:=lo) (.head _) hS ?_
 ac_nf
 refine ar (l:=lo) (.head _) ht ?_
 refine ar (l:=lo) (.head _) hs ?_
 ac_nf
 refine fq (by decide) fun O O=>?_
 have e:((turn:Int)+n).fmod 4=(((turn+n)%4:Nat):Int):=by
  rw[im _ (by exact cY _)]
  push_cast
  rfl
 rw[e]
 have hi:(turn+n)%4<4:=cQ _ (by decide)
 generalize (turn+n)%4=i at *
 refine dm (hx i hi) fun T t u hT FT=>?_
 have SN:∀ M,Sees g M S (bq xs):=fun O=>.fz (FX.imp fun O=>bj)
 refine ⟨bE (SN _),?_⟩
 refine aO (SN _) (cY _) (aQ [_] [] (.T bA (.p 2 63)) (.lt ah oK) ae hi) (by rw[d3];exact hT) ?_
 refine cj hA (.fz FT) ?_
 refine aF ?_
 refine aX (i:=0) (by rfl) ?_
 refine aF ?_
 refine aX (i:=0) (by rfl) ?_
 exact KQ _ _ _ fun l=>kQ _ l t u
theorem xi {i N U p m:Nat}(hm:0<m){X:Int}(h:(N:Int)*X=U*(m:Int)):(jZ i*N*X).fdiv (gT i*m)=jZ i*gT i*U∧(jZ i*N*X).fmod (gT i*m)=0:=by
 have h2:gT i*gT i=1:=by unfold gT;split<;>rfl
 refine Au ?_ ?_
 ·rw[Int.mul_assoc,h,nf]
  have:gT i*m*(jZ i*gT i*U)=(gT i*gT i)*(jZ i*(U*m)):=by
   ac_rfl
  rw[this,h2,nB]
 ·unfold gT
  split<;>lia
theorem AK {lo:List (Str×Value)}{p i:Nat}{tp tb t1 t2 tm:Tok}{NL:Addr}{ys:Array Value}(hd:DG ds)(rm:Rm A 163)(B:Base C mg mb g)(hW1:3≤Wd)(hW:Wd≤62)(hn1:2≤ds.length)(hn:ds.length≤7)(hN:lk lo "numbers"=some (.ref NL))(FN:Fz g NL (ai ys))(hys:IntsAre ys.toList (yx Wd ds))(hb:lk lo "base"=some (.int ((2^Wd:Nat):Int) tb))(hm:lk lo "modulus"=some (.int ((((2^Wd)^ds.length:Nat):Int)-1) tm))(h1:lk lo "one"=some (.int (jZ i) t1))(h2:lk lo "other"=some (.int (gT i) t2))(hp:lk lo "period"=some (.int p tp))(hp1:1≤p)(hp2:p≤ds.length)(hp3:bO p ds=ds)(hp4:ds.length%p=0){Q:PQ Flow}(kQ:∀ g',G.le g g'→∀ T j,j≤ds.length→(∀ k,k≤ds.length→bz (2^Wd) (bO j ds)≤bz (2^Wd) (bO k ds))→∀ t u,Fz g' T (bS #[.int (jZ i*gT i*((bz (2^Wd) ((bO j ds).take p):Nat):Int)) t,.int 0 u])→Q .next g' ((L,aJ (bR lo "told" (.ref T)))::M)) :
  W C A (exec (aI (aw (st 26)) 7) (fR L a1 a2 a c0)) g ((L,aJ lo)::M) Q:=by
 refine' bQ fun qQ KQ=>?_
 refine bK (B.get 17) fun a17 e17=>?_
 have hB8:8≤2^Wd:=bw (show 8≤2^3 by decide) (fv (by decide) hW1)
 refine aA ?_
 ac_nf
 refine bF B e17 ?_
 ac_nf
 refine ar (l:=lo) (.head _) h1 ?_
 ac_nf
 refine bL B qc ?_
 ac_nf
 refine ar (l:=lo) (.head _) hN ?_
 ac_nf
 refine ⟨ap,?_⟩
 show W _ _ (call (.builtin "min") [.ref NL]) _ _ _
 refine vR rm.h (FN.imp fun O=>bj) hys (by simp) fun v tv g₁ l₁ hv hmin=>?_
 obtain ⟨j,hj,rfl⟩:∃ j,j≤ds.length∧v=((bz (2^Wd) (bO j ds):Nat):Int):=by
  refine aL (List.mem_map.mp hv) fun j hj e=>?_
  exact (aG j (by have:=List.mem_range.mp hj;exact vk this) e.symm)
 have hmin':∀ k,k≤ds.length→bz (2^Wd) (bO j ds)≤bz (2^Wd) (bO k ds):=fun k hk =>
  Int.ofNat_le.mp (hmin _ (List.mem_map.mpr (aG k (List.mem_range.mpr (dV hk (kI _))) rfl)))
 refine gl (sI _ _) fun O O=>?_
 ac_nf
 refine ar (l:=lo) (.head _) hb ?_
 refine ar (l:=lo) (.head _) hp ?_
 have hBb:=dF (show 2^Wd<2^63 from wa (by decide) (dV hW (by decide)))
 refine lW (cY _) ?_ fun t3 O=>?_
 ·have h3:=lF hBb (show p≤7 by exact bw hp2 hn)
  exact Int.le_trans (Int.le_of_eq (ol _ _).symm) (Int.le_trans (Int.ofNat_le.mpr h3) (by decide))
 have e:((2^Wd:Nat):Int)^((p:Nat):Int).toNat=(((2^Wd)^p:Nat):Int):=by
  rw[d3];exact (Int.natCast_pow _ _).symm
 rw[e]
 ac_nf
 have hN1:=dT ((hd.rot j).lt (B:=2^Wd) (bw (by decide) hB8))
 rw[cg] at hN1
 have hXn:=fc hW hn
 have hXp:(2^Wd)^p≤2^434:=fc hW (bw hp2 hn)
 have hXp0:1≤(2^Wd)^p:=n9 (b9 (by decide) hB8)
 have hXn64:64≤(2^Wd)^ds.length:=by
  have h1:=fv (show 0<2^Wd by exact b9 (by decide) hB8) hn1
  have h2:=lF hB8 hB8
  rw[Nat.pow_two] at h1
  exact ln2 [_,_] [] (.le oE ah) (.le am ah) (.le (.m 8 vM) am) ae h1 h2
 have hdiv:=rl ds.length p
 rw[hp4,pj] at hdiv
 have htp:=lT (t:=bO j ds) hp1 hp2 hp3 hj rfl hp4
 have hul:((bO j ds).take p).length=p:=by rw[js,cg];exact qm hp2
 have hrep:=oO (2^Wd) (b9 (by decide) hB8) ((bO j ds).take p) (ds.length/p)
 rw[← htp,hul,ζ33 (ds.length/p) p,hdiv] at hrep
 have heq:((bz (2^Wd) (bO j ds):Nat):Int)*((((2^Wd)^p:Nat):Int)-1)=((bz (2^Wd) ((bO j ds).take p):Nat):Int)*(((2^Wd)^ds.length-1:Nat):Int):=by
  have h4:=congrArg Int.ofNat hrep
  simp only[Int.ofNat_eq_natCast,ol] at h4
  rw[Int.natCast_sub hXp0] at h4
  exact h4
 refine gl ?_ fun O O=>?_
 ·refine IntMulOk.of_bits ?_ ?_
  ·refine bw (intBits_le (k:=434) ?_) (by decide)
   rw[mL,pK,j9,jr]
   exact b9 hN1 hXn
  ·refine bw (intBits_le (k:=435) ?_) (by decide)
   lia
 ac_nf
 refine ar (l:=lo) (.head _) h2 ?_
 refine ar (l:=lo) (.head _) hm ?_
 refine gl (wi _ _) fun O O=>?_
 refine aj ?_
 replace B:=B.mono l₁
 refine ⟨B.kept 17 e17,?_⟩
 have hmm:(((2^Wd)^ds.length:Nat):Int)-1=(((2^Wd)^ds.length-1:Nat):Int):=by exact aQ [_,_] [] (.Q (.s bA av) eG) (.Y 1 (.eq (.a am av) ah)) ae (bn (aQ [_] [] (.le av ah) (.le oE ah) ae hXn64))
 rw[hmm]
 have hx:(jZ i*((bz (2^Wd) (bO j ds):Nat):Int)*((((2^Wd)^p:Nat):Int)-1)).natAbs<2^868:=by
  rw[mL,mL,pK,j9,jr]
  have h5:((((2^Wd)^p:Nat):Int)-1).natAbs<2^434:=by lia
  have h6:=Nat.mul_lt_mul'' (b9 hN1 hXn) h5
  exact b9 h6 (by decide)
 generalize hm0:(2^Wd)^ds.length-1=m at *
 have hm63:63≤m:=by exact ln2 [_,_] [] (.le (.l 63) ah) (.le oE am) (.Q (.s eG av) bA) ae hXn64 hmm
 have hbm:(gT i*(m:Int)).natAbs=m:=by rw[mL,uT,j9,jr]
 have hbits:6≤Builtin.Int.intBits (gT i*(m:Int)):=by
  unfold Builtin.Int.intBits
  have h0:(gT i*(m:Int))≠0:=by
   intro e
   rw[e] at hbm
   simp at hbm
   exact jY 0 (ln2 [_] [] (.le av b6) (.le (.l 63) ah) (.Y 1 (.eq b6 ah)) ae hm63 hbm)
  rw[if_neg (by simpa using h0),hbm]
  have:5≤m.log2:=(Nat.le_log2 (df (b9 (by decide) hm63))).mpr (bw (by decide) hm63)
  exact aQ [_] [] (.le sZ (.a ah av)) (.le (.l 5) ah) ae this
 refine (ij (m:=868) B e17 (fun e=>by rw[e] at hbm;simp at hbm;exact jY 0 (ln2 [_] [] (.le av b6) (.le (.l 63) ah) (.Y 1 (.eq b6 ah)) ae hm63 hbm)) (by rw[hbm];exact jw (show m<2^435 by exact ln2 [_,_] [] (.lt ah (.p 2 435)) (.le am (.p 2 434)) (.Y 1 (.Q (.s eG av) bA)) ae hXn hmm) (by decide)) hx (by decide) (aQ [_] [] (.X 3 (.le (.l 868) (.m 150 ah))) (.X 434 (.le sZ ah)) ae hbits) (rm.le (by decide))).mono ?_
 refine fun O g₂ O l₂ q1=>gr q1 fun q2 T t6 t7 q3 FT=>?_;clear q1;subst q2;subst q3
 refine dI (xi (i:=i) (p:=p) (show 0<m by exact b9 (by decide) hm63) heq) fun e1 e2=>?_
 rw[e1,e2] at FT
 refine aX (i:=0) (by rfl) ?_
 exact KQ _ _ _ fun l=>kQ _ l T j hj hmin' t6 t7 FT
end
end
section
set_option exponentiation.threshold 2000
section
variable {C:Cx}{A:Around}{g:G}{M:be}{env:Env}{mg mb:Str→Option Value}{L a1 a2 a c0:Addr}{ds:List Nat}{Wd:Nat}{tf tw:Tok}
theorem ry (u:List Nat):((u.map fun d=>bk [d]).map (·.length)).sum=u.length:=by
 induction u with
 | nil=>rfl
 | cons d u ih=>rw[dC,dC,List.sum_cons,ih,eR];show 1+_=_;exact lV _ _
theorem BI {lo:List (Str×Value)}{i:Nat}{u:List Nat}{t1 t2 t3 t4:Tok}{T:Addr}(hu:DG u)(hu0:u≠[])(hu7:u.length≤7)(rm:Rm A 163)(B:Base C mg mb g)(F2:Fz g a2 (ag (some (.int Wd tw))))(hW1:3≤Wd)(hW:Wd≤62)(h1:lk lo "one"=some (.int (jZ i) t1))(h2:lk lo "other"=some (.int (gT i) t2))(hT:lk lo "told"=some (.ref T))(FT:Fz g T (bS #[.int (jZ i*gT i*((bz (2^Wd) u:Nat):Int)) t3,.int 0 t4])){Q:PQ Flow}(kQ:∀ g',G.le g g'→∀ t,Q .next g' ((L,aJ (bR lo "root" (.str (bk u) t)))::M)) :
  W C A (exec (aI (aw (st 26)) 8) (fR L a1 a2 a c0)) g ((L,aJ lo)::M) Q:=by
 refine' bQ fun qQ KQ=>?_
 obtain ⟨a14,e14⟩:=B.get 14
 have hB8:8≤2^Wd:=bw (show 8≤2^3 by decide) (fv (by decide) hW1)
 refine aA ?_
 ac_nf
 intro pl
 refine' fg ?_
 ac_nf
 refine' jt (cl:=[]) (by rfl') fun q_1 K_1=>?_
 ac_nf
 refine bF B e14 ?_
 ac_nf
 refine ar (l:=lo) (.head _) h1 ?_
 refine ar (l:=lo) (.head _) h2 ?_
 refine gl (sI _ _) fun O O=>?_
 ac_nf
 refine ar (l:=lo) (.head _) hT ?_
 ac_nf
 refine ⟨kX (.fz FT),?_⟩
 refine dW (v:=.int (jZ i*gT i*((bz (2^Wd) u:Nat):Int)) t3) (.fz FT) (by decide) (by decide) rfl ?_
 have hs1:jZ i*gT i=1∨jZ i*gT i=-1:=by
  unfold jZ gT
  split<;>split<;>simp
 refine gl (IntMulOk.of_left (by rcases hs1 with e|e<;>rw[e]<;>decide)) fun O O=>?_
 have eU:jZ i*gT i*(jZ i*gT i*((bz (2^Wd) u:Nat):Int))=((bz (2^Wd) u:Nat):Int):=by
  rcases hs1 with e|e<;>rw[e]<;>lia
 rw[eU]
 ac_nf
 refine ⟨B.kept 14 e14,?_⟩
 have hUl:=dT (hu.lt (B:=2^Wd) (bw (by decide) hB8))
 have hU:bz (2^Wd) u<2^1000:=b9 hUl (bw (fc hW hu7) (fv (by decide) (by decide)))
 have hdc:=jB (W:=Wd) (b9 (by decide) hW1) hu hu0 (bw (by decide) hB8)
 refine (ii B e14 (b9 (by decide) hW1) (bw hW (by decide)) hU (ln2 [_,_] [] (.le ah (.l 500)) (.le am fs) (.eq ah am) ae hu7 hdc) (rm.le (ln2 [_,_] [] (.le (.a ah cH) (.l 163)) (.le am fs) (.eq ah am) ae hu7 hdc))).mono ?_
 refine fun O g₁ O l₁ q1=>d6 q1 fun q2 D q3 FD=>?_;clear q1;subst q2;subst q3
 rw[hdc] at FD
 refine hH (id FD) fun oD gD xs hxs hsz hval=>?_
 have SD:Fz g₁ D (bq xs):=(aG oD gD hxs)
 ac_nf
 refine fy fun tm O=>?_
 intro sl g₂ l₂ Fs
 have SD2:∀ M,Sees g₂ M D (bq xs):=fun O=>.fz (SD.mono l₂)
 refine ⟨bE (SD2 _),?_⟩
 refine gX (lo:=none) (hi:=none) (st:=some (-1)) (SD2 _) Fs .none .none (.int (-1) _) (by decide) (by show xs.size≤2^24;exact ln2 [_,_] [] (.le ah (.p 2 24)) (.le am fs) (.eq ah am) ae hu7 hsz) fun g₃ R l₃ FR=>?_
 rw[krv_pick] at FR
 refine bX (FR.imp fun O=>bj) fun I P' Dr go=>?_
 have hrs:xs.toList.reverse.toArray.size=u.length:=by simp[hsz]
 refine K_1 I P' _ (fun k ys O=>StrsAre ys.toList ((u.take k).map fun d=>bk [d])) _ _ _ (Dr _ rm.h) (ln2 [_,_] [] (.le ah aY) (.le am fs) (.eq ah am) ae hu7 hrs) .nil ?_ ?_
 ·intro k g₄ ys v Cl D2 hk l₄ j hv hM_1 r_1 R_1
  rw[hrs] at hk
  have hv2:∃ t,v=.int ((u.getD k 0:Nat):Int) t:=by
   refine bK (hval (u.length-1-k) (ln2 [_,_,_] [] (.lt ah am) (.le ah ao) (.eq (.a ao av) am) ae (de _ _) (bn (aQ [_,_] [] (.le av ah) (.lt am ah) ae hk)))) fun t ht=>?_
   refine ⟨t,?_⟩
   rw[List.getElem?_toArray,List.getElem?_reverse (by rw[fA];exact b9 hk (cG hsz.symm)),fA,hsz,Array.getElem?_toList,ht] at hv
   cases hv
   have h3:=jS (B:=2^Wd) (b9 (by decide) hB8) (l:=u.reverse) (j:=u.length-1-k) (fun d hd=>hu.lt (bw (by decide) hB8) d (List.mem_reverse.mp hd)) (by rw[kY];exact ln2 [_,_,_] [] (.lt ah am) (.le ah ao) (.eq (.a ao av) am) ae (de _ _) (bn (aQ [_,_] [] (.le av ah) (.lt am ah) ae hk)))
   rw[ui,← nu] at h3
   show Value.int (((bz (2^Wd) u/2^(Wd*(u.length-1-k))%2^Wd:Nat)):Int) t=_
   rw[h3,List.getD_eq_getElem?_getD,List.getD_eq_getElem?_getD,List.getElem?_reverse (by exact ln2 [_,_,_] [] (.lt ah am) (.le ah ao) (.eq (.a ao av) am) ae (de _ _) (bn (aQ [_,_] [] (.le av ah) (.lt am ah) ae hk))),show u.length-1-(u.length-1-k)=k from by exact ln2 [_,_,_,_] [] (.eq ah am) (.eq (.a ah ao) aM) (.Y 1 (.eq (.a ao am) aM)) ae (bn (de _ _)) (bn (ln2 [_,_,_] [] (.le ah am) (.lt ah ao) (.le ao (.a am av)) ae hk (aE _ _)))]
  refine bK hv2 fun t q4=>?_;clear hv2;subst q4
  have hk2:u[k]?=some (u.getD k 0):=by rw[List.getD_eq_getElem?_getD,List.getElem?_eq_getElem hk];rfl
  generalize u.getD k 0=d at *
  have hdg:=hu d (iu hk2)
  ac_nf
  refine bL (B.mono (l₁.trans (l₂.trans (l₃.trans l₄)))) sO ?_
  ac_nf
  refine ⟨br,?_⟩
  show W _ _ (call (.type "str") [.int ((d:Nat):Int) t]) _ _ _
  refine qC ?_ fun t5 O=>?_
  ·rw[jr]
   have:d.log2<3:=by
    rcases u9 d with h|h
    ·subst h;decide
    ·exact (Nat.log2_lt (df h)).mpr (dV hdg.2 (by decide))
   exact b9 this (by decide)
  refine R_1 _ _ [] ?_
  show StrsAre (ys.push _).toList ((u.take (k+1)).map fun d=>bk [d])
  rw[fM,cu _ hk2]
  refine StrsAre.append' j ?_
  have:=pJ hdg
  rw[← this]
  exact .cons _ _ .nil
 intro g₄ g₅ ys K l₄ hys l₅ FK
 rw[hrs,mu] at hys
 refine aj ?_
 refine ⟨ap,?_⟩
 show W _ _ (call (.builtin "str.join") [.str _ _,.ref K]) _ _ _
 refine er (.fz (FK.imp fun O=>bj)) hys (by rw[ry];show _+_*0≤_;exact aQ [_,_] [] (.le (.a ah (.r am 0)) aY) (.le ah fs) ae hu7) fun t'=>?_
 refine aX (i:=0) (by rfl) ?_
 have hj:Txt.join (Str.ofString "") (u.map fun d=>bk [d])=bk u:=lw u
 rw[hj]
 exact KQ _ _ _ fun l=>kQ _ l t'
theorem w9 {u:List Nat}{q:Nat}(hq:1≤q):Txt.mul (bk u) (q:Int)=bk (reps q u):=by
 unfold Txt.mul
 rw[if_neg (by exact aQ [_] [] (.U bA av) (.le av ah) ae hq)]
 have key:∀ q:Nat,(List.replicate q (bk u).cps).foldl (·++·) #[]=(bk (reps q u)).cps:=by
  intro q
  have h:∀ (q:Nat) (acc:Array Nat),(List.replicate q (bk u).cps).foldl (·++·) acc=acc++(bk (reps q u)).cps:=by
   intro q
   induction q with
   | zero=>intro acc;simp[reps,bk]
   | succ q ih =>
    intro acc
    rw[ru,rH,ih,gM,rv]
    congr 1
    unfold bk
    simp
  rw[h]
  simp
 split
 ·rename_i h
  simp only[Bool.or_eq_true,beq_iff_eq] at h
  rcases h with h|h
  ·have:q=1:=by exact aQ [_] [] (.eq ah av) (.Q bA av) ae h
   subst this
   simp[reps]
  ·rw[bo] at h
   have:u=[]:=List.length_eq_zero_iff.mp h
   subst this
   apply Str.ext'
   rw[← key q]
   have h2:∀ (q:Nat),(List.replicate q (bk []).cps).foldl (·++·) #[]=(bk []).cps:=by
    intro q
    induction q with
    | zero=>rfl
    | succ q ih=>rw[ru,rH];exact ih
   exact (h2 q).symm
 ·apply Str.ext'
  rw[d3]
  exact key q
theorem A6 {lo:List (Str×Value)}{i p j:Nat}{u:List Nat}{t3 t4 tr tp ts:Tok}{T TL:Addr}{xs:Array Value}(hd:DG ds)(rm:Rm A 7)(B:Base C mg mb g)(hn1:2≤ds.length)(hn:ds.length≤7)(hT:lk lo "told"=some (.ref T)){x:Int}(FT:Fz g T (bS #[.int x t3,.int 0 t4]))(hr:lk lo "root"=some (.str (bk u) tr))(hp:lk lo "period"=some (.int p tp))(hs:lk lo "size"=some (.int ds.length ts))(hTL:lk lo "turns"=some (.ref TL))(FTL:Fz g TL (ai xs))(hxs:StrsAre xs.toList (nA ds))(hp1:1≤p)(hp2:p≤ds.length)(hj:j≤ds.length)(hmin:∀ k,k≤ds.length→bz (2^Wd) (bO j ds)≤bz (2^Wd) (bO k ds))(hu:bO j ds=reps (ds.length/p) u)(hul:u.length≤7)(hW1:3≤Wd){Q:PQ Flow}(kQ:∀ g',G.le g g'→Q (.ret (.str (bk u) tr)) g' ((L,aJ lo)::M)) :
  W C A (exec (aI (aw (st 26)) 9) (fR L a1 a2 a c0)) g ((L,aJ lo)::M) Q:=by
 refine' bQ fun qQ KQ=>?_
 have hB8:8≤2^Wd:=bw (show 8≤2^3 by decide) (fv (by decide) hW1)
 refine cz ?_
 ac_nf
 refine ar (l:=lo) (.head _) hT ?_
 ac_nf
 refine ⟨kX (.fz FT),?_⟩
 refine dW (v:=.int 0 t4) (.fz FT) (by decide) (by decide) rfl ?_
 ac_nf
 rw[if_pos (by rfl)]
 ac_nf
 refine ar (l:=lo) (.head _) hr ?_
 ac_nf
 refine ar (l:=lo) (.head _) hs ?_
 refine ar (l:=lo) (.head _) hp ?_
 have hq1:1≤ds.length/p:=Nat.div_pos hp2 hp1
 have hq7:ds.length/p≤7:=bw (Nat.div_le_self _ _) hn
 refine cX (ku (aQ [_] [] (.T b6 bA) (.le av ah) ae hp1)) (zR _ _ ?_) fun O O=>?_
 ·rw[jr]
  exact b9 (show p<2^3 by exact dV hp2 (dV hn (by decide))) (fv (by decide) (by decide))
 have eq:(ds.length:Int).fdiv (p:Int)=((ds.length/p:Nat):Int):=by
  rw[gV _ (cY _)]
  rfl
 rw[eq]
 refine xB ?_ fun t5=>?_
 ·have hl:=bo u
  refine (iPPP (by simp;lia) (fun O O=>?_) (fun O O=>?_))
  ·rw[hl]
   have h1:(7:Int)≤(2^63-1)/((ds.length/p:Nat):Int):=by
    rw[Int.le_ediv_iff_mul_le (by exact aQ [_] [] (.T b6 bA) (.le av ah) ae hq1)]
    exact aQ [_] [] (.L (.m 7 bA) (.s (.p 2 63) av)) (.X 7 (.le ah fs)) ae hq7
   exact ln2 [_] [_] (.U dq bA) (.le ah fs) (.L fs dq) ae hul h1
  ·rw[hl,d3]
   have:=lF hul hq7
   unfold Builtin.Str.tooLong
   simp[sizeLine]
   exact bw this (by decide)
 rw[w9 hq1,← hu]
 ac_nf
 refine bL B qc ?_
 ac_nf
 refine ar (l:=lo) (.head _) hTL ?_
 ac_nf
 refine ⟨ap,?_⟩
 show W _ _ (call (.builtin "min") [.ref TL]) _ _ _
 refine vK rm.h (FTL.imp fun O=>bj) hxs (by simp) fun v tv g₁ l₁ hv hmn=>?_
 obtain ⟨k,hk,rfl⟩:∃ k,k≤ds.length∧v=bk (bO k ds):=by
  refine aL (List.mem_map.mp hv) fun k hk e=>?_
  exact (aG k (by have:=List.mem_range.mp hk;exact vk this) e.symm)
 have e1:bO k ds=bO j ds:=by
  have hlen:(bO k ds).length=(bO j ds).length:=by rw[cg,cg]
  refine kV (fun h=>?_) fun h=>?_
  ·have:=(iL hlen ((hd.rot k).lt (B:=2^Wd) (bw (by decide) hB8)) ((hd.rot j).lt (bw (by decide) hB8))).mp h
   have:=hmin k hk
   lia
  ·refine hmn _ (List.mem_map.mpr (aG j (List.mem_range.mpr (dV hj (kI _))) rfl)) ?_
   rw[cM,cM]
   exact nJ.mpr h
 rw[e1]
 refine pX ?_
 rw[beq_self_eq_true]
 ac_nf
 rw[if_pos rfl]
 ac_nf
 refine ar (l:=lo) (.head _) hr ?_
 exact KQ _ _ _ fun l=>kQ _ l
end
end
section
theorem Ae:aw (st 26)=[aI (aw (st 26)) 0,aI (aw (st 26)) 1,aI (aw (st 26)) 2,aI (aw (st 26)) 3,aI (aw (st 26)) 4,aI (aw (st 26)) 5,aI (aw (st 26)) 6,aI (aw (st 26)) 7,aI (aw (st 26)) 8,aI (aw (st 26)) 9]:=by rfl
section
variable {C:Cx}{A:Around}{g:G}{M:be}{env:Env}{mg mb:Str→Option Value}{ds:List Nat}{Wd turn:Nat}{tf tw tt:Tok}{a:Addr}
theorem sJ (B:Base C mg mb g)(e:mg (ax (st 26))=some (.ref a))(hd:DG ds)(hn1:2≤ds.length)(hn:ds.length≤7)(hW1:3≤Wd)(hW:Wd≤62)(rm:Rm A 164) :
  W C A (call (.ref a) [.str (bk ds) tf,.int Wd tw,.int turn tt] []) g M (fun r g' M'=>M'=M∧∃ u t,r=.str (bk u) t∧DG u∧u≠[]∧u.length≤7):=by
 refine aK (B.defs 26 rfl (by decide)) fun a' c e' Da O=>?_
 have:a'=a:=by rw[e] at e';cases e';rfl
 subst this
 refine ic (k:=2) (binds:=[("figures",.str (bk ds) tf),("width",.int Wd tw),("turn",.int turn tt)]) Da B.lim rm.room (fun O=>rfl) rfl fun L as has=>?_
 obtain ⟨a1,a2,rfl⟩:∃ a1 a2,as=[a1,a2]:=by
  match as,has with
  | [x,y],_=>exact (sx x y rfl)
 refine aN (aH (i:=1) (by rfl) (by rfl) ?_)
 refine aN (aH (i:=0) (by rfl) (by rfl) ?_)
 refine aN (aX (i:=2) (by rfl) ?_)
 refine W_binds_nil ?_
 have rm':∀ env,Rm (A.deeper env) 163:=fun env=>rm.deeper
 rw[Ae]
 refine' bI (M':=(a2,ag (some (.int Wd tw)))::(a1,ag (some (.str (bk ds) tf)))::(L,aJ [("turn",.int turn tt)])::M) (by rfl') ?_
 refine' dE fun g₁ l₁ F2=>?_
 refine' dE fun g₂ l₂ F1=>?_
 replace F2:=F2.mono l₂
 replace B:=B.mono (l₁.trans l₂)
 clear l₁ l₂
 refine' af ?_
 refine' AN (rm' _).h B F1 F2 hW hn fun g₃ l₃ tb ts=>?_
 refine' af ?_
 refine' Bb (rm' _).h (B.mono l₃) (F1.mono l₃) hn (ts:=ts) (by rfl') fun g₄ l₄ TL xs FTL hxs=>?_
 have l24:=l₃.trans l₄
 refine' af ?_
 refine' BG hd ((rm' _).le) (B.mono l24) (F2.mono l24) hW1 hW hn (by rfl') FTL hxs fun g₅ l₅ NL ys FN hys=>?_
 have l25:=l24.trans l₅
 refine' af ?_
 refine' AP (tb:=tb) (ts:=ts) (rm' _).h (B.mono l25) hW hn (by rfl') (by rfl') fun g₆ l₆ S tm FS=>?_
 have l26:=l25.trans l₆
 refine' bI (M':=(L,aJ (y5 turn tt tb ts tm Wd ds.length TL NL S))::M) (by rfl') ?_
 refine' af ?_
 refine' A8 hd (rm' _) (B.mono l26) (F1.mono l26) hW1 hW hn1 hn (FN.mono l₆) hys FS fun g₇ l₇=>?_
 have l27:=l26.trans l₇
 refine bT (qg (P:=fun j=>bO (j+1) ds=ds) (ds.length-1) (by show bO (ds.length-1+1) ds=ds;rw[show ds.length-1+1=ds.length from by exact bn (aQ [_] [] (.le av ah) (.le cH ah) ae hn1),oM])) fun q hq1 hq2 hq3=>?_
 have hp4:∀ j,0<j→j<q+1→bO j ds≠ds:=fun j h0 h1 h2=>hq3 (j-1) (ln2 [_,_,_] [] (.lt ah am) (.lt ao (.a am av)) (.eq (.a ah av) ao) ae h1 (bn (aQ [_] [] (.le av ah) (.lt b6 ah) ae h0))) (by show bO (j-1+1) ds=ds;rw[show j-1+1=j from by exact bn (aQ [_] [] (.le av ah) (.lt b6 ah) ae h0)];exact h2)
 have hmod:=sE (l:=ds) (p:=q+1) (b9 (by decide) (j6 _ _)) (ln2 [_,_,_] [] (.le (.a ah av) am) (.le ah ao) (.eq (.a ao av) am) ae hq1 (bn (aQ [_] [] (.le av ah) (.le cH ah) ae hn1))) hq2 hp4
 refine' af ?_
 refine' (Az (p:=q+1) (rm' _).h (B.mono l27) (F1.mono l27) hn (by rfl') (FTL.mono (l₅.trans (l₆.trans l₇))) hxs (j6 _ _) (by with_unfolding_all exact ln2 [_,_,_] [] (.le (.a ah av) am) (.le ah ao) (.eq (.a ao av) am) ae hq1 (bn (aQ [_] [] (.le av ah) (.le cH ah) ae hn1))) hq2 hp4).mono ?_
 refine fun O g₈ O l₈ q16=>ew q16 fun q17 tp q18=>?_;clear q16;subst q17;subst q18
 refine' af ?_
 refine' AA (n:=ds.length) (turn:=turn) (ts:=ts) (tt:=tt) (rm' _).h (by rfl') (by rfl') (by rfl') (FS.mono (l₇.trans l₈)) fun g₉ l₉ t1 t2=>?_
 have l29:=l27.trans (l₈.trans l₉)
 refine' af ?_
 refine' AK (p:=q+1) (i:=(turn+ds.length)%4) (tp:=tp) (tb:=tb) (t1:=t1) (t2:=t2) (tm:=tm) hd (rm' _) (B.mono l29) hW1 hW hn1 hn (by rfl') (FN.mono (l₆.trans (l₇.trans (l₈.trans l₉)))) hys (by rfl') (by rfl') (by rfl') (by rfl') (by rfl') (j6 _ _) (by with_unfolding_all exact ln2 [_,_,_] [] (.le (.a ah av) am) (.le ah ao) (.eq (.a ao av) am) ae hq1 (bn (aQ [_] [] (.le av ah) (.le cH ah) ae hn1))) hq2 hmod fun g₁₀ l₁₀ T j hj hmin t3 t4 FT=>?_
 have l210:=l29.trans l₁₀
 have hu:DG ((bO j ds).take (q+1)):=fun d hd'=>hd.rot j d (uY hd')
 have hul:((bO j ds).take (q+1)).length=q+1:=by rw[js,cg];exact qm (ln2 [_,_,_] [] (.le (.a ah av) am) (.le ah ao) (.eq (.a ao av) am) ae hq1 (bn (aQ [_] [] (.le av ah) (.le cH ah) ae hn1)))
 have hu0:(bO j ds).take (q+1)≠[]:=fun e=>by rw[e] at hul;simp at hul
 have htp:=lT (t:=bO j ds) (by exact eF [_] [] (.lt b6 (.a ah av)) ae) (show q+1≤ds.length by exact ln2 [_,_,_] [] (.le (.a ah av) am) (.le ah ao) (.eq (.a ao av) am) ae hq1 (bn (aQ [_] [] (.le av ah) (.le cH ah) ae hn1))) hq2 hj rfl hmod
 generalize (bO j ds).take (q+1)=u at *
 refine' af ?_
 refine' BI (u:=u) (i:=(turn+ds.length)%4) (t1:=t1) (t2:=t2) hu hu0 (by with_unfolding_all exact gh [_,_,_,_] [] (.le ah fs) (.le am fs) (.le ao aM) (.eq ah (.a ao av)) (.eq (.a aM av) am) ae hn hq1 hul (bn (aQ [_] [] (.le av ah) (.le cH ah) ae hn1))) (rm' _) (B.mono l210) (F2.mono l210) hW1 hW (by rfl') (by rfl') (by rfl') FT fun g₁₁ l₁₁ tr=>?_
 have l711:=l₈.trans (l₉.trans (l₁₀.trans l₁₁))
 refine' af ?_
 refine' A6 (i:=0) (ds:=ds) (Wd:=Wd) (j:=j) (p:=q+1) (u:=u) (tr:=tr) (tp:=tp) (ts:=ts) hd ((rm' _).le) (B.mono (l210.trans l₁₁)) hn1 hn (by rfl') (FT.mono l₁₁) (by rfl') (by rfl') (by rfl') (by rfl') (FTL.mono (l₅.trans (l₆.trans (l₇.trans l711)))) hxs (by exact j6 _ _) (by with_unfolding_all exact ln2 [_,_,_] [] (.le (.a ah av) am) (.le ah ao) (.eq (.a ao av) am) ae hq1 (bn (aQ [_] [] (.le av ah) (.le cH ah) ae hn1))) hj hmin htp (by with_unfolding_all exact gh [_,_,_,_] [] (.le ah fs) (.le am fs) (.le ao aM) (.eq ah (.a ao av)) (.eq (.a aM av) am) ae hn hq1 hul (bn (aQ [_] [] (.le av ah) (.le cH ah) ae hn1))) hW1 fun g₁₂ l₁₂=>?_
 exact (bP ([_]) M rfl rfl u (eQ tr rfl hu hu0 (gh [_,_,_,_] [] (.le ah fs) (.le am fs) (.le ao aM) (.eq ah (.a ao av)) (.eq (.a aM av) am) ae hn hq1 hul (bn (aQ [_] [] (.le av ah) (.le cH ah) ae hn1)))))
end
end
section
set_option exponentiation.threshold 2000
section
variable {C:Cx}{A:Around}{g:G}{M:be}{env:Env}{mg mb:Str→Option Value}{L a c0:Addr}{u:List Nat}{Wd:Nat}{tf tw:Tok}
noncomputable abbrev o4 (L a c:Addr):Env:=cV (bB (st 27)) L mainGlobals [] (ax (st 27)++".<locals>.") (some a) (.ref c) builtinsNs
theorem AJ (hd:DG u)(rm:Rm A 12)(B:Base C mg mb g)(hW1:3≤Wd)(hW:Wd≤62)(hn:u.length≤7){Q:PQ Flow}(kQ:∀ g',G.le g g'→∀ R tn,Q .next g' ((R,ai #[])::(L,aJ [("root",.str (bk u) tf),("width",.int Wd tw),("ranks",.ref R),("number",.int ((bz (2^Wd) u:Nat):Int) tn)])::M)) :
  W C A (exec (aI (aw (st 27)) 0) (o4 L a c0)) g ((L,aJ [("root",.str (bk u) tf),("width",.int Wd tw)])::M) Q:=by
 refine' bQ fun qQ KQ=>?_
 refine bK (B.get 15) fun a15 e15=>?_
 refine dk (na:="number") (nb:="ranks") rm.h ?_
 refine eL ?_
 ac_nf
 refine bF B e15 ?_
 ac_nf
 refine' jt (cl:=[]) (by rfl') fun q_1 K_1=>?_
 ac_nf
 refine fy fun tm O=>?_
 intro sl g₂ l₂ Fs
 refine ⟨dA,?_⟩
 refine nW (tb:=tm) (.fz Fs) (by rw[bo];show u.length≤2^24;exact bw hn (by decide)) fun t1=>?_
 rw[rX]
 refine fe fun I2 P2 Dr2=>?_
 have hsz:(bk u.reverse).cps.size=u.length:=by
  have:=bo u.reverse
  rw[kY] at this
  exact this
 rw[hsz] at Dr2
 refine K_1 I2 P2 _ (fun i zs O=>IntsAre zs.toList ((u.reverse.take i).map Int.ofNat)) _ _ _ (Dr2 _ rm.h) (bw hn (by decide)) .nil ?_ ?_
 ·refine fun i g₃ zs O Cl2 D2 hi l₃ j2 q1 hM_1 r_1 R_1=>bJ q1 fun c tu hc q2=>?_;clear q1;subst q2
  rw[← Array.getElem?_toList,cM,List.getElem?_map] at hc
  cases hd':u.reverse[i]? with
  | none=>rw[hd'] at hc;cases hc
  | some d =>
  rw[hd'] at hc
  cases hc
  have hdg:=hd d (List.mem_reverse.mp (iu hd'))
  ac_nf
  refine bL ((B.mono l₂).mono l₃) pH ?_
  ac_nf
  refine ⟨br,?_⟩
  show W _ _ (call (.type "int") [.str ⟨#[d+48]⟩ tu]) _ _ _
  refine my (mE hdg) (by show 1≤640;decide) fun t3 O=>?_
  refine R_1 _ _ [] ?_
  show IntsAre (zs.push _).toList ((u.reverse.take (i+1)).map Int.ofNat)
  rw[fM,cu _ hd']
  exact IntsAre.append j2 (.cons _ _ .nil)
 intro g₃ g₄ zs D2 l₃ hzs l₄ FD2
 rw[sL (by rw[kY];exact dX _)] at hzs
 have l24:=l₂.trans (l₃.trans l₄)
 ac_nf
 refine ⟨(B.mono l24).kept 15 e15,?_⟩
 have hzl:=IntsAre.length hzs
 rw[fA,fZ,kY] at hzl
 have HD:Fz g₄ D2 (pb (fun j=>u.reverse.getD j 0) u.length):=FD2.imp fun o h=>(bU zs (bj h) hzl (fun j hj=>by
  refine bK (fh hzs (j:=j) (by rw[fZ,kY];exact hj)) fun t ht=>?_
  refine ⟨t,?_⟩
  rw[← Array.getElem?_toList,ht]
  have e:(List.map Int.ofNat u.reverse).getD j 0=((u.reverse.getD j 0:Nat):Int):=by
   rw[List.getD_eq_getElem?_getD,List.getD_eq_getElem?_getD,List.getElem?_map]
   cases u.reverse[j]?<;>rfl
  rw[e]))
 have hdl:∀ j,u.reverse.getD j 0<2^Wd:=fun j=>by
  have h8:2^3≤2^Wd:=fv (by decide) hW1
  rw[List.getD_eq_getElem?_getD]
  cases hj:u.reverse[j]? with
  | none=>exact ot _
  | some d =>
   have:=(hd d (List.mem_reverse.mp (iu hj))).2
   show d<_
   exact dV this (b9 (by decide) h8)
 have hWn:Wd*u.length≤1000000:=by
  have:=lF hW hn
  exact bw this (by decide)
 refine (gY (B.mono l24) e15 hdl hWn (bw hW (by decide)) (bw hn (by decide)) (rm.le (mt (bw hn (by decide)) _)) HD).mono ?_
 refine fun O g₅ O l₅ q3=>ew q3 fun q4 t5 q5=>?_;clear q3;subst q4;subst q5
 have e5:=lB Wd u.reverse []
 rw[si,lj,kY,ui] at e5
 rw[e5]
 refine et ?_
 ac_nf
 refine ⟨by simp only[List.length];decide,fun R=>?_⟩
 intro T g₆ l₆ FT
 refine (bf T _ _ rfl (.fz FT) ?_)
 refine aX (i:=1) (by rfl) ?_
 refine aX (i:=1) (by rfl) ?_
 exact KQ _ _ _ fun l=>kQ _ l R t5
noncomputable abbrev dl (Wd:Nat)(u:List Nat):List Int:=(List.range u.length).map fun k=>((bz (2^Wd) (u.drop k)*(2^Wd)^k:Nat):Int)
noncomputable abbrev gq:List Stmt:=jg (aI (aw (st 27)) 1)
theorem BH {lo:List (Str×Value)}{k:Nat}{tk tn:Tok}(hd:DG u)(rm:Rm A 163)(B:Base C mg mb g)(hW1:3≤Wd)(hW:Wd≤62)(hn:u.length≤7)(hk:k<u.length)(h1:lk lo "number"=some (.int ((bz (2^Wd) u:Nat):Int) tn))(h2:lk lo "width"=some (.int Wd tw))(h3:lk lo "root"=some (.str (bk u) tf))(h4:lk lo "k"=some (.int k tk)){Q:PQ Flow}(kQ:∀ g',G.le g g'→∀ t v,Q .next g' ((L,aJ (bR (bR lo "front" (.int ((bz (2^Wd) (u.take k):Nat):Int) t)) "ending" (.int ((bz (2^Wd) (u.drop k):Nat):Int) v)))::M)) :
  W C A (exec (aI gq 0) (o4 L a c0)) g ((L,aJ lo)::M) Q:=by
 refine' bQ fun qQ KQ=>?_
 refine bK (B.get 17) fun a17 e17=>?_
 have hB8:8≤2^Wd:=bw (show 8≤2^3 by decide) (fv (by decide) hW1)
 refine cU ?_
 ac_nf
 refine bF B e17 ?_
 ac_nf
 refine ar (l:=lo) (.head _) h1 ?_
 ac_nf
 refine ar (l:=lo) (.head _) h2 ?_
 ac_nf
 refine bL B eN ?_
 ac_nf
 refine ar (l:=lo) (.head _) h3 ?_
 ac_nf
 refine ⟨ap,?_⟩
 show W _ _ (call (.builtin "len") [.str (bk u) tf]) _ _ _
 refine dS (by rw[bo];exact dV hn (by decide)) fun ts=>?_
 rw[bo]
 ac_nf
 refine ar (l:=lo) (.head _) h4 ?_
 ac_nf
 refine gl (IntMulOk.of_left (by have:=dF (show Wd<2^63 by exact dV hW (by decide));exact bw this (by decide))) fun O O=>?_
 have e1:(Wd:Int)*((u.length:Int)-k)=((Wd*(u.length-k):Nat):Int):=by
  rw[ol,Int.natCast_sub (bY hk)]
 rw[e1]
 have hmul:Wd*(u.length-k)≤62*7:=lF hW (bw (de _ _) hn)
 have hmul3:3*1≤Wd*(u.length-k):=lF hW1 (ln2 [_,_,_] [] (.le av ah) (.lt am ao) (.le ao (.a ah am)) ae hk (aE _ _))
 refine lW (cY _) (by show (2:Int)*((Wd*(u.length-k):Nat):Int)≤2^27;exact aQ [_] [] (.L (.m 2 bA) (.p 2 27)) (.X 2 (.le ah (.m 62 fs))) ae hmul) fun t5 O=>?_
 rw[zM]
 ac_nf
 refine ⟨B.kept 17 e17,?_⟩
 have hb1:2^(Wd*(u.length-k))≤2^434:=fv (by decide) (bw hmul (by decide))
 have hb3:2^3≤2^(Wd*(u.length-k)):=fv (by decide) (aQ [_] [] (.le pF ah) (.le (.m 3 av) ah) ae hmul3)
 have hbits:4≤Builtin.Int.intBits ((2^(Wd*(u.length-k)):Nat):Int):=by
  unfold Builtin.Int.intBits
  have hne:(2^(Wd*(u.length-k)):Nat)≠0:=Nat.pos_iff_ne_zero.mp (ot _)
  rw[if_neg (by rw[beq_iff_eq];exact fun e=>hne (Int.ofNat_eq_zero.mp e)),jr]
  have:3≤(2^(Wd*(u.length-k))).log2:=(Nat.le_log2 hne).mpr hb3
  exact aQ [_] [] (.le oK (.a ah av)) (.le pF ah) ae this
 have hN1:=dT (hd.lt (B:=2^Wd) (bw (by decide) hB8))
 have hpb:=fc hW hn
 refine (ij (m:=434) B e17 (fun e=>absurd (Int.ofNat_eq_zero.mp e) (Nat.pos_iff_ne_zero.mp (ot _))) (by rw[jr];exact dV hb1 (by decide)) (by rw[jr];exact b9 hN1 hpb) (by decide) (aQ [_] [] (.X 2 (.le (.l 434) (.m 150 ah))) (.X 217 (.le oK ah)) ae hbits) (rm.le (by decide))).mono ?_
 refine fun O g₂ O l₂ q6=>gr q6 fun q7 T t6 t7 q8 FT=>?_;clear q6;subst q7;subst q8
 have hsplit:bz (2^Wd) u=2^(Wd*(u.length-k))*bz (2^Wd) (u.take k)+bz (2^Wd) (u.drop k):=by
  have h:=dP (2^Wd) (u.take k) (u.drop k)
  rw[rt,gA,← nu,ζ33 (bz _ _)] at h
  exact h
 have hlt:=dT (B:=2^Wd) (ds:=u.drop k) (fun d hd'=>hd.lt (bw (by decide) hB8) d (xg hd'))
 rw[gA,← nu] at hlt
 have hq:=Au (a:=((bz (2^Wd) u:Nat):Int)) (b:=((2^(Wd*(u.length-k)):Nat):Int)) (q:=((bz (2^Wd) (u.take k):Nat):Int)) (r:=((bz (2^Wd) (u.drop k):Nat):Int)) (by
  rw[← ol,← rP,← hsplit]) (.inl (iPPP (Int.ofNat_lt.mpr (ot _)) (cY _) (Int.ofNat_lt.mpr hlt)))
 rw[hq.1,hq.2] at FT
 refine cj rm.h (.fz FT) ?_
 refine aF ?_
 refine aX (i:=0) (by rfl) ?_
 refine aF ?_
 refine aX (i:=0) (by rfl) ?_
 exact KQ _ _ _ fun l=>kQ _ l _ _
theorem oh {k:Nat}(hd:DG u)(hW1:3≤Wd)(hk:k≤u.length):digCount (bz (2^Wd) (u.take k)) Wd=k:=by
 have hB8:8≤2^Wd:=bw (show 8≤2^3 by decide) (fv (by decide) hW1)
 by_cases h:u.take k=[]
 ·have:k=0:=by
   have h2:=congrArg List.length h
   rw[js,lj] at h2
   exact ln2 [_,_] [] (.eq ah b6) (.eq am b6) (.Y 1 (.eq am ah)) ae h2 (qm hk)
  subst this
  rw[List.take_zero]
  unfold digCount
  show (0+Wd-1)/Wd=0
  exact rd (aQ [_,_] [] (.lt ah am) (.eq (.a ah av) (.a b6 am)) ae (bn (aQ [_] [] (.le av (.a b6 ah)) (.le pF ah) ae hW1)))
 ·have:=jB (W:=Wd) (b9 (by decide) hW1) (fun d hd'=>hd d (uY hd')) h (bw (by decide) hB8)
  rw[js] at this
  exact ln2 [_,_,_] [] (.eq ah am) (.eq ah ao) (.eq ao am) ae this (qm hk)
theorem A7 {lo:List (Str×Value)}{k:Nat}{tk tn:Tok}(hd:DG u)(rm:Rm A 163)(B:Base C mg mb g)(hW1:3≤Wd)(hW:Wd≤62)(hn:u.length≤7)(hk:k<u.length)(h1:lk lo "front"=some (.int ((bz (2^Wd) (u.take k):Nat):Int) tn))(h2:lk lo "width"=some (.int Wd tw))(h3:lk lo "root"=some (.str (bk u) tf))(h4:lk lo "k"=some (.int k tk)){Q:PQ Flow}(kQ:∀ g',G.le g g'→Q .next g' ((L,aJ lo)::M)) :
  W C A (exec (aI gq 1) (o4 L a c0)) g ((L,aJ lo)::M) Q:=by
 refine' bQ fun qQ KQ=>?_
 obtain ⟨a14,e14⟩:=B.get 14
 have hB8:8≤2^Wd:=bw (show 8≤2^3 by decide) (fv (by decide) hW1)
 refine nI ?_
 refine aR ?_
 ac_nf
 intro pl
 refine' fg ?_
 ac_nf
 refine' jt (cl:=[]) (by rfl') fun q_2 K_2=>?_
 ac_nf
 refine bF B e14 ?_
 ac_nf
 refine ar (l:=lo) (.head _) h1 ?_
 ac_nf
 refine ar (l:=lo) (.head _) h2 ?_
 ac_nf
 refine ⟨B.kept 14 e14,?_⟩
 have hvd:DG (u.take k):=fun d hd'=>hd d (uY hd')
 have hvl:(u.take k).length=k:=by rw[js];exact qm (bY hk)
 have hdc:=oh hd hW1 (bY hk)
 have hUl:=dT (hvd.lt (B:=2^Wd) (bw (by decide) hB8))
 have hU:bz (2^Wd) (u.take k)<2^1000:=b9 hUl (bw (fc hW (cZ [_,_,_] [] (.le ah fs) (.le am fs) (.lt ao am) (.eq ah ao) ae hn hk hvl)) (fv (by decide) (by decide)))
 generalize hv0:u.take k=v at *
 refine (ii B e14 (b9 (by decide) hW1) (bw hW (by decide)) hU (cZ [_,_,_] [] (.le ah (.l 500)) (.le am fs) (.lt ao am) (.eq ah ao) ae hn hk hdc) (rm.le (cZ [_,_,_] [] (.le (.a ah cH) (.l 163)) (.le am fs) (.lt ao am) (.eq ah ao) ae hn hk hdc))).mono ?_
 refine fun O g₁ O l₁ q9=>d6 q9 fun q10 D q11 FD=>?_;clear q9;subst q10;subst q11
 rw[hdc] at FD
 refine hH (id FD) fun oD gD xs hxs hsz hval=>?_
 have SD:Fz g₁ D (bq xs):=(aG oD gD hxs)
 ac_nf
 refine fy fun tm O=>?_
 intro sl g₂ l₂ Fs
 have SD2:∀ M,Sees g₂ M D (bq xs):=fun O=>.fz (SD.mono l₂)
 refine ⟨bE (SD2 _),?_⟩
 refine gX (lo:=none) (hi:=none) (st:=some (-1)) (SD2 _) Fs .none .none (.int (-1) _) (by decide) (by show xs.size≤2^24;exact cZ [_,_,_] [] (.le ah (.p 2 24)) (.le am fs) (.lt ao am) (.eq ah ao) ae hn hk hsz) fun g₃ R l₃ FR=>?_
 rw[krv_pick] at FR
 refine bX (FR.imp fun O=>bj) fun I P' Dr go=>?_
 have hrs:xs.toList.reverse.toArray.size=v.length:=by simp[hsz,hvl]
 refine K_2 I P' _ (fun k ys O=>StrsAre ys.toList ((v.take k).map fun d=>bk [d])) _ _ _ (Dr _ rm.h) (gh [_,_,_,_] [] (.le ah aY) (.le am fs) (.lt ao am) (.eq aM ao) (.eq ah aM) ae hn hk hvl hrs) .nil ?_ ?_
 ·intro k' g₄ ys vv Cl D2 hk' l₄ j hv hM_2 r_2 R_2
  rw[hrs] at hk'
  have hv2:∃ t,vv=.int ((v.getD k' 0:Nat):Int) t:=by
   refine bK (hval (v.length-1-k') (cZ [_,_,_,_] [] (.lt ah am) (.eq ao am) (.le ah aM) (.eq (.a aM av) ao) ae hvl (de _ _) (bn (aQ [_,_] [] (.le av ah) (.lt am ah) ae hk')))) fun t ht=>?_
   refine ⟨t,?_⟩
   rw[List.getElem?_toArray,List.getElem?_reverse (by rw[fA];exact cZ [_,_,_,_] [] (.lt ah am) (.eq ao aM) (.Y 1 (.eq am aM)) (.lt ah ao) ae hvl hsz hk'),fA,hsz,← hvl,Array.getElem?_toList,ht] at hv
   cases hv
   have h3:=jS (B:=2^Wd) (b9 (by decide) hB8) (l:=v.reverse) (j:=v.length-1-k') (fun d hd=>hvd.lt (bw (by decide) hB8) d (List.mem_reverse.mp hd)) (by rw[kY];exact ln2 [_,_,_] [] (.lt ah am) (.le ah ao) (.eq (.a ao av) am) ae (de _ _) (bn (aQ [_,_] [] (.le av ah) (.lt am ah) ae hk')))
   rw[ui,← nu] at h3
   show Value.int (((bz (2^Wd) v/2^(Wd*(v.length-1-k'))%2^Wd:Nat)):Int) t=_
   rw[h3,List.getD_eq_getElem?_getD,List.getD_eq_getElem?_getD,List.getElem?_reverse (by exact ln2 [_,_,_] [] (.lt ah am) (.le ah ao) (.eq (.a ao av) am) ae (de _ _) (bn (aQ [_,_] [] (.le av ah) (.lt am ah) ae hk'))),show v.length-1-(v.length-1-k')=k' from by exact ln2 [_,_,_,_] [] (.eq ah am) (.eq (.a ah ao) aM) (.Y 1 (.eq (.a ao am) aM)) ae (bn (de _ _)) (bn (ln2 [_,_,_] [] (.le ah am) (.lt ah ao) (.le ao (.a am av)) ae hk' (aE _ _)))]
  refine bK hv2 fun t q12=>?_;clear hv2;subst q12
  have hk2:v[k']?=some (v.getD k' 0):=by rw[List.getD_eq_getElem?_getD,List.getElem?_eq_getElem hk'];rfl
  generalize v.getD k' 0=d at *
  have hdg:=hvd d (iu hk2)
  ac_nf
  refine bL (B.mono (l₁.trans (l₂.trans (l₃.trans l₄)))) sO ?_
  ac_nf
  refine ⟨br,?_⟩
  show W _ _ (call (.type "str") [.int ((d:Nat):Int) t]) _ _ _
  refine qC ?_ fun t5 O=>?_
  ·rw[jr]
   have:d.log2<3:=by
    rcases u9 d with h|h
    ·subst h;decide
    ·exact (Nat.log2_lt (df h)).mpr (dV hdg.2 (by decide))
   exact b9 this (by decide)
  refine R_2 _ _ [] ?_
  show StrsAre (ys.push _).toList ((v.take (k'+1)).map fun d=>bk [d])
  rw[fM,cu _ hk2]
  refine StrsAre.append' j ?_
  have:=pJ hdg
  rw[← this]
  exact .cons _ _ .nil
 intro g₄ g₅ ys K l₄ hys l₅ FK
 rw[hrs,mu] at hys
 refine aj ?_
 refine ⟨ap,?_⟩
 show W _ _ (call (.builtin "str.join") [.str _ _,.ref K]) _ _ _
 refine er (.fz (FK.imp fun O=>bj)) hys (by rw[ry];show _+_*0≤_;exact cZ [_,_,_,_] [] (.le (.a ah (.r am 0)) aY) (.le ao fs) (.lt aM ao) (.eq ah aM) ae hn hk hvl) fun t'=>?_
 have hj:Txt.join (Str.ofString "") (v.map fun d=>bk [d])=bk v:=lw v
 rw[hj]
 ac_nf
 refine ar (l:=lo) (.head _) h3 ?_
 ac_nf
 refine ar (l:=lo) (.head _) h4 ?_
 ac_nf
 intro sl2 g₆ l₆ Fs2
 refine ⟨dA,?_⟩
 refine pp (b:=k) (tb:=tk) (.fz Fs2) (by rw[bo];exact bY hk) (by rw[bo];show u.length≤2^24;exact bw hn (by decide)) fun t7=>?_
 have hts:(⟨((bk u).cps.toList.take k).toArray⟩:Str)=bk v:=by
  rw[cM,← List.map_take,hv0]
  rfl
 rw[hts]
 refine kM ?_
 have hbne:(bk v != bk v)=false:=bne_self_eq_false _
 rw[hbne]
 refine aV ?_
 rw[if_neg (by simp)]
 refine bu ?_
 exact KQ _ _ _ fun l=>kQ _ l
theorem Bu {lo:List (Str×Value)}{k:Nat}{tk tn:Tok}{R:Addr}{ys:Array Value}{p:Addr×OP}(hd:DG u)(hW1:3≤Wd)(hW:Wd≤62)(hn:u.length≤7)(hk:k<u.length)(hys:ys.size≤10)(h1:lk lo "ending"=some (.int ((bz (2^Wd) (u.drop k):Nat):Int) tn))(h2:lk lo "width"=some (.int Wd tw))(h3:lk lo "ranks"=some (.ref R))(h4:lk lo "k"=some (.int k tk)) :
  W C A (exec (aI gq 2) (o4 L a c0)) g ((L,aJ lo)::p::(R,ai ys)::M) (fun f g' M'=>f=.next∧∃ t,M'=(L,aJ lo)::p::(R,ai (ys.push (.int ((bz (2^Wd) (u.drop k)*(2^Wd)^k:Nat):Int) t)))::M):=by
 refine ld ?_
 ac_nf
 refine ar (l:=lo) (.head _) h3 ?_
 intro pl
 refine fG F.slot_list_append F.type_list_append (.own (.tail _ (.tail _ (.head _)))) ?_
 ac_nf
 refine ar (l:=lo) (.head _) h1 ?_
 ac_nf
 refine ar (l:=lo) (.head _) h2 ?_
 refine ar (l:=lo) (.head _) h4 ?_
 refine gl (IntMulOk.of_left (by have:=dF (show Wd<2^63 by exact dV hW (by decide));exact bw this (by decide))) fun O O=>?_
 have e1:(Wd:Int)*(k:Int)=((Wd*k:Nat):Int):=(ol _ _).symm
 rw[e1]
 have hmul:Wd*k≤62*7:=lF hW (bY (b9 hk hn))
 refine lW (cY _) (by show (2:Int)*((Wd*k:Nat):Int)≤2^27;exact aQ [_] [] (.L (.m 2 bA) (.p 2 27)) (.X 2 (.le ah (.m 62 fs))) ae hmul) fun t5 O=>?_
 rw[zM]
 have hB8:8≤2^Wd:=bw (show 8≤2^3 by decide) (fv (by decide) hW1)
 refine gl ?_ fun t6 O=>?_
 ·refine IntMulOk.of_bits ?_ ?_
  ·refine bw (dF (k:=434) ?_) (by decide)
   have hlt:=dT (B:=2^Wd) (ds:=u.drop k) (fun d hd'=>hd.lt (bw (by decide) hB8) d (xg hd'))
   exact b9 hlt (fc hW (by rw[gA];exact bw (de _ _) hn))
  ·refine bw (dF (k:=435) ?_) (by decide)
   exact wa (by decide) (dV hmul (by decide))
 rw[nu,← ol]
 ac_nf
 refine ⟨ap,?_⟩
 show W _ _ (call (.builtin "list.append") [.ref R,.int ((bz (2^Wd) (u.drop k)*(2^Wd)^k:Nat):Int) t6]) _ _ _
 refine iJ (i:=2) (by rfl) (by show ys.size≤2^24;exact bw hys (by decide)) ?_
 exact (BF (fun O h=>Value.noConfusion h) rfl t6 rfl)
theorem AE {tn:Tok}{R:Addr}(hd:DG u)(rm:Rm A 163)(B:Base C mg mb g)(hW1:3≤Wd)(hW:Wd≤62)(hn:u.length≤7){Q:PQ Flow}(kQ:∀ g',G.le g g'→∀ ys,IntsAre ys.toList (dl Wd u)→Q .next g' ((R,ai ys)::(L,aJ [("root",.str (bk u) tf),("width",.int Wd tw),("ranks",.ref R),("number",.int ((bz (2^Wd) u:Nat):Int) tn)])::M)) :
  W C A (exec (aI (aw (st 27)) 1) (o4 L a c0)) g ((R,ai #[])::(L,aJ [("root",.str (bk u) tf),("width",.int Wd tw),("ranks",.ref R),("number",.int ((bz (2^Wd) u:Nat):Int) tn)])::M) Q:=by
 refine' bQ fun qQ KQ=>?_
 refine uw ?_
 ac_nf
 refine bL B c6 ?_
 ac_nf
 refine bL B eN ?_
 ac_nf
 refine ⟨ap,?_⟩
 show W _ _ (call (.builtin "len") [.str (bk u) tf]) _ _ _
 refine dS (by rw[bo];exact dV hn (by decide)) fun ts=>?_
 rw[bo]
 refine aj ?_
 refine ⟨br,?_⟩
 show W _ _ (call (.type "range") [.int (u.length:Int) ts]) _ _ _
 refine fu fun g₁ r l₁ Fr=>?_
 refine cw Fr (by decide) (⟨eF [_] [] (.T (.g (.p 2 62)) bA) ae,aQ [_] [] (.T bA (.p 2 62)) (.le ah fs) ae hn⟩) fun I P' Dr=>?_
 have hnn:((u.length:Int)-0).toNat=u.length:=by exact rfl
 rw[hnn] at Dr
 refine (ba I P' u.length _ _ (dy (fun k g' M'=>∃ ys,M'=(R,ai ys)::(L,aJ [("root",.str (bk u) tf),("width",.int Wd tw),("ranks",.ref R),("number",.int ((bz (2^Wd) u:Nat):Int) tn)])::M∧IntsAre ys.toList ((List.range k).map fun k=>((bz (2^Wd) (u.drop k)*(2^Wd)^k:Nat):Int))) rfl rfl (Dr _ rm.h) (aG (#[]) rfl .nil) (iPPP ik ?_ ?_)))
 ·refine fun k g₂ O v hk l₂ q13 hv=>aL q13 fun ys q14 hys=>?_;clear q13;subst q14
  obtain ⟨tk,rfl⟩:∃ t,v=.int (k:Int) t:=by refine bK hv fun t q15=>?_;clear hv;subst q15;exact ⟨t,by rw[mi]⟩
  have l12:=l₁.trans l₂
  have hysl:=IntsAre.length hys
  rw[fA,fZ,rC] at hysl
  refine aF ?_
  refine aX (i:=2) (by rfl) ?_
  have body:gq=[aI gq 0,aI gq 1,aI gq 2]:=by rfl
  show W C A (execs gq (o4 L a c0)) _ _ _
  rw[body]
  refine' bI (M':=(I,P' (k+1))::(R,ai ys)::(L,aJ [("root",.str (bk u) tf),("width",.int Wd tw),("ranks",.ref R),("number",.int ((bz (2^Wd) u:Nat):Int) tn),("k",.int (k:Int) tk)])::M) (by rfl') ?_
  refine' iG (M':=(L,aJ [("root",.str (bk u) tf),("width",.int Wd tw),("ranks",.ref R),("number",.int ((bz (2^Wd) u:Nat):Int) tn),("k",.int (k:Int) tk)])::(I,P' (k+1))::(R,ai ys)::M) (((List.Perm.swap _ _ _).cons _).trans (List.Perm.swap _ _ _)) ?_
  refine' af ?_
  refine' BH (tk:=tk) (tn:=tn) hd rm (B.mono l12) hW1 hW hn hk (by rfl') (by rfl') (by rfl') (by rfl') fun g₃ l₃ t3 v3=>?_
  refine' af ?_
  refine' A7 (tk:=tk) (tn:=t3) hd rm ((B.mono l12).mono l₃) hW1 hW hn hk (by rfl') (by rfl') (by rfl') (by rfl') fun g₄ l₄=>?_
  refine' af ?_
  refine' (Bu (tk:=tk) (tn:=v3) hd hW1 hW hn hk (by with_unfolding_all exact cZ [_,_,_] [] (.le ah (.l 10)) (.le am fs) (.lt ao am) (.eq ah ao) ae hn hk hysl) (by rfl') (by rfl') (by rfl') (by rfl')).mono ?_
  refine fun O g₅ O l₅ q22=>ew q22 fun q23 t5 q24=>?_;clear q22;subst q23;subst q24
  refine' nF (i:=0) (l:=[("root",.str (bk u) tf),("width",.int Wd tw),("ranks",.ref R),("number",.int ((bz (2^Wd) u:Nat):Int) tn)]) (r:=[_,_,_]) (by rfl') ?_
  refine' bI (M':=(L,aJ [("root",.str (bk u) tf),("width",.int Wd tw),("ranks",.ref R),("number",.int ((bz (2^Wd) u:Nat):Int) tn)])::(I,P' (k+1))::(R,ai (ys.push (.int ((bz (2^Wd) (u.drop k)*(2^Wd)^k:Nat):Int) t5)))::M) (by rfl') ?_
  refine' iG (M':=(I,P' (k+1))::(R,ai (ys.push (.int ((bz (2^Wd) (u.drop k)*(2^Wd)^k:Nat):Int) t5)))::(L,aJ [("root",.str (bk u) tf),("width",.int Wd tw),("ranks",.ref R),("number",.int ((bz (2^Wd) u:Nat):Int) tn)])::M) ((List.Perm.swap _ _ _).trans ((List.Perm.swap _ _ _).cons _)) ?_
  refine bu ?_
  refine (pT ([]) _ rfl _ rfl ?_)
  rw[fM,qX,ζ18]
  exact IntsAre.append hys (.cons _ _ .nil)
 ·refine fun g' O l' q25=>aL q25 fun ys q26 hys=>?_;clear q25;subst q26
  exact KQ _ _ _ fun l=>kQ _ l ys hys
theorem z9:aw (st 27)=[aI (aw (st 27)) 0,aI (aw (st 27)) 1,aI (aw (st 27)) 2]:=by rfl
theorem rB (B:Base C mg mb g)(e:mg (ax (st 27))=some (.ref a))(hd:DG u)(hW1:3≤Wd)(hW:Wd≤62)(hn:u.length≤7)(rm:Rm A 164) :
  W C A (call (.ref a) [.str (bk u) tf,.int Wd tw] []) g M (fun r g' M'=>M'=M∧∃ R ys,r=.ref R∧Fz g' R (ai ys)∧IntsAre ys.toList (dl Wd u)):=by
 refine aK (B.defs 27 rfl (by decide)) fun a' c e' Da O=>?_
 have:a'=a:=by rw[e] at e';cases e';rfl
 subst this
 refine ft Da B.lim rm.room (binds:=[("root",.str (bk u) tf),("width",.int Wd tw)]) (fun O=>rfl) rfl fun L=>?_
 have rm':∀ env,Rm (A.deeper env) 163:=fun env=>rm.deeper
 rw[z9]
 refine' bI (M':=(L,aJ [("root",.str (bk u) tf),("width",.int Wd tw)])::M) (by rfl') ?_
 refine' af ?_
 refine' AJ hd ((rm' _).le) B hW1 hW hn fun g₁ l₁ R tn=>?_
 refine' af ?_
 refine' AE hd (rm' _) (B.mono l₁) hW1 hW hn fun g₂ l₂ ys hys=>?_
 refine' dE fun g₃ l₃ FR=>?_
 refine' af ?_
 refine cz ?_
 refine ar (l:=[("root",.str (bk u) tf),("width",.int Wd tw),("ranks",.ref R),("number",.int ((bz (2^Wd) u:Nat):Int) tn)]) (.head _) (by rfl) ?_
 exact (bP ([_]) M rfl rfl R (bU ys rfl FR hys))
end
end
section
section
variable {C:Cx}{A:Around}{g:G}{M:be}{env:Env}{mg mb:Str→Option Value}
theorem xD {t:Sem Value}{Q:PQ Value}(H:W C A t g M (fun v g₁ M₁=>∃ f P M₀,v=.ref f∧M₁=(f,P)::M₀∧∀ g'',G.le g₁ g''→Fz g'' f P→Q (.ref f) g'' M₀)):W C A t g M Q :=
 fun s S=>wpAny_mono (H s S) (fun D s₁ q1=>cm q1 fun g₁ O l₁ S₁ f q2=>aK q2 fun P M₀ e1 e2 q=>by
  subst e1 e2
  refine bT S₁.freeze fun o p ga S₂=>?_
  exact (an _ M₀ (l₁.trans (G.le_put ga)) S₂ (q _ (G.le_put ga) (aG o G.put_self p)))) fun O O x=>x
theorem sc {a c':Addr}{name qual:Str}{params:Arguments}{body:Expr}{scope:Scope}{cl:List (Str×Addr)}{pm ct:Value}{pos:List Value}{binds:List (Str×Value)}{k:Nat}{Q:PQ Value}(F:Sees g M a (fV (cF name qual params (.expr body) scope cl pm (.ref c') ct)))(hcd:CodeIn g (.ref c') qual)(lim:LimIn g)(room:A.depth<recursionLimit)(hb:bindArgs (cF name qual params (.expr body) scope cl pm (.ref c') ct) ⟨pos,[]⟩=pure binds)(hc:(aW scope.names).length=k)(h:∀ L (as:List Addr),as.length=k→W C A.in1 (forIn binds PUnit.unit fun (x:Str×Value) (_:PUnit)=>(do storeName (cV scope L mainGlobals (c5 (aW scope.names) as cl) (qual++".<locals>.") (some a) (.ref c') builtinsNs) x.1 x.2;pure (ForInStep.yield PUnit.unit):Sem (ForInStep PUnit)))
   g (iI as ((L,aJ [])::M)) (fun O g₂ M₂=>W C (A.deeper (cV scope L mainGlobals (c5 (aW scope.names) as cl) (qual++".<locals>.") (some a) (.ref c') builtinsNs)) (eval body (cV scope L mainGlobals (c5 (aW scope.names) as cl) (qual++".<locals>.") (some a) (.ref c') builtinsNs))
   g₂ M₂ (fun v g₃ M₃=>∃ X M₄,M₃=X++M₄∧Q v g₃ M₄)))(hco:scope.isCoroutine=false:=by exact Eq.refl false)(hgen:scope.isGenerator=false:=by exact Eq.refl false):W C A (call (.ref a) pos []) g M Q:=by
 refine o3 F rfl hcd lim room ?_ hco hgen
 rw[hb]
 refine ay (gH fun L as hl'=>?_)
 exact h L as (hl'.trans hc)
structure CutOk (C:Cx) (g:G) (f:Addr) (n:Nat) (cf:Nat→Nat→Nat):Prop where
 fn:∃ fd,Fz g f (fV fd)
 call:∀ (A:Around) (g':G) (M:be) (low high:Nat) (t u:Tok),Rm A 12→G.le g g'→low+2≤high→high≤n→W C A (call (.ref f) [.int low t,.int high u] []) g' M (fun r g'' M'=>M'=M∧∃ t',r=.int (cf low high) t')
theorem CutOk.mono {g g':G}{f:Addr}{n:Nat}{cf:Nat→Nat→Nat}(k:G.le g g')(h:CutOk C g f n cf):CutOk C g' f n cf:=⟨bK h.fn fun fd F=>⟨fd,F.mono k⟩,fun A g'' M low high t u rm l=>h.call A g'' M low high t u rm (k.trans l)⟩
noncomputable def fw (lt:Nat→Nat→Bool)(low high:Nat):Nat:=low+1+argBest (fun i j=>lt (low+1+i) (low+1+j)) (high-low-2)
theorem i7 {A:Around}{a RL:Addr}{xs:Array Value}{lt:Nat→Nat→Bool}(B:Base C mg mb g)(e:mg (ax (st 29))=some (.ref a))(FR:Fz g RL (ai xs))(hsz:xs.size≤1000)(he:∀ (i j:Nat) x y,i≠j→xs[i]?=some x→xs[j]?=some y→∀ A s (E:Value→Shared→Prop) (Q:Bool→Shared→Prop),Q false s→wpAny C.M A (eqBool x y) Q E s)(hlt:∀ (i j:Nat) x y,xs[i]?=some x→xs[j]?=some y→∀ A s (E:Value→Shared→Prop) (Q:Value→Shared→Prop),Q (.bool (lt i j)) s→wpAny C.M A (richCompare .Lt x y) Q E s)(rm:Rm A 1) :
  W C A (call (.ref a) [.ref RL] []) g M (fun r g' M'=>M'=M∧∃ f,r=.ref f∧CutOk C g' f xs.size (fw lt)):=by
 refine aK (B.defs 29 rfl (by decide)) fun a' c e' Da hq=>?_
 have:a'=a:=by rw[e] at e';cases e';rfl
 subst this
 have hT:=hq (by decide)
 refine ic (k:=1) (binds:=[("ranks",.ref RL)]) Da B.lim rm.room (fun O=>rfl) rfl fun L as has=>?_
 obtain ⟨a1,rfl⟩:∃ a1,as=[a1]:=by
  match as,has with
  | [x],_=>exact ⟨x,rfl⟩
 refine aN (aH (i:=0) (by rfl) (by rfl) ?_)
 refine W_binds_nil ?_
 refine' bI (M':=(a1,ag (some (.ref RL)))::(L,aJ [])::M) (by rfl') ?_
 refine' dE fun g₁ l₁ F1=>?_
 replace B:=B.mono l₁
 replace FR:=FR.mono l₁
 refine af ?_
 refine cz ?_
 refine xD ?_
 refine iA (mg:=mg) (c:=c) (qs:=qsOf 29) (cl:=[("ranks",a1)]) B.bi hT rfl rfl rfl (.head _) (fun x hx O O=>by cases hx with|head=>rfl|tail _ h=>cases h) fun f c' g₂ ct l₂ hcd=>?_
 refine (bf f _ _ rfl rfl (fun g₃ l₃ Ff=>?_))
 refine ⟨[_],M,rfl,rfl,f,rfl,⟨_,Ff⟩,?_⟩
 replace B:=B.mono (l₂.trans l₃)
 replace F1:=F1.mono (l₂.trans l₃)
 replace FR:=FR.mono (l₂.trans l₃)
 replace hcd:=hcd.mono l₃
 intro A' g₄ M' low high t u rm' l₄ hlh hhn
 replace B:=B.mono l₄
 replace F1:=F1.mono l₄
 replace FR:=FR.mono l₄
 refine mA (binds:=[("low",.int low t),("high",.int high u)]) (.fz (Ff.mono l₄)) (hcd.mono l₄) B.lim rm'.room (by rfl) (by rfl) fun L2=>?_
 refine' bI (M':=(L2,aJ [("low",.int low t),("high",.int high u)])::M') (by rfl') ?_
 refine aC ?_
 ac_nf
 refine bL B qc ?_
 ac_nf
 refine' jt (cl:=[("ranks",a1)]) (by rfl') fun q_1 K_1=>?_
 ac_nf
 refine bL B c6 ?_
 ac_nf
 refine ⟨br,?_⟩
 show W _ _ (call (.type "range") [.int ((low:Int)+1) _,.int (high:Int) u]) _ _ _
 refine iW fun g₅ r l₅ Fr=>?_
 refine cw Fr (⟨eF [_] [] (.T (.g (.p 2 62)) (.a bA av)) ae,cZ [_,_,_] [] (.T (.a bA av) (.p 2 62)) (.le am bg) (.le (.a ah cH) ao) (.le ao am) ae hsz hlh hhn⟩) (⟨eF [_] [] (.T (.g (.p 2 62)) bA) ae,ln2 [_,_] [] (.T bA (.p 2 62)) (.le am bg) (.le ah am) ae hsz hhn⟩) fun I P' Dr=>?_
 have hnn:((high:Int)-((low:Int)+1)).toNat=high-low-1:=by exact cZ [_,_,_,_,_] [] (.eq ah am) (.Q bA (.s lK (.a nq av))) (.Y 1 (.eq (.a am av) bD)) (.Y 1 (.eq (.a bD aM) ao)) ae (jX (aQ [_,_] [] (.L b6 (.s bA (.a eG av))) (.le (.a am cH) ah) ae hlh)) (bn (ln2 [_,_,_] [] (.le av ah) (.le (.a am cH) ao) (.le ao (.a ah am)) ae hlh (aE _ _))) (bn (aQ [_,_] [] (.le ah am) (.le (.a ah cH) am) ae hlh))
 rw[hnn] at Dr
 refine K_1 I P' _ (fun k ys g'=>ys.size=k∧∀ (i:Nat) v,ys[i]?=some v→∃ T x t,v=.ref T∧xs[low+1+i]?=some x∧Fz g' T (bS #[x,.int ((low+1+i:Nat):Int) t])) _ _ _ (Dr _ rm'.h) (gh [_,_,_,_] [] (.le ah aY) (.le am bg) (.le ao am) (.le ah aM) (.le aM ao) ae hsz hhn (de _ _) (de _ _)) ⟨rfl,fun i v h=>by simp at h⟩ ?_ ?_
 ·intro k g₆ ys v Cl D hk l₆ j hv hM_1 r_1 R_1
  obtain ⟨tk,rfl⟩:∃ t,v=.int ((low+1+k:Nat):Int) t:=by refine bK hv fun t q3=>?_;clear hv;subst q3;exact ⟨t,by push_cast;rfl⟩
  have l56:=l₅.trans l₆
  refine eL ?_
  ac_nf
  first
   | refine jV (c:=a1) (by rfl) (.fz (F1.mono l56)) ?_
   | refine aU (c:=a1) (by rfl) (.fz (F1.mono l56)) ?_
  ac_nf
  have SN:∀ M,Sees g₆ M RL (bq xs):=fun O=>.fz ((FR.mono l56).imp fun O=>bj)
  refine ⟨bE (SN _),?_⟩
  have hx:xs[low+1+k]?=some xs[low+1+k]:=Array.getElem?_eq_getElem (gh [_,_,_,_,_,_] [] (.lt (.a (.a ah av) am) ao) (.le aM ao) (.Y 1 (.eq bD dc)) (.lt am dc) (.Q vX (.s nq (.a bA av))) ae hhn hnn hk (jX (aQ [_,_] [] (.L b6 (.s bA (.a eG av))) (.le (.a am cH) ah) ae hlh)))
  generalize xs[low+1+k]=x at hx
  refine aO (SN _) (cY _) (vc [_,_,_,_,_,_] [] (.T (.c (.a (.a ah av) am)) (.p 2 63)) (.le ao bg) (.le aM ao) (.Y 1 (.eq bD dc)) (.lt am dc) (.Q vX (.s nq (.a bA av))) ae hsz hhn hnn hk (jX (aQ [_,_] [] (.L b6 (.s bA (.a eG av))) (.le (.a am cH) ah) ae hlh))) (by rw[d3];exact hx) ?_
  ac_nf
  intro T g₇ l₇ FT
  refine R_1 _ _ [] ?_
  refine ⟨by rw[re,j.1],fun i v hv=>?_⟩
  rw[Array.getElem?_push] at hv
  split at hv
  ·rename_i hi
   cases hv
   rw[hi,j.1]
   exact (bf T x tk rfl hx FT)
  ·refine bC (j.2 i v hv) fun T' x' t' e1 e2 F'=>?_
   exact (bf T' x' t' e1 e2 (F'.mono l₇))
 intro g₆ g₇ ys K l₆ j l₇ FK
 refine aj ?_
 refine ⟨ap,?_⟩
 show W _ _ (call (.builtin "min") [.ref K]) _ _ _
 refine tO (KV:=fun i x=>xs[low+1+i]?=some x) (iv:=fun i=>((low+1+i:Nat):Int)) (lt:=fun i j=>lt (low+1+i) (low+1+j)) rm'.h ?_ (FK.imp fun O=>bj) (gh [_,_,_,_,_] [] (.lt b6 ah) (.le (.a am cH) ao) (.eq aM bD) (.Y 1 (.eq ah bD)) (.L (.s lK (.a eG av)) nq) ae hlh hnn j.1 (Int.self_le_toNat _)) ?_ ?_ ?_ ?_
 ·have:=rm'.u
  show A'.units+3+1<9900
  exact aQ [_] [] (.lt (.a (.a ah pF) av) ir) (.le (.a ah (.m 10 (.l 12))) ez) ae this
 ·intro i v hv
  refine bC (j.2 i v hv) fun T x t e1 e2 F=>?_
  exact (bf T x t e1 e2 (F.mono l₇))
 ·intro i j x y hij hx hy s E Q q
  exact he _ _ x y (fun ε=>hij (aQ [_,_,_] [] (.eq ah am) (.eq (.a (.a ao av) ah) (.a (.a ao av) am)) ae ε)) hx hy _ s E Q q
 ·intro i j x y hx hy s E Q q
  exact hlt _ _ x y hx hy _ s E Q q
 ·intro T x t2 g₈ l₈ FT
  ac_nf
  refine ⟨kX (.fz FT),?_⟩
  refine dW (v:=.int ((low+1+argBest (fun i j=>lt (low+1+i) (low+1+j)) (ys.size-1):Nat):Int) t2) (.fz FT) (by decide) (by decide) rfl ?_
  have e5:ys.size-1=high-low-2:=by rw[j.1];exact rfl
  rw[e5]
  exact (bP ([_]) M' rfl rfl t2 rfl)
end
end
section
noncomputable def i4 (x:List Nat):List Nat:=((List.range (x.length-1)).map (1+·)).filter fun k=>decide (x.drop k<x)
noncomputable def mq (x:List Nat):Bool:=decide (i4 x=[])
noncomputable def eg (x:List Nat)(low high:Nat):List Nat:=((List.range (high-low-1)).map (low+1+·)).filter fun k=>mq ((x.drop k).take (high-k))
noncomputable def cutE (x:List Nat)(low high:Nat):Nat:=(eg x low high).headD 0
theorem mK {x:List Nat}{low high:Nat}(h1:low+2≤high)(h2:high≤x.length):eg x low high≠[]:=by
 have:high-1∈eg x low high:=by
  unfold eg
  rw[List.mem_filter]
  refine ⟨List.mem_map.mpr (aG (high-low-2) (List.mem_range.mpr (ln2 [_,_,_] [] (.lt ah am) (.le ao (.a am av)) (.eq (.a ah cH) ao) ae (aE _ _) (bn (ln2 [_,_,_] [] (.le cH ah) (.le (.a am cH) ao) (.le ao (.a ah am)) ae h1 (aE _ _))))) (cZ [_,_,_,_,_] [] (.eq (.a (.a ah av) am) ao) (.eq (.a am cH) aM) (.eq (.a aM ah) bD) (.Y 1 (.eq (.a ao av) bD)) ae (bn (ln2 [_,_,_] [] (.le cH ah) (.le (.a am cH) ao) (.le ao (.a ah am)) ae h1 (aE _ _))) (bn (aQ [_,_] [] (.le ah am) (.le (.a ah cH) am) ae h1)) (bn (aQ [_,_] [] (.le av ah) (.le (.a am cH) ah) ae h1)))),?_⟩
  unfold mq
  refine decide_eq_true ?_
  unfold i4
  have hl:((x.drop (high-1)).take (high-(high-1))).length=1:=by
   rw[js,gA];exact cZ [_,_,_,_] [] (.eq ah av) (.eq (.a am ao) aM) (.Y 1 (.eq (.a ao av) aM)) (.eq ah am) ae (bn (de _ _)) (bn (aQ [_,_] [] (.le av ah) (.le (.a am cH) ah) ae h1)) (qm (cZ [_,_,_,_,_] [] (.le ah am) (.le ao aM) (.le aM (.a am bD)) (.eq (.a ah bD) ao) ae h2 (aE _ _) (bn (de _ _))))
  rw[hl]
  rfl
 intro e
 rw[e] at this
 cases this
noncomputable def nS (x:List Nat):Str:=⟨x.toArray⟩
theorem gI (x:List Nat):(nS x).length=x.length:=by show x.toArray.size=_;simp
section
variable {C:Cx}{A:Around}{g:G}{M:be}{env:Env}{mg mb:Str→Option Value}
structure LynOk (C:Cx) (g:G) (f:Addr):Prop where
 fn:∃ fd,Fz g f (fV fd)
 call:∀ (A:Around) (g':G) (M:be) (x:List Nat) (t:Tok),Rm A 9→G.le g g'→x.length≤1000→W C A (call (.ref f) [.str (nS x) t] []) g' M (fun r g'' M'=>M'=M∧r=.bool (mq x))
theorem LynOk.mono {g g':G}{f:Addr}(k:G.le g g')(h:LynOk C g f):LynOk C g' f:=⟨bK h.fn fun fd F=>⟨fd,F.mono k⟩,fun A g'' M x t rm l=>h.call A g'' M x t rm (k.trans l)⟩
noncomputable def kD:Expr→Expr
 | .Lambda _ b _ _=>b
 | e=>e
noncomputable def gK:Expr→Scope
 | .Lambda _ _ s _=>s
 | _=>{ kind:=.function,names:=[],isGenerator:=false,isCoroutine:=false,more:=[] }
noncomputable def gS:Expr→Arguments
 | .Lambda a _ _ _=>a
 | _=>⟨[],[],none,[],[],none,[]⟩
noncomputable def tX:Stmt→Expr
 | .Assign _ v _=>v
 | _=>.Constant .none 0 ⟨0,0,0,0⟩
noncomputable def y3:Stmt→Expr
 | .Return (some v) _=>v
 | _=>.Constant .none 0 ⟨0,0,0,0⟩
noncomputable abbrev zW:Expr:=tX (aI (aw (st 28)) 0)
noncomputable abbrev Aq:Expr:=y3 (aI (aw (st 28)) 1)
noncomputable abbrev q28:Str:=ax (st 28)++".<locals>."++"<lambda>"
theorem rT {a b:Addr}{xs ys:Array Value}{ns ms:List Int}{Q:PQ Value}(ha:Sees g M a (bq xs))(hb:Sees g M b (bq ys))(hi:IntsAre xs.toList ns)(hj:IntsAre ys.toList ms)(hu:A.units+64<cLine)(h:Q (.bool (decide (ns=ms))) g M) :
  W C A (compareOp .Eq (.ref a) (.ref b)) g M Q:=fun s S=>eq_intsK (by simpa using S.list ha) hi (by simpa using S.list hb) hj hu (an g M .refl S h)
theorem zG {f c':Addr}{pm ct:Value}{cl:List (Str×Addr)}(B:Base C mg mb g)(F:Fz g f (fV (cF "<lambda>" q28 (gS zW) (.expr (kD zW)) (gK zW) cl pm (.ref c') ct)))(hcd:CodeIn g (.ref c') q28):LynOk C g f:=by
 refine ⟨⟨_,F⟩,?_⟩
 intro A g₁ M x t rm l₁ hx
 replace B:=B.mono l₁
 refine sc (k:=1) (binds:=[("part",.str (nS x) t)]) (.fz (F.mono l₁)) (hcd.mono l₁) B.lim rm.room (by rfl) (by rfl) fun L as has=>?_
 obtain ⟨a1,rfl⟩:∃ a1,as=[a1]:=by
  match as,has with
  | [x],_=>exact ⟨x,rfl⟩
 refine aN (aH (i:=0) (by rfl) (by rfl) ?_)
 refine W_binds_nil ?_
 refine' bI (M':=(a1,ag (some (.str (nS x) t)))::(L,aJ [])::M) (by rfl') ?_
 refine' dE fun g₂ l₂ F1=>?_
 replace B:=B.mono l₂
 refine fH ?_
 show W _ _ (eval (Expr.ListComp _ _ _ _) _) _ _ _
 refine' sC (cl:=[("part",a1)]) (by rfl') fun q_1 K_1=>?_
 ac_nf
 refine bL B c6 ?_
 ac_nf
 refine bL B eN ?_
 ac_nf
 refine ⟨ap,?_⟩
 show W _ _ (call (.builtin "len") [.str (nS x) t]) _ _ _
 refine dS (by rw[gI];exact dV hx (by decide)) fun ts=>?_
 rw[gI]
 refine aj ?_
 refine ⟨br,?_⟩
 show W _ _ (call (.type "range") [.int 1 _,.int (x.length:Int) ts]) _ _ _
 refine iW fun g₃ r l₃ Fr=>?_
 refine cw Fr (by decide) (⟨eF [_] [] (.T (.g (.p 2 62)) bA) ae,aQ [_] [] (.T bA (.p 2 62)) (.le ah bg) ae hx⟩) fun I P' Dr=>?_
 have hnn:((x.length:Int)-1).toNat=x.length-1:=by omega
 rw[hnn] at Dr
 refine K_1 I P' _ (fun k ys O=>IntsAre ys.toList ((((List.range k).map (1+·)).filter fun k=>decide (x.drop k<x)).map Int.ofNat)) _ _ _ (Dr _ rm.h) (bw (de _ _) (bw hx (by decide))) .nil ?_ ?_
 ·intro k g₄ ys v Cl D hk l₄ j hv hM r b R K_b
  obtain ⟨tk,rfl⟩:∃ t,v=.int ((1+k:Nat):Int) t:=by refine bK hv fun t q1=>?_;clear hv;subst q1;exact ⟨t,by push_cast;rfl⟩
  have F1':=F1.mono (l₃.trans l₄)
  ac_nf
  intro sl g₅ l₅ Fs
  refine ⟨dA,?_⟩
  refine gj (a:=1+k) (ta:=tk) (.fz Fs) (by rw[gI];exact ln2 [_,_,_] [] (.le (.a av ah) am) (.lt ah ao) (.le ao am) ae hk (de _ _)) (by rw[gI];show x.length≤2^24;exact bw hx (by decide)) fun t5=>?_
  have F1'':=F1'.mono l₅
  ac_nf
  refine yk ?_
  refine aV ?_
  have hr:(List.range (k+1)).map (1+·)=(List.range k).map (1+·)++[1+k]:=by rw[qX,ζ18];rfl
  refine K_b _ _ [] (fun hlt=>?_) fun hlt=>?_
  ·show W _ _ (eval _ _) _ ((Cl,_)::_) _
   ac_nf
   refine R _ _ [] ?_
   show IntsAre (ys.push _).toList _
   rw[hr,s5,ζ18,fM]
   refine IntsAre.append j ?_
   rw[List.filter_cons_of_pos (p:=fun k=>decide (x.drop k<x)) hlt]
   exact .cons _ _ .nil
  ·show IntsAre ys.toList _
   rw[hr,s5,ζ18,List.filter_cons_of_neg (p:=fun k=>decide (x.drop k<x)) (Bool.eq_false_iff.mp hlt)]
   simpa using j
 intro g₄ g₅ ys K l₄ hys l₅ FK
 refine eJ ?_
 ac_nf
 refine ⟨by simp only[List.length];decide,fun E g₆ l₆ FE=>?_⟩
 refine rT (.fz ((FK.mono l₆).imp fun O=>bj)) (.fz (FE.imp fun O=>bj)) hys .nil (by have:=rm.u;show A.units+3+64<9900;exact aQ [_] [] (.lt (.a (.a ah pF) oE) ir) (.le (.a ah (.m 10 (.l 9))) ez) ae this) ?_
 refine (an ([_]) M rfl rfl ?_)
 congr 1
 unfold mq i4
 rw[Bool.eq_iff_iff,decide_eq_true_iff,decide_eq_true_iff]
 exact List.map_eq_nil_iff
theorem yt {f c' f1 at_ al:Addr}{pm ct:Value}{x:List Nat}{tx:Tok}(B:Base C mg mb g)(hx:x.length≤1000)(F:Fz g f (fV (cF "<lambda>" q28 (gS Aq) (.expr (kD Aq)) (gK Aq) [("text",at_),("lyndon",al)] pm (.ref c') ct)))(hcd:CodeIn g (.ref c') q28)(Ft:Fz g at_ (ag (some (.str (nS x) tx))))(Fl:Fz g al (ag (some (.ref f1))))(Ly:LynOk C g f1):CutOk C g f x.length (cutE x):=by
 refine ⟨⟨_,F⟩,?_⟩
 intro A g₁ M low high t u rm l₁ hlh hhn
 replace B:=B.mono l₁
 refine sc (k:=1) (binds:=[("low",.int low t),("high",.int high u)]) (.fz (F.mono l₁)) (hcd.mono l₁) B.lim rm.room (by rfl) (by rfl) fun L as has=>?_
 obtain ⟨a1,rfl⟩:∃ a1,as=[a1]:=by
  match as,has with
  | [x],_=>exact ⟨x,rfl⟩
 refine aN (aX (i:=1) (by rfl) ?_)
 refine aN (aH (i:=0) (by rfl) (by rfl) ?_)
 refine W_binds_nil ?_
 refine' bI (M':=(a1,ag (some (.int high u)))::(L,aJ [("low",.int low t)])::M) (by rfl') ?_
 refine' dE fun g₂ l₂ F1=>?_
 replace B:=B.mono l₂
 refine aC ?_
 show W _ _ (eval (Expr.ListComp _ _ _ _) _) _ _ _
 refine' sC (cl:=[("text",at_),("lyndon",al),("high",a1)]) (by rfl') fun q_1 K_1=>?_
 ac_nf
 refine bL B c6 ?_
 ac_nf
 refine ⟨br,?_⟩
 show W _ _ (call (.type "range") [.int ((low:Int)+1) _,.int (high:Int) u]) _ _ _
 refine iW fun g₃ r l₃ Fr=>?_
 refine cw Fr (⟨eF [_] [] (.T (.g (.p 2 62)) (.a bA av)) ae,cZ [_,_,_] [] (.T (.a bA av) (.p 2 62)) (.le am bg) (.le (.a ah cH) ao) (.le ao am) ae hx hlh hhn⟩) (⟨eF [_] [] (.T (.g (.p 2 62)) bA) ae,ln2 [_,_] [] (.T bA (.p 2 62)) (.le am bg) (.le ah am) ae hx hhn⟩) fun I P' Dr=>?_
 have hnn:((high:Int)-((low:Int)+1)).toNat=high-low-1:=by exact cZ [_,_,_,_,_] [] (.eq ah am) (.Q bA (.s lK (.a nq av))) (.Y 1 (.eq (.a am av) bD)) (.Y 1 (.eq (.a bD aM) ao)) ae (jX (aQ [_,_] [] (.L b6 (.s bA (.a eG av))) (.le (.a am cH) ah) ae hlh)) (bn (ln2 [_,_,_] [] (.le av ah) (.le (.a am cH) ao) (.le ao (.a ah am)) ae hlh (aE _ _))) (bn (aQ [_,_] [] (.le ah am) (.le (.a ah cH) am) ae hlh))
 rw[hnn] at Dr
 refine K_1 I P' _ (fun k ys O=>IntsAre ys.toList ((((List.range k).map (low+1+·)).filter fun k=>mq ((x.drop k).take (high-k))).map Int.ofNat)) _ _ _ (Dr _ rm.h) (gh [_,_,_,_] [] (.le ah aY) (.le am bg) (.le ao am) (.le ah aM) (.le aM ao) ae hx hhn (de _ _) (de _ _)) .nil ?_ ?_
 ·intro k g₄ ys v Cl D hk l₄ j hv hM r b R K_b
  obtain ⟨tk,rfl⟩:∃ t,v=.int ((low+1+k:Nat):Int) t:=by refine bK hv fun t q2=>?_;clear hv;subst q2;exact ⟨t,by push_cast;rfl⟩
  have l14:=l₂.trans (l₃.trans l₄)
  have F1':=F1.mono (l₃.trans l₄)
  have Ft':=(Ft.mono l₁).mono l14
  have Fl':=(Fl.mono l₁).mono l14
  have Ly':=(Ly.mono l₁).mono l14
  refine fI ?_
  ac_nf
  intro sl g₅ l₅ Fs
  refine ⟨dA,?_⟩
  refine te (a:=low+1+k) (b:=high) (ta:=tk) (tb:=u) (.fz Fs) (cZ [_,_,_,_,_] [] (.le (.a (.a ah av) am) ao) (.Y 1 (.eq aM bD)) (.lt am bD) (.Q nq (.s lK (.a bA av))) ae hnn hk (jX (aQ [_,_] [] (.L b6 (.s bA (.a eG av))) (.le (.a am cH) ah) ae hlh))) (by rw[gI];exact hhn) (by rw[gI];show x.length≤2^24;exact bw hx (by decide)) fun t5=>?_
  ac_nf
  refine bK ((Ly'.mono l₅).fn) fun fd Ff1=>?_
  refine ⟨ek (.fz Ff1),?_⟩
  show W _ _ (call (.ref f1) [.str (nS ((x.drop (low+1+k)).take (high-(low+1+k)))) t5]) _ _ _
  refine ((Ly'.mono l₅).call _ _ _ _ _ (rm.deeper.le (by decide)) .refl (by rw[js,gA];exact cZ [_,_,_] [] (.le ah bg) (.le am bg) (.le ah ao) (.le ao am) ae hx (qO _ _) (de _ _))).mono ?_
  refine fun O g₆ O l₆ q3=>dI q3 fun q4 q5=>?_;clear q3;subst q4;subst q5
  refine aV ?_
  have hr:(List.range (k+1)).map (low+1+·)=(List.range k).map (low+1+·)++[low+1+k]:=by rw[qX,ζ18];rfl
  refine K_b _ _ [] (fun hlt=>?_) fun hlt=>?_
  ·show W _ _ (eval _ _) _ ((Cl,_)::_) _
   ac_nf
   refine R _ _ [] ?_
   show IntsAre (ys.push _).toList _
   rw[hr,s5,ζ18,fM]
   refine IntsAre.append j ?_
   rw[List.filter_cons_of_pos (p:=fun k=>mq ((x.drop k).take (high-k))) hlt]
   exact .cons _ _ .nil
  ·show IntsAre ys.toList _
   rw[hr,s5,ζ18,List.filter_cons_of_neg (p:=fun k=>mq ((x.drop k).take (high-k))) (Bool.eq_false_iff.mp hlt)]
   simpa using j
 intro g₄ g₅ ys K l₄ hys l₅ FK
 ac_nf
 refine ⟨bE (.fz (FK.imp fun O=>bj)),?_⟩
 have hne:=mK hlh hhn
 obtain ⟨t6,h6⟩:∃ t6,ys[0]?=some (.int ((cutE x low high:Nat):Int) t6):=by
  have h0:0<((eg x low high).map Int.ofNat).length:=by
   rw[fZ]
   exact List.length_pos_iff.mpr hne
  refine bK (fh hys (j:=0) h0) fun t6 h6=>?_
  refine ⟨t6,?_⟩
  rw[← Array.getElem?_toList,h6]
  have e:(List.map Int.ofNat (eg x low high)).getD 0 0=((cutE x low high:Nat):Int):=by
   unfold cutE
   cases eg x low high with
   | nil=>rfl
   | cons a r=>rfl
  show some (Value.int ((List.map Int.ofNat (eg x low high)).getD 0 0) t6)=_
  rw[e]
 refine aO (.fz (FK.imp fun O=>bj)) (by decide) (by decide) h6 ?_
 exact (bP ([_]) M rfl rfl t6 rfl)
theorem kW {A:Around}{a:Addr}{x:List Nat}{tx:Tok}(B:Base C mg mb g)(e:mg (ax (st 28))=some (.ref a))(hx:x.length≤1000)(rm:Rm A 1) :
  W C A (call (.ref a) [.str (nS x) tx] []) g M (fun r g' M'=>M'=M∧∃ f,r=.ref f∧CutOk C g' f x.length (cutE x)):=by
 refine aK (B.defs 28 rfl (by decide)) fun a' c e' Da hq=>?_
 have:a'=a:=by rw[e] at e';cases e';rfl
 subst this
 have hT:=hq (by decide)
 refine ic (k:=2) (binds:=[("text",.str (nS x) tx)]) Da B.lim rm.room (fun O=>rfl) rfl fun L as has=>?_
 obtain ⟨a1,a2,rfl⟩:∃ a1 a2,as=[a1,a2]:=by
  match as,has with
  | [x,y],_=>exact (sx x y rfl)
 refine aN (aH (i:=1) (by rfl) (by rfl) ?_)
 refine W_binds_nil ?_
 refine' bI (M':=(a2,ag none)::(a1,ag (some (.str (nS x) tx)))::(L,aJ [])::M) (by rfl') ?_
 refine' fo fun g₁ l₁ F1=>?_
 replace B:=B.mono l₁
 refine af ?_
 refine aA ?_
 refine iA (mg:=mg) (c:=c) (qs:=qsOf 28) (cl:=[]) B.bi hT rfl rfl rfl (.head _) (fun x hx O O=>by cases hx with|head=>rfl|tail _ h=>cases h with|head=>rfl|tail _ h=>cases h) fun f1 c1 g₂ ct1 l₂ hcd1=>?_
 refine aH (i:=1) (by rfl) (by rfl) ?_
 refine' bI (M':=(f1,fV _)::(a2,ag (some (.ref f1)))::(L,aJ [])::M) (by rfl') ?_
 refine' dE fun g₃ l₃ Ff1=>?_
 refine' dE fun g₄ l₄ F2=>?_
 have l24:=l₂.trans (l₃.trans l₄)
 have Ly:=zG (B.mono l24) (Ff1.mono l₄) (hcd1.mono (l₃.trans l₄))
 refine af ?_
 refine cz ?_
 refine xD ?_
 refine iA (mg:=mg) (c:=c) (qs:=qsOf 28) (cl:=[("text",a1),("lyndon",a2)]) (B.mono l24).bi hT rfl rfl rfl (.tail _ (.head _)) (fun x hx O O=>by cases hx with|head=>rfl|tail _ h=>cases h with|head=>rfl|tail _ h=>cases h) fun f c' g₅ ct l₅ hcd=>?_
 refine (bf f _ _ rfl rfl (fun g₆ l₆ Ff=>?_))
 refine (bP ([_]) M rfl rfl f (jb rfl ?_))
 have l56:=l₅.trans l₆
 exact yt (B.mono (l24.trans l56)) hx Ff (hcd.mono l₆) (F1.mono (l24.trans l56)) (F2.mono l56) (Ly.mono l56)
end
end
section
open Builtin Builtin.ObjectAttr
noncomputable def su (l:List (Str×Value)):OP:=fun o=>∃ es ep,o.data=.dict es ep∧StrKeys es∧UniqKeys es∧∀ name,nsFind es name=lk l name
noncomputable def zK (fd:FuncData)(d:Addr):OP:=fun o=>o.cls=.type "function"∧o.data=.func fd∧o.dict=some d
noncomputable def pa (fd:FuncData):OP:=fun o=>o={ cls:=.type "function",data:=.func fd }
theorem St.ns1 {C:Cx}{g:G}{M:be}{s:Shared}{a:Addr}{l:List (Str×Value)}(S:St C g M s)(h:Sees g M a (su l)):s.heap.Ns1 a (lk l):=let q1:=S.sees h;wL q1 fun o e es ep r=>(dQ o es ep e r)
theorem o6:∀ l:List (Str×Value),Within (lk l) (l.map (·.1))
 | [],y,h=>absurd rfl h
 | (x,v)::r,y,h=>by
  unfold lk at h
  by_cases e:y=x
  ·subst e;exact List.Mem.head _
  ·rw[if_neg e] at h
   exact List.Mem.tail _ (o6 r y h)
namespace FF
theorem lk_ga:typeLookup (.type "function") "__getattribute__"=pure (some (.builtin "object.__getattribute__")):=by rw[typeLookup_type,builtinLookup_eq_fast];kernel_rfl
theorem lk_getattr:typeLookup (.type "function") "__getattr__"=pure none:=by rw[typeLookup_type,builtinLookup_eq_fast];kernel_rfl
theorem slot_ga:Slot "function" "__getattribute__" "object.__getattribute__" :=
 .of (owner:="object") (n:="__getattribute__") lk_ga (by decide +kernel) (by decide +kernel) (by decide +kernel)
  (by first|exact .inl (by decide +kernel)|exact .inr (by decide +kernel)) (by rw[isSubtype_type];kernel_rfl)
theorem slot_sa:Slot "function" "__setattr__" "object.__setattr__" :=
 .of (owner:="object") (n:="__setattr__") (by rw[typeLookup_type,builtinLookup_eq_fast];kernel_rfl) (by decide +kernel) (by decide +kernel) (by decide +kernel)
  (by first|exact .inl (by decide +kernel)|exact .inr (by decide +kernel)) (by rw[isSubtype_type];kernel_rfl)
theorem args_ga (a b:Value):argsOk "object.__getattribute__" ⟨[a,b],[]⟩:=by unfold argsOk;kernel_rfl
theorem args_sa (a b c:Value):argsOk "object.__setattr__" ⟨[a,b,c],[]⟩:=by unfold argsOk;kernel_rfl
theorem mro:mroOf (.type "function")=pure [.type "function",.type "object"]:=by rw[mroOf_type];kernel_rfl
theorem refuse (self:Value):refuseLoop self "__setattr__" [.type "function",.type "object"]=pure ():=by kernel_rfl
theorem lk_tag:typeLookup (.type "function") "tag"=pure none:=by rw[typeLookup_type,builtinLookup_eq_fast];kernel_rfl
theorem lk_attrib:typeLookup (.type "function") "attrib"=pure none:=by rw[typeLookup_type,builtinLookup_eq_fast];kernel_rfl
theorem lk_tail:typeLookup (.type "function") "tail"=pure none:=by rw[typeLookup_type,builtinLookup_eq_fast];kernel_rfl
theorem lk_kids:typeLookup (.type "function") "kids"=pure none:=by rw[typeLookup_type,builtinLookup_eq_fast];kernel_rfl
theorem lk_append:typeLookup (.type "function") "append"=pure none:=by rw[typeLookup_type,builtinLookup_eq_fast];kernel_rfl
theorem lk_makeelement:typeLookup (.type "function") "makeelement"=pure none:=by rw[typeLookup_type,builtinLookup_eq_fast];kernel_rfl
theorem lk_itertext:typeLookup (.type "function") "itertext"=pure none:=by rw[typeLookup_type,builtinLookup_eq_fast];kernel_rfl
end FF
section
variable {w:World}{A:Around}{E:Value→Shared→Prop}{h:Heap}{g:Array GenState}{d:Drawn}{t:Nat}{os:OsState}{x D:Addr}{o:Obj}{name:Str}{v:Value}{m:Str→Option Value}
theorem rW {tk:Tok}{Q:Fin→Shared→Prop}(hx:h.get? x=some o)(hc:o.cls=.type "function")(fd:FuncData)(hf:o.data=.func fd)(hd:o.dict=some D)(hD:h.Ns D m)(hn:typeLookup (.type "function") name=pure none)(hv:m name=some v)(hq:Q (.done (.ret v)) ⟨h,g,d,t,os⟩):wpAny (model prog w) A (Builtin.«object.__getattribute__» ⟨[.ref x,.str name tk],[]⟩) Q E ⟨h,g,d,t,os⟩:=by
 have hT:(⟨h,g,d,t,os⟩:Shared).TypeIs (.ref x) "function":=(aG _ hx hc)
 obtain ⟨cls,dct,dt,sl⟩:=o
 subst hc hf hd
 repeat (any_goals (first|assumption|with_reducible apply Flt.wpAny_nsGet_known|with_reducible apply Flt.wpAny_loadPart_known|wp_step))
theorem ww:(Manifest.canonical "object.__getattribute__" !="object.__getattribute__")=false:=by decide +kernel
theorem mI {Q:Value→Shared→Prop}{ex:Bool}(hx:h.get? x=some o)(hc:o.cls=.type "function")(fd:FuncData)(hf:o.data=.func fd)(hd:o.dict=some D)(hD:h.Ns D m)(hn:typeLookup (.type "function") name=pure none)(hv:m name=some v)(hh:handedOut v=pure v)(hq:Q v ⟨h,g,d,t+1,os⟩):wpAny (model prog w) A (getAttr (.ref x) name ex) Q E ⟨h,g,d,t,os⟩:=by
 have hT:(⟨h,g,d,t,os⟩:Shared).TypeIs (.ref x) "function":=(aG _ hx hc)
 have hT1:(⟨h,g,d,t+1,os⟩:Shared).TypeIs (.ref x) "function":=(aG _ hx hc)
 have f1:=FF.slot_ga.lookup
 have f2:=FF.lk_getattr
 have f4:=FF.slot_ga.bind (.ref x)
 cases ex
 all_goals (
  repeat (any_goals (first|assumption|(rw[if_neg (show ¬ (true&&onTheHeap (Value.builtin "object.__getattribute__"))=true by decide)])|wp_step))
  refine codeAny_call_builtin FF.slot_ga.plain F.entry_object_getattribute (FF.slot_ga.check _ _ _ _ _ _ _ _ hT1 (FF.args_ga _ _) (rW hx hc fd hf hd hD hn hv ?_))
  repeat (any_goals (first|assumption|wp_step)))
theorem qb {Q:Value×List Value→Shared→Prop}{pl:Sem Bool}(hx:h.get? x=some o)(hc:o.cls=.type "function")(fd:FuncData)(hf:o.data=.func fd)(hd:o.dict=some D)(hD:h.Ns D m)(hn:typeLookup (.type "function") name=pure none)(hv:m name=some v)(hh:handedOut v=pure v)(hq:Q (v,[]) ⟨h,g,d,t+1,os⟩):wpAny (model prog w) A (getMethod (.ref x) name pl) Q E ⟨h,g,d,t,os⟩:=by
 have hT:(⟨h,g,d,t,os⟩:Shared).TypeIs (.ref x) "function":=(aG _ hx hc)
 unfold getMethod
 refine wpAny_bind (wpAny_specialOf hT FF.lk_ga ?_)
 show wpAny _ A (if (Manifest.canonical "object.__getattribute__" !="object.__getattribute__")=true then _ else _) Q E _
 rw[ww,if_neg jo]
 refine wpAny_bind (wpAny_specialOf hT FF.lk_getattr ?_)
 rw[if_neg (by simp)]
 refine wpAny_bind (wpAny_specialOf hT hn ?_)
 show wpAny _ A (do return (← getAttr (.ref x) name,[])) Q E _
 exact wpAny_bind (mI hx hc fd hf hd hD hn hv hh (wpAny_pure hq))
theorem w8 {tk:Tok}{Q:Fin→Shared→Prop}(hx:h.get? x=some o)(hc:o.cls=.type "function")(fd:FuncData)(hf:o.data=.func fd)(hd:o.dict=some D)(hD:h.Ns1 D m){ns:List Str}(hw:Within m ns)(hsz:ns.length≤1000)(hn:typeLookup (.type "function") name=pure none)(hq:∀ h' tk',h'.Ns1 D (fun y=>if y=name then some v else m y)→Heap.SameBut D h h'→Q (.done (.ret .none)) ⟨h',g,d,tk',os⟩) :
  wpAny (model prog w) A (Builtin.«object.__setattr__» ⟨[.ref x,.str name tk,v],[]⟩) Q E ⟨h,g,d,t,os⟩:=by
 have hT:(⟨h,g,d,t,os⟩:Shared).TypeIs (.ref x) "function":=(aG _ hx hc)
 show wpAny _ _ (refuseIfOverridden (.ref x) "__setattr__" >>= fun O=>attrName (.str name tk) >>= fun nm=>typeOf (.ref x) >>= fun tp=>typeLookup tp nm >>= fun attr=>storeTaker? attr >>= fun r=>match r with
  | some a=>setByDescriptor a (.ref x) v
  | none=>storeInOwnDict (.ref x) tp (.str name tk) nm v attr.isSome) Q E _
 refine wpAny_bind ?_
 rw[refuse_eq]
 refine wpAny_bind (wpAny_typeOf hT (wpAny_bind (wpAny_of_eq FF.mro (wpAny_of_eq (FF.refuse _) ?_))))
 refine wpAny_bind (wpAny_of_eq (a:=name) rfl ?_)
 refine wpAny_bind (wpAny_typeOf hT (wpAny_bind (wpAny_of_eq hn (wpAny_bind (wpAny_of_eq (a:=none) rfl ?_)))))
 show wpAny _ _ (storeInOwnDict (.ref x) (.type "function") (.str name tk) name v false) _ _ _
 show wpAny _ _ (ownStreamTells (.ref x) (.type "function") >>= fun O=>ownDictForStores (.ref x) >>= fun dd=>match dd with
  | some d=>storeInDict d (.str name tk) name v
  | none=>noDictFor (.ref x) (.type "function") name false) _ _ _
 refine wpAny_bind (wpAny_of_eq (a:=()) rfl ?_)
 refine wpAny_bind ?_
 show wpAny _ _ (instanceDict x true) _ _ _
 unfold instanceDict
 refine wpAny_bind (wpAny_loadPart hx ?_)
 obtain ⟨cls,dct,dt,sl⟩:=o
 subst hc hf hd
 refine wpAny_pure ?_
 show wpAny _ _ (storeInDict D (.str name tk) name v) _ _ _
 unfold storeInDict newKeyGuard
 refine wpAny_bind (wpAny_pure (wpAny_bind (wpAny_nsSet1 hD fun h' hn' hs=>?_)))
 refine bC (hn'.count (Within.cons name v hw)) fun oD esD epD hoD hdD hcD=>?_
 refine wpAny_bind (wpAny_lookBehind hoD (by rw[hdD];exact pastItsLine_dict (bw hcD (by rw[eR];show ns.length+1≤2^24+1;exact mt (bw hsz (by decide)) _))) ?_)
 exact wpAny_pure (hq h' _ hn' hs)
theorem vV {tk:Tok}{Q:Fin→Shared→Prop}(fd:FuncData)(hx:h.get? x=some { cls:=.type "function",data:=.func fd })(hn:typeLookup (.type "function") name=pure none)(hq:∀ h' tk',h'.Ns1 h.objs.size (fun y=>if y=name then some v else none)→h'.get? x=some { cls:=.type "function",dict:=some h.objs.size,data:=.func fd }→(∀ b o,b≠x→h.get? b=some o→h'.get? b=some o)→Q (.done (.ret .none)) ⟨h',g,d,tk',os⟩) :
  wpAny (model prog w) A (Builtin.«object.__setattr__» ⟨[.ref x,.str name tk,v],[]⟩) Q E ⟨h,g,d,t,os⟩:=by
 have hT:(⟨h,g,d,t,os⟩:Shared).TypeIs (.ref x) "function":=(aG _ hx rfl)
 show wpAny _ _ (refuseIfOverridden (.ref x) "__setattr__" >>= fun O=>attrName (.str name tk) >>= fun nm=>typeOf (.ref x) >>= fun tp=>typeLookup tp nm >>= fun attr=>storeTaker? attr >>= fun r=>match r with
  | some a=>setByDescriptor a (.ref x) v
  | none=>storeInOwnDict (.ref x) tp (.str name tk) nm v attr.isSome) Q E _
 refine wpAny_bind ?_
 rw[refuse_eq]
 refine wpAny_bind (wpAny_typeOf hT (wpAny_bind (wpAny_of_eq FF.mro (wpAny_of_eq (FF.refuse _) ?_))))
 refine wpAny_bind (wpAny_of_eq (a:=name) rfl ?_)
 refine wpAny_bind (wpAny_typeOf hT (wpAny_bind (wpAny_of_eq hn (wpAny_bind (wpAny_of_eq (a:=none) rfl ?_)))))
 show wpAny _ _ (ownStreamTells (.ref x) (.type "function") >>= fun O=>ownDictForStores (.ref x) >>= fun dd=>match dd with
  | some d=>storeInDict d (.str name tk) name v
  | none=>noDictFor (.ref x) (.type "function") name false) _ _ _
 refine wpAny_bind (wpAny_of_eq (a:=()) rfl ?_)
 refine wpAny_bind ?_
 show wpAny _ _ (instanceDict x true) _ _ _
 unfold instanceDict
 refine wpAny_bind (wpAny_loadPart hx ?_)
 have hxs:x≠h.objs.size:=eE (Heap.lt_size hx)
 have hx₁:(h.push { cls:=.type "dict",data:=.dict #[] }).get? x=some { cls:=.type "function",data:=.func fd }:=Heap.get?_push_of_some _ hx
 have htd:typeHasDict (.type "function")=true:=by kernel_rfl
 show wpAny _ _ (if (!true||!typeHasDict (.type "function"))=true then pure none else (alloc { cls:=.type "dict",data:=.dict #[] } >>= fun d=>update x (fun o=>{ o with dict:=some d }) >>= fun O=>dictMade (.type "function") x d)) _ _ _
 rw[htd,if_neg (by simp)]
 refine wpAny_bind (wpAny_alloc' ?_)
 refine wpAny_bind (wpAny_update' hx₁ ?_)
 have hfc:finalisedInACycleAlone "function"=false:=by kernel_rfl
 show wpAny _ _ (if finalisedInACycleAlone "function"=true then (register x >>= fun O=>pure (some h.objs.size)) else pure (some h.objs.size)) _ _ _
 rw[hfc,if_neg jo]
 refine wpAny_pure ?_
 have hgd:((h.push { cls:=.type "dict",data:=.dict #[] }).update x fun o=>{ cls:=o.cls,dict:=some h.objs.size,data:=o.data,slots:=o.slots }).get? h.objs.size
   = some { cls:=.type "dict",data:=.dict #[] }:=(Heap.get?_update_ne _ _ _ _ hxs.symm).trans (Heap.get?_push_at rfl rfl)
 have hnd:((h.push { cls:=.type "dict",data:=.dict #[] }).update x fun o=>{ cls:=o.cls,dict:=some h.objs.size,data:=o.data,slots:=o.slots }).Ns h.objs.size (fun O=>none) :=
  (bf _ (#[]) _ hgd rfl (jb (fun e he=>absurd he (by simp)) (fun O=>rfl)))
 show wpAny _ _ (storeInDict h.objs.size (.str name tk) name v) _ _ _
 unfold storeInDict newKeyGuard
 refine wpAny_bind (wpAny_pure (wpAny_bind (wpAny_nsSet1 (Heap.Ns1.of_empty hnd) fun h' hn' hs=>?_)))
 refine bC (hn'.count (Within.cons name v Within.nil)) fun oD esD epD hoD hdD hcD=>?_
 refine wpAny_bind (wpAny_lookBehind hoD (by rw[hdD];exact pastItsLine_dict (bw hcD (by rw[eR,lj];decide))) ?_)
 refine wpAny_pure (hq h' _ hn' ?_ fun b ob hbx hb=>?_)
 ·exact (hs.2 x hxs).trans (Heap.get?_update_self _ hx₁ rfl)
 ·exact (hs.2 b (eE (Heap.lt_size hb))).trans ((Heap.get?_update_ne _ _ _ _ hbx).trans (Heap.get?_push_of_some _ hb))
end
end
section
open Builtin Builtin.ObjectAttr
noncomputable def sS (l:Addr):OP:=fun o=>o.cls=.type "builtin_function_or_method"∧o.data=.fields #[.builtin "list.append",.ref l]
namespace FL
theorem entry_ga:entryFor table "list.__getattribute__"=some Builtin.«object.__getattribute__» :=
 entryFor_alias (id':="object.__getattribute__") (by kernel_rfl) (by first|rfl|decide +kernel|(unfold String.splitOn;simp +decide [String.splitOnAux])) (by decide +kernel) (by kernel_rfl)
theorem lk_append:typeLookup (.type "list") "append"=pure (some (.builtin "list.append")):=F.slot_list_append.lookup
theorem ty_append:typeOf (.builtin "list.append")=pure (.type "method_descriptor"):=F.type_list_append
theorem slot_get:Slot "method_descriptor" "__get__" "method_descriptor.__get__" :=
 .of (owner:="method_descriptor") (n:="__get__") (by rw[typeLookup_type,builtinLookup_eq_fast];kernel_rfl) (by decide +kernel) (by decide +kernel) (by decide +kernel)
  (by first|exact .inl (by decide +kernel)|exact .inr (by decide +kernel)) (by rw[isSubtype_type];kernel_rfl)
theorem entry_get:entryFor table "method_descriptor.__get__"=some Builtin.«method_descriptor.__get__»:=entryFor_of_tree (by kernel_rfl)
theorem args_get (a b c:Value):argsOk "method_descriptor.__get__" ⟨[a,b,c],[]⟩:=by unfold argsOk;kernel_rfl
theorem lk_set:typeLookup (.type "method_descriptor") "__set__"=pure none:=by rw[typeLookup_type,builtinLookup_eq_fast];kernel_rfl
theorem lk_delete:typeLookup (.type "method_descriptor") "__delete__"=pure none:=by rw[typeLookup_type,builtinLookup_eq_fast];kernel_rfl
end FL
section
variable {w:World}{A:Around}{E:Value→Shared→Prop}{s:Shared}{x:Addr}{xs:Array Value}{n:Nat}
theorem wc {Q:Fin→Shared→Prop}(hx:s.heap.get? x=some { cls:=.type "list",data:=.seq xs n })(hq:Q (.done (.ret (.ref s.heap.objs.size))) { s with heap:=s.heap.push { cls:=.type "builtin_function_or_method",data:=.fields #[.builtin "list.append",.ref x] } }) :
  wpAny (model prog w) A (Builtin.«method_descriptor.__get__» ⟨[.builtin "list.append",.ref x,.type "list"],[]⟩) Q E s:=by
 obtain ⟨h,g,d,t,os⟩:=s
 have hT:(⟨h,g,d,t,os⟩:Shared).TypeIs (.ref x) "list":=(aG _ hx rfl)
 have f1:=AutoSeq1.sub_list_list
 unfold Builtin.«method_descriptor.__get__»
 repeat (any_goals (first|assumption|with_reducible apply Flt.wpAny_loadPart_known|wp_step))
 have hc:(".".intercalate ("list.append".cutAt '.').dropLast)="list":=by decide +kernel
 rw[hc]
 refine wpAny_of_eq f1 ?_
 refine wpAny_pure ?_
 refine wpAny_bind (wpAny_newObj_type ?_ (by size_fits))
 exact wpAny_pure hq
theorem qf {tk:Tok}{Q:Fin→Shared→Prop}(hx:s.heap.get? x=some { cls:=.type "list",data:=.seq xs n })(hq:Q (.done (.ret (.ref s.heap.objs.size))) { s with heap:=s.heap.push { cls:=.type "builtin_function_or_method",data:=.fields #[.builtin "list.append",.ref x] } }) :
  wpAny (model prog w) A (Builtin.«object.__getattribute__» ⟨[.ref x,.str "append" tk],[]⟩) Q E s:=by
 have hT:s.TypeIs (.ref x) "list":=(aG _ hx rfl)
 have hB:s.TypeIs (.builtin "list.append") "method_descriptor":=FL.ty_append
 unfold Builtin.«object.__getattribute__»
 refine wpAny_bind (wpAny_of_eq (a:=((Value.ref x),[Value.str "append" tk])) rfl ?_)
 show wpAny _ _ (ObjectAttr.attrName (.str "append" tk) >>= fun nm=>typeOf (.ref x) >>= fun tp=>find (.ref x) tp nm >>= fun r=>match r with
  | .value v=>ret v
  | .bind g a=>bindTo g a (.ref x) tp
  | .missing=>_) _ _ _
 refine wpAny_bind (wpAny_of_eq (a:=(Str.ofString "append")) rfl ?_)
 refine wpAny_bind (wpAny_typeOf hT ?_)
 refine wpAny_bind ?_
 show wpAny _ _ (typeLookup (.type "list") "append" >>= fun attr=>getOf attr >>= fun get=>dataDescriptor? attr get >>= fun r=>match r with
  | some (g,a)=>(rule "getattr.data-descriptor" >>= fun O=>pure (.bind g a))
  | none=>ownThenClass (.ref x) "append" attr get) _ _ _
 refine wpAny_bind (wpAny_of_eq FL.lk_append ?_)
 refine wpAny_bind ?_
 show wpAny _ _ (specialOf (.builtin "list.append") "__get__") _ _ _
 refine wpAny_specialOf hB FL.slot_get.lookup ?_
 refine wpAny_bind ?_
 show wpAny _ _ (takesStores (.builtin "list.append") >>= fun b=>if b=true then pure (some (_,_)) else pure none) _ _ _
 refine wpAny_bind ?_
 show wpAny _ _ (specialOf (.builtin "list.append") "__set__" >>= fun a=>if a.isSome=true then pure true else (specialOf (.builtin "list.append") "__delete__" >>= fun b=>pure b.isSome)) _ _ _
 refine wpAny_bind (wpAny_specialOf hB FL.lk_set ?_)
 rw[if_neg (by simp)]
 refine wpAny_bind (wpAny_specialOf hB FL.lk_delete ?_)
 refine wpAny_pure ?_
 rw[if_neg (by simp)]
 refine wpAny_pure ?_
 show wpAny _ _ (inOwnDict "append" (.ref x) >>= fun r=>match r with
  | some v=>(rule "getattr.instance-dict" >>= fun O=>pure (.value v))
  | none=>(copiedAttributeGuard "append" (.ref x) >>= fun O=>byTheClass (some (.builtin "list.append")) (some (.builtin "method_descriptor.__get__")))) _ _ _
 refine wpAny_bind ?_
 show wpAny _ _ (ownDict x >>= fun d=>inDict "append" d) _ _ _
 refine wpAny_bind ?_
 show wpAny _ _ (loadHead x >>= fun o=>match o.data with|.cls c=>pure (some c.ns)|_=>instanceDict x false) _ _ _
 refine wpAny_bind (wpAny_loadPart hx ?_)
 show wpAny _ _ (instanceDict x false) _ _ _
 unfold instanceDict
 refine wpAny_bind (wpAny_loadPart hx ?_)
 show wpAny _ _ (pure none) _ _ _
 refine wpAny_pure ?_
 show wpAny _ _ (pure none) _ _ _
 refine wpAny_pure ?_
 show wpAny _ _ (copiedAttributeGuard "append" (.ref x) >>= fun O=>byTheClass (some (.builtin "list.append")) (some (.builtin "method_descriptor.__get__"))) _ _ _
 refine wpAny_bind ?_
 unfold copiedAttributeGuard
 rw[if_neg (by decide +kernel)]
 refine wpAny_pure ?_
 show wpAny _ _ (rule "getattr.non-data-descriptor" >>= fun O=>pure (Found.bind (.builtin "method_descriptor.__get__") (.builtin "list.append"))) _ _ _
 refine wpAny_bind (wpAny_rule (wpAny_pure ?_))
 show wpAny _ _ (bindTo (.builtin "method_descriptor.__get__") (.builtin "list.append") (.ref x) (.type "list")) _ _ _
 show wpAny _ _ (holding [.builtin "list.append"] (call (.builtin "method_descriptor.__get__") [.builtin "list.append",.ref x,.type "list"]) >>= fun v=>ret v) _ _ _
 refine wpAny_bind (wpAny_holding ?_)
 refine wpAny_call_entry FL.slot_get hB FL.entry_get (wc hx ?_) (FL.args_get _ _ _)
 exact (aG _ rfl (wpAny_pure hq))
theorem nH {Q:Value→Shared→Prop}{ex:Bool}(hx:s.heap.get? x=some { cls:=.type "list",data:=.seq xs n })(hq:Q (.ref s.heap.objs.size) { s with heap:=s.heap.push { cls:=.type "builtin_function_or_method",data:=.fields #[.builtin "list.append",.ref x] },toks:=s.toks+1 }) :
  wpAny (model prog w) A (getAttr (.ref x) "append" ex) Q E s:=by
 obtain ⟨h,g,d,t,os⟩:=s
 have hT:(⟨h,g,d,t,os⟩:Shared).TypeIs (.ref x) "list":=(aG _ hx rfl)
 have hT1:(⟨h,g,d,t+1,os⟩:Shared).TypeIs (.ref x) "list":=(aG _ hx rfl)
 have f1:=F.slot_list_getattribute.lookup
 have f4:=F.slot_list_getattribute.bind (.ref x)
 cases ex
 all_goals (
  repeat (any_goals (first|assumption|(rw[if_neg (show ¬ (true&&onTheHeap (Value.builtin "list.__getattribute__"))=true by decide)])|wp_step))
  refine codeAny_call_builtin F.slot_list_getattribute.plain FL.entry_ga (F.slot_list_getattribute.check _ _ _ _ _ _ _ _ hT1 (F.args_list_getattribute_2 _ _) (qf hx ?_))
  repeat (any_goals (first|assumption|wp_step)))
end
end
section
open Builtin Builtin.ObjectAttr
section
variable {C:Cx}{A:Around}{g:G}{M:be}{env:Env}
theorem du {value:Expr}{attr:Str}{pos:Pos}{Q:PQ Value}(h:W C A (eval value env) g M (fun o g₁ M₁=>W C A (getAttr o attr true) g₁ M₁ Q))(hbase:attributeBase value attr env (eval value env)=eval value env:=by rfl'):W C A (eval (.Attribute value attr pos) env) g M Q:=by
 rw[arm_eval_Attribute,hbase]
 exact ak (h.mono fun o O O O h=>ak (aP (ak (aD (h.mono fun r O O O q=>ak (eW (ay q)))))))
theorem eB {x D:Addr}{fd:FuncData}{l:List (Str×Value)}{name:Str}{v:Value}{ex:Bool}{Q:PQ Value}(hx:Sees g M x (zK fd D))(hD:Sees g M D (su l))(hv:lk l name=some v)(hn:typeLookup (.type "function") name=pure none)(hh:handedOut v=pure v)(h:Q v g M) :
  W C A (getAttr (.ref x) name ex) g M Q:=fun s S=>by
 refine dY (S.sees hx) fun o e h1 h2 h3=>?_
 exact mI (h:=s.heap) (g:=s.gens) (d:=s.drawn) (t:=s.toks) (os:=s.os) e h1 fd h2 h3 (S.ns1 hD).ns hn hv hh (an g M .refl (S.toks (fB _)) h)
theorem gB {x D:Addr}{fd:FuncData}{l:List (Str×Value)}{name:Str}{v:Value}{pl:Sem Bool}{Q:Value×List Value→G→be→Prop}(hx:Sees g M x (zK fd D))(hD:Sees g M D (su l))(hv:lk l name=some v)(hn:typeLookup (.type "function") name=pure none)(hh:handedOut v=pure v)(h:Q (v,[]) g M) :
  W C A (getMethod (.ref x) name pl) g M Q:=fun s S=>by
 refine dY (S.sees hx) fun o e h1 h2 h3=>?_
 exact qb (h:=s.heap) (g:=s.gens) (d:=s.drawn) (t:=s.toks) (os:=s.os) e h1 fd h2 h3 (S.ns1 hD).ns hn hv hh (an g M .refl (S.toks (fB _)) h)
theorem iw {l:Addr}{xs:Array Value}{ex:Bool}{Q:PQ Value}(hl:Sees g M l (ai xs))(h:∀ g' b,G.le g g'→Fz g' b (sS l)→Q (.ref b) g' M):W C A (getAttr (.ref l) "append" ex) g M Q :=
 uL (o:={ cls:=.type "builtin_function_or_method",data:=.fields #[.builtin "list.append",.ref l] }) rfl ⟨rfl,rfl⟩ (·+1) (fun O=>fB _) (fun s R E S r=>let q1:=S.isL hl;bK q1 fun n e=>nH e r) h
theorem co {o value:Expr}{attr:Str}{p pos:Pos}{Q:PQ Flow}(h:W C A (eval value env) g M (fun v g₁ M₁=>W C A (eval o env) g₁ M₁ (fun ov g₂ M₂=>W C A (setAttr ov attr v) g₂ M₂ (fun O=>Q .next))))(hs:swapsWith value (some (.Attribute o attr p)) pos.line env=pure false:=by rfl'):W C A (exec (.Assign [.Attribute o attr p] value pos) env) g M Q:=by
 rw[plainObj_exec_Assign_Attribute _ _ _ _ _ hs]
 exact ak (aP (ak (h.mono fun v O O O h=>ak (by
  rw[assign_Attribute]
  exact ak (aD (h.mono fun ov O O O h=>ak (aP (ak (aD (h.mono fun O O O O h=>lm (ay h)))))))))))
theorem qh {b l:Addr}(h:Sees g M b (sS l)):rE (.ref b) g M:=fun a e=>by cases e;exact (aG _ h (fun o x=>.inr (lx x.1 _ x.2)))
theorem rc {w:World}{E:Value→Shared→Prop}{h:Heap}{gs:Array GenState}{d:Drawn}{t:Nat}{os:OsState}{x:Addr}{name:Str}{v:Value}{Q:Unit→Shared→Prop}(fd:FuncData)(hx:h.get? x=some { cls:=.type "function",data:=.func fd })(hn:typeLookup (.type "function") name=pure none)(hq:∀ h' tk',h'.Ns1 h.objs.size (fun y=>if y=name then some v else none)→h'.get? x=some { cls:=.type "function",dict:=some h.objs.size,data:=.func fd }→(∀ b o,b≠x→h.get? b=some o→h'.get? b=some o)→Q () ⟨h',gs,d,tk',os⟩) :
  wpAny (model prog w) A (setAttr (.ref x) name v) Q E ⟨h,gs,d,t,os⟩:=by
 have hT1:(⟨h,gs,d,t+1,os⟩:Shared).TypeIs (.ref x) "function":=(aG _ hx rfl)
 have hT:(⟨h,gs,d,t,os⟩:Shared).TypeIs (.ref x) "function":=(aG _ hx rfl)
 unfold setAttr
 refine wpAny_bind (wpAny_mkText ?_)
 refine wpAny_bind (wpAny_callSpecial?_slot (name:=Str.ofString "__setattr__") hT1 FF.slot_sa (wpAny_call_entry FF.slot_sa hT1 F.entry_object_setattr ?_ (FF.args_sa _ _ _)))
 exact vV fd hx hn fun h' tk' a b c=>(aG _ rfl (wpAny_pure (hq h' tk' a b c)))
theorem uc {w:World}{E:Value→Shared→Prop}{h:Heap}{gs:Array GenState}{d:Drawn}{t:Nat}{os:OsState}{x D:Addr}{o:Obj}{m:Str→Option Value}{name:Str}{v:Value}{Q:Unit→Shared→Prop}(hx:h.get? x=some o)(hc:o.cls=.type "function")(fd:FuncData)(hf:o.data=.func fd)(hd:o.dict=some D)(hD:h.Ns1 D m){ns:List Str}(hw:Within m ns)(hsz:ns.length≤1000)(hn:typeLookup (.type "function") name=pure none)(hq:∀ h' tk',h'.Ns1 D (fun y=>if y=name then some v else m y)→Heap.SameBut D h h'→Q () ⟨h',gs,d,tk',os⟩):wpAny (model prog w) A (setAttr (.ref x) name v) Q E ⟨h,gs,d,t,os⟩:=by
 have hT1:(⟨h,gs,d,t+1,os⟩:Shared).TypeIs (.ref x) "function":=(aG _ hx hc)
 unfold setAttr
 refine wpAny_bind (wpAny_mkText ?_)
 refine wpAny_bind (wpAny_callSpecial?_slot (name:=Str.ofString "__setattr__") hT1 FF.slot_sa (wpAny_call_entry FF.slot_sa hT1 F.entry_object_setattr ?_ (FF.args_sa _ _ _)))
 exact w8 hx hc fd hf hd hD hw hsz hn fun h' tk' a b=>(aG _ rfl (wpAny_pure (hq h' tk' a b)))
theorem sW {x:Addr}{fd:FuncData}{name:Str}{v:Value}{Q:PQ Unit}(hn:typeLookup (.type "function") name=pure none)(h:∀ D,Q () g ((D,su [(name,v)])::(x,zK fd D)::M)):W C A (setAttr (.ref x) name v) g ((x,pa fd)::M) Q:=f8 fun s S=>by
 refine aL (S.own _ (.head _)) fun O hx q2=>?_;subst q2
 refine rc (h:=s.heap) (gs:=s.gens) (d:=s.drawn) (t:=s.toks) (os:=s.os) fd hx hn fun h' tk' hns hx' keep htk=>?_
 refine ch S.fresh fun f1 f2 f3=>?_
 have S1:St C g ((x,zK fd s.heap.objs.size)::M) { s with heap:=h',toks:=tk' }:=S.move (wr:=[x]) rfl (fun b o hb q=>keep b o (fun e=>hb (by simp[e])) q) (fun b hb=>by have e:=List.mem_singleton.mp hb;subst e;exact ⟨_,.head _⟩) (fun p hp=>by
   rcases List.mem_cons.mp hp with rfl|hp
   ·exact (eQ _ hx' rfl rfl rfl)
   ·refine aL (S.own p (.tail _ hp)) fun o q r=>?_
    have nd:=S.nd
    rw[dC,qn] at nd
    exact (aG o (keep _ _ (fun e=>nd.1 (List.mem_map.mpr (aG p hp e))) q) r)) htk
 refine bC hns fun oD es ep e1 e2 q3=>ch q3 fun e3 e4 e5=>?_;clear q3 hns
 refine (an g _ .refl (S1.adopt (a:=s.heap.objs.size) (P:=su [(name,v)]) f1 (fun p hp=>?_) f3 e1 (cb es ep e2 e3 e4 (fun y=>by rw[e5 y];rfl))) (h _))
 rcases List.mem_cons.mp hp with rfl|hp
 ·exact f2 (x,pa fd) (.head _)
 ·exact f2 p (.tail _ hp)
theorem fF {x D:Addr}{fd:FuncData}{l:List (Str×Value)}{name:Str}{v:Value}{i:Nat}{Q:PQ Unit}(hx:Sees g M x (zK fd D))(hi:M[i]?=some (D,su l))(hl:l.length≤1000)(hn:typeLookup (.type "function") name=pure none)(h:Q () g (M.set i (D,su (bR l name v)))):W C A (setAttr (.ref x) name v) g M Q:=f8 fun s S=>by
 refine dY (S.sees hx) fun o e h1 h2 h3=>?_
 refine uc (h:=s.heap) (gs:=s.gens) (d:=s.drawn) (t:=s.toks) (os:=s.os) e h1 fd h2 h3 (S.ns1 (.own (iu hi))) (o6 l) (by rw[fZ];exact hl) hn fun h' tk' hns hs htk=>?_
 refine bC hns fun oD es ep e1 e2 q4=>ch q4 fun e3 e4 e5=>?_;clear q4 hns
 exact (an g _ .refl (S.set (P':=su (bR l name v)) hi hs e1 (cb es ep e2 e3 e4 (fun y=>by rw[e5 y,eK])) htk) h)
theorem mU {b l:Addr}{xs:Array Value}{i:Nat}{v:Value}{Q:PQ Value}(hb:Fz g b (sS l))(hi:M[i]?=some (l,ai xs))(hsz:xs.size≤sizeLine)(h:Q .none g (M.set i (l,ai (xs.push v)))):W C A (call (.ref b) [v]) g M Q:=fun s S=>by
 refine bT (S.sees (.fz hb)) fun o e h1 h2=>?_
 refine bK (S.isL (.own (iu hi))) fun n hl=>?_
 refine wpAny_call (codeAny_of_tree ?_)
 show wpAny _ A.in1 (callAny (.ref b) ⟨[v],[]⟩) _ _ s
 simp only[callAny]
 refine wpAny_bind (wpAny_load e ?_)
 simp only[h2,h1]
 show wpAny _ A.in1 (checkBoundCall "list.append" ⟨[.ref l,v],[]⟩ >>= fun O=>again (.builtin "list.append" ⟨[.ref l,v],[]⟩)) _ _ s
 refine wpAny_bind ?_
 have hT:s.TypeIs (.ref l) "list":=(aG _ hl rfl)
 have f1:isSubtype (.type "list") (.type "module")=pure false:=by rw[isSubtype_type];kernel_rfl
 have f2:isSubtype (.type "list") (.type "type")=pure false:=by rw[isSubtype_type];kernel_rfl
 have f3:Manifest.varargsMethods.contains "list.append"=false:=by decide +kernel
 have f4:builtinKind "list.append"=some .method:=by decide +kernel
 have hS:∃ sg,Manifest.signature? "list.append"=some sg∧Bind.checkArgs "list.append" { sg with full:=toString (Bind.lastOf "list")++toString "."++toString (Bind.lastOf "list.append") } ⟨[.ref l,v],[]⟩=pure ():=by
  have h1:(List.lookup (String.ofList ['d','n','e','p','p','a'].reverse) Manifest.sig_list).isSome=true:=by kernel_rfl
  refine (aG ((List.lookup (String.ofList ['d','n','e','p','p','a'].reverse) Manifest.sig_list).get h1) ?_ (by kernel_rfl))
  rw[signature?_of (id:="list.append") (n:=['d','n','e','p','p','a']) (o:=['t','s','i','l']) (by kernel_rfl) F.owner_list]
  exact (Option.some_get h1).symm
 refine aL hS fun sg hsg hck=>?_;clear hS
 unfold checkBoundCall
 rw[hsg,f4]
 show wpAny C.M A.in1 (isInstance (.ref l) (.type "module") >>= fun ofModule=>if (Manifest.varargsMethods.contains "list.append"||ofModule)=true then Bind.checkArgs "list.append" { sg with full:=Bind.lastOf "list.append" } ⟨[.ref l,v],[]⟩ else _) _ _ s
 refine wpAny_bind (wpAny_isInstance hT f1 ?_)
 rw[f3,if_neg (by simp)]
 refine wpAny_bind ?_
 show wpAny C.M A.in1 (loadHead l >>= fun o=>pure (match o.data with|.cls _=>true|_=>false)) _ _ s
 refine wpAny_bind (wpAny_loadPart hl (wpAny_pure ?_))
 refine wpAny_bind (wpAny_typeOf hT ?_)
 show wpAny C.M A.in1 (Bind.checkArgs "list.append" { sg with full:=toString (Bind.lastOf "list")++toString "."++toString (Bind.lastOf "list.append") } ⟨[.ref l,v],[]⟩) _ _ s
 rw[hck]
 refine wpAny_pure ?_
 refine wpAny_pure ⟨plainId_quiet (by decide +kernel) _,codeAny_builtin F.entry_list_append ?_⟩
 rw[Around.under_plainId (by decide +kernel) _]
 show wpAny _ _ (updateSeq l (·.push v) >>= fun O=>ret .none) _ _ s
 refine wpAny_bind (wpAny_updateSeq hl rfl (wpAny_pure ?_) hsz (by rw[re];exact mt hsz _))
 exact (an g _ .refl (S.set (n:=s.toks) (P':=ai (xs.push v)) hi (Heap.SameBut.update ..) (Heap.get?_update_self _ hl rfl) ⟨_,Obj.mapSeq_push_plain ..⟩) h)
end
end
section
section
variable {C:Cx}{A:Around}{g:G}{M:be}{env:Env}
theorem mm {mg:Str→Option Value}{c:Addr}{qs:List (Pos×Str)}{pos:Pos}{firstLine:Nat}{name qual:Str}{params:Arguments}{scope:Scope}{body:FuncBody}{cl:List (Str×Addr)}{Q:PQ Value}(hdoc:(match body with|.stmts b=>docOf b|.expr _=>none)=none)(B:Bi mg g)(hg:env.globals=mainGlobals)(hcl:closureFor scope env=pure cl)(hT:lU C c qs)(hc:env.code=.ref c)(hin:(pos,qual)∈qs)(huniq:∀ x∈qs,pos.line=x.1.line→pos.col=x.1.col→x.2=qual)(h:∀ a c' g' ct,G.le g g'→CodeIn g' (.ref c') qual→Q (.ref a) g' ((a,pa (cF name qual params body scope cl ((mg "__name__").getD .none) (.ref c') ct))::M)) :
  W C A (makeFunction name qual params body scope env [] [] [] pos firstLine) g M Q:=by
 rw[makeFunction_eq]
 simp only[List.zip_nil_right,List.filterMap_nil,ri,if_true,pure_bind]
 have tail:∀ ct g₁,G.le g g₁→W C A (do
   let cd ← functionCode env pos firstLine name qual params scope body
   let bs ← builtinsFor env.globals env.builtins
   let pm ← nsGet env.globals "__name__"
   let doc ← match body with
    | .stmts b=>(match docOf b with|some s=>mkText s|none=>pure .none)
    | .expr _=>pure .none
   newObj (.type "function") (.func { name,qualname:=qual,params,body,scope,globals:=env.globals,closure:=cl,closureTuple:=ct,code:=cd,builtins:=bs,defaults:=.none,kwdefaults:=.none,annotations:=none,pyModule:=pm.getD .none,doc:=doc })) g₁ M Q:=by
  intro ct g₁ l₁
  refine ak (i6 hT hc hin huniq fun c' g₂ l₂ hcd=>?_)
  have B₂:=B.mono (l₁.trans l₂)
  refine bT B₂.bi fun bm hbm hne hf=>?_
  rw[hg]
  refine ak fun s S=>?_
  refine dY (S.sees (.fz hf)) fun o ho h1 h2 h3=>?_
  refine wpAny_builtinsFor (S.ns (.fz B₂.m)) hbm hne ho h1 h2 h3 (an g₂ M .refl S ?_)
  refine ak fun s S=>wpAny_nsGet (S.ns (.fz B₂.m)) (an g₂ M .refl S ?_)
  have fin:W C A (newObj (.type "function") (.func { name,qualname:=qual,params,body,scope,globals:=mainGlobals,closure:=cl,closureTuple:=ct,code:=.ref c',builtins:=builtinsNs,defaults:=.none,kwdefaults:=.none,annotations:=none,pyModule:=(mg "__name__").getD .none,doc:=.none })) g₂ M Q:=fun s S =>
   wpAny_newObj_type (an g₂ _ .refl (S.push_own (P:=pa (cF name qual params body scope cl ((mg "__name__").getD .none) (.ref c') ct)) (n:=s.toks) rfl rfl) (h _ c' g₂ ct (l₁.trans l₂) hcd)) (by size_fits)
  cases body with
  | stmts b =>
   dsimp only at hdoc ⊢
   rw[hdoc]
   exact ak (ay fin)
  | expr e=>exact ak (ay fin)
 unfold makeTail
 rw[hcl]
 refine ak (ay ?_)
 cases cl with
 | nil =>
  simp only[ri,if_true]
  exact ak (ay (tail .none g .refl))
 | cons q r =>
  simp only[List.isEmpty_cons,sA,if_false]
  refine ak fun s S=>wpAny_newTextTuple ?_
  refine bT ((S.push_own (P:=fun O=>True) (n:=s.toks) (o:={ cls:=.type "tuple",data:=.seq (List.map (fun x=>Value.ref x.2) ((q::r).mergeSort fun a b=>decide (a.1.cps.toList≤b.1.cps.toList))).toArray }) rfl trivial).freeze) fun x p ga S'=>?_
  exact (an _ M (G.le_put ga) S' (tail _ _ (G.le_put ga)))
theorem vL {mg:Str→Option Value}{c:Addr}{qs:List (Pos×Str)}{pos:Pos}{params:Arguments}{scope:Scope}{qual:Str}{body:Expr}{cl:List (Str×Addr)}{Q:PQ Value}(B:Bi mg g)(hT:lU C c qs)(hcl:closureFor scope env=pure cl)(hc:env.code=.ref c)(hqn:env.qual++"<lambda>"=qual)(hin:(pos,qual)∈qs)(huniq:∀ x∈qs,pos.line=x.1.line→pos.col=x.1.col→x.2=qual)(h:∀ a c' g' ct,G.le g g'→CodeIn g' (.ref c') qual→Q (.ref a) g' ((a,pa (cF "<lambda>" qual params (.expr body) scope cl ((mg "__name__").getD .none) (.ref c') ct))::M))(hg:env.globals=mainGlobals:=by rfl)(hdef:defaultsOf params env=([],[]):=by rfl):W C A (eval (.Lambda params body scope pos) env) g M Q:=fun s S =>
 kla_eval hdef (hqn▸mm rfl B hg hcl hT hc hin huniq h s S)
end
noncomputable abbrev q30:Str:=ax (st 30)++".<locals>."++"<lambda>"
noncomputable abbrev ye:Expr:=tX (aI (aw (st 30)) 7)
structure ItFn (g:G) (f x:Addr) (tag:Value):Prop where
 ex:∃ a1 a2 c' pm ct,Fz g f (fV (cF "<lambda>" q30 (gS ye) (.expr (kD ye)) (gK ye) [("tag",a1),("one",a2)] pm (.ref c') ct))∧CodeIn g (.ref c') q30∧Fz g a1 (ag (some tag))∧Fz g a2 (ag (some (.ref x)))
theorem ItFn.mono {g g':G}{f x:Addr}{tag:Value}(k:G.le g g')(h:ItFn g f x tag):ItFn g' f x tag:=⟨aT h.ex fun a1 a2 c' pm ct q1=>cA q1 fun h1 h2 h3 h4=>(ba a1 a2 c' pm ct (cr (h1.mono k) (h2.mono k) (h3.mono k) (h4.mono k)))⟩
structure Elem (mg:Str→Option Value) (g:G) (x:Addr) (tag:Value) (ad:Addr) (tail:Value) (K:Addr):Prop where
 ex:∃ fd D b f le,Fz g x (zK fd D)∧Fz g D (su [("tag",tag),("attrib",.ref ad),("tail",tail),("kids",.ref K),("append",.ref b),("makeelement",.ref le),("itertext",.ref f)])∧Fz g b (sS K)∧mg "_law_element"=some (.ref le)∧ItFn g f x tag
theorem Elem.mono {mg:Str→Option Value}{g g':G}{x ad K:Addr}{tag tail:Value}(k:G.le g g')(h:Elem mg g x tag ad tail K):Elem mg g' x tag ad tail K :=
 ⟨aT h.ex fun fd D b f le q2=>di q2 fun h1 h2 h3 h4 h5=>(ba fd D b f le (gU (h1.mono k) (h2.mono k) (h3.mono k) h4 (h5.mono k)))⟩
theorem zJ:aw (st 30)=[aI (aw (st 30)) 0,aI (aw (st 30)) 1,aI (aw (st 30)) 2,aI (aw (st 30)) 3,aI (aw (st 30)) 4,aI (aw (st 30)) 5,aI (aw (st 30)) 6,aI (aw (st 30)) 7,aI (aw (st 30)) 8]:=by rfl
section
variable {C:Cx}{A:Around}{g:G}{M:be}{env:Env}{mg mb:Str→Option Value}
theorem jz {a ad:Addr}{tag:Str}{tt:Tok}{kvs:List (Str×Value)}(B:Base C mg mb g)(e:mg (ax (st 30))=some (.ref a))(Fd:Fz g ad (aB C kvs))(hsm:(ad==sysModules)=false)(hh:handedOut ((valueAt kvs "tail").getD .none)=pure ((valueAt kvs "tail").getD .none))(rm:Rm A 1) :
  W C A (call (.ref a) [.str tag tt,.ref ad] []) g M (fun r g' M'=>∃ x K,r=.ref x∧M'=(K,ai #[])::M∧Elem mg g' x (.str tag tt) ad ((valueAt kvs "tail").getD .none) K):=by
 refine aK (B.defs 30 rfl (by decide)) fun a' c e' Da hq=>?_
 have:a'=a:=by rw[e] at e';cases e';rfl
 subst this
 have hT:=hq (by decide)
 refine ic (k:=2) (binds:=[("tag",.str tag tt),("attrib",.ref ad)]) Da B.lim rm.room (fun O=>rfl) rfl fun L as has=>?_
 obtain ⟨a1,a2,rfl⟩:∃ a1 a2,as=[a1,a2]:=by
  match as,has with
  | [x,y],_=>exact (sx x y rfl)
 refine aN (aH (i:=1) (by rfl) (by rfl) ?_)
 refine aN (aX (i:=2) (by rfl) ?_)
 refine W_binds_nil ?_
 rw[zJ]
 refine' bI (M':=(a2,ag none)::(a1,ag (some (.str tag tt)))::(L,aJ [("attrib",.ref ad)])::M) (by rfl') ?_
 refine' fo fun g₁ l₁ F1=>?_
 replace B:=B.mono l₁
 replace Fd:=Fd.mono l₁
 refine' af ?_
 refine aA ?_
 refine vL (mg:=mg) (c:=c) (qs:=qsOf 30) (cl:=[]) B.bi hT rfl rfl rfl (.head _) (fun x hx O O=>by cases hx with|head=>rfl|tail _ h=>cases h with|head=>rfl|tail _ h=>cases h) fun x c1 g₂ ct1 l₂ hcd1=>?_
 refine aH (i:=1) (by rfl) (by rfl) ?_
 generalize cF _ _ _ _ _ _ _ _ _=fd
 refine' bI (M':=(x,pa fd)::(a2,ag (some (.ref x)))::(L,aJ [("attrib",.ref ad)])::M) (by rfl') ?_
 refine' fo fun g₃ l₃ F2=>?_
 replace B:=B.mono (l₂.trans l₃)
 replace Fd:=Fd.mono (l₂.trans l₃)
 replace F1:=F1.mono (l₂.trans l₃)
 clear l₂ l₃ hcd1
 refine' af ?_
 refine co ?_
 refine aU (c:=a1) (by rfl) (.fz F1) ?_
 refine aU (c:=a2) (by rfl) (.fz F2) ?_
 refine sW FF.lk_tag fun D=>?_
 refine' fo fun g₄ l₄ Fx=>?_
 replace B:=B.mono l₄
 replace Fd:=Fd.mono l₄
 replace F1:=F1.mono l₄
 replace F2:=F2.mono l₄
 clear l₄
 refine' af ?_
 refine co ?_
 refine ar (l:=[("attrib",.ref ad)]) (.tail _ (.head _)) (by rfl) ?_
 refine aU (c:=a2) (by rfl) (.fz F2) ?_
 refine fF (.fz Fx) (i:=0) (by rfl) (by show 1≤1000;decide) FF.lk_attrib ?_
 refine' bI (M':=(D,su [("tag",.str tag tt),("attrib",.ref ad)])::(L,aJ [("attrib",.ref ad)])::M) (by rfl') ?_
 refine' af ?_
 refine co ?_
 refine bl ?_
 refine ar (l:=[("attrib",.ref ad)]) (.tail _ (.head _)) (by rfl) ?_
 intro pl
 refine jJ F.slot_dict_get F.type_dict_get (.fz Fd) ?_
 ac_nf
 refine ⟨ap,?_⟩
 show W _ _ (call (.builtin "dict.get") [.ref ad,.str "tail" _]) _ _ _
 refine y4 (.fz Fd) hsm ?_
 generalize htl:(valueAt kvs "tail").getD .none=tl at *
 show W _ _ (eval (Expr.Name _ _) _) _ _ _
 refine aU (c:=a2) (by rfl) (.fz F2) ?_
 refine fF (.fz Fx) (i:=0) (by rfl) (by show 2≤1000;decide) FF.lk_tail ?_
 refine' bI (M':=(D,su [("tag",.str tag tt),("attrib",.ref ad),("tail",tl)])::(L,aJ [("attrib",.ref ad)])::M) (by rfl') ?_
 refine' af ?_
 refine co ?_
 refine et ?_
 ac_nf
 refine ⟨by simp only[List.length];decide,fun K=>?_⟩
 refine aU (c:=a2) (by rfl) (.fz F2) ?_
 refine fF (.fz Fx) (i:=1) (by rfl) (by show 3≤1000;decide) FF.lk_kids ?_
 refine' bI (M':=(K,ai #[])::(D,su [("tag",.str tag tt),("attrib",.ref ad),("tail",tl),("kids",.ref K)])::(L,aJ [("attrib",.ref ad)])::M) (by rfl') ?_
 refine' af ?_
 refine co ?_
 refine du ?_
 refine du ?_
 refine aU (c:=a2) (by rfl) (.fz F2) ?_
 refine eB (.fz Fx) (.own (.tail _ (.head _))) (v:=.ref K) (by rfl) FF.lk_kids rfl ?_
 refine iw (.own (.head _)) fun g₅ b l₅ Fb=>?_
 replace B:=B.mono l₅
 replace Fd:=Fd.mono l₅
 replace F1:=F1.mono l₅
 replace F2:=F2.mono l₅
 replace Fx:=Fx.mono l₅
 clear l₅
 refine aU (c:=a2) (by rfl) (.fz F2) ?_
 refine fF (.fz Fx) (i:=1) (by rfl) (by show 4≤1000;decide) FF.lk_append ?_
 refine' bI (M':=(K,ai #[])::(D,su [("tag",.str tag tt),("attrib",.ref ad),("tail",tl),("kids",.ref K),("append",.ref b)])::(L,aJ [("attrib",.ref ad)])::M) (by rfl') ?_
 refine' af ?_
 refine co ?_
 refine bF B e ?_
 refine aU (c:=a2) (by rfl) (.fz F2) ?_
 refine fF (.fz Fx) (i:=1) (by rfl) (by show 5≤1000;decide) FF.lk_makeelement ?_
 refine' bI (M':=(K,ai #[])::(D,su [("tag",.str tag tt),("attrib",.ref ad),("tail",tl),("kids",.ref K),("append",.ref b),("makeelement",.ref a')])::(L,aJ [("attrib",.ref ad)])::M) (by rfl') ?_
 refine' af ?_
 refine co ?_
 refine iA (mg:=mg) (c:=c) (qs:=qsOf 30) (cl:=[("tag",a1),("one",a2)]) B.bi hT rfl rfl rfl (.tail _ (.head _)) (fun x hx O O=>by cases hx with|head=>rfl|tail _ h=>cases h with|head=>rfl|tail _ h=>cases h) fun f c' g₆ ct l₆ hcd=>?_
 replace F1:=F1.mono l₆
 replace F2:=F2.mono l₆
 replace Fx:=Fx.mono l₆
 replace Fb:=Fb.mono l₆
 refine aU (c:=a2) (by rfl) (.fz F2) ?_
 refine fF (.fz Fx) (i:=2) (by rfl) (by show 6≤1000;decide) FF.lk_itertext ?_
 refine' bI (M':=(f,fV _)::(K,ai #[])::(D,su [("tag",.str tag tt),("attrib",.ref ad),("tail",tl),("kids",.ref K),("append",.ref b),("makeelement",.ref a'),("itertext",.ref f)])::(L,aJ [("attrib",.ref ad)])::M) (by rfl') ?_
 refine' dE fun g₇ l₇ Ff=>?_
 refine' fo fun g₈ l₈ FD=>?_
 have l78:=l₇.trans l₈
 refine' iG (List.Perm.swap _ _ _) ?_
 refine' af ?_
 refine cz ?_
 refine aU (c:=a2) (by rfl) (.fz (F2.mono l78)) ?_
 exact (dB ([_]) _ rfl x K (iPPP rfl rfl ⟨fd,D,b,f,a',Fx.mono l78,FD,Fb.mono l78,e,⟨a1,a2,c',_,ct,Ff.mono l₈,hcd.mono l78,F1.mono l78,F2.mono l78⟩⟩))
end
end
section
section
variable {w:World}{A:Around}{E:Value→Shared→Prop}{s:Shared}
theorem sa {k:Str}{v:Value}(h:(PySem.strKind prog w).is k v=true):∃ t,v=.str k t:=Value.isStrOf_shape h
theorem tU {d:Addr}{kvs:List (Str×Value)}{k:Str}{key v:Value}{Q:Unit→Shared→Prop}(hkey:(PySem.strKind prog w).is k key=true)(hm:s.heap.DictOf (PySem.strKind prog w) d kvs)(hQ:∀ h',h'.DictOf (PySem.strKind prog w) d (stored kvs k v)→Heap.SameBut d s.heap h'→Q () { s with heap:=h' })(hsz:kvs.length≤sizeLine) :
  wpAny (model prog w) A (dictPut d ((PySem.strKind prog w).hash k) key v) Q E s:=by
 refine bC hm fun o es ep ho hc q1=>cA q1 fun hd hk hp hn=>?_;clear q1 hm
 have hes:es.size≤sizeLine:=by (have e1:=hp.length;have e2:es.toList.length=es.size:=by simp);lia
 unfold dictPut
 refine wpAny_bind (wpAny_dictFind_of hkey ho hd hk ?_)
 have hidx:(es.findIdx? fun e=>(PySem.strKind prog w).is k e.key)=kvs.findIdx? fun kv=>decide (kv.1=k):=by
  rw[← hp.findIdx k];obtain ⟨l⟩:=es;simp
 cases hi:es.findIdx? fun e=>(PySem.strKind prog w).is k e.key with
 | some i =>
  refine wpAny_updateDict ho hd (hQ _ (bf _ _ ep (Heap.get?_update_self _ ho (Obj.isFreed_of_dict (Obj.data_mapDict hd _))) (hc.mapDict _) (cr (Obj.data_mapDict hd _) (hk.modify _ _) ?_ ?_)) (Heap.SameBut.update ..))
  ·rw[stored,if_pos (any_of_findIdx_some (hidx▸hi))]
   have hl:(es.toList.findIdx? fun e=>(PySem.strKind prog w).is k e.key)=some i:=by rw[← hi];obtain ⟨l⟩:=es;simp
   have:=hp.modify hn hl v
   obtain ⟨l⟩:=es
   simpa using this
  ·rw[stored,if_pos (any_of_findIdx_some (hidx▸hi)),keys_map_store];exact hn
 | none =>
  have hnot:k ∉ kvs.map (·.1):=not_mem_of_findIdx_none (hidx▸hi)
  have hany:¬ (kvs.any fun kv=>decide (kv.1=k))=true:=by
   rw[List.any_eq_true];refine fun q2=>aL q2 fun kv hkv he=>?_;clear q2
   exact hnot (List.mem_map.mpr (aG kv hkv (of_decide_eq_true he)))
  refine wpAny_updateDictKeys (hz:=hes) ho hd (hQ _ (bf _ _ (ep+1) (Heap.get?_update_self _ ho (Obj.isFreed_of_dict (Obj.data_mapDictKeys hd _))) (hc.mapDictKeys _) (cr (Obj.data_mapDictKeys hd _) (hk.push hkey _) ?_ ?_)) (Heap.SameBut.update ..))
  ·rw[stored,if_neg hany]
   have:=hp.append hkey ((PySem.strKind prog w).hash k) v
   obtain ⟨l⟩:=es
   simpa using this
  ·rw[stored,if_neg hany,ζ18,vW]
   refine (iPPP hn (by simp) ?_)
   intro a ha b hb
   simp only[dC,oH,List.mem_singleton] at hb
   subst hb
   exact fun e=>hnot (e▸ha)
theorem kB {M:Model}{s:Shared}{Q:PUnit→Shared→Prop}(n:Nat)(I:Nat→Shared→Prop)(f:Nat→PUnit→Sem (ForInStep PUnit))(step:∀ i s,i<n→I i s→wpAny M A (f i PUnit.unit) (fun r s'=>r=.yield PUnit.unit∧I (i+1) s') E s)(h0:I 0 s)(fin:∀ s',I n s'→Q PUnit.unit s'):wpAny M A (forIn (List.range n) PUnit.unit f) Q E s:=by
 refine wpAny_forIn_list f (fun rest O s'=>∃ i,i≤n∧rest=List.range' i (n-i)∧I i s') Q ?_ ?_ _ _ (bU 0 (iE _) (by rw[List.range_eq_range'];rfl) h0)
 ·refine fun x rest b s' q3=>bT q3 fun i hi hr hI=>?_;clear q3
  have hlt:i<n:=by
   rcases Nat.lt_or_ge i n with h|h
   ·exact h
   ·rw[Nat.sub_eq_zero_of_le h] at hr;simp at hr
  have e:n-i=(n-(i+1))+1:=by exact ln2 [_,_,_,_] [] (.eq ah (.a am av)) (.eq (.a ah ao) aM) (.Y 1 (.eq (.a am (.a ao av)) aM)) ae (bn hi) (bn (aQ [_,_] [] (.le (.a ah av) am) (.lt ah am) ae hlt))
  rw[e,List.range'_succ] at hr
  injection hr with h1 h2
  subst h1
  refine wpAny_mono (step x s' hlt hI) (fun r s'' h=>?_) fun O O h=>h
  obtain ⟨rfl,h⟩:=h
  exact (bU (x+1) hlt h2 h)
 ·refine fun b s' q4=>bT q4 fun i hi hr hI=>?_;clear q4
  rcases Nat.lt_or_ge i n with h|h
  ·have e:n-i=(n-(i+1))+1:=by exact ln2 [_,_,_,_] [] (.eq ah (.a am av)) (.eq (.a ah ao) aM) (.Y 1 (.eq (.a am (.a ao av)) aM)) ae (bn hi) (bn (aQ [_,_] [] (.le (.a ah av) am) (.lt ah am) ae h))
   rw[e,List.range'_succ] at hr;exact nomatch hr
  ·obtain rfl:=nY hi h
   exact fin _ hI
theorem mn {d o:Addr}{kvs more:List (Str×Value)}{Q:Unit→Shared→Prop}(hdo:d≠o)(hoS:(o==sysModules)=false)(hd:s.heap.DictOf (PySem.strKind prog w) d kvs)(ho:s.heap.DictOf (PySem.strKind prog w) o more)(hQ:∀ h',h'.DictOf (PySem.strKind prog w) d (merged kvs more)→Heap.SameBut d s.heap h'→Q () { s with heap:=h' })(hsz:kvs.length+more.length≤1000) :
  wpAny (model prog w) A (mergeMapping d (.ref o) false) Q E s:=by
 refine bC (id hd) fun od esd epd hod hcd q5=>cA q5 fun hdd hkd hpd hnd=>?_;clear q5
 refine bC (id ho) fun oo eso epo hoo hco q6=>cA q6 fun hdo' hko hpo hno=>?_;clear q6
 have hlen:more.length=eso.size:=by rw[← hpo.length];simp
 have hT:s.TypeIs (.ref o) "dict":=(aG _ hoo hco.1)
 have f1:isSubtype (.type "dict") (.type "dict")=pure true:=by rw[isSubtype_type];kernel_rfl
 unfold mergeMapping
 refine wpAny_bind ?_
 refine wpAny_bind (wpAny_typeOf hT (wpAny_of_eq f1 ?_))
 rw[if_pos rfl]
 refine wpAny_bind (wpAny_specialOf hT F.slot_dict_iter.lookup ?_)
 refine wpAny_bind (wpAny_pure ?_)
 have hb:((some (Value.builtin "dict.__iter__")==some (Value.builtin "dict.__iter__")):Bool)=true:=by simp
 rw[hb]
 dsimp only
 rw[if_neg (by rw[hoS];exact jo)]
 refine wpAny_bind (wpAny_dictEntries hod hdd ?_)
 have step:∀ i s',i<eso.size→(∃ h',s'={ s with heap:=h' }∧h'.DictOf (PySem.strKind prog w) d (merged kvs (more.take i))∧h'.get? o=some oo∧Heap.SameBut d s.heap h') →
   ∀ e,eso[i]?=some e→wpAny (model prog w) A (dictPut d e.hash e.key e.val) (fun O s''=>∃ h',s''={ s with heap:=h' }∧h'.DictOf (PySem.strKind prog w) d (merged kvs (more.take (i+1)))∧h'.get? o=some oo∧Heap.SameBut d s.heap h') E s':=by
  refine fun x s' hlt q7 e he=>dY q7 fun h' q8 hd' hoo' hs'=>?_;clear q7;subst q8
  obtain ⟨kv,hkv⟩:∃ kv,more[x]?=some kv:=⟨more[x]'(by rw[hlen];exact hlt),List.getElem?_eq_getElem _⟩
  obtain ⟨k,v⟩:=kv
  obtain rfl:eso[x]=e:=by rw[Array.getElem?_eq_getElem hlt] at he;exact Option.some.inj he
  refine dI (hpo.get? (e:=eso[x]) (by simp[hlt]) hkv) fun hkey hval=>?_
  refine aL (hko eso[x] (Array.getElem_mem hlt)) fun k' hkey' hhash=>?_
  obtain rfl:k'=k:=(PySem.strKind prog w).inj _ _ _ hkey' hkey
  rw[hhash,hval]
  have hmx:(merged kvs (more.take x)).length≤sizeLine:=by
   have e1:=merged_length_le kvs (more.take x)
   have e2:(more.take x).length≤more.length:=by rw[js];exact qO _ _
   exact bw (bw e1 (ln2 [_,_,_] [] (.le (.a ah am) bg) (.le (.a ah ao) bg) (.le am ao) ae hsz e2)) (show (1000:Nat)≤sizeLine by decide)
  refine tU hkey hd' (fun h'' hd'' hs''=>?_) hmx
  exact (eQ h'' rfl (by rw[merged_take_succ kvs more x (_,v) hkv];exact hd'') ((hs''.2 o (Ne.symm hdo)).trans hoo') (hs'.trans hs''))
 have h0:∃ h',s={ s with heap:=h' }∧h'.DictOf (PySem.strKind prog w) d (merged kvs (more.take 0))∧h'.get? o=some oo∧Heap.SameBut d s.heap h' :=
  (eQ s.heap rfl (by simpa [merged] using hd) hoo (Heap.SameBut.refl _ _))
 have hend:∀ s',(∃ h',s'={ s with heap:=h' }∧h'.DictOf (PySem.strKind prog w) d (merged kvs (more.take eso.size))∧h'.get? o=some oo∧Heap.SameBut d s.heap h')→Q () s':=by
  refine fun s' q9=>dY q9 fun h' q10 h1 h2 h3=>?_;clear q9;subst q10
  rw[← hlen,mu] at h1
  exact hQ h' h1 h3
 have hns:∀ e∈eso,∃ k t,e.key=.str k t:=fun e he=>by
  refine aL (hko e he) fun k hk O=>?_
  refine bK (sa hk) fun t ht=>?_
  exact (sx k t ht)
 generalize hI:(fun i s'=>∃ h',s'={ s with heap:=h' }∧h'.DictOf (PySem.strKind prog w) d (merged kvs (more.take i))∧h'.get? o=some oo∧Heap.SameBut d s.heap h')=I at *
 have hIget:∀ i s',I i s'→s'.heap.get? o=some oo:=by
  subst hI;refine fun i s' q11=>dY q11 fun h' q12 O h O=>?_;clear q11;subst q12;exact h
 have step':∀ i s',i<eso.size→I i s'→∀ e,eso[i]?=some e→wpAny (model prog w) A (dictPut d e.hash e.key e.val) (fun O s''=>I (i+1) s'') E s':=by
  subst hI;exact step
 have h0':I 0 s:=by subst hI;exact h0
 have hend':∀ s',I eso.size s'→Q () s':=by subst hI;exact hend
 split
 ·refine wpAny_bind (wpAny_dictEntries hoo hdo' ?_)
  refine wpAny_bind (wpAny_of_eq (a:=PUnit.unit) ?_ ?_)
  ·rw[← Array.forIn_toList]
   refine forIn_yield_id _ fun e he c=>?_
   refine vO (hns e (Array.mem_toList_iff.mp he)) fun k t h=>?_
   rw[h]
  refine wpAny_bind (wpAny_dictEntries hoo hdo' ?_)
  refine wpAny_bind (wpAny_dictEpoch hoo hdo' ?_)
  refine wpAny_bind ?_
  refine kB eso.size I _ ?_ h0' (fun s' h=>wpAny_pure (hend' s' h))
  intro i s' hi hI
  refine wpAny_bind (wpAny_dictEntries (hIget i s' hI) hdo' ?_)
  rw[Array.getElem?_eq_getElem hi]
  refine wpAny_bind (wpAny_holding ?_)
  rw[if_neg jo]
  refine wpAny_mono (step' i s' hi hI _ (Array.getElem?_eq_getElem hi)) (fun O s'' h=>?_) fun O O h=>h
  refine wpAny_bind (wpAny_dictEpoch (hIget _ _ h) hdo' ?_)
  rw[if_neg (by simp)]
  exact wpAny_pure ⟨rfl,h⟩
 ·refine wpAny_bind (wpAny_dictEntries hoo hdo' ?_)
  refine wpAny_bind (wpAny_dictEpoch hoo hdo' ?_)
  refine wpAny_bind ?_
  refine kB eso.size I _ ?_ h0' (fun s' h=>wpAny_pure (hend' s' h))
  intro i s' hi hI
  refine wpAny_bind (wpAny_dictEntries (hIget i s' hI) hdo' ?_)
  rw[Array.getElem?_eq_getElem hi]
  refine wpAny_bind (wpAny_holding ?_)
  rw[if_neg jo]
  refine wpAny_mono (step' i s' hi hI _ (Array.getElem?_eq_getElem hi)) (fun O s'' h=>?_) fun O O h=>h
  refine wpAny_bind (wpAny_dictEpoch (hIget _ _ h) hdo' ?_)
  rw[if_neg (by simp)]
  exact wpAny_pure ⟨rfl,h⟩
end
section
variable {C:Cx}{A:Around}{g:G}{M:be}{env:Env}
theorem iU {d o:Addr}{kvs more:List (Str×Value)}{i:Nat}{Q:PQ Unit}(hi:M[i]?=some (d,aB C kvs))(he:Sees g M o (aB C more))(hne:d≠o)(hs:(o==sysModules)=false)(hsz:kvs.length+more.length≤1000)(h:Q () g (M.set i (d,aB C (merged kvs more)))):W C A (mergeMapping d (.ref o) false) g M Q:=fun s S=>by
 have m:=S.dict (.own (iu hi))
 refine mn hne hs m (S.dict he) (fun h' hd hs'=>?_) hsz
 refine aL (Heap.dictOf_iff.mp hd) fun o eo p=>?_
 exact (an g _ .refl (S.set (P':=aB C (merged kvs more)) (n:=s.toks) hi hs' eo p) h)
theorem Sees.tl {g:G}{M:be}{x:Addr×OP}{a:Addr}{P:OP}(h:Sees g M a P):Sees g (x::M) a P:=h.elim .inl fun q13=>aL q13 fun P' m k=>.inr (aG P' (.tail _ m) k)
theorem lP {g:G}{M:be}{d o:Addr}{P R:OP}{s:Shared}(S:St C g ((d,P)::M) s)(h:Sees g M o R):d≠o:=by
 rintro rfl
 rcases h with ⟨o',e,_⟩|⟨P',h,_⟩
 ·have:=S.sep _ (.head _)
  rw[e] at this
  cases this
 ·have:=S.nd
  rw[dC,qn] at this
  exact this.1 (List.mem_map.mpr (aG _ h rfl))
theorem yb {e1 e2:Expr}{pos:Pos}{Pm:OP}{Q:PQ Value}(hm:Fz g mainGlobals Pm)(h:∀ d,(d==sysModules)=false→W C A (eval e1 env) g ((d,aB C [])::M) (fun v1 g1 M1=>∃ o1 kv1 M1',v1=.ref o1∧M1=(d,aB C [])::M1'∧Sees g1 M1' o1 (aB C kv1)∧(o1==sysModules)=false∧kv1.length≤100 ∧
   W C A (eval e2 env) g1 ((d,aB C (merged [] kv1))::M1') (fun v2 g2 M2=>∃ o2 kv2 M2',v2=.ref o2∧M2=(d,aB C (merged [] kv1))::M2'∧Sees g2 M2' o2 (aB C kv2)∧(o2==sysModules)=false∧kv2.length≤100 ∧
    Q (.ref d) g2 ((d,aB C (merged (merged [] kv1) kv2))::M2')))):W C A (eval (.Dict [none,none] [e1,e2] pos) env) g M Q:=by
 rw[arm_eval_Dict]
 refine ak (aP ?_)
 unfold dictDisplay
 show W C A (bind (forIn [(none,do let x ← eval e1 env;standAt pos;pure x),(none,do let x ← eval e2 env;standAt pos;pure x)] _ _) _) _ _ _
 refine ak ?_
 rw[nX]
 refine ak ?_
 refine ak ?_
 refine ay ?_
 refine ak ?_
 refine z4 fun hnd=>?_
 intro s S
 refine wpAny_alloc ?_
 have S₁:=S.push_own (P:=aB C []) (n:=s.toks) (o:={ cls:=.type "dict",data:=.dict #[] }) rfl (by
  refine aL (Heap.dictOf_iff.mp (Heap.DictOf.new (knd:=strKind prog C.w) s.heap)) fun o e p=>?_
  rw[Heap.get?_push_size _ rfl] at e
  cases e
  exact p)
 have hlow:=i0 S hm
 refine (an g _ .refl S₁ ?_)
 generalize hd:s.heap.objs.size=d at *
 refine ak (aD ?_)
 refine ak ?_
 refine (h d hlow).mono ?_
 refine fun O g1 M1 l1 q14=>bC q14 fun o1 kv1 M1' q15 q16 q17=>cA q17 fun hs1 hn1 hl1 h2=>?_;clear q14 q17;subst q15;subst q16
 refine ak (aP ?_)
 refine ay ?_
 refine ak ?_
 refine jp (eY (jp (aD ?_)))
 intro s S
 have hne1:=lP S hs1
 refine iU (i:=0) (M:=(d,aB C [])::M1') rfl hs1.tl hne1 hn1 (by simp only[lj];exact aQ [_] [] (.le (.a b6 ah) bg) (.le ah dJ) ae hl1) ?_ s S
 refine ay ?_
 dsimp only
 rw[nX]
 refine ak ?_
 refine ak ?_
 refine ay ?_
 refine ak ?_
 refine ay ?_
 refine ak (aD ?_)
 refine ak ?_
 refine h2.mono ?_
 refine fun O g2 M2 l2 q18=>bC q18 fun o2 kv2 M2' q19 q20 q21=>cA q21 fun hs2 hn2 hl2 q=>?_;clear q18 q21;subst q19;subst q20
 refine ak (aP ?_)
 refine ay ?_
 refine ak ?_
 refine jp (eY (jp (aD ?_)))
 intro s S
 have hne2:=lP S hs2
 have hl3:=merged_length_le [] kv1
 refine iU (i:=0) (M:=(d,aB C (merged [] kv1))::M2') rfl hs2.tl hne2 hn2 (by simp only[lj] at hl3;exact cZ [_,_,_] [] (.le (.a ah am) bg) (.le ao dJ) (.le am dJ) (.le ah (.a b6 ao)) ae hl1 hl2 hl3) ?_ s S
 refine ay ?_
 dsimp only
 rw[qy]
 refine ay ?_
 refine ak ?_
 refine ay ?_
 exact ay q
end
end
section
noncomputable def wn (pm:Value)(T c:Addr):FuncData:={ fdOf 2 pm c with defaults:=.ref T }
structure SubAt (mg:Str→Option Value) (g:G):Prop where
 ex:∃ a c pm T u,mg (ax (st 2))=some (.ref a)∧Fz g a (fV (wn pm T c))∧CodeIn g (.ref c) (ax (st 2))∧Fz g T (fun o=>o.cls=.type "tuple"∧o.data=.seq #[u])
theorem SubAt.mono {mg:Str→Option Value}{g g':G}(k:G.le g g')(h:SubAt mg g):SubAt mg g':=⟨aT h.ex fun a c pm T u q1=>cA q1 fun h1 h2 h3 h4=>(ba a c pm T u (cr h1 (h2.mono k) (h3.mono k) (h4.mono k)))⟩
section
variable {C:Cx}{A:Around}{g:G}{M:be}{env:Env}
theorem xb (pm:Value)(T c:Addr)(u p t ad lo hi:Value):∃ k,bindArgs (wn pm T c) ⟨[p,t,ad],[("low",lo),("high",hi)]⟩=(seqItems? (.ref T) >>= k) ∧
  k (some #[u])=(alloc { cls:=.type "dict",data:=.dict #[] } >>= fun d=>(forIn [(("low":Str),lo),(("high":Str),hi)] PUnit.unit fun (x:Str×Value) (_:PUnit)=>(nsSet d x.1 x.2 >>= fun O=>pure (ForInStep.yield PUnit.unit):Sem (ForInStep PUnit))) >>= fun O=>(pure [("parent",p),("tag",t),("attrib",ad),("extra",.ref d)]:Sem (List (Str×Value)))):=by
 exact (aG _ rfl rfl)
theorem nD {d:Addr}{es:List DictEntry}{n i:Nat}{k:Str}{v:Value}{Q:PQ Unit}(hi:M[i]?=some (d,(·=dictOf es n)))(hs:∀ e∈es,e.key.isStr k=false)(hr:∀ e∈es,e.refKey=false)(h:∀ t,Q () g (M.set i (d,(·=dictOf (es++[⟨PyData.keyHash C.w.params k,.str k t,v⟩]) (n+1))))):W C A (nsSet d k v) g M Q:=fun s S=>by
 have e1:es.any (·.key.isStr k)=false:=by
  cases q:es.any (·.key.isStr k) with
  | false=>rfl
  | true=>refine aL (List.any_eq_true.mp q) fun e he z=>?_;rw[hs e he] at z;cases z
 have e2:es.any (·.refKey)=false:=by
  cases q:es.any (·.refKey) with
  | false=>rfl
  | true=>refine aL (List.any_eq_true.mp q) fun e he z=>?_;rw[hr e he] at z;cases z
 have e:Obj.putName k (PyData.keyHash C.w.params k) (.str k s.toks) v (dictOf es n)=dictOf (es++[⟨PyData.keyHash C.w.params k,.str k s.toks,v⟩]) (n+1):=by
  rw[putName_dict,putL_new hs]
  show dictOf _ (if es.any (·.key.isStr k) then n else n+1)=_
  rw[e1,if_neg jo]
 refine aL (S.own _ (iu hi)) fun o D q2=>?_;subst q2
 have c:aRefKeyMayBeTheName k es.toArray=false:=by
  rw[aRefKeyMayBeTheName_at,← Array.any_toList,← Array.any_toList]
  show (!es.any (·.key.isStr k)&&es.any (·.refKey))=false
  rw[e2,Bool.and_false]
 unfold nsSet
 refine wpAny_bind (wpAny_bind (wpAny_askSetting (wpAny_pure (wpAny_bind (wpAny_mkText (wpAny_bind (wpAny_loadPart D ?_)))))))
 dsimp only
 rw[c]
 refine wpAny_updatePart D ?_
 have ef:(Obj.putName k (PyData.keyHash C.w.params k) (.str k s.toks) v (dictOf es n)).isFreed=false:=by rw[e];rfl
 have S':=S.set (P':=(·=dictOf (es++[⟨PyData.keyHash C.w.params k,.str k s.toks,v⟩]) (n+1))) (n:=s.toks+1) hi (Heap.SameBut.update ..) (Heap.get?_update_self _ D ef) e
 exact (an g _ .refl S' (h _))
theorem Bm {w:World}{k1 k2:Str}{t1 t2:Tok}{v1 v2:Value}{n:Nat}(hne:k1≠k2):(dictOf [⟨PyData.keyHash w.params k1,.str k1 t1,v1⟩,⟨PyData.keyHash w.params k2,.str k2 t2,v2⟩] n).IsDictOf (strKind prog w) [(k1,v1),(k2,v2)] :=
 (cb _ n (iPPP rfl rfl rfl) rfl (fun e he=>by
  have he:=List.mem_toArray.mp he
  rcases List.mem_cons.mp he with rfl|he
  ·exact (aG k1 (strKind_is prog w k1 t1) rfl)
  ·obtain rfl:=List.mem_singleton.mp he
   exact (aG k2 (strKind_is prog w k2 t2) rfl)) (jb (Pairs.cons (strKind_is prog w k1 t1) rfl (Pairs.cons (strKind_is prog w k2 t2) rfl Pairs.nil)) (by
  show [k1,k2].Nodup
  simp[hne])))
theorem vJ {mg mb:Str→Option Value}{a:Addr}{p t ad lo hi:Value}{Q:PQ Value}(Sb:SubAt mg g)(B:Base C mg mb g)(e:mg (ax (st 2))=some (.ref a))(room:A.depth<recursionLimit)(h:∀ L d c,(d==sysModules)=false→W C (A.deeper (cV (bB (st 2)) L mainGlobals [] (ax (st 2)++".<locals>.") (some a) (.ref c) builtinsNs)) (execs (aw (st 2)) (cV (bB (st 2)) L mainGlobals [] (ax (st 2)++".<locals>.") (some a) (.ref c) builtinsNs))
   g ((L,aJ [("parent",p),("tag",t),("attrib",ad),("extra",.ref d)])::(d,aB C [("low",lo),("high",hi)])::M) (fun f g₃ M₃=>∃ X M₄,M₃=X++M₄∧Q (match f with|.ret v=>v|_=>.none) g₃ M₄)) :
  W C A (call (.ref a) [p,t,ad] [("low",lo),("high",hi)]) g M Q:=by
 refine aT Sb.ex fun a' c pm T u q3=>cA q3 fun h1 h2 h3 h4=>?_;clear q3
 have:a'=a:=by rw[e] at h1;cases h1;rfl
 subst this
 refine kL (.inl h2) rfl h3 B.lim room ?_ rfl rfl
 refine aL (xb pm T c u p t ad lo hi) fun k e1 e2=>?_
 rw[e1]
 refine ak fun s S=>?_
 refine bT (S.sees (.fz h4)) fun o ho hcl hd=>?_
 refine wpAny_seqItems ho hd (an g M .refl S ?_)
 show W _ _ (k (some #[u])) _ _ _
 rw[e2]
 refine ak fun s S=>wpAny_alloc ?_
 have S₁:=S.push_own (P:=(·=dictOf [] 0)) (n:=s.toks) (o:={ cls:=.type "dict",data:=.dict #[] }) rfl rfl
 have hlow:=i0 S B.m
 refine (an g _ .refl S₁ ?_)
 generalize hd:s.heap.objs.size=d at *
 refine ak ?_
 rw[nX]
 refine ak ?_
 refine ak (nD (i:=0) rfl (fun O h=>nomatch h) (fun O h=>nomatch h) fun t1=>?_)
 refine ay ?_
 dsimp only
 rw[nX]
 refine ak ?_
 refine ak (nD (i:=0) rfl (fun e he=>?_) (fun e he=>?_) fun t2=>?_)
 ·obtain rfl:=List.mem_singleton.mp he
  rfl
 ·obtain rfl:=List.mem_singleton.mp he
  rfl
 refine ay ?_
 dsimp only
 rw[qy]
 refine ay ?_
 refine ay ?_
 refine gH fun L as hl'=>?_
 obtain rfl:as=[]:=List.length_eq_zero_iff.mp hl'
 show W _ _ _ g ((L,aJ [])::(d,_)::M) _
 refine rU (i:=1) (P':=aB C [("low",lo),("high",hi)]) rfl (fun o ho=>by subst ho;exact Bm (by decide)) ?_
 refine aN (aX (i:=0) rfl ?_)
 refine aN (aX (i:=0) rfl ?_)
 refine aN (aX (i:=0) rfl ?_)
 refine aN (aX (i:=0) rfl ?_)
 refine W_binds_nil ?_
 exact h L d c hlow
end
end
section
theorem Bq:aw (st 2)=[aI (aw (st 2)) 0,aI (aw (st 2)) 1,aI (aw (st 2)) 2,aI (aw (st 2)) 3]:=by rfl
theorem sN {l0 tl lo hi:Value}:merged (merged [] [(("low":Str),l0),("tail",tl)]) [("low",lo),("high",hi)]=[(("low":Str),lo),("tail",tl),("high",hi)]:=by rfl
theorem sb {tl lo hi:Value}:valueAt [(("low":Str),lo),("tail",tl),("high",hi)] "tail"=some tl:=by rfl
section
variable {C:Cx}{A:Around}{g:G}{M:be}{env:Env}{mg mb:Str→Option Value}
theorem qD {a x pad K ad:Addr}{ptag ptail l0 tl lo hi:Value}{tag:Str}{tt:Tok}{xs:Array Value}{i:Nat}(B:Base C mg mb g)(Sb:SubAt mg g)(e:mg (ax (st 2))=some (.ref a))(P:Elem mg g x ptag pad ptail K)(hK:M[i]?=some (K,ai xs))(hxs:xs.size≤sizeLine)(Fd:Fz g ad (aB C [("low",l0),("tail",tl)]))(hsm:(ad==sysModules)=false)(hh:handedOut tl=pure tl)(rm:Rm A 8) :
  W C A (call (.ref a) [.ref x,.str tag tt,.ref ad] [("low",lo),("high",hi)]) g M (fun r g' M'=>∃ y Ky d,r=.ref y∧M'=(Ky,ai #[])::M.set i (K,ai (xs.push (.ref y))) ∧
   Elem mg g' y (.str tag tt) d tl Ky∧Fz g' d (aB C [("low",lo),("tail",tl),("high",hi)])∧(d==sysModules)=false):=by
 refine vJ Sb B e rm.room fun L d c hd=>?_
 have rm1:Rm (A.deeper (cV (bB (st 2)) L mainGlobals [] (ax (st 2)++".<locals>.") (some a) (.ref c) builtinsNs)) 7:=rm.deeper
 generalize A.deeper _=A1 at *
 rw[Bq]
 refine' af ?_
 refine aA ?_
 refine yb B.m fun d1 hd1=>?_
 refine ar (.tail _ (.head _)) (by rfl) ?_
 refine (bf ad _ _ rfl rfl (cr (.fz Fd) hsm (by simp only[List.length];decide) ?_))
 refine ar (.tail _ (.head _)) (by rfl) ?_
 refine (bf d _ _ rfl rfl (cr (.own (.tail _ (.head _))) hd (by simp only[List.length];decide) ?_))
 rw[sN]
 refine aX (i:=1) (by rfl) ?_
 refine' bI (M':=(d1,aB C [("low",lo),("tail",tl),("high",hi)])::(L,aJ [("parent",.ref x),("tag",.str tag tt),("attrib",.ref d1),("extra",.ref d)])::(d,aB C [("low",lo),("high",hi)])::M) (by rfl') ?_
 refine' yY ?_
 refine' dE fun g1 l1 F1=>?_
 replace B:=B.mono l1
 replace P:=P.mono l1
 clear Fd l1 Sb
 refine aT P.ex fun fd D b f le q1=>di q1 fun p1 p2 p3 p4 p5=>?_;clear q1
 refine' af ?_
 refine aA ?_
 refine bl ?_
 refine ar (.head _) (by rfl) ?_
 intro pl
 refine gB (.fz p1) (.fz p2) (v:=.ref le) (by rfl) FF.lk_makeelement rfl ?_
 refine aK (B.defs 30 rfl (by decide)) fun le' cc ele De O=>?_
 have:le'=le:=by have h4:mg (ax (st 30))=_:=p4;rw[h4] at ele;cases ele;rfl
 subst this
 ac_nf
 refine ⟨ek (.fz De.1.choose_spec),?_⟩
 show W _ _ (call (.ref le') [.str tag tt,.ref d1] []) _ _ _
 refine (jz B p4 F1 hd1 (by rw[sb];exact hh) rm1.le).mono ?_
 refine fun O g2 O l2 q2=>aK q2 fun y Ky q3 q4 P2=>?_;clear q2;subst q3;subst q4
 rw[sb] at P2
 replace P2:Elem mg g2 y (.str tag tt) d1 tl Ky:=P2
 replace F1:=F1.mono l2
 replace p1:=p1.mono l2
 replace p2:=p2.mono l2
 replace p3:=p3.mono l2
 clear De B p5 l2
 refine aX (i:=1) (by rfl) ?_
 refine' bI (M':=(Ky,ai #[])::(L,aJ [("parent",.ref x),("tag",.str tag tt),("attrib",.ref d1),("extra",.ref d),("element",.ref y)])::M) (by rfl') ?_
 refine' af ?_
 refine ld ?_
 refine bl ?_
 refine ar (.tail _ (.head _)) (by rfl) ?_
 intro pl
 refine gB (.fz p1) (.fz p2) (v:=.ref b) (by rfl) FF.lk_append rfl ?_
 ac_nf
 refine ⟨qh (.fz p3),?_⟩
 show W _ _ (call (.ref b) [.ref y] []) _ _ _
 refine mU p3 (i:=i+2) (hK) hxs ?_
 refine ⟨fun O h=>Value.noConfusion h,?_⟩
 refine' bI (M':=(Ky,ai #[])::(L,aJ [("parent",.ref x),("tag",.str tag tt),("attrib",.ref d1),("extra",.ref d),("element",.ref y)])::M.set i (K,ai (xs.push (.ref y)))) (by rfl') ?_
 refine' iG (List.Perm.swap _ _ _) ?_
 refine' af ?_
 refine cz ?_
 refine ar (.head _) (by rfl) ?_
 exact (dB ([_]) _ rfl y Ky (dy d1 rfl rfl P2 F1 hd1))
end
end
section
open Builtin Builtin.ObjectAttr
namespace FH
theorem kind:builtinKind "hasattr"=none:=by decide +kernel
theorem plain:plainId "hasattr"=true:=by decide +kernel
theorem entry:entryFor table "hasattr"=some Builtin.«hasattr»:=entryFor_of_tree (by kernel_rfl)
theorem args (a b:Value):argsOk "hasattr" ⟨[a,b],[]⟩:=by unfold argsOk;kernel_rfl
theorem ltag:typeLookup (.type "list") "tag"=pure none:=by rw[typeLookup_type,builtinLookup_eq_fast];kernel_rfl
end FH
section
variable {C:Cx}{A:Around}{g:G}{M:be}{env:Env}{w:World}{E:Value→Shared→Prop}
theorem BD {h:Heap}{gs:Array GenState}{d:Drawn}{t:Nat}{os:OsState}{x D:Addr}{o:Obj}{name:Str}{v:Value}{m:Str→Option Value}{tk:Tok}{Q:Value→Shared→Prop}(hx:h.get? x=some o)(hc:o.cls=.type "function")(fd:FuncData)(hf:o.data=.func fd)(hd:o.dict=some D)(hD:h.Ns D m)(hn:typeLookup (.type "function") name=pure none)(hv:m name=some v)(hh:handedOut v=pure v)(hq:Q v ⟨h,gs,d,t,os⟩):wpAny (model prog w) A (getAttrBy (.ref x) (.str name tk) false) Q E ⟨h,gs,d,t,os⟩:=by
 have hT:(⟨h,gs,d,t,os⟩:Shared).TypeIs (.ref x) "function":=(aG _ hx hc)
 have f1:=FF.slot_ga.lookup
 have f2:=FF.lk_getattr
 have f4:=FF.slot_ga.bind (.ref x)
 repeat (any_goals (first|assumption|(rw[if_neg (show ¬ (true&&onTheHeap (Value.builtin "object.__getattribute__"))=true by decide)])|wp_step))
 refine codeAny_call_builtin FF.slot_ga.plain F.entry_object_getattribute (FF.slot_ga.check _ _ _ _ _ _ _ _ hT (FF.args_ga _ _) (rW hx hc fd hf hd hD hn hv ?_))
 repeat (any_goals (first|assumption|wp_step))
theorem yz {x D:Addr}{fd:FuncData}{l:List (Str×Value)}{v:Value}{tk:Tok}{Q:PQ Value}(hx:Sees g M x (zK fd D))(hD:Sees g M D (su l))(hv:lk l "tag"=some v)(hh:handedOut v=pure v)(h:Q (.bool true) g M) :
  W C A (call (.builtin "hasattr") [.ref x,.str "tag" tk]) g M Q:=fun s S=>by
 refine dY (S.sees hx) fun o e h1 h2 h3=>?_
 have hT:s.TypeIs (.ref x) "function":=(aG _ e h1)
 refine call_function_tree FH.kind FH.plain FH.entry (FH.args _ _) ?_
 have f5:=FF.lk_tag
 have f6:isSubtype (.type "function") (.type "module")=pure false:=by rw[isSubtype_type];kernel_rfl
 obtain ⟨hp,gs,d,tk',os⟩:=s
 unfold Builtin.«hasattr» getAttrBy?
 repeat (any_goals (first|assumption|(refine BD e h1 fd h2 h3 (S.ns1 hD).ns f5 hv hh ?_)|wp_step))
 exact (an g M .refl S h)
theorem qj {s:Shared}{a:Addr}{xs:Array Value}{k:Nat}{tk:Tok}{Q:Value→Shared→Prop}(hx:s.heap.get? a=some { cls:=.type "list",data:=.seq xs k })(hA:A.handled=none)(h:∀ h' tk e,Heap.NewExcOf s.heap h' e "AttributeError"→E (.ref e) { s with heap:=h',toks:=tk }) :
  wpAny (model prog w) A (getAttrBy (.ref a) (.str "tag" tk) false) Q E s:=by
 have hsz:Str.length "tag"+100≤sizeLine:=by decide
 obtain ⟨hp,g,d,tk',os⟩:=s
 have hT:∀ tk',(⟨hp,g,d,tk',os⟩:Shared).TypeIs (.ref a) "list":=fun O=>(aG _ hx rfl)
 have f1:=sub_AttributeError
 have f3:=F.slot_list_getattribute.lookup
 have f4:=F.slot_list_getattribute.bind (.ref a)
 have f5:=am_list_getattr_none
 unfold getAttrBy
 repeat (any_goals (first|assumption|exact hT _|((with_reducible show wpAny _ _ (call (Value.builtin "list.__getattribute__") _ _) _ _ _);refine call_meets F.slot_list_getattribute (hT _) am_entry_list_getattribute (F.args_list_getattribute_2 _ _) (meets_getattribute_miss_list a xs k #[] "tag" _ FH.ltag (by decide) hsz) (iPPP hx hA (fun h' tk e hx'=>?_)))|wp_step))
 refine vO hx'.there fun t' u' he=>?_
 show wpAny _ _ (getattributeRaised _ _ _ _ _ _ _) _ _ _
 unfold getattributeRaised
 repeat (any_goals (first|assumption|wp_step))
 exact h _ _ _ hx'.of
theorem vI {l:Addr}{xs:Array Value}{tk:Tok}{Q:PQ Value}(hl:Sees g M l (ai xs))(hA:A.handled=none)(h:Q (.bool false) g M) :
  W C A (call (.builtin "hasattr") [.ref l,.str "tag" tk]) g M Q:=f8 fun s S=>by
 refine bK (S.isL hl) fun n hx=>?_
 have hT:s.TypeIs (.ref l) "list":=(aG _ hx rfl)
 refine call_function_tree FH.kind FH.plain FH.entry (FH.args _ _) ?_
 have f5:=FH.ltag
 have f6:isSubtype (.type "list") (.type "module")=pure false:=by rw[isSubtype_type];kernel_rfl
 have f7:=sub_AttributeError
 obtain ⟨hp,gs,d,tk',os⟩:=s
 unfold Builtin.«hasattr» getAttrBy?
 repeat (any_goals (first|assumption|(refine qj hx hA (fun h' tk2 e hN=>?_))|wp_step))
 refine bc hN.there fun ob vs he hc hd hv=>?_
 refine wpAny_loadPart he (wpAny_pure ?_)
 rw[hc]
 refine wpAny_of_eq f7 ?_
 rw[if_pos rfl]
 refine wpAny_pure ?_
 rw[if_neg (by decide)]
 refine wpAny_pure ?_
 intro hn
 exact (an g M .refl (S.move (wr:=[]) rfl (fun b o O q=>hN.keeps b o q) (fun b hb=>nomatch hb) (fun p hp=>by refine aL (S.own p hp) fun o q r=>?_;exact (aG o (hN.keeps _ _ q) r)) hn) h)
end
end
section
section
variable {C:Cx}{A:Around}{g:G}{M:be}{env:Env}{mg mb:Str→Option Value}
theorem xP {a x:Addr}{r:Bool}(B:Base C mg mb g)(e:mg (ax (st 1))=some (.ref a))(rm:Rm A 2)(hr:∀ {A':Around}{M':be}{tk:Tok}{Q:PQ Value},Rm A' 1→(∃ p,M'=p::M)→Q (.bool r) g M'→W C A' (call (.builtin "hasattr") [.ref x,.str "tag" tk]) g M' Q) :
  W C A (call (.ref a) [.ref x] []) g M (fun v g' M'=>v=.bool r∧M'=M):=by
 refine aK (B.defs 1 rfl (by decide)) fun a' c e' Da O=>?_
 have:a'=a:=by rw[e] at e';cases e';rfl
 subst this
 refine ft (binds:=[("element",.ref x)]) Da B.lim rm.room (fun O=>rfl) rfl fun L=>?_
 have rm1:Rm (A.deeper (cV (bB (st 1)) L mainGlobals [] (ax (st 1)++".<locals>.") (some a') (.ref c) builtinsNs)) 1:=rm.deeper
 generalize A.deeper _=A1 at *
 refine af ?_
 refine cz ?_
 refine az ?_
 refine bL B rfl ?_
 refine aq ?_
 refine au ?_
 refine ab ?_
 refine ar (l:=[("element",.ref x)]) (.head _) (by rfl) ?_
 refine ab ?_
 refine' eA fun tk O=>?_
 refine aj ?_
 refine ⟨ap,?_⟩
 show W _ _ (call (.builtin "hasattr") [.ref x,.str "tag" tk]) _ _ _
 refine hr rm1 ⟨_,rfl⟩ ?_
 exact (an ([_]) M rfl rfl rfl)
theorem lp {a l:Addr}{xs:Array Value}(B:Base C mg mb g)(e:mg (ax (st 1))=some (.ref a))(hl:Sees g M l (ai xs))(rm:Rm A 2) :
  W C A (call (.ref a) [.ref l] []) g M (fun v g' M'=>v=.bool false∧M'=M) :=
 xP B e rm fun rm' q1 h=>bK q1 fun p e=>by subst e;exact vI hl.tl rm'.h h
theorem sj {a x ad K:Addr}{tag:Str}{tt:Tok}{tail:Value}(B:Base C mg mb g)(e:mg (ax (st 1))=some (.ref a))(P:Elem mg g x (.str tag tt) ad tail K)(rm:Rm A 2) :
  W C A (call (.ref a) [.ref x] []) g M (fun v g' M'=>v=.bool true∧M'=M) :=
 aT P.ex fun fd D b f le q2=>ch q2 fun p1 p2 O=>xP B e rm fun rm' q3 h=>bK q3 fun p e=>by subst e;exact yz (.fz p1) (.fz p2) (v:=.str tag tt) (by rfl) rfl h
end
end
section
section
variable {C:Cx}{A:Around}{g:G}{M:be}{env:Env}
theorem qw (elt t1 i1 t2 i2:Expr)(scope:Scope)(pos:Pos)(it acc:Value)(cenv:Env) :
  compTurn (.ListComp elt [⟨t1,i1,[],0⟩,⟨t2,i2,[],0⟩] scope pos) 0 it acc cenv=(standAt i1.pos >>= fun O=>pyNext it >>= fun r=>match r with
   | none=>pure (.done .next)
   | some v=>letOwnedTupleGo t1 it v >>= fun O=>assign t1 cenv v >>= fun O=>gF [] cenv >>= fun ok =>
     if ok=true then eval i2 cenv >>= fun x=>standAt i2.pos >>= fun O=>foldedSetIterable i2 cenv x >>= fun x=>holding [x] (pyIter x) >>= fun it2=>runOwn (.compStart (.ListComp elt [⟨t1,i1,[],0⟩,⟨t2,i2,[],0⟩] scope pos) 1 it2 acc cenv) cenv >>= fun O =>
      again (.compLoop (.ListComp elt [⟨t1,i1,[],0⟩,⟨t2,i2,[],0⟩] scope pos) 0 it acc cenv)
     else again (.compLoop (.ListComp elt [⟨t1,i1,[],0⟩,⟨t2,i2,[],0⟩] scope pos) 0 it acc cenv)):=by rfl
theorem qL (elt t1 i1 t2 i2:Expr)(scope:Scope)(pos:Pos)(it acc:Value)(cenv:Env) :
  compTurn (.ListComp elt [⟨t1,i1,[],0⟩,⟨t2,i2,[],0⟩] scope pos) 0 it acc cenv=(standAt i1.pos >>= fun O=>pyNext it >>= fun r=>match r with
   | none=>pure (.done .next)
   | some v=>letOwnedTupleGo t1 it v >>= fun O=>assign t1 cenv v >>= fun O=>gF [] cenv >>= fun ok =>
     if ok=true then (eval i2 cenv >>= fun x=>standAt i2.pos >>= fun O=>foldedSetIterable i2 cenv x >>= fun x=>holding [x] (pyIter x) >>= fun it2=>runOwn (.compStart (.ListComp elt [⟨t1,i1,[],0⟩,⟨t2,i2,[],0⟩] scope pos) 1 it2 acc cenv) cenv >>= fun O=>pure ()) >>= fun O =>
      again (.compLoop (.ListComp elt [⟨t1,i1,[],0⟩,⟨t2,i2,[],0⟩] scope pos) 0 it acc cenv)
     else again (.compLoop (.ListComp elt [⟨t1,i1,[],0⟩,⟨t2,i2,[],0⟩] scope pos) 0 it acc cenv)):=by
 rw[qw]
 simp only[bind_assoc,pure_bind]
theorem rV (elt t1 i1 t2 i2:Expr)(scope:Scope)(pos:Pos)(it acc:Value)(cenv:Env) :
  compTurn (.ListComp elt [⟨t1,i1,[],0⟩,⟨t2,i2,[],0⟩] scope pos) 1 it acc cenv=(standAt i2.pos >>= fun O=>pyNext it >>= fun r=>match r with
   | none=>pure (.done .next)
   | some v=>letOwnedTupleGo t2 it v >>= fun O=>assign t2 cenv v >>= fun O=>gF [] cenv >>= fun ok =>
     if ok=true then (eval elt cenv >>= fun x=>call (.builtin "list.append") [acc,x] >>= fun O=>pure ()) >>= fun O =>
      again (.compLoop (.ListComp elt [⟨t1,i1,[],0⟩,⟨t2,i2,[],0⟩] scope pos) 1 it acc cenv)
     else again (.compLoop (.ListComp elt [⟨t1,i1,[],0⟩,⟨t2,i2,[],0⟩] scope pos) 1 it acc cenv)):=by rfl
theorem oF {elt t1 i1 t2 i2:Expr}{scope:Scope}{pos:Pos}{it acc:Value}{cenv:Env}{Q:PQ Flow}(h0:WC C A (.compLoop (.ListComp elt [⟨t1,i1,[],0⟩,⟨t2,i2,[],0⟩] scope pos) 1 it acc cenv) g M Q)(h:W C A (pyIter it) g M (fun it' g₁ M₁=>WC C A (.compLoop (.ListComp elt [⟨t1,i1,[],0⟩,⟨t2,i2,[],0⟩] scope pos) 1 it' acc cenv) g₁ M₁ Q)) :
  WC C A (.compStart (.ListComp elt [⟨t1,i1,[],0⟩,⟨t2,i2,[],0⟩] scope pos) 1 it acc cenv) g M Q:=fun s S=>by
 refine codeAny_of_tree ?_
 show wpAny _ _ ((compStart (.ListComp elt [⟨t1,i1,[],0⟩,⟨t2,i2,[],0⟩] scope pos) 1 it acc cenv).onRaise (fun x=>do noteFrame x cenv;standAt theWindowsPlace)) _ _ s
 refine wpAny_notedAt (toE ?_)
 unfold compStart
 show wpAny _ _ (ask >>= _) _ _ s
 refine wpAny_bind (wpAny_askSetting (wpAny_ite ?_))
 split
 ·first
   | exact wpAny_bind (wpAny_pure (wpAny_pure (And.intro rfl (h0 s S))))
   | exact wpAny_pure (And.intro rfl (h0 s S))
 ·have k:=h s S
  have key:wpAny C.M A (pyIter it) (fun it' s'=>codeAny C.M A (.compLoop (.ListComp elt [⟨t1,i1,[],0⟩,⟨t2,i2,[],0⟩] scope pos) 1 it' acc cenv) (fun r s'=>match r with|.ok f=>∃ g' M',G.le g g'∧St C g' M' s'∧Q f g' M'|.error _=>False) s') (fun O O=>False) s :=
   wpAny_mono k (fun it' s' q1=>aK q1 fun g₁ M₁ l₁ S₁ h₁=>codeAny_mono (h₁ s' S₁) fun r s'' x=>by
    cases r with
    | error e=>exact x
    | ok f=>refine aK x fun g' M' l' S' q=>?_;clear x;exact (an g' M' (l₁.trans l') S' q)) fun O O x=>x
  refine wpAny_bind (wpAny_rule ?_)
  show wpAny _ _ (standAt i2.pos >>= _) _ _ s
  exact wpAny_bind (wpAny_standAt (wpAny_bind (wpAny_mono key (fun it' s' h'=>wpAny_pure (And.intro rfl h')) fun O O x=>x)))
theorem xC {c:Code}{Q:PQ Flow}(h:WC C A c g M Q):W C A (runOwn c env) g M Q:=fun s S =>
 wpAny_runOwn (codeAny_mono (h s S) fun r s' x=>by
  cases r with
  | error e=>exact x.elim
  | ok f=>exact x)
theorem sF {elt t1 i1 t2 i2:Expr}{scope:Scope}{pos:Pos}{I:Addr}{acc:Value}{cenv:Env}{P:Nat→OP}{n i:Nat}{V:Nat→Value→Prop}{Q:PQ Flow}(Dr:DrawsW C A g I P n V)(hi:M[i]?=some (I,P 0))(loop:WC C A (.compLoop (.ListComp elt [⟨t1,i1,[],0⟩,⟨t2,i2,[],0⟩] scope pos) 0 (.ref I) acc cenv) g M Q) :
  WC C A (.compStart (.ListComp elt [⟨t1,i1,[],0⟩,⟨t2,i2,[],0⟩] scope pos) 0 (.ref I) acc cenv) g M Q:=by
 refine fun s S=>codeAny_compStart_list (loop s S) (toE (wpAny_mono (Dr.self g _ i 0 (fun v g' M'=>v=.ref I∧g=g'∧M=M') .refl hi (iPPP rfl rfl rfl) s S) ?_ fun O O x=>x))
 refine fun O s₁ q2=>bc q2 fun O O l₁ S₁ q3 q6=>dI q6 fun q4 q5=>?_;clear q2 q6;subst q3;subst q4;subst q5
 exact loop s₁ S₁
theorem wo {t1 i1 i2:Expr}{y:Str}{py py':Pos}{scope:Scope}{pos:Pos}{cenv:Env}{D I2:Addr}{P2:Nat→OP}{ys vs:Array Value}{lo:List (Str×Value)}{Q:PQ Flow}(Dr:DrawsW C A g I2 P2 vs.size (fun i v=>vs[i]?=some v))(hsz:ys.size+vs.size≤16777216)(hd:(y==("__debug__":Str))=false)(go:∀ (g':G) (M':be) (i k:Nat) (v:Value) (Q':PQ Unit),M'[i]?=some (I2,P2 k)→Q' () g' M'→W C A (letOwnedTupleGo (.Name y py) (.ref I2) v) g' M' Q')(hkind:cenv.scope.kind=.function)(hy:cenv.kindOf y=some .local)(fin:∀ g' lo',G.le g g'→(∀ x,x≠y→lk lo' x=lk lo x)→Q .next g' ((cenv.locals,aJ lo')::(D,ai (ys++vs))::M)) :
  WC C A (.compStart (.ListComp (.Name y py') [⟨t1,i1,[],0⟩,⟨.Name y py,i2,[],0⟩] scope pos) 1 (.ref I2) (.ref D) cenv) g ((cenv.locals,aJ lo)::(D,ai ys)::(I2,P2 0)::M) Q:=by
 have loop:WC C A (.compLoop (.ListComp (.Name y py') [⟨t1,i1,[],0⟩,⟨.Name y py,i2,[],0⟩] scope pos) 1 (.ref I2) (.ref D) cenv) g ((cenv.locals,aJ lo)::(D,ai ys)::(I2,P2 0)::M) Q:=by
  refine gd (target:=.Name y py) (ifs:=[]) (ip:=i2.pos) (Y:=[(cenv.locals,aJ lo),(D,ai ys)]) (J:=fun k g' Y=>∃ l,Y=[(cenv.locals,aJ l),(D,ai (ys++vs.take k))]∧(∀ x,x≠y→lk l x=lk lo x))
   (rV _ _ _ _ _ scope pos (.ref I2) (.ref D) cenv) rfl rfl rfl Dr go ?_ ?_ (aG lo (by simp) (fun O O=>rfl))
  ·refine fun k g' O v hk l' q7 hv=>aL q7 fun l q8 hl=>?_;clear q7;subst q8
   refine aF ?_
   refine aX (i:=0) (l:=l) rfl ?_ hkind hy
   refine dr ?_
   rw[if_pos rfl]
   refine ak ?_
   refine ar (l:=bR l y v) (v:=v) (.head _) ?_ ?_ hkind hy hd
   ·rw[eK,if_pos rfl]
   refine ak ?_
   have hks:(ys++vs.take k).size≤sizeLine:=by
    rw[tH]
    have:(vs.take k).size≤vs.size:=by simp;exact qO _ _
    exact bw (Nat.add_le_add_left this _) hsz
   refine iJ (i:=1) (xs:=ys++vs.take k) rfl hks (ay (pT ([]) ([(cenv.locals,aJ (bR l y v)),(D,ai (ys++vs.take (k+1)))]) ?_ (bR l y v) rfl (fun x hx=>?_)))
   ·have e:(ys++vs.take k).push v=ys++vs.take (k+1):=by
     have hv':vs[k]?=some v:=hv
     rw[ul,rv]
     congr 1
     apply Array.toList_inj.mp
     simp only[kf,Array.take_eq_extract,Array.toList_extract]
     have:vs.toList[k]?=some v:=by simpa using hv'
     simp only[List.extract_eq_drop_take,List.drop_zero,Nat.sub_zero]
     rw[List.take_succ,this]
     rfl
    rw[← e]
    rfl
   ·rw[eK,if_neg hx]
    exact hl x hx
  ·refine fun g' O l' q9=>aL q9 fun l q10 hl=>?_;clear q9;subst q10
   have e:vs.take vs.size=vs:=by simp
   rw[e]
   exact fin g' l l' hl
 refine oF loop ?_
 exact Dr.self g _ 2 0 _ .refl rfl loop
theorem zc {i1 i2:Expr}{x y:Str}{px py py':Pos}{scope:Scope}{cl:List (Str×Addr)}{pos:Pos}{Q:PQ Value}(hclos:closureFor scope env=pure cl)(h:W C A (eval i1 env) g M (fun xv g₁ M₁=>W C A (pyIter xv) g₁ M₁ (fun itv g₂ M₂=>∃ (I:Addr) (P:Nat→OP) (n:Nat) (V:Nat→Value→Prop) (M₀:be) (J:Nat→Array Value→Prop),itv=.ref I∧M₂=(I,P 0)::M₀∧DrawsW C A g₂ I P n V∧J 0 #[] ∧
   (∀ k g' ys v lo Cl D,k<n→G.le g₂ g'→J k ys→V k v→lk lo x=some v →
    W C A (eval i2 (compEnvC scope cl Cl env)) g' ((Cl,aJ lo)::(D,ai ys)::(I,P (k+1))::M₀) (fun lv g₃ M₃=>∃ l vs,lv=.ref l∧Fz g₃ l (bq vs)∧M₃=(Cl,aJ lo)::(D,ai ys)::(I,P (k+1))::M₀∧ys.size+vs.size≤16777216∧J (k+1) (ys++vs))) ∧
   (∀ g' g'' ys D,G.le g₂ g'→J n ys→G.le g' g''→Fz g'' D (ai ys)→Q (.ref D) g'' M₀))))(hA:A.handled=none)(hxy:x≠y:=by decide)(hcell:∀ y∈scope.names,y.2≠.cell:=by decide)(hkind:scope.kind=.function:=by with_unfolding_all exact Eq.refl ScopeKind.function)(hnames:∀ x∈scope.names,x.2=.local→scope.names.lookup x.1=some .local:=by decide)(hx:scope.names.lookup x=some .local:=by decide)(hy:scope.names.lookup y=some .local:=by decide)(hd:(y==("__debug__":Str))=false:=by decide)(hs:∀ x,foldedSetIterable i1 env x=pure x:=by intro _;rfl')(hs2:∀ Cl x,foldedSetIterable i2 (compEnvC scope cl Cl env) x=pure x:=by intro _ _;rfl'):W C A (eval (.ListComp (.Name y py') [⟨.Name x px,i1,[],0⟩,⟨.Name y py,i2,[],0⟩] scope pos) env) g M Q:=by
 rw[eval_ListComp]
 refine j7 (t':=comprehension (.ListComp (.Name y py') [⟨.Name x px,i1,[],0⟩,⟨.Name y py,i2,[],0⟩] scope pos) scope env (firstIterPos [⟨.Name x px,i1,[],0⟩,⟨.Name y py,i2,[],0⟩] pos) (newList []) false (eval i1 env) none) rfl ?_
 suffices H:W C A (comprehension (.ListComp (.Name y py') [⟨.Name x px,i1,[],0⟩,⟨.Name y py,i2,[],0⟩] scope pos) scope env (firstIterPos [⟨.Name x px,i1,[],0⟩,⟨.Name y py,i2,[],0⟩] pos) (newList []) false (eval i1 env) none) g M
   (fun D g₁ M₁=>∃ M₀ ys d,D=.ref d∧M₁=(d,ai ys)::M₀∧∀ g'',G.le g₁ g''→Fz g'' d (ai ys)→Q (.ref d) g'' M₀) from
  fun s S=>wpAny_mono (H s S) (fun D s₁ q11=>cm q11 fun g₁ O l₁ S₁ M₀ q12=>aK q12 fun ys d e1 e2 q=>by
   subst e1 e2
   refine bT S₁.freeze fun o p ga S₂=>?_
   exact (an _ M₀ (l₁.trans (G.le_put ga)) S₂ (q _ (G.le_put ga) (aG o G.put_self p)))) fun O O x=>x
 refine eh (gc:=⟨.Name x px,i1,[],0⟩) rfl hs hclos hcell hkind hnames (h.mono fun xv g₁ M₁ O h=>h.mono ?_)
 refine fun O g₂ O O q13=>aT q13 fun I P n V M₀ q16=>mz q16 fun J q14 q15 Dr j0 q17=>dI q17 fun turn fin=>?_;clear q13 q16 q17;subst q14;subst q15
 refine jk (iE _) fun D Cl=>?_
 refine sF (i:=2) Dr rfl ?_
 refine gd (target:=.Name x px) (ifs:=[]) (ip:=i1.pos) (Y:=[(Cl,aJ []),(D,ai #[])]) (J:=fun k g' Y=>∃ l ys,Y=[(Cl,aJ l),(D,ai ys)]∧J k ys)
   (qL _ _ _ _ _ scope pos (.ref I) (.ref D) (compEnvC scope cl Cl env)) rfl rfl rfl Dr ik ?_ ?_ (bV ([]) (#[]) rfl j0)
 ·refine fun k g' O v hk l' q18 hv=>bJ q18 fun l ys q19 j=>?_;clear q18;subst q19
  refine aF ?_
  refine aX (i:=0) (l:=l) rfl ?_ hkind (lookup_relabel_local hx)
  refine dr ?_
  rw[if_pos rfl]
  refine ak ?_
  refine (turn k g' ys v (bR l x v) Cl D hk l' j hv (by rw[eK,if_pos rfl])).mono ?_
  refine fun O g₃ O l₃ q20=>bc q20 fun r vs q21 Fr q22 q23=>dI q23 fun hsz j'=>?_;clear q20 q23;subst q21;subst q22
  refine ak (aP ?_)
  refine ak ?_
  rw[hs2]
  refine ay ?_
  refine ak (aD ?_)
  refine bX Fr fun I2 P2 D2 go2=>?_
  refine ak ?_
  refine xC ?_
  intro s S
  refine (fun (H:WC C A _ g₃ ((Cl,aJ (bR l x v))::(D,ai ys)::(I2,P2 0)::(I,P (k+1))::M₀) _)=>H s (S.perm ?_)) ?_
  ·exact (List.Perm.swap _ _ _).trans (List.Perm.cons _ (List.Perm.swap _ _ _))
  refine wo (cenv:=compEnvC scope cl Cl env) (D2 A hA) hsz hd (go:=fun g' M' i k v Q' a b=>go2 A g' M' i k _ v Q' a b) hkind (lookup_relabel_local hy) fun g₄ lo' l₄ hlo=>?_
  exact ay (dB ([]) ([(Cl,aJ lo'),(D,ai (ys++vs))]) rfl lo' (ys++vs) (jb rfl j'))
 ·refine fun g' O l' q24=>bJ q24 fun l ys q25 j=>?_;clear q24;subst q25
  exact (dB l _ rfl M₀ ys (bU D rfl rfl (fun g'' l'' f=>fin g' g'' ys D l' j l'' f)))
end
end
section
inductive Tr where
 | leaf (s:Str)
 | node (l r:Tr)
noncomputable def Tr.parts:Tr→List Str
 | .leaf s=>[s]
 | .node l r=>(("(":Str)::(l.parts++r.parts))++[(")":Str)]
noncomputable def Tr.tag:Tr→Str
 | .leaf s=>s
 | .node _ _=>("":Str)
noncomputable def Tr.ht:Tr→Nat
 | .leaf _=>0
 | .node l r=>max l.ht r.ht+1
noncomputable def Tr.sz:Tr→Nat
 | .leaf _=>1
 | .node l r=>l.sz+r.sz
theorem Tr.parts_len:∀ t:Tr,t.parts.length+2=3*t.sz
 | .leaf _=>rfl
 | .node l r=>by
  have h1:=l.parts_len
  have h2:=r.parts_len
  simp only[Tr.parts,Tr.sz,ζ17,eR,lj]
  exact ln2 [_,_,_,_] [] (.eq (.a (.a (.a (.a ah am) av) (.a b6 av)) cH) (.m 3 (.a ao aM))) (.eq (.a ah cH) (.m 3 ao)) (.eq (.a am cH) (.m 3 aM)) ae h1 h2
theorem Tr.sz_pos:∀ t:Tr,1≤t.sz
 | .leaf _=>dX _
 | .node l r=>by
  have h1:=l.sz_pos
  simp only[Tr.sz]
  exact bw h1 (dG _ _)
noncomputable def TrAt (mg:Str→Option Value)(g:G):Addr→Tr→Prop
 | x,.leaf s=>(s != ("":Str))=true∧∃ tt ad tl K,Elem mg g x (.str s tt) ad tl K
 | x,.node l r=>∃ tt ad tl K y z,Elem mg g x (.str ("":Str) tt) ad tl K∧Fz g K (bq #[.ref y,.ref z])∧TrAt mg g y l∧TrAt mg g z r
theorem TrAt.mono {mg:Str→Option Value}{g g':G}(k:G.le g g'){t:Tr}{x:Addr}(h:TrAt mg g x t):TrAt mg g' x t:=by
 induction t generalizing x with
 | leaf s=>exact ⟨h.1,n4 h.2 fun tt ad tl K e=>th tt ad tl K (e.mono k)⟩
 | node l r hl hr=>exact aT h fun tt ad tl K y h=>dY h fun z e f a b=>ba tt ad tl K y (eQ z (e.mono k) (f.mono k) (hl a) (hr b))
section
variable {C:Cx}{A:Around}{g:G}{M:be}{env:Env}{mg mb:Str→Option Value}
noncomputable def y0 (C:Cx)(mg mb:Str→Option Value)(t:Tr):Prop:=∀ {A:Around}{g:G}{M:be}{x:Addr},Base C mg mb g→TrAt mg g x t→Rm A (t.ht+2)→∀ {f:Addr}{tt:Tok},ItFn g f x (.str t.tag tt) →
 W C A (call (.ref f) [] []) g M (fun r g' M'=>∃ l vs,r=.ref l∧Fz g' l (ai vs)∧M'=M∧StrsAre vs.toList t.parts)
theorem xo (s:Str):y0 C mg mb (.leaf s):=by
 intro A g M x B T rm f tt I
 refine dI T fun hne O=>?_;clear T
 refine aT I.ex fun a1 a2 c' pm ct q1=>cA q1 fun h1 h2 h3 h4=>?_;clear q1
 refine mA (binds:=[]) (.fz h1) h2 B.lim rm.room (by rfl) (by rfl) fun L=>?_
 refine' bI (M':=(L,aJ [])::M) (by rfl') ?_
 refine gk ?_
 refine aR ?_
 refine jV (c:=a1) (by rfl) (.fz h3) ?_
 refine' eA fun O O=>?_
 refine kM ?_
 refine aV ?_
 show if (s != ("":Str))=true then _ else _
 rw[if_pos hne]
 refine eJ ?_
 refine ab ?_
 refine jV (c:=a1) (by rfl) (.fz h3) ?_
 refine aj ?_
 refine ⟨by simp only[List.length];decide,fun l g₂ l₂ F=>?_⟩
 exact (dB ([_]) M rfl l _ (cr rfl F rfl (StrsAre.cons _ _ .nil)))
theorem TrAt.elem {t:Tr}{x:Addr}(h:TrAt mg g x t):∃ tt ad tl K,Elem mg g x (.str t.tag tt) ad tl K:=by
 cases t with
 | leaf s=>exact h.2
 | node l r=>exact aT h fun tt ad tl K y h=>dY h fun z e f a b=>th tt ad tl K e
theorem rh {t:Tr}{u:Addr}{pl:Sem Bool}{pos:Pos}(H:y0 C mg mb t)(B:Base C mg mb g)(T:TrAt mg g u t)(rm:Rm A (t.ht+2)):W C A (getMethod (.ref u) "itertext" pl) g M (fun fm g₂ M₂ =>
  W C A (callWith pos fm.1 fm.2 (backTo pos (starEach [] env)) (backToKw pos (keywordEach [] env))) g₂ M₂ (fun r g' M'=>∃ l vs,r=.ref l∧Fz g' l (ai vs)∧M'=M∧StrsAre vs.toList t.parts)):=by
 refine n4 T.elem fun tt ad tl K E0=>?_
 refine aT E0.ex fun fd D b f' le q2=>di q2 fun p1 p2 p3 p4 p5=>?_;clear q2
 refine gB (.fz p1) (.fz p2) (v:=.ref f') (by rfl) FF.lk_itertext rfl ?_
 refine aT p5.ex fun a1 a2 c' pm ct q3=>dI q3 fun h1 O=>?_;clear q3
 refine aq ?_
 refine au ?_
 refine aj ?_
 refine ⟨ek (.fz h1),?_⟩
 exact H B T rm p5
theorem xt {tl tr:Tr}(hl:y0 C mg mb tl)(hr:y0 C mg mb tr)(hsz:(Tr.node tl tr).sz≤1000):y0 C mg mb (.node tl tr):=by
 intro A g M x B T rm f tt I
 refine aT T fun tt' ad tl' K y q4=>dY q4 fun z E0 FK Ty Tz=>?_;clear q4 T
 refine aT I.ex fun a1 a2 c' pm ct q5=>cA q5 fun h1 h2 h3 h4=>?_;clear q5
 refine mA (binds:=[]) (.fz h1) h2 B.lim rm.room (by rfl) (by rfl) fun L=>?_
 have rm1:Rm (A.deeper (cV (gK ye) L mainGlobals [("tag",a1),("one",a2)] (q30++".<locals>.") (some f) (.ref c') builtinsNs)) (max tl.ht tr.ht+2):=(show Rm A (max tl.ht tr.ht+2+1) from rm).deeper
 generalize A.deeper _=A1 at *
 refine' bI (M':=(L,aJ [])::M) (by rfl') ?_
 refine gk ?_
 refine aR ?_
 refine jV (c:=a1) (by rfl) (.fz h3) ?_
 refine' eA fun O O=>?_
 refine kM ?_
 refine aV ?_
 rw[if_neg (by show ¬ (("":Str) !="")=true;simp)]
 refine bh ?_
 refine bh ?_
 refine eJ ?_
 refine ab ?_
 refine' eA fun t1 O=>?_
 refine aj ?_
 refine ⟨by simp only[List.length];decide,fun q1 g₂ l₂ Fq1=>?_⟩
 have Ex:=E0.ex
 refine aT Ex fun fd D b f' le q6=>di q6 fun p1 p2 p3 p4 p5=>?_;clear q6 Ex
 refine' zc (cl:=[]) (by rfl') ?_ rm1.h
 refine du ?_
 refine jV (c:=a2) (by rfl) (.fz (h4.mono l₂)) ?_
 refine eB (.fz (p1.mono l₂)) (.fz (p2.mono l₂)) (v:=.ref K) (by rfl) FF.lk_kids rfl ?_
 refine bX (FK.mono l₂) fun I P' Dr O=>?_
 refine (ba I P' _ _ _ (dy (fun k ys=>StrsAre ys.toList (match k with|0=>[]|1=>tl.parts|_=>tl.parts++tr.parts)) rfl rfl (Dr _ rm1.h) .nil (jb ?_ ?_)))
 ·intro k g' ys v lo Cl D hk l3 j hv hlo
  refine bl ?_
  refine ar (.head _) hlo ?_
  intro pl
  have l23:=l₂.trans l3
  have key:∀ {cp:Pos}{ce:Env} (u:Addr) (t':Tr) (us:List Str),TrAt mg g u t'→y0 C mg mb t'→t'.ht≤max tl.ht tr.ht→us.length+t'.parts.length≤3000→StrsAre ys.toList us→v=.ref u→(∀ ws,StrsAre ws.toList t'.parts→StrsAre (ys++ws).toList (match k+1 with|0=>[]|1=>tl.parts|_=>tl.parts++tr.parts)) →
    W C A1 (getMethod v "itertext" pl) g' ((Cl,aJ lo)::(D,ai ys)::(I,P' (k+1))::(L,aJ [])::M) (fun fm g₂ M₂ =>
    W C A1 (callWith cp fm.1 fm.2 (backTo cp (starEach [] ce)) (backToKw cp (keywordEach [] ce))) g₂ M₂ (fun lv g₃ M₃=>∃ l vs,lv=.ref l∧Fz g₃ l (bq vs)∧M₃=(Cl,aJ lo)::(D,ai ys)::(I,P' (k+1))::(L,aJ [])::M∧ys.size+vs.size≤16777216∧StrsAre (ys++vs).toList (match k+1 with|0=>[]|1=>tl.parts|_=>tl.parts++tr.parts))):=by
   intro cp ce u t' us Tu Hu hht hlen hus hv' hres
   subst hv'
   refine (rh (pos:=cp) (env:=ce) Hu (B.mono l23) (Tu.mono l23) (rm1.le (mt hht _))).mono ?_
   intro fm g₂ M₂ _ h
   refine h.mono ?_
   refine fun O g₃ O O q7=>bc q7 fun l ws q8 Fl q9 hws=>?_;clear q7;subst q8;subst q9
   refine (cb l ws rfl (Fl.imp fun O=>bj) rfl (jb ?_ (hres ws hws)))
   have h1:=hus.length
   have h2:=hws.length
   rw[fA] at h1 h2
   exact cZ [_,_,_,_] [] (.le (.a ah am) aY) (.le (.a ao aM) nQ) (.eq ah ao) (.eq am aM) ae hlen h1 h2
  have hz1:=tl.parts_len
  have hz2:=tr.parts_len
  have hz3:=tl.sz_pos
  have hz4:=tr.sz_pos
  have hsz':tl.sz+tr.sz≤1000:=hsz
  match k,hk,j,hv with
  | 0,_,j,hv =>
   exact key y tl [] Ty hl (Nat.le_max_left _ _) (by simp only[lj];exact ln2 [_,_,_] [] (.le (.a b6 ah) nQ) (.eq (.a ah cH) (.m 3 am)) (.X 3 (.le (.a am ao) bg)) ae hz1 hsz') j (by cases hv;rfl) fun ws hws=>by
    have:ys=#[]:=by cases ys with|mk q=>cases q with|nil=>rfl|cons a b=>cases j
    subst this
    simpa using hws
  | 1,_,j,hv =>
   exact key z tr tl.parts Tz hr (Nat.le_max_right _ _) (cZ [_,_,_,_] [] (.le (.a ah am) nQ) (.eq (.a ah cH) (.m 3 ao)) (.eq (.a am cH) (.m 3 aM)) (.X 3 (.le (.a ao aM) bg)) ae hz1 hz2 hsz') j (by cases hv;rfl) fun ws hws=>by
    rw[kf]
    exact StrsAre.append' j hws
  | n+2,hk,_,_=>exact absurd hk (by simp)
 intro g₃ g₄ ys D l₃ j l₄ FD
 have hz1:=tl.parts_len
 have hz2:=tr.parts_len
 have hz3:=tl.sz_pos
 have hz4:=tr.sz_pos
 have hsz':tl.sz+tr.sz≤1000:=hsz
 have j:StrsAre ys.toList (tl.parts++tr.parts):=j
 have hyl:=j.length
 rw[fA,ζ17] at hyl
 refine fb (.fz (Fq1.mono (l₃.trans l₄))) (.fz FD) (by show 1+ys.size≤2^24;exact gh [_,_,_,_,_] [] (.le (.a av ah) (.p 2 24)) (.eq (.a am cH) (.m 3 ao)) (.eq (.a aM cH) (.m 3 bD)) (.X 3 (.le (.a ao bD) bg)) (.eq ah (.a am aM)) ae hz1 hz2 hsz' hyl) fun q2=>?_
 refine eJ ?_
 refine ab ?_
 refine' eA fun t2 O=>?_
 refine aj ?_
 refine ⟨by simp only[List.length];decide,fun q3 g₅ l₅ Fq3=>?_⟩
 refine xD ?_
 refine fb (.own (.head _)) (.fz Fq3) (by rw[tH];show 1+ys.size+1≤2^24;exact gh [_,_,_,_,_] [] (.le (.a (.a av ah) av) (.p 2 24)) (.eq (.a am cH) (.m 3 ao)) (.eq (.a aM cH) (.m 3 bD)) (.X 3 (.le (.a ao bD) bg)) (.eq ah (.a am aM)) ae hz1 hz2 hsz' hyl) fun q4=>?_
 refine (bf q4 _ _ rfl rfl (fun g₆ l₆ F4=>?_))
 refine (dB ([_,_]) M rfl q4 _ (cr rfl F4 rfl ?_))
 simp only[kf,Tr.parts]
 exact StrsAre.append' (StrsAre.append' (StrsAre.cons _ _ .nil) j) (StrsAre.cons _ _ .nil)
theorem pD:∀ t:Tr,t.sz≤1000→y0 C mg mb t
 | .leaf s,_=>xo s
 | .node l r,h=>xt (pD l (by have h':l.sz+r.sz≤1000:=h;exact bw (dG _ _) h')) (pD r (by have h':l.sz+r.sz≤1000:=h;exact bw (j6 _ _) h')) h
end
end
section
noncomputable def dR:Option Str→Tok→Value
 | none,_=>.none
 | some s,t=>.str s t
noncomputable def Ay:Option Str→List Str
 | none=>[]
 | some s=>if s="" then [] else [s]
theorem jM:∀ (o:Option Str) (t:Tok),handedOut (dR o t)=pure (dR o t)
 | none,_=>rfl
 | some _,_=>rfl
noncomputable abbrev kU (L a c:Addr):Env:=cV (bB (st 3)) L mainGlobals [] (ax (st 3)++".<locals>.") (some a) (.ref c) builtinsNs
theorem Bl:aw (st 3)=[aI (aw (st 3)) 0,aI (aw (st 3)) 1]:=by rfl
section
variable {C:Cx}{A:Around}{g:G}{M:be}{env:Env}{mg mb:Str→Option Value}
theorem jD {Q:PQ Bool}(h:Q false g M):W C A (truthy .none) g M Q:=fun s S=>truthy_none (an g M .refl S h)
theorem kC {x:Str}{t:Tok}{Q:PQ Bool}(hx:x.length≤1000)(h:Q (decide (x≠"")) g M):W C A (truthy (.str x t)) g M Q:=fun s S =>
 P.truthy_str (aQ [_] [] (.M (.p 2 63) bA) (.le ah bg) ae hx) (an g M .refl (S.toks (bw (dG _ _) (dG _ _))) (by
  have e:((x.length:Int) != 0)=decide (x≠""):=by
   by_cases q:x=""
   ·subst q;rfl
   ·have:x.length≠0:=fun h0=>q (by
     obtain ⟨a⟩:=x
     have h1:a.size=0:=h0
     have:a=#[]:=Array.eq_empty_of_size_eq_zero h1
     subst this;rfl)
    simp only[q,ne_eq,not_false_eq_true,decide_true]
    exact bne_iff_ne.mpr (ku (aQ [_] [] (.T b6 bA) (.lt b6 ah) ae (Nat.pos_of_ne_zero this)))
  rw[e];exact h))
theorem zP {L a c x b P:Addr}{t:Tr}{i:Nat}(B:Base C mg mb g)(T:TrAt mg g x t)(Fb:Fz g b (sS P))(hsz:t.sz≤1000)(rm:Rm A (t.ht+2))(hi:M[i]?=some (P,ai #[])){Q:PQ Flow}(kQ:∀ g',G.le g g'→∀ lo ys,StrsAre ys.toList t.parts→lk lo "write"=some (.ref b)→lk lo "elem"=some (.ref x)→Q .next g' ((L,aJ lo)::M.set i (P,ai ys))) :
  W C A (exec (aI (aw (st 3)) 0) (kU L a c)) g ((L,aJ [("write",.ref b),("elem",.ref x)])::M) Q:=by
 refine' bQ fun qQ KQ=>?_
 refine uw ?_
 refine bl ?_
 refine ar (.head _) (by rfl) ?_
 intro pl
 refine (rh (pos:=⟨10,16,10,31⟩) (env:=kU L a c) (pD t hsz) B T rm).mono ?_
 intro fm g₁ M₁ l₁ h
 refine h.mono ?_
 refine fun O g₂ O l₂ q1=>bc q1 fun l vs q2 Fl q3 hvs=>?_;clear q1;subst q2;subst q3
 have Fb':=(Fb.mono l₁).mono l₂
 refine bX (Fl.imp fun O=>bj) fun I P' Dr go=>?_
 refine (ba I P' vs.size _ _ (dy (fun k g' M'=>∃ lo ys,M'=(L,aJ lo)::M.set i (P,ai ys)∧ys=vs.take k∧lk lo "write"=some (.ref b)∧lk lo "elem"=some (.ref x)) rfl rfl (Dr _ rm.h) (cb ([("write",.ref b),("elem",.ref x)]) (#[]) ?_ (by simp) (by rfl) (by rfl)) (iPPP (fun g' M' i k v Q' h1 h2=>go _ g' M' i k _ v Q' h1 h2) ?_ ?_)))
 ·refine bK (List.getElem?_eq_some_iff.mp hi) fun hlt he=>?_
  rw[← he,List.set_getElem_self]
 ·refine fun k g₃ O v hk l₃ q4 hv=>bc q4 fun lo ys q5 hys e1 e2=>?_;clear q4;subst q5
  refine aF ?_
  refine aX (i:=1) (by rfl) ?_
  refine af ?_
  refine ld ?_
  refine az ?_
  refine ar (l:=bR lo "part" v) (v:=.ref b) (.tail _ (.head _)) ?_ ?_
  ·rw[eK,if_neg (by decide)];exact e1
  refine aq ?_
  refine au ?_
  refine ab ?_
  refine ar (l:=bR lo "part" v) (v:=v) (.tail _ (.head _)) ?_ ?_
  ·rw[eK,if_pos rfl]
  refine aj ?_
  refine ⟨qh (.fz (Fb'.mono l₃)),?_⟩
  show W _ _ (call (.ref b) [v] []) _ _ _
  have hpl:=t.parts_len
  have hvl:=hvs.length
  rw[fA] at hvl
  have hys':ys.size≤3000:=by subst hys;simp;exact gh [_,_,_,_] [] (.le ah nQ) (.X 3 (.le am bg)) (.eq (.a ao cH) (.m 3 am)) (.eq aM ao) (.le ah aM) ae hsz hpl hvl (qO _ _)
  refine mU (Fb'.mono l₃) (xs:=ys) (i:=i+2) ?_ (bw hys' (by decide)) ?_
  ·show (M.set i (P,ai ys))[i]?=_
   rw[List.getElem?_set_self (List.getElem?_eq_some_iff.mp hi).1]
  refine ⟨fun O h=>Value.noConfusion h,?_⟩
  refine bu ?_
  refine (dB ([]) _ rfl (bR lo "part" v) (ys.push v) (cr ?_ ?_ ?_ ?_))
  ·show (L,_)::(M.set i (P,ai ys)).set i (P,ai (ys.push v))=_
   rw[List.set_set]
  ·subst hys
   apply Array.toList_inj.mp
   have hv':vs[k]?=some v:=hv
   have:vs.toList[k]?=some v:=by simpa using hv'
   simp only[fM,Array.take_eq_extract,Array.toList_extract,List.extract_eq_drop_take,List.drop_zero,Nat.sub_zero]
   rw[List.take_succ,this]
   rfl
  ·rw[eK,if_neg (by decide)];exact e1
  ·rw[eK,if_neg (by decide)];exact e2
 ·refine fun g₃ O l₃ q6=>bc q6 fun lo ys q7 hys e1 e2=>?_;clear q6;subst q7
  exact KQ _ _ _ fun l=>kQ _ l lo ys (by subst hys;simpa using hvs) e1 e2
theorem zx {L a c x b P ad K:Addr}{lo:List (Str×Value)}{tag:Value}{o:Option Str}{tk:Tok}{ys:Array Value}{i:Nat}(E0:Elem mg g x tag ad (dR o tk) K)(Fb:Fz g b (sS P))(ho:∀ s,o=some s→s.length≤1000)(hsz:ys.size≤3000)(hi:M[i]?=some (P,ai ys))(e1:lk lo "write"=some (.ref b))(e2:lk lo "elem"=some (.ref x)) :
  W C A (exec (aI (aw (st 3)) 1) (kU L a c)) g ((L,aJ lo)::M)
   (fun f g' M'=>f=.next∧∃ zs,M'=(L,aJ lo)::M.set i (P,ai (ys++zs))∧StrsAre zs.toList (Ay o)):=by
 refine aT E0.ex fun fd D b' f' le q8=>di q8 fun p1 p2 p3 p4 p5=>?_;clear q8
 have hset:M=M.set i (P,ai (ys++#[])):=by
  refine bK (List.getElem?_eq_some_iff.mp hi) fun hlt he=>?_
  rw[Array.append_empty,← he,List.set_getElem_self]
 refine nI ?_
 refine fI ?_
 refine du ?_
 refine ar (.head _) e2 ?_
 refine eB (.fz p1) (.fz p2) (v:=dR o tk) (by rfl) FF.lk_tail (jM o tk) ?_
 cases o with
 | none =>
  refine jD ?_
  rw[if_neg jo]
  refine bu ?_
  exact (ut rfl (#[]) (congrArg _ hset) .nil)
 | some s =>
  refine kC (ho s rfl) ?_
  by_cases hs:s=""
  ·rw[if_neg (by simp[hs])]
   refine bu ?_
   refine (ut rfl (#[]) (congrArg _ hset) ?_)
   show StrsAre [] (if s="" then [] else [s])
   rw[if_pos hs]
   exact .nil
  ·rw[if_pos (by simp[hs])]
   refine af ?_
   refine ld ?_
   refine az ?_
   refine ar (v:=.ref b) (.head _) e1 ?_
   refine aq ?_
   refine au ?_
   refine ab ?_
   refine du ?_
   refine ar (.head _) e2 ?_
   refine eB (.fz p1) (.fz p2) (v:=dR (some s) tk) (by rfl) FF.lk_tail (jM _ tk) ?_
   refine aj ?_
   refine ⟨qh (.fz Fb),?_⟩
   show W _ _ (call (.ref b) [.str s tk] []) _ _ _
   refine mU Fb (xs:=ys) (i:=i+1) hi (bw hsz (by decide)) ?_
   refine ⟨fun O h=>Value.noConfusion h,?_⟩
   refine bu ?_
   refine (ut rfl (#[.str s tk]) ?_ ?_)
   ·rw[← ul]
    rfl
   ·show StrsAre [.str s tk] (if s="" then [] else [s])
    rw[if_neg hs]
    exact .cons _ _ .nil
theorem rA {a x b P ad K:Addr}{t:Tr}{tag:Value}{o:Option Str}{tk:Tok}{i:Nat}(B:Base C mg mb g)(e:mg (ax (st 3))=some (.ref a))(T:TrAt mg g x t)(E0:Elem mg g x tag ad (dR o tk) K)(Fb:Fz g b (sS P))(hsz:t.sz≤1000)(ho:∀ s,o=some s→s.length≤1000)(hi:M[i]?=some (P,ai #[]))(rm:Rm A (t.ht+3)) :
  W C A (call (.ref a) [.ref b,.ref x] []) g M (fun r g' M'=>r=.none∧∃ ys,M'=M.set i (P,ai ys)∧StrsAre ys.toList (t.parts++Ay o)):=by
 refine aK (B.defs 3 rfl (by decide)) fun a' c e' Da O=>?_
 have:a'=a:=by rw[e] at e';cases e';rfl
 subst this
 refine ft (binds:=[("write",.ref b),("elem",.ref x)]) Da B.lim rm.room (fun O=>rfl) rfl fun L=>?_
 have rm1:Rm (A.deeper (kU L a' c)) (t.ht+2):=rm.deeper
 show W C (A.deeper (kU L a' c)) (execs (aw (st 3)) (kU L a' c)) g ((L,aJ [("write",.ref b),("elem",.ref x)])::M) _
 generalize A.deeper _=A1 at *
 rw[Bl]
 refine' af ?_
 refine' zP B T Fb hsz rm1 hi fun g₁ l₁ lo ys hys e1 e2=>?_
 have hl:=hys.length
 rw[fA] at hl
 have hpl:=t.parts_len
 have hi':(M.set i (P,ai ys))[i]?=some (P,ai ys):=List.getElem?_set_self (List.getElem?_eq_some_iff.mp hi).1
 show W C A1 (execs _ _) _ _ _
 refine' af ?_
 refine' (zx (E0.mono l₁) (Fb.mono l₁) ho (by with_unfolding_all exact cZ [_,_,_] [] (.le ah nQ) (.X 3 (.le am bg)) (.eq ah ao) (.eq (.a ao cH) (.m 3 am)) ae hsz hl hpl) hi' e1 e2).mono ?_
 refine fun O g₂ O l₂ q13=>d6 q13 fun q14 zs q15 hzs=>?_;clear q13;subst q14;subst q15
 refine bu ?_
 refine (bP ([_]) _ rfl rfl (ys++zs) (jb ?_ ?_))
 ·rw[List.set_set]
 ·rw[kf]
  exact StrsAre.append' hys hzs
end
end
section
noncomputable def Tr.text:Tr→Str
 | .leaf s=>s
 | .node l r=>(("(":Str)++l.text)++r.text++(")":Str)
noncomputable def dH (cf:Nat→Nat→Nat)(ls:List Str):Nat→Nat→Nat→Tr
 | 0,low,_=>.leaf (ls.getD low "")
 | n+1,low,high=>if high-low=1 then .leaf (ls.getD low "") else .node (dH cf ls n low (cf low high)) (dH cf ls n (cf low high) high)
noncomputable def EntAt (C:Cx)(mg:Str→Option Value)(g:G)(tl:Value)(y:Addr)(v:Value):Prop :=
 ∃ T d e a b t1 t2 tag K,v=.ref T∧Fz g T (bS #[.ref y,.ref e])∧Elem mg g y tag d tl K∧Fz g d (aB C [("low",.int a t1),("tail",tl),("high",.int b t2)]) ∧
  Fz g e (aB C [("low",.int a t1),("high",.int b t2),("tail",tl)])∧(d==sysModules)=false∧(e==sysModules)=false
theorem EntAt.mono {C:Cx}{mg:Str→Option Value}{g g':G}{tl:Value}{y:Addr}{v:Value}(k:G.le g g')(h:EntAt C mg g tl y v):EntAt C mg g' tl y v:=by
 refine aT h fun T d e a b q1=>c9 q1 fun t1 t2 tag K h1 q2=>cy q2 fun h2 h3 h4 h5 h6 h7=>?_;clear q1 q2 h
 exact (ba T d e a b (c4 t1 t2 tag K h1 (cx (h2.mono k) (h3.mono k) (h4.mono k) (h5.mono k) h6 h7)))
noncomputable abbrev nM (L a c:Addr):Env:=cV (bB (st 31)) L mainGlobals [] (ax (st 31)++".<locals>.") (some a) (.ref c) builtinsNs
theorem zb:aw (st 31)=[aI (aw (st 31)) 0,aI (aw (st 31)) 1,aI (aw (st 31)) 2,aI (aw (st 31)) 3,aI (aw (st 31)) 4]:=by rfl
section
variable {C:Cx}{A:Around}{g:G}{M:be}{env:Env}{mg mb:Str→Option Value}
theorem AV {L a c p LV f sh GR K pad:Addr}{ptag ptail l0:Value}{low high:Nat}{t u:Tok}{lvs xs:Array Value}{ls:List Str}{o:Option Str}{tk:Tok}{i:Nat}(B:Base C mg mb g)(Sb:SubAt mg g)(FL:Fz g LV (ai lvs))(hls:StrsAre lvs.toList ls)(hlow:low<high)(hhigh:high≤ls.length)(hn:ls.length≤1000)(P:Elem mg g p ptag pad ptail K)(Fs:Fz g sh (aB C [("low",l0),("tail",dR o tk)]))(hsm:(sh==sysModules)=false)(hi:M[i]?=some (K,ai xs))(hxs:xs.size≤1000)(rm:Rm A 8){Q:PQ Flow}(kQ:∀ g',G.le g g'→∀ y Ky d tt,(Elem mg g' y (.str (if high-low=1 then ls.getD low "" else "") tt) d (dR o tk) Ky)→Fz g' d (aB C [("low",.int low t),("tail",dR o tk),("high",.int high u)])→(d==sysModules)=false→Q .next g' ((Ky,ai #[])::(L,aJ [("parent",.ref p),("leaves",.ref LV),("low",.int low t),("high",.int high u),("cut",.ref f),("shared",.ref sh),("grown",.ref GR),("one",.ref y)])::M.set i (K,ai (xs.push (.ref y))))) :
  W C A (exec (aI (aw (st 31)) 0) (nM L a c)) g ((L,aJ [("parent",.ref p),("leaves",.ref LV),("low",.int low t),("high",.int high u),("cut",.ref f),("shared",.ref sh),("grown",.ref GR)])::M) Q:=by
 refine' bQ fun qQ KQ=>?_
 refine aT (id Sb.ex) fun aS cS pmS TS uS q3=>cA q3 fun hS1 hS2 hS3 hS4=>?_;clear q3
 refine aA ?_
 refine az ?_
 refine bF B hS1 ?_
 refine aq ?_
 refine fK ?_
 refine ab ?_
 refine ar (.head _) (by rfl) ?_
 refine ab ?_
 refine W.mono (Q:=fun v g' M'=>(∃ tt,v=.str (if high-low=1 then ls.getD low "" else "") tt)∧g'=g∧M'=(L,aJ [("parent",.ref p),("leaves",.ref LV),("low",.int low t),("high",.int high u),("cut",.ref f),("shared",.ref sh),("grown",.ref GR)])::M) ?_ ?_
 ·refine gk ?_
  refine aR ?_
  refine bh ?_
  refine ar (.head _) (by rfl) ?_
  refine ar (.head _) (by rfl) ?_
  refine' q0 fun O O=>?_
  refine' bx fun O O=>?_
  refine' wQ ?_
  refine aV ?_
  by_cases h1:high-low=1
  ·rw[if_pos (beq_iff_eq.mpr (by exact ln2 [_,_,_] [] (.Q (.s bA eG) av) (.eq ao av) (.Y 1 (.eq (.a ao am) ah)) ae h1 (bn (bY hlow))))]
   refine aC ?_
   refine ar (.head _) (by rfl) ?_
   refine ar (.head _) (by rfl) ?_
   have SN:Sees g ((L,aJ [("parent",.ref p),("leaves",.ref LV),("low",.int low t),("high",.int high u),("cut",.ref f),("shared",.ref sh),("grown",.ref GR)])::M) LV (bq lvs):=.fz (FL.imp fun O=>bj)
   refine ⟨bE SN,?_⟩
   have hlen:=hls.length
   rw[fA] at hlen
   have hv:lvs[low]?=some lvs[low]:=Array.getElem?_eq_getElem (cZ [_,_,_,_] [] (.lt ah am) (.lt ah ao) (.le ao aM) (.Y 1 (.eq am aM)) ae hlow hhigh hlen)
   refine bJ (c7 (j:=low) hls ((Array.getElem?_toList).trans hv)) fun y tt hy hye=>?_
   refine aO SN (cY _) (cZ [_,_,_] [] (.T bA (.p 2 63)) (.lt ah am) (.le am ao) (.le ao bg) ae hlow hhigh hn) (by rw[d3];exact hv) ?_
   rw[hye]
   exact (iPPP ⟨tt,by rw[if_pos h1,List.getD_eq_getElem?_getD,hy];rfl⟩ rfl rfl)
  ·rw[if_neg (by rw[beq_iff_eq];exact ku (ln2 [_,_,_] [] (.T av (.s bA eG)) (.eq (.a ao am) ah) (.lt av ao) ae (bn (bY hlow)) (gz (ln2 [_,_,_] [] (.le av ah) (.lt am ao) (.le ao (.a ah am)) ae hlow (aE _ _)) (Ne.symm h1))))]
   refine' eA fun tt O=>?_
   exact (iPPP ⟨tt,by rw[if_neg h1]⟩ rfl rfl)
 refine fun O O O O q4=>ch q4 fun q5 q6 q7=>bK q5 fun tt q8=>?_;clear q4 q5;subst q6;subst q7;subst q8
 refine ab ?_
 refine ar (.head _) (by rfl) ?_
 refine aj ?_
 refine eO ?_
 refine ak ?_
 refine ar (env:=nM L a c) (x:="low") (.head _) (by rfl) ?_
 refine ak (aP ?_)
 refine ay ?_
 refine eO ?_
 refine ak ?_
 refine ar (env:=nM L a c) (x:="high") (.head _) (by rfl) ?_
 refine ak (aP ?_)
 refine ay ?_
 refine d9 ?_
 refine ⟨ek (.fz hS2),?_⟩
 show W _ _ (call (.ref aS) [.ref p,.str (if high-low=1 then ls.getD low "" else "") tt,.ref sh] [("low",.int low t),("high",.int high u)]) _ _ _
 refine (qD (i:=i+1) B Sb hS1 P hi (bw hxs (by decide)) Fs hsm (jM _ _) rm).mono ?_
 refine fun O g' O l' q9=>bC q9 fun y Ky d q10 q11 q12=>ch q12 fun E1 F1 hd=>?_;clear q9 q12;subst q10;subst q11
 refine aX (i:=1) (by rfl) ?_
 exact KQ _ _ _ fun l=>kQ _ l y Ky d tt E1 F1 hd
noncomputable abbrev z7 (p LV f sh GR y:Addr)(low high:Nat)(t u:Tok):List (Str×Value):=[("parent",.ref p),("leaves",.ref LV),("low",.int low t),("high",.int high u),("cut",.ref f),("shared",.ref sh),("grown",.ref GR),("one",.ref y)]
theorem tq {a b c:Value}:merged [] [(("low":Str),a),("high",b),("tail",c)]=[(("low":Str),a),("high",b),("tail",c)]:=by rfl
theorem yq {a c:Value}:valueAt [(("low":Str),a),("tail",c)] "tail"=some c:=by rfl
theorem AR {L a c p LV f sh GR Ky y d:Addr}{tag l0:Value}{low high:Nat}{t u:Tok}{gs:Array Value}{o:Option Str}{tk:Tok}{j:Nat}(B:Base C mg mb g)(E1:Elem mg g y tag d (dR o tk) Ky)(F1:Fz g d (aB C [("low",.int low t),("tail",dR o tk),("high",.int high u)]))(hd:(d==sysModules)=false)(Fs:Fz g sh (aB C [("low",l0),("tail",dR o tk)]))(hj:M[j]?=some (GR,ai gs))(hgs:gs.size≤1000) :
  W C A (exec (aI (aw (st 31)) 1) (nM L a c)) g ((Ky,ai #[])::(L,aJ (z7 p LV f sh GR y low high t u))::M)
   (fun fl g' M'=>fl=.next∧∃ v0,M'=(Ky,ai #[])::(L,aJ (z7 p LV f sh GR y low high t u))::M.set j (GR,ai (gs.push v0))∧EntAt C mg g' (dR o tk) y v0):=by
 refine ld ?_
 refine bl ?_
 refine ar (.tail _ (.head _)) (by rfl) ?_
 intro pl
 refine fG F.slot_list_append F.type_list_append (.own (.tail _ (.tail _ (iu hj)))) ?_
 refine aq ?_
 refine au ?_
 refine ab ?_
 refine ed ?_
 refine ab ?_
 refine ar (.tail _ (.head _)) (by rfl) ?_
 refine ab ?_
 have hB:=B.m
 refine' nE hB fun e he=>?_
 ac_nf
 have Ss:Sees g ((e,aB C [])::(Ky,ai #[])::(L,aJ (z7 p LV f sh GR y low high t u))::M) sh (aB C [("low",l0),("tail",dR o tk)]):=.fz Fs
 refine ⟨gm Ss,?_⟩
 refine gb Ss yq ?_
 ac_nf
 refine (an ([(_,_),(_,_),(_,_)]) 0 rfl (cx (strKind_is _ _ _ _) rfl (strKind_is _ _ _ _) rfl (strKind_is _ _ _ _) (jb rfl trivial)) ?_)
 rw[tq]
 refine' bI (M':=(e,aB C [("low",.int low t),("high",.int high u),("tail",dR o tk)])::(Ky,ai #[])::(L,aJ (z7 p LV f sh GR y low high t u))::M) (by rfl') ?_
 refine' dE fun g₁ l₁ Fe=>?_
 refine aj ?_
 refine ⟨by simp only[List.length];decide,fun T g₂ l₂ FT=>?_⟩
 refine aj ?_
 refine ⟨ap,?_⟩
 show W _ _ (call (.builtin "list.append") [.ref GR,.ref T]) _ _ _
 refine iJ (i:=j+2) hj (bw hgs (by decide)) ?_
 refine (sD (fun O h=>Value.noConfusion h) rfl (.ref T) rfl ?_)
 exact (ba T d e low high (c4 t u tag Ky rfl (cx FT (E1.mono (l₁.trans l₂)) (F1.mono (l₁.trans l₂)) (Fe.mono l₂) hd he)))
end
end
section
theorem Bp {α:Type}{a b c x y:α}{l:List α}{j:Nat}:((a::b::l.set j x).set 0 c).set (j+2) y=c::b::l.set j y:=by
 show c::b::(l.set j x).set j y=_
 rw[List.set_set]
theorem cq (x y:Str):(x++y).length=x.length+y.length:=by
 obtain ⟨a⟩:=x
 obtain ⟨b⟩:=y
 show (a++b).size=a.size+b.size
 exact tH
noncomputable def qF (cf:Nat→Nat→Nat)(n:Nat):Prop:=∀ low high,low+2≤high→high≤n→low<cf low high∧cf low high<high
theorem fX {cf:Nat→Nat→Nat}{ls:List Str}(hcf:qF cf ls.length)(hls:∀ s∈ls,s.length≤1000):∀ (fuel low high:Nat),high-low≤fuel→low<high→high≤ls.length →
  (dH cf ls fuel low high).sz=high-low∧(dH cf ls fuel low high).text.length+2≤1002*(high-low)∧(dH cf ls fuel low high).ht+1≤high-low
 | 0,low,high,h,h1,_=>by lia
 | fuel+1,low,high,h,h1,h2=>by
  unfold dH
  by_cases q:high-low=1
  ·rw[if_pos q,q]
   refine (iPPP rfl ?_ (dX _))
   show (ls.getD low "").length+2≤1002
   have hm:ls.getD low ""∈ls:=by
    rw[List.getD_eq_getElem?_getD,List.getElem?_eq_getElem (show low<ls.length by exact b9 h1 h2)]
    exact me _
   have:=hls _ hm
   exact mt this _
  ·rw[if_neg q]
   refine dI (hcf low high (ln2 [_,_,_] [] (.le (.a ah cH) am) (.eq (.a ao ah) am) (.lt av ao) ae (bn (bY h1)) (gz (ln2 [_,_,_] [] (.le av ah) (.lt am ao) (.le ao (.a ah am)) ae h1 (aE _ _)) (Ne.symm q))) h2) fun c1 c2=>?_
   refine ch (fX hcf hls fuel low (cf low high) (gh [_,_,_,_,_,_] [] (.le ah am) (.le ao (.a am av)) (.lt aM bD) (.le bD (.a ao dc)) (.eq (.a ah dc) aM) ae h c2 (aE _ _) (bn (bY c1))) c1 (bY (b9 c2 h2))) fun a1 a2 a3=>?_
   refine ch (fX hcf hls fuel (cf low high) high (gh [_,_,_,_,_,_] [] (.le ah am) (.le ao (.a am av)) (.lt aM bD) (.le dc (.a ao aM)) (.eq (.a ah bD) dc) ae h c1 (aE _ _) (bn (bY c2))) c2 h2) fun b1 b2 b3=>?_
   refine (iPPP ?_ ?_ ?_)
   ·show _+_=_
    exact vc [_,_,_,_,_,_,_,_] [] (.eq (.a ah am) ao) (.eq ah aM) (.eq am bD) (.Y 1 (.eq (.a ao dc) ke)) (.eq (.a aM dc) we) (.eq (.a bD we) ke) ae a1 b1 (bn (bY h1)) (bn (bY c1)) (bn (bY c2))
   ·show ((("(":Str)++_)++_++(")":Str)).length+2≤_
    rw[cq,cq,cq]
    show 1+_+_+1+2≤_
    exact vc [_,_,_,_,_,_,_,_] [] (.le (.a (.a (.a (.a av ah) am) av) cH) (.m 1002 ao)) (.le (.a ah cH) (.m 1002 aM)) (.le (.a am cH) (.m 1002 bD)) (.X 1002 (.le dc (.a ao ke))) (.X 1002 (.eq (.a aM ke) we)) (.X 1002 (.eq (.a bD we) dc)) ae a2 b2 (aE _ _) (bn (bY c1)) (bn (bY c2))
   ·show max _ _+1+1≤_
    lia
section
variable {C:Cx}{A:Around}{g:G}{M:be}{env:Env}{mg mb:Str→Option Value}
noncomputable def AM (C:Cx)(mg:Str→Option Value)(M:be)(t:Tr)(i j n:Nat)(K GR:Addr)(xs gs:Array Value)(tl:Value)(r:Value)(g':G)(M':be):Prop :=
 ∃ y new tt,r=.str t.text tt∧TrAt mg g' y t∧M'=(M.set i (K,ai (xs.push (.ref y)))).set j (GR,ai (gs++new))∧new.size+1=2*n ∧
  (∀ v∈new.toList,∃ y',EntAt C mg g' tl y' v)∧∃ v0,new[0]?=some v0∧EntAt C mg g' tl y v0
theorem yc {cf:Nat→Nat→Nat}{ls:List Str}{a a2 LV f sh GR:Addr}{l0:Value}{lvs:Array Value}{o:Option Str}{tk:Tok}(hcf:qF cf ls.length)(hls:∀ s∈ls,s.length≤1000)(hne:∀ s∈ls,(s != ("":Str))=true)(hn:ls.length≤100)(hsm:(sh==sysModules)=false):∀ (fuel:Nat)
  {A:Around}{g:G}{M:be}{low high:Nat}{t u:Tok}{p pad K:Addr}{ptag ptail:Value}{xs gs:Array Value}{i j:Nat},high-low≤fuel→low<high→high≤ls.length→Base C mg mb g→SubAt mg g→mg (ax (st 31))=some (.ref a) →
  Fz g LV (ai lvs)→StrsAre lvs.toList ls→CutOk C g f ls.length cf→Elem mg g p ptag pad ptail K→Fz g sh (aB C [("low",l0),("tail",dR o tk)])→M[i]?=some (K,ai xs)→M[j]?=some (GR,ai gs)→i≠j→xs.size≤10→gs.size+2*(high-low)≤1000→Rm A (fuel+14) →
  W C A (call (.ref a) [.ref p,.ref LV,.int low t,.int high u,.ref f,.ref sh,.ref GR] []) g M (AM C mg M (dH cf ls fuel low high) i j (high-low) K GR xs gs (dR o tk)):=by
 intro fuel
 induction fuel with
 | zero=>intro A g M low high t u p pad K ptag ptail xs gs i j h h1;lia
 | succ fuel ih =>
  intro A g M low high t u p pad K ptag ptail xs gs i j hfu hlh hhn B Sb e31 FL hlv CF P Fs hi hj hij hxs hgs rm
  refine aK (B.defs 31 rfl (by decide)) fun a' c e' Da O=>?_
  have:a'=a:=by rw[e31] at e';cases e';rfl
  subst this
  refine ft (binds:=[("parent",.ref p),("leaves",.ref LV),("low",.int low t),("high",.int high u),("cut",.ref f),("shared",.ref sh),("grown",.ref GR)]) Da B.lim rm.room (fun O=>rfl) rfl fun L=>?_
  have rm1:Rm (A.deeper (nM L a' c)) (fuel+14):=(show Rm A (fuel+14+1) from rm.le (dX _)).deeper
  show W C (A.deeper (nM L a' c)) (execs (aw (st 31)) (nM L a' c)) g ((L,aJ [("parent",.ref p),("leaves",.ref LV),("low",.int low t),("high",.int high u),("cut",.ref f),("shared",.ref sh),("grown",.ref GR)])::M) _
  generalize A.deeper _=A1 at *
  rw[zb]
  refine' af ?_
  refine' AV B Sb FL hlv hlh hhn (bw hn (by decide)) P Fs hsm hi (bw hxs (by decide)) rm1.le fun g1 l1 y Ky d tt E1 F1 hd=>?_
  replace B:=B.mono l1
  replace Sb:=Sb.mono l1
  replace FL:=FL.mono l1
  replace CF:=CF.mono l1
  replace Fs:=Fs.mono l1
  clear l1
  show W C A1 (execs _ _) _ _ _
  refine' af ?_
  have hj1:(M.set i (K,ai (xs.push (.ref y))))[j]?=some (GR,ai gs):=by rw[List.getElem?_set_ne hij];exact hj
  refine' (AR B E1 F1 hd Fs hj1 (bw (dG _ _) hgs)).mono ?_
  refine fun O g2 O l2 q5=>d6 q5 fun q6 v0 q7 En0=>?_;clear q5;subst q6;subst q7
  replace B:=B.mono l2
  replace Sb:=Sb.mono l2
  replace FL:=FL.mono l2
  replace CF:=CF.mono l2
  replace Fs:=Fs.mono l2
  replace E1:=E1.mono l2
  clear l2
  show W C A1 (execs _ _) _ _ _
  refine' af ?_
  refine nI ?_
  refine aR ?_
  refine bh ?_
  refine ar (.tail _ (.head _)) (by rfl) ?_
  refine ar (.tail _ (.head _)) (by rfl) ?_
  refine' q0 fun O O=>?_
  refine' bx fun O O=>?_
  refine' wQ ?_
  refine aV ?_
  unfold dH
  by_cases h1:high-low=1
  ·rw[if_pos (beq_iff_eq.mpr (by exact ln2 [_,_,_] [] (.Q (.s bA eG) av) (.eq ao av) (.Y 1 (.eq (.a ao am) ah)) ae h1 (bn (bY hlh)))),if_pos h1]
   rw[if_pos h1] at E1
   refine af ?_
   refine cz ?_
   refine aC ?_
   refine ar (.tail _ (.head _)) (by rfl) ?_
   refine ar (.tail _ (.head _)) (by rfl) ?_
   have SN:∀ N,Sees g2 N LV (bq lvs):=fun N=>.fz (FL.imp fun O=>bj)
   refine ⟨bE (SN _),?_⟩
   have hlen:=hlv.length
   rw[fA] at hlen
   have hv:lvs[low]?=some lvs[low]:=Array.getElem?_eq_getElem (cZ [_,_,_,_] [] (.lt ah am) (.lt ah ao) (.le ao aM) (.Y 1 (.eq am aM)) ae hlh hhn hlen)
   refine bJ (c7 (j:=low) hlv ((Array.getElem?_toList).trans hv)) fun sy ty hy hye=>?_
   refine aO (SN _) (cY _) (cZ [_,_,_] [] (.T bA (.p 2 63)) (.le am dJ) (.lt ah ao) (.le ao am) ae hn hlh hhn) (by rw[d3];exact hv) ?_
   have hgd:ls.getD low ""=sy:=by rw[List.getD_eq_getElem?_getD,hy];rfl
   rw[hye]
   refine (dB ([_,_]) _ rfl y (#[v0]) (dy ty ?_ ?_ ?_ ?_ (jb ?_ ?_)))
   ·show Value.str sy ty=Value.str (ls.getD low "") ty
    rw[hgd]
   ·exact (qz (hne _ (hgd▸iu hy)) tt d _ _ E1)
   ·rw[ul (as:=gs)]
   ·show 1+1=2*(high-low)
    exact aQ [_] [] (.eq (.a av av) (.m 2 ah)) (.Y 2 (.eq ah av)) ae h1
   ·intro v hv
    obtain rfl:=List.mem_singleton.mp hv
    exact ⟨y,En0⟩
   ·exact (aG v0 rfl En0)
  ·rw[if_neg (by rw[beq_iff_eq];exact ku (ln2 [_,_,_] [] (.T av (.s bA eG)) (.eq (.a ao am) ah) (.lt av ao) ae (bn (bY hlh)) (gz (ln2 [_,_,_] [] (.le av ah) (.lt am ao) (.le ao (.a ah am)) ae hlh (aE _ _)) (Ne.symm h1)))),if_neg h1]
   rw[if_neg h1] at E1
   refine bu ?_
   refine dI (hcf low high (ln2 [_,_,_] [] (.le (.a ah cH) am) (.eq (.a ao ah) am) (.lt av ao) ae (bn (bY hlh)) (gz (ln2 [_,_,_] [] (.le av ah) (.lt am ao) (.le ao (.a ah am)) ae hlh (aE _ _)) (Ne.symm h1))) hhn) fun hc1 hc2=>?_
   show W C A1 (execs _ _) _ _ _
   refine' af ?_
   refine aA ?_
   refine az ?_
   refine ar (.tail _ (.head _)) (by rfl) ?_
   refine aq ?_
   refine au ?_
   refine ab ?_
   refine ar (.tail _ (.head _)) (by rfl) ?_
   refine ab ?_
   refine ar (.tail _ (.head _)) (by rfl) ?_
   refine aj ?_
   refine ⟨ek (.fz CF.fn.choose_spec),?_⟩
   show W _ _ (call (.ref f) [.int low t,.int high u] []) _ _ _
   refine (CF.call _ _ _ low high t u (rm1.le (bw (by decide) (j6 _ _))) .refl (ln2 [_,_,_] [] (.le (.a ah cH) am) (.lt ah ao) (.lt ao am) ae hc1 hc2) hhn).mono ?_
   refine fun O g3 O l3 q8=>ew q8 fun q9 t3 q10=>?_;clear q8;subst q9;subst q10
   replace B:=B.mono l3
   replace Sb:=Sb.mono l3
   replace FL:=FL.mono l3
   replace CF:=CF.mono l3
   replace Fs:=Fs.mono l3
   replace E1:=E1.mono l3
   replace En0:=En0.mono l3
   clear l3
   generalize hm:cf low high=m at *
   refine aX (i:=1) (by rfl) ?_
   have hj2:((M.set i (K,ai (xs.push (.ref y)))).set j (GR,ai (gs.push v0)))[j]?=some (GR,ai (gs.push v0)):=List.getElem?_set_self (List.getElem?_eq_some_iff.mp hj1).1
   generalize hMM:(M.set i (K,ai (xs.push (.ref y))))=M1 at *
   refine' bI (M':=(Ky,ai #[])::(L,aJ (bR (z7 p LV f sh GR y low high t u) "middle" (.int m t3)))::M1.set j (GR,ai (gs.push v0))) (by rfl') ?_
   show W C A1 (execs _ _) _ _ _
   refine' af ?_
   refine cz ?_
   refine bh ?_
   refine bh ?_
   refine bh ?_
   refine' eA fun t4 O=>?_
   refine az ?_
   refine bF B e31 ?_
   refine aq ?_
   refine au ?_
   refine ab ?_
   refine ar (.tail _ (.head _)) (by rfl) ?_
   refine ab ?_
   refine ar (.tail _ (.head _)) (by rfl) ?_
   refine ab ?_
   refine ar (.tail _ (.head _)) (by rfl) ?_
   refine ab ?_
   refine ar (.tail _ (.head _)) (by rfl) ?_
   refine ab ?_
   refine ar (.tail _ (.head _)) (by rfl) ?_
   refine ab ?_
   refine ar (.tail _ (.head _)) (by rfl) ?_
   refine ab ?_
   refine ar (.tail _ (.head _)) (by rfl) ?_
   refine aj ?_
   refine ⟨B.kept 31 e31,?_⟩
   show W _ _ (call (.ref a') [.ref y,.ref LV,.int low t,.int m t3,.ref f,.ref sh,.ref GR] []) _ _ _
   refine (ih (i:=0) (j:=j+2) (xs:=#[]) (gs:=gs.push v0) (gh [_,_,_,_,_,_] [] (.le ah am) (.le ao (.a am av)) (.lt aM bD) (.le bD (.a ao dc)) (.eq (.a ah dc) aM) ae hfu hc2 (aE _ _) (bn (bY hc1))) hc1 (bY (b9 hc2 hhn)) B Sb e31 FL hlv CF E1 Fs rfl hj2 (eE (eF [_] [] (.lt b6 (.a ah cH)) ae)) (by simp) (by rw[re];exact gh [_,_,_,_,_,_] [] (.le (.a (.a ah av) (.m 2 am)) bg) (.le (.a ah (.m 2 ao)) bg) (.X 2 (.lt aM bD)) (.X 2 (.le bD (.a ao dc))) (.X 2 (.eq (.a am dc) aM)) ae hgs hc2 (aE _ _) (bn (bY hc1))) rm1).mono ?_
   refine fun O g4 O l4 q11=>bC q11 fun y1 new1 tt1 q12 T1 q14=>cA q14 fun q13 hnew1 hent1 O=>?_;clear q11 q14;subst q12;subst q13
   refine ch (fX (ls:=ls) hcf hls fuel low m (gh [_,_,_,_,_,_] [] (.le ah am) (.le ao (.a am av)) (.lt aM bD) (.le bD (.a ao dc)) (.eq (.a ah dc) aM) ae hfu hc2 (aE _ _) (bn (bY hc1))) hc1 (bY (b9 hc2 hhn))) fun z1 z2 z3=>?_
   refine ch (fX (ls:=ls) hcf hls fuel m high (gh [_,_,_,_,_,_] [] (.le ah am) (.le ao (.a am av)) (.lt aM bD) (.le dc (.a ao aM)) (.eq (.a ah bD) dc) ae hfu hc1 (aE _ _) (bn (bY hc2))) hc2 hhn) fun w1 w2 w3=>?_
   replace B:=B.mono l4
   replace Sb:=Sb.mono l4
   replace FL:=FL.mono l4
   replace CF:=CF.mono l4
   replace Fs:=Fs.mono l4
   replace E1:=E1.mono l4
   replace En0:=En0.mono l4
   clear l4
   generalize dH cf ls fuel low m=tL at *
   generalize hgR:dH cf ls fuel m high=tR at *
   refine fT (by show 1+tL.text.length≤2^24;exact vc [_,_,_,_,_] [] (.le (.a av ah) (.p 2 24)) (.X 1002 (.le am dJ)) (.X 1002 (.le ao am)) (.X 1002 (.lt aM ao)) (.le (.a ah cH) (.m 1002 bD)) (.X 1002 (.le bD aM)) ae hn hhn hc2 z2 (de _ _)) fun t5=>?_
   refine' bI (M':=(Ky,ai (#[].push (.ref y1)))::(L,aJ (bR (z7 p LV f sh GR y low high t u) "middle" (.int m t3)))::M1.set j (GR,ai (gs.push v0++new1))) Bp ?_
   have hj3:(M1.set j (GR,ai (gs.push v0++new1)))[j]?=some (GR,ai (gs.push v0++new1)):=List.getElem?_set_self (List.getElem?_eq_some_iff.mp hj1).1
   refine az ?_
   refine bF B e31 ?_
   refine aq ?_
   refine au ?_
   refine ab ?_
   refine ar (.tail _ (.head _)) (by rfl) ?_
   refine ab ?_
   refine ar (.tail _ (.head _)) (by rfl) ?_
   refine ab ?_
   refine ar (.tail _ (.head _)) (by rfl) ?_
   refine ab ?_
   refine ar (.tail _ (.head _)) (by rfl) ?_
   refine ab ?_
   refine ar (.tail _ (.head _)) (by rfl) ?_
   refine ab ?_
   refine ar (.tail _ (.head _)) (by rfl) ?_
   refine ab ?_
   refine ar (.tail _ (.head _)) (by rfl) ?_
   refine aj ?_
   refine ⟨B.kept 31 e31,?_⟩
   show W _ _ (call (.ref a') [.ref y,.ref LV,.int m t3,.int high u,.ref f,.ref sh,.ref GR] []) _ _ _
   refine (ih (i:=0) (j:=j+2) (xs:=#[.ref y1]) (gs:=gs.push v0++new1) (gh [_,_,_,_,_,_] [] (.le ah am) (.le ao (.a am av)) (.lt aM bD) (.le dc (.a ao aM)) (.eq (.a ah bD) dc) ae hfu hc1 (aE _ _) (bn (bY hc2))) hc2 hhn B Sb e31 FL hlv CF E1 Fs rfl hj3 (eE (eF [_] [] (.lt b6 (.a ah cH)) ae)) (by simp) (by rw[tH,re];exact vc [_,_,_,_,_,_,_,_] [] (.le (.a (.a (.a ah av) am) (.m 2 ao)) bg) (.le (.a ah (.m 2 aM)) bg) (.eq (.a am av) (.m 2 bD)) (.X 2 (.le dc (.a aM ke))) (.X 2 (.eq (.a ao we) dc)) (.X 2 (.eq (.a bD ke) we)) ae hgs hnew1 (aE _ _) (bn (bY hc2)) (bn (bY hc1))) rm1).mono ?_
   rw[hgR]
   refine fun O g5 O l5 q15=>bC q15 fun y2 new2 tt2 q16 T2 q18=>cA q18 fun q17 hnew2 hent2 O=>?_;clear q15 q18;subst q16;subst q17
   refine fT (by rw[cq];show 1+tL.text.length+tR.text.length≤2^24;exact BN [_,_,_,_,_,_,_] [] (.le (.a (.a av ah) am) (.p 2 24)) (.X 1002 (.le ao dJ)) (.X 1002 (.le aM ao)) (.le (.a ah cH) (.m 1002 bD)) (.le (.a am cH) (.m 1002 dc)) (.X 1002 (.le bD ke)) (.X 1002 (.eq (.a dc ke) aM)) ae hn hhn z2 w2 (de _ _) (bn (bY hc2))) fun t6=>?_
   refine' eA fun t7 O=>?_
   refine' bI (M':=(Ky,ai (#[.ref y1].push (.ref y2)))::(L,aJ (bR (z7 p LV f sh GR y low high t u) "middle" (.int m t3)))::M1.set j (GR,ai (gs.push v0++new1++new2))) Bp ?_
   refine' dE fun g6 l6 FK=>?_
   refine fT (by rw[cq,cq];show 1+tL.text.length+tR.text.length+1≤2^24;exact BN [_,_,_,_,_,_,_] [] (.le (.a (.a (.a av ah) am) av) (.p 2 24)) (.X 1002 (.le ao dJ)) (.X 1002 (.le aM ao)) (.le (.a ah cH) (.m 1002 bD)) (.le (.a am cH) (.m 1002 dc)) (.X 1002 (.le bD ke)) (.X 1002 (.eq (.a dc ke) aM)) ae hn hhn z2 w2 (de _ _) (bn (bY hc2))) fun t8=>?_
   refine (dB ([_]) _ rfl y (#[v0]++new1++new2) (dy t8 rfl ?_ ?_ ?_ (jb ?_ ?_)))
   ·exact (ba tt d _ Ky y1 (eQ y2 (E1.mono (l5.trans l6)) (FK.imp fun O=>bj) (T1.mono (l5.trans l6)) (T2.mono l6)))
   ·rw[ul (as:=gs),← rv,← rv,hMM]
   ·rw[tH,tH]
    show 1+new1.size+new2.size+1=_
    exact vc [_,_,_,_,_,_,_,_] [] (.eq (.a (.a (.a av ah) am) av) (.m 2 ao)) (.eq (.a ah av) (.m 2 aM)) (.eq (.a am av) (.m 2 bD)) (.Y 2 (.eq (.a ao dc) ke)) (.X 2 (.eq (.a aM dc) we)) (.X 2 (.eq (.a bD we) ke)) ae hnew1 hnew2 (bn (bY hlh)) (bn (bY hc1)) (bn (bY hc2))
   ·intro v hv
    rw[kf,kf,pd,pd] at hv
    rcases hv with (hv|hv)|hv
    ·obtain rfl:=List.mem_singleton.mp hv
     exact ⟨y,En0.mono (l5.trans l6)⟩
    ·refine bK (hent1 v hv) fun y' h=>?_
     exact ⟨y',h.mono (l5.trans l6)⟩
    ·refine bK (hent2 v hv) fun y' h=>?_
     exact ⟨y',h.mono l6⟩
   ·refine (aG v0 ?_ (En0.mono (l5.trans l6)))
    rw[rv,Array.getElem?_append_left (by show 0<1;decide)]
    rfl
end
end
section
open PySem.SeqAt PySem.MeetsSeq PySem.MeetsSeq2 PySem.MeetsSeq3
open AutoSeq1 (wpAny_loadPart')
noncomputable def qV (w:World)(A:Around)(s:Shared)(x y:Value):Prop:=∀ (E:Value→Shared→Prop) (Q:Bool→Shared→Prop),Q true s→wpAny (model prog w) A (eqBool x y) Q E s
section
variable {w:World}
theorem ox (l b:Addr)(items items2:Array Value)(n n2:Nat)(hsz:items.size=items2.size)(k:Nat) :
  ∀ i:Nat,items.size-i=k→MeetsIn prog w (Builtin.«list.__eq__.loop» ⟨[.ref l,.ref b,rawInt i,rawInt 3],[]⟩)
   (fun A R s=>s.heap.get? l=some { cls:=.type "list",data:=.seq items n }∧s.heap.get? b=some { cls:=.type "list",data:=.seq items2 n2 } ∧
    (∀ j (h1:j<items.size) (h2:j<items2.size),qV w A.in1 s items[j] items2[j])∧R (.ok (.ret (.bool false))) s):=by
 induction k with
 | zero =>
  intro i hk A R s h
  obtain ⟨hp,g,d,tk,os⟩:=s;revert h;refine fun q1=>cA q1 fun hl hb he h=>?_;clear q1
  wp_walk using wpAny_loadPart' hl,wpAny_loadPart' hb
  have hi1:items[((i:Nat):Int).toNat]?=none:=by simp;exact ln2 [_,_,_] [] (.le ah am) (.eq ao b6) (.le ah (.a ao am)) ae hk (aE _ _)
  have hi2:items2[((i:Nat):Int).toNat]?=none:=by simp;exact cZ [_,_,_,_] [] (.le ah am) (.Y 1 (.eq ao ah)) (.eq aM b6) (.le ao (.a aM am)) ae hsz hk (aE _ _)
  rw[hi1,hi2]
  wp_walk using wpAny_loadPart' hl,wpAny_loadPart' hb
  show R (.ok (.ret (.bool (items.size != items2.size)))) _
  rw[hsz]
  simpa using h
 | succ k ih =>
  intro i hk A R s h
  obtain ⟨hp,g,d,tk,os⟩:=s;revert h;refine fun q2=>cA q2 fun hl hb he h=>?_;clear q2
  wp_walk using wpAny_loadPart' hl,wpAny_loadPart' hb
  have hlt:i<items.size:=by lia
  have hlt2:i<items2.size:=by exact b9 hlt (cG hsz)
  have hi1:items[((i:Nat):Int).toNat]?=some items[i]:=by simp[hlt]
  have hi2:items2[((i:Nat):Int).toNat]?=some items2[i]:=by simp[hlt2]
  have hc:((i:Int)+1)=((i+1:Nat):Int):=by push_cast;rfl
  rw[hi1,hi2]
  refine wpAny_bind (he i hlt hlt2 _ _ ?_)
  wp_walk
  rw[hc]
  exact ⟨plainId_quiet plain_eq_loop _,codeAny_builtin entry_eq_loop (by
   rw[Around.under_plainId plain_eq_loop _]
   exact ih (i+1) (cZ [_,_,_,_,_] [] (.eq ah am) (.eq ao (.a am av)) (.eq (.a ah (.a aM av)) bD) (.Y 1 (.eq (.a ao aM) bD)) ae hk (bn (aQ [_,_] [] (.le (.a ah av) am) (.lt ah am) ae hlt)) (bn (bY hlt))) A R _ (cr hl hb he h))⟩
theorem oG (l b:Addr)(items items2:Array Value)(n n2:Nat)(hsz:items.size=items2.size) :
  MeetsIn prog w (Builtin.«list.__ne__» ⟨[.ref l,.ref b],[]⟩)
   (fun A R s=>s.heap.get? l=some { cls:=.type "list",data:=.seq items n }∧s.heap.get? b=some { cls:=.type "list",data:=.seq items2 n2 } ∧
    (∀ j (h1:j<items.size) (h2:j<items2.size),qV w A.in1 s items[j] items2[j])∧R (.ok (.ret (.bool false))) s):=by
 intro A R s h
 obtain ⟨hp,g,d,tk,os⟩:=s;revert h;refine fun q3=>cA q3 fun hl hb he h=>?_;clear q3
 have f3:=AutoSeq1.sub_list_list
 have hne:¬ (items.size != items2.size)=true:=by simp[hsz]
 wp_walk using wpAny_loadPart' hl,wpAny_loadPart' hb
 exact ⟨plainId_quiet plain_eq_loop _,codeAny_builtin entry_eq_loop (by
  rw[Around.under_plainId plain_eq_loop _]
  exact ox l b items items2 n n2 hsz _ 0 rfl A R _ (cr hl hb he h))⟩
end
section
variable {C:Cx}{A:Around}{g:G}{M:be}{env:Env}
theorem wd {l b:Addr}{xs ys:Array Value}{Q:PQ Value}(hl:Sees g M l (ai xs))(hb:Sees g M b (ai ys))(hsz:xs.size=ys.size)(hu:A.units<cLine)(he:∀ s,St C g M s→∀ j (h1:j<xs.size) (h2:j<ys.size),qV C.w A.in1 s xs[j] ys[j])(h:Q (.bool false) g M):W C A (compareOp .NotEq (.ref l) (.ref b)) g M Q:=fun s S=>by
 refine bK (S.isL hl) fun n hl'=>?_
 refine bK (S.isL hb) fun n2 hb'=>?_
 have hT:s.TypeIs (.ref l) "list":=(aG _ hl' rfl)
 have hT2:s.TypeIs (.ref b) "list":=(aG _ hb' rfl)
 refine wpAny_richCompare_same_room (op:=.NotEq) hT hT2 F.slot_list_ne ?_ hu
 refine call_meetsIn F.slot_list_ne hT F.entry_list_ne (F.args_list_ne_2 _ _) (oG l b xs ys n n2 hsz) (cr hl' hb' (he s S) ?_)
 show Value.bool false≠Value.notImplemented∧_
 refine And.intro (fun x=>nomatch x) ?_
 exact (an g M .refl S h)
theorem wO {a b:Addr}{ka kb:List (Str×Value)}{Q:PQ Value}(ha:(a==sysModules)=false)(hb:(b==sysModules)=false)(da:Sees g M a (aB C ka))(db:Sees g M b (aB C kb))(hu:A.units<cLine)(hlen:ka.length=kb.length)(hits:∀ s,KeqHits A.in1 s kb ka true)(h:Q (.bool false) g M) :
  W C A (compareOp .NotEq (.ref a) (.ref b)) g M Q:=fun s S =>
 keq_ne ha hb (S.dict da) (S.dict db) hu (fun O=>hits s) (by
  have:(ka.length==kb.length&&true)=true:=by rw[hlen];simp
  rw[this]
  exact (an g M .refl S h))
theorem tP {s:Shared}(S:St C g M s){a b:Addr}{ka kb:List (Str×Value)}(ha:(a==sysModules)=false)(hb:(b==sysModules)=false)(hne:a≠b)(da:Sees g M a (aB C ka))(db:Sees g M b (aB C kb))(hu:A.units<cLine)(hlen:ka.length=kb.length)(hits:KeqHits A.in1 s kb ka true):qV C.w A s (.ref a) (.ref b):=fun E Q hq=>by
 unfold eqBool
 refine wpAny_holding ?_
 refine wpAny_ite_split (fun hab=>absurd (by have:=eq_of_beq hab;injection this) hne) (fun O=>?_)
 refine wpAny_bind ?_
 exact keq_eq ha hb (S.dict da) (S.dict db) hu (fun O=>hits) (by
  have:(ka.length==kb.length&&true)=true:=by rw[hlen];simp
  rw[this]
  exact wpAny_truthy_bool hq)
theorem rD {s:Shared}(S:St C g M s){a b:Addr}{ka kb:List (Str×Value)}(ha:(a==sysModules)=false)(hb:(b==sysModules)=false)(da:Sees g M a (aB C ka))(db:Sees g M b (aB C kb))(hu:A.in1.units<cLine)(hlen:ka.length=kb.length)(hits:KeqHits A.in1.in1 s kb ka true):qV C.w A.in1 s (.ref a) (.ref b):=by
 by_cases hne:a=b
 ·subst hne
  exact fun E Q hq=>SeqAt.EqAt.same (A:=A.in1) (s:=s) (.ref a) prog C.w E Q hq
 ·exact tP S ha hb hne da db hu hlen hits
end
end
section
section
variable {C:Cx}{A:Around}{g:G}{M:be}{env:Env}
theorem mf {a b c d:Expr}{k:Nat}{pos:Pos}{t:Addr}{u v w x:Value}{Q:PQ Unit}(hA:A.handled=none)(ht:Sees g M t (bS #[u,v,w,x]))(h:W C A (assign a env u) g M (fun O g₁ M₁=>W C A (assign b env v) g₁ M₁ (fun O g₂ M₂=>W C A (assign c env w) g₂ M₂ (fun O g₃ M₃=>W C A (assign d env x) g₃ M₃ (fun O=>Q ())))))(hs:assignEach [a,b,c,d] env=[(false,assign a env),(false,assign b env),(false,assign c env),(false,assign d env)]:=by rfl):W C A (assign (.Tuple [a,b,c,d] k pos) env (.ref t)) g M Q:=by
 rw[assign_Tuple]
 refine ak (aP ?_)
 unfold unpack
 rw[hs]
 refine ak (aD (j3 (items:=#[u,v,w,x]) hA ht ?_))
 show W C A (do holding [v,w,x] (assign a env u);do holding [w,x] (assign b env v);do holding [x] (assign c env w);do holding [] (assign d env x);pure ()) g M Q
 exact ak (aD (h.mono fun O O O O h=>ak (aD (h.mono fun O O O O h=>ak (aD (h.mono fun O O O O h=>ak (aD (h.mono fun O O O O h=>ay h))))))))
theorem lO {elt iter:Expr}{x y:Str}{k0:Nat}{px py pt:Pos}{scope:Scope}{cl:List (Str×Addr)}{pos:Pos}{Q:PQ Value}(hclos:closureFor scope env=pure cl)(h:W C A (eval iter env) g M (fun xv g₁ M₁=>∃ l rows,xv=.ref l∧Fz g₁ l (bq rows)∧rows.size≤16777216∧∃ J:Nat→Array Value→Prop,J 0 #[] ∧
   (∀ k g' ys v Cl D I P,k<rows.size→G.le g₁ g'→J k ys→rows[k]?=some v→∃ T u w,v=.ref T∧Fz g' T (bS #[u,w]) ∧
    W C A (eval elt (compEnvC scope cl Cl env)) g' ((Cl,aJ [(x,u),(y,w)])::(D,ai ys)::(I,P)::M₁) (fun z g₅ M₅=>(M₅=(Cl,aJ [(x,u),(y,w)])::(D,ai ys)::(I,P)::M₁)∧J (k+1) (ys.push z))) ∧
   (∀ g' g'' ys D,G.le g₁ g'→J rows.size ys→G.le g' g''→Fz g'' D (ai ys)→Q (.ref D) g'' M₁)))(hA:A.handled=none)(hxy:x≠y:=by decide)(hcell:∀ y∈scope.names,y.2≠.cell:=by decide)(hkind:scope.kind=.function:=by with_unfolding_all exact Eq.refl ScopeKind.function)(hnames:∀ x∈scope.names,x.2=.local→scope.names.lookup x.1=some .local:=by decide)(hx:scope.names.lookup x=some .local:=by decide)(hy:scope.names.lookup y=some .local:=by decide)(hs:∀ x,foldedSetIterable iter env x=pure x:=by intro _;rfl'):W C A (eval (.ListComp elt [⟨.Tuple [.Name x px,.Name y py] k0 pt,iter,[],0⟩] scope pos) env) g M Q:=by
 rw[eval_ListComp]
 refine j7 (t':=comprehension (.ListComp elt [⟨.Tuple [.Name x px,.Name y py] k0 pt,iter,[],0⟩] scope pos) scope env (firstIterPos [⟨.Tuple [.Name x px,.Name y py] k0 pt,iter,[],0⟩] pos) (newList []) false (eval iter env) none) rfl ?_
 suffices H:W C A (comprehension (.ListComp elt [⟨.Tuple [.Name x px,.Name y py] k0 pt,iter,[],0⟩] scope pos) scope env (firstIterPos [⟨.Tuple [.Name x px,.Name y py] k0 pt,iter,[],0⟩] pos) (newList []) false (eval iter env) none) g M
   (fun D g₁ M₁=>∃ M₀ ys d,D=.ref d∧M₁=(d,ai ys)::M₀∧∀ g'',G.le g₁ g''→Fz g'' d (ai ys)→Q (.ref d) g'' M₀) from
  fun s S=>wpAny_mono (H s S) (fun D s₁ q1=>cm q1 fun g₁ O l₁ S₁ M₀ q2=>aK q2 fun ys d e1 e2 q=>by
   subst e1 e2
   refine bT S₁.freeze fun o p ga S₂=>?_
   exact (an _ M₀ (l₁.trans (G.le_put ga)) S₂ (q _ (G.le_put ga) (aG o G.put_self p)))) fun O O x=>x
 refine eh (gc:=⟨.Tuple [.Name x px,.Name y py] k0 pt,iter,[],0⟩) rfl hs hclos hcell hkind hnames (h.mono ?_)
 refine fun xv g₁ M₁ l₁ q3=>bc q3 fun l rows q4 Fl hsz q5=>bT q5 fun J j0 turn fin=>?_;clear q3 q5;subst q4
 refine bX Fl fun I P Dr go=>?_
 refine jk (iE _) fun D Cl=>?_
 refine iV (cenv:=compEnvC scope cl Cl env) (Fr:=fun lo=>lo=[]∨∃ u w,lo=[(x,u),(y,w)]) (J:=fun k ys O=>J k ys) (Dr A hA) hsz (fun g' M' i k v Q' a b=>go A g' M' i k _ v Q' a b) ?_ ?_ (.inl rfl) j0
 ·intro k g' ys v lo hk l' j hv hf
  refine bC (turn k g' ys v Cl D I (P (k+1)) hk l' j hv) fun T u w q6 FT ht=>?_;subst q6
  refine cj hA (.fz FT) ?_
  refine aF ?_
  refine aX (i:=0) (l:=lo) rfl ?_ hkind (lookup_relabel_local hx)
  refine aF ?_
  refine aX (i:=0) (l:=bR lo x u) rfl ?_ hkind (lookup_relabel_local hy)
  have hp:aJ (bR (bR lo x u) y w)=aJ [(x,u),(y,w)]:=by
   have hyx:¬ y=x:=fun e=>hxy e.symm
   rcases hf with rfl|⟨u',w',rfl⟩
   ·simp only[bR,hyx,if_false]
   ·simp only[bR,if_true,hyx,if_false]
  show W C A _ g' ((Cl,aJ (bR (bR lo x u) y w))::(D,ai ys)::(I,P (k+1))::M₁) _
  rw[hp]
  refine dr ?_
  rw[if_pos rfl]
  refine ht.mono ?_
  refine fun z g₅ M₅ O q7=>dI q7 fun q8 j'=>?_;clear q7;subst q8
  exact (an ([]) _ rfl (.inr (sx u w rfl)) j')
 ·intro g' ys lo l' j
  exact (dB lo _ rfl M₁ ys (bU D rfl rfl (fun g'' l'' f=>fin g' g'' ys D l' j l'' f)))
end
end
section
noncomputable abbrev kn (L a1 a c:Addr):Env:=cV (bB (st 32)) L mainGlobals (c5 (aW (bB (st 32)).names) [a1] []) (ax (st 32)++".<locals>.") (some a) (.ref c) builtinsNs
noncomputable abbrev n6 (LV f:Addr)(tl:Value)(sh PG x0:Addr):List (Str×Value):=[("leaves",.ref LV),("cut",.ref f),("tail",tl),("shared",.ref sh),("page",.ref PG),("top",.ref x0)]
theorem zA:aw (st 32)=[aI (aw (st 32)) 0,aI (aw (st 32)) 1,aI (aw (st 32)) 2,aI (aw (st 32)) 3,aI (aw (st 32)) 4,aI (aw (st 32)) 5]:=by rfl
theorem mT {a c:Value}:merged [] [(("low":Str),a),("tail",c)]=[(("low":Str),a),("tail",c)]:=by rfl
section
variable {C:Cx}{A:Around}{g:G}{M:be}{env:Env}{mg mb:Str→Option Value}
theorem AU {L a1 a c LV f:Addr}{o:Option Str}{tk:Tok}(B:Base C mg mb g)(rm:Rm A 2){Q:PQ Flow}(kQ:∀ g',G.le g g'→∀ sh GR PG x0 K0 ad t1 t2,Fz g' sh (aB C [("low",.int (-1) t1),("tail",dR o tk)])→(sh==sysModules)=false→Elem mg g' x0 (.str "top" t2) ad .none K0→Q .next g' ((K0,ai #[])::(PG,ai #[])::(GR,ai #[])::(a1,ag (some (.ref GR)))::(L,aJ (n6 LV f (dR o tk) sh PG x0))::M)) :
  W C A (exec (aI (aw (st 32)) 0) (kn L a1 a c)) g ((a1,ag none)::(L,aJ [("leaves",.ref LV),("cut",.ref f),("tail",dR o tk)])::M) Q:=by
 refine' bQ fun qQ KQ=>?_
 refine bK (B.get 30) fun le ele=>?_
 refine cU ?_
 refine ed ?_
 refine ab ?_
 have hB:=B.m
 refine' nE hB fun sh hsh=>?_
 ac_nf
 refine' fy fun t1 O=>?_
 ac_nf
 refine (an ([(_,_),(_,_)]) 0 rfl (gU (strKind_is _ _ _ _) rfl (strKind_is _ _ _ _) rfl trivial) ?_)
 rw[mT]
 refine' bI (M':=(sh,aB C [("low",.int (-1) t1),("tail",dR o tk)])::(a1,ag none)::(L,aJ [("leaves",.ref LV),("cut",.ref f),("tail",dR o tk)])::M) (by rfl') ?_
 refine' dE fun g₁ l₁ Fs=>?_
 replace B:=B.mono l₁
 clear l₁
 refine ab ?_
 refine et ?_
 refine aj ?_
 refine ⟨by simp only[List.length];decide,fun GR=>?_⟩
 refine ab ?_
 refine et ?_
 refine aj ?_
 refine ⟨by simp only[List.length];decide,fun PG=>?_⟩
 refine ab ?_
 refine az ?_
 refine bF B ele ?_
 refine aq ?_
 refine au ?_
 refine ab ?_
 refine' eA fun t2 O=>?_
 refine ab ?_
 refine kK B.m fun ad had=>?_
 refine' dE fun g₂ l₂ Fa=>?_
 replace B:=B.mono l₂
 replace Fs:=Fs.mono l₂
 clear l₂
 refine aj ?_
 refine ⟨B.kept 30 ele,?_⟩
 show W _ _ (call (.ref le) [.str "top" t2,.ref ad] []) _ _ _
 refine (jz (kvs:=[]) B ele Fa had rfl rm.le).mono ?_
 refine fun O g₃ O l₃ q1=>aK q1 fun x0 K0 q2 q3 E0=>?_;clear q1;subst q2;subst q3
 replace Fs:=Fs.mono l₃
 refine aj ?_
 refine ⟨by simp only[List.length];decide,fun T g₄ l₄ FT=>?_⟩
 refine mf rm.h (.fz FT) ?_
 refine aF ?_
 refine aX (i:=4) (by rfl) ?_
 refine aF ?_
 refine aH (i:=3) (by rfl) (by rfl) ?_
 refine aF ?_
 refine aX (i:=4) (by rfl) ?_
 refine aF ?_
 refine aX (i:=4) (by rfl) ?_
 exact KQ _ _ _ fun l=>kQ _ l sh GR PG x0 K0 ad t1 t2 (Fs.mono l₄) hsh (E0.mono l₄)
end
end
section
section
variable {C:Cx}{A:Around}{g:G}{M:be}{env:Env}{mg mb:Str→Option Value}
noncomputable abbrev n7 (LV f:Addr)(tl:Value)(sh PG x0:Addr)(x:Str)(t:Tok):List (Str×Value):=[("leaves",.ref LV),("cut",.ref f),("tail",tl),("shared",.ref sh),("page",.ref PG),("top",.ref x0),("text",.str x t)]
noncomputable abbrev n8 (LV f:Addr)(tl:Value)(sh PG x0:Addr)(x:Str)(t:Tok):List (Str×Value):=[("leaves",.ref LV),("cut",.ref f),("tail",tl),("shared",.ref sh),("page",.ref PG),("top",.ref x0),("text",.str x t),("told",.none)]
theorem BL {L a1 a c LV f sh GR PG x0 K0 ad:Addr}{o:Option Str}{tk t1 t2:Tok}{cf:Nat→Nat→Nat}{ls:List Str}{lvs:Array Value}(B:Base C mg mb g)(Sb:SubAt mg g)(hcf:qF cf ls.length)(hls:∀ s∈ls,s.length≤1000)(hne:∀ s∈ls,(s != ("":Str))=true)(hn:ls.length≤100)(h0:0<ls.length)(FL:Fz g LV (ai lvs))(hlv:StrsAre lvs.toList ls)(CF:CutOk C g f ls.length cf)(Fs:Fz g sh (aB C [("low",.int (-1) t1),("tail",dR o tk)]))(hsm:(sh==sysModules)=false)(E0:Elem mg g x0 (.str "top" t2) ad .none K0)(Fc:Fz g a1 (ag (some (.ref GR))))(rm:Rm A (ls.length+14)) :
  W C A (exec (aI (aw (st 32)) 1) (kn L a1 a c)) g ((K0,ai #[])::(PG,ai #[])::(GR,ai #[])::(L,aJ (n6 LV f (dR o tk) sh PG x0))::M)
   (fun fl g' M'=>fl=.next∧∃ y new tt,M'=(K0,ai #[.ref y])::(PG,ai #[])::(GR,ai new)::(L,aJ (n7 LV f (dR o tk) sh PG x0 (dH cf ls ls.length 0 ls.length).text tt))::M∧TrAt mg g' y (dH cf ls ls.length 0 ls.length)∧new.size+1=2*ls.length ∧
    (∀ v∈new.toList,∃ y',EntAt C mg g' (dR o tk) y' v)∧∃ v0,new[0]?=some v0∧EntAt C mg g' (dR o tk) y v0):=by
 refine bK (B.get 31) fun lg elg=>?_
 refine aA ?_
 refine az ?_
 refine bF B elg ?_
 refine aq ?_
 refine au ?_
 refine ab ?_
 refine ar (.tail _ (.tail _ (.tail _ (.head _)))) (by rfl) ?_
 refine ab ?_
 refine ar (.tail _ (.tail _ (.tail _ (.head _)))) (by rfl) ?_
 refine ab ?_
 refine' bx fun t3 O=>?_
 refine ab ?_
 refine az ?_
 refine bL B eN ?_
 refine aq ?_
 refine au ?_
 refine ab ?_
 refine ar (.tail _ (.tail _ (.tail _ (.head _)))) (by rfl) ?_
 refine aj ?_
 refine ⟨ap,?_⟩
 show W _ _ (call (.builtin "len") [.ref LV]) _ _ _
 have hlen:=hlv.length
 rw[fA] at hlen
 refine fJ (.fz (FL.imp fun O=>bj)) (ln2 [_,_] [] (.lt ah (.p 2 62)) (.le am dJ) (.eq ah am) ae hn hlen) fun t4=>?_
 rw[hlen]
 refine ab ?_
 refine ar (.tail _ (.tail _ (.tail _ (.head _)))) (by rfl) ?_
 refine ab ?_
 refine ar (.tail _ (.tail _ (.tail _ (.head _)))) (by rfl) ?_
 refine ab ?_
 refine aU (c:=a1) (by rfl) (.fz Fc) ?_
 refine aj ?_
 refine ⟨B.kept 31 elg,?_⟩
 show W _ _ (call (.ref lg) [.ref x0,.ref LV,.int ((0:Nat):Int) t3,.int ls.length t4,.ref f,.ref sh,.ref GR] []) _ _ _
 refine (yc (a2:=0) (i:=0) (j:=2) (xs:=#[]) (gs:=#[]) hcf hls hne hn hsm ls.length (de _ _) h0 (dX _) B Sb elg FL hlv CF E0 Fs rfl rfl (eE (by decide)) (by simp) (by simp;exact aQ [_] [] (.le (.m 2 ah) bg) (.X 2 (.le ah dJ)) ae hn) rm).mono ?_
 refine fun O g' O l' q1=>bC q1 fun y new tt q2 T q4=>cA q4 fun q3 hnew hent h00=>?_;clear q1 q4;subst q2;subst q3
 refine aX (i:=3) (by rfl) ?_
 refine (yd rfl y new tt ?_ (cr T (by simpa using hnew) hent h00))
 show (K0,ai #[.ref y])::(PG,ai #[])::(GR,ai (#[]++new))::_=_
 rw[Array.empty_append]
 rfl
theorem A9 {L a1 a c LV f sh GR PG x0 y v0T:Addr}{o:Option Str}{tk tt:Tok}{x:Str}{t:Tr}{new:Array Value}{v0:Value}(B:Base C mg mb g)(T:TrAt mg g y t)(hsz:t.sz≤100)(ho:∀ s,o=some s→s.length≤1000)(Fc:Fz g a1 (ag (some (.ref GR))))(FG:Fz g GR (ai new))(h0:new[0]?=some v0)(En:EntAt C mg g (dR o tk) y v0)(rm:Rm A (t.ht+3)){Q:PQ Flow}(kQ:∀ g',G.le g g'→∀ ys,StrsAre ys.toList (t.parts++Ay o)→Q .next g' ((PG,ai ys)::(L,aJ (n8 LV f (dR o tk) sh PG x0 x tt))::M)) :
  W C A (exec (aI (aw (st 32)) 2) (kn L a1 a c)) g ((PG,ai #[])::(L,aJ (n7 LV f (dR o tk) sh PG x0 x tt))::M) Q:=by
 refine' bQ fun qQ KQ=>?_
 refine bK (B.get 3) fun sr esr=>?_
 refine aT En fun T0 d e aa bb q6=>c9 q6 fun u1 u2 tag K q5 q7=>ch q7 fun hT hE O=>?_;clear q6 q7 En;subst q5
 refine aA ?_
 refine az ?_
 refine bF B esr ?_
 refine aq ?_
 refine au ?_
 refine ab ?_
 refine du ?_
 refine ar (.tail _ (.head _)) (by rfl) ?_
 refine iw (.own (.head _)) fun g₅ b l₅ Fb=>?_
 refine ab ?_
 refine aC ?_
 refine aC ?_
 refine aU (c:=a1) (by rfl) (.fz (Fc.mono l₅)) ?_
 refine' bx fun O O=>?_
 have SN:∀ N,Sees g₅ N GR (bq new):=fun N=>.fz ((FG.mono l₅).imp fun O=>bj)
 refine ⟨bE (SN _),?_⟩
 refine aO (SN _) (cY _) (cY _) (v:=.ref T0) h0 ?_
 refine' bx fun O O=>?_
 have ST:∀ N,Sees g₅ N T0 (bS #[.ref y,.ref e]):=fun N=>.fz (hT.mono l₅)
 refine ⟨kX (ST _),?_⟩
 refine dW (v:=.ref y) (ST _) (cY _) (cY _) rfl ?_
 refine aj ?_
 refine ⟨(B.mono l₅).kept 3 esr,?_⟩
 show W _ _ (call (.ref sr) [.ref b,.ref y] []) _ _ _
 refine (rA (i:=0) (B.mono l₅) esr (T.mono l₅) (hE.mono l₅) Fb (bw hsz (by decide)) ho rfl rm).mono ?_
 refine fun O g' O l' q8=>d6 q8 fun q9 ys q10 hys=>?_;clear q8;subst q9;subst q10
 refine aX (i:=1) (by rfl) ?_
 exact KQ _ _ _ fun l=>kQ _ l ys hys
end
end
section
noncomputable def yW:Option Str→Str
 | none=>""
 | some s=>s
theorem dx (a b:Str):(a++b).cps.toList=a.cps.toList++b.cps.toList:=by
 obtain ⟨a⟩:=a
 obtain ⟨b⟩:=b
 show (a++b).toList=_
 rw[kf]
theorem parts_text:∀ t:Tr,(t.parts.map fun s=>s.cps.toList).flatten=t.text.cps.toList
 | .leaf s=>by simp only[Tr.parts,Tr.text,dC,oH,oC,List.flatten_nil,tD]
 | .node l r=>by
  have h1:=parts_text l
  have h2:=parts_text r
  show (((("(":Str)::(l.parts++r.parts))++[(")":Str)]).map fun s=>s.cps.toList).flatten=((("(":Str)++l.text)++r.text++(")":Str)).cps.toList
  rw[dx,dx,dx,← h1,← h2]
  simp only[ζ18,dC,oH,ζ117,oC,List.flatten_nil,tD,iY]
theorem tlP_text (o:Option Str):((Ay o).map fun s=>s.cps.toList).flatten=(yW o).cps.toList:=by
 cases o with
 | none=>rfl
 | some s =>
  by_cases h:s=""
  ·subst h;rfl
  ·show (List.map _ (if s="" then [] else [s])).flatten=_
   rw[if_neg h]
   simp[yW]
theorem ve (t:Tr)(o:Option Str):Txt.join Str.empty (t.parts++Ay o)=t.text++yW o:=by
 apply gf
 rw[eH,dx,ζ18,ζ117,parts_text,tlP_text]
theorem sum_flat:∀ l:List Str,(l.map (·.length)).sum=((l.map fun s=>s.cps.toList).flatten).length
 | []=>rfl
 | s::r=>by
  rw[dC,List.sum_cons,dC,oC,ζ17,sum_flat r]
  congr 1
section
variable {C:Cx}{A:Around}{g:G}{M:be}{env:Env}{mg mb:Str→Option Value}
theorem AT {L a1 a c LV f sh PG x0:Addr}{o:Option Str}{tk tt:Tok}{t:Tr}{ys:Array Value}(FP:Fz g PG (ai ys))(hys:StrsAre ys.toList (t.parts++Ay o))(htx:t.text.length≤200000)(ho:∀ s,o=some s→s.length≤1000){Q:PQ Flow}(kQ:∀ g',G.le g g'→Q .next g' ((L,aJ (n8 LV f (dR o tk) sh PG x0 t.text tt))::M)) :
  W C A (exec (aI (aw (st 32)) 3) (kn L a1 a c)) g ((L,aJ (n8 LV f (dR o tk) sh PG x0 t.text tt))::M) Q:=by
 refine' bQ fun qQ KQ=>?_
 refine nI ?_
 refine ee ?_
 refine c8 ?_
 refine aR ?_
 refine ar (.head _) (by rfl) ?_
 refine' qk ?_
 refine gG ?_
 refine aV ?_
 rw[if_neg jo]
 refine c8 ?_
 refine aR ?_
 refine bl ?_
 refine' eA fun O O=>?_
 intro pl
 refine' fg ?_
 refine aq ?_
 refine au ?_
 refine ab ?_
 refine ar (.head _) (by rfl) ?_
 refine aj ?_
 refine ⟨ap,?_⟩
 show W _ _ (call (.builtin "str.join") [.str Str.empty _,.ref PG]) _ _ _
 have hlS:(yW o).length≤1000:=by cases o with|none=>exact iE _|some s=>exact ho s rfl
 refine er (.fz (FP.imp fun O=>bj)) hys (by
  rw[sum_flat,ζ18,ζ117,parts_text,tlP_text,ζ17]
  have h1:t.text.cps.toList.length=t.text.length:=by simp;rfl
  have h2:(yW o).cps.toList.length=(yW o).length:=by simp;rfl
  rw[h1,h2]
  show _+_*0≤_
  exact ln2 [_,_,_] [] (.le (.a (.a ah am) (.r ao 0)) aY) (.le ah (.l 200000)) (.le am bg) ae htx hlS) fun t'=>?_
 rw[ve]
 refine bh ?_
 refine ar (.head _) (by rfl) ?_
 refine W.mono (Q:=fun v g' M'=>(∃ t2,v=.str (yW o) t2)∧g'=g∧M'=(L,aJ (n8 LV f (dR o tk) sh PG x0 t.text tt))::M) ?_ ?_
 ·refine mZ ?_
  refine lQ ?_
  refine ar (.head _) (by rfl) ?_
  cases o with
  | none =>
   refine jD ?_
   rw[if_neg jo]
   refine fC ?_
   refine' eA fun t2 O=>?_
   exact (iPPP ⟨t2,rfl⟩ rfl rfl)
  | some s =>
   refine kC (ho s rfl) ?_
   by_cases hs:s=""
   ·rw[if_neg (by simp[hs])]
    refine fC ?_
    refine' eA fun t2 O=>?_
    exact (iPPP ⟨t2,by rw[show yW (some s)=s from rfl,hs]⟩ rfl rfl)
   ·rw[if_pos (by simp[hs])]
    exact (iPPP ⟨tk,rfl⟩ rfl rfl)
 refine fun O O O O q1=>ch q1 fun q2 q3 q4=>bK q2 fun t2 q5=>?_;clear q1 q2;subst q3;subst q4;subst q5
 refine fT (by show _≤2^24;exact ln2 [_,_] [] (.le (.a ah am) (.p 2 24)) (.le ah (.l 200000)) (.le am bg) ae htx hlS) fun t3=>?_
 refine kM ?_
 rw[bne_self_eq_false]
 refine aV ?_
 rw[if_neg jo]
 refine ff ?_
 rw[if_neg jo]
 refine bu ?_
 exact KQ _ _ _ fun l=>kQ _ l
end
end
section
noncomputable def EntD (C:Cx)(mg:Str→Option Value)(g:G)(tl:Value)(v:Value)(d e:Addr):Prop :=
 ∃ T y a b t1 t2 tag K,v=.ref T∧Fz g T (bS #[.ref y,.ref e])∧Elem mg g y tag d tl K∧Fz g d (aB C [("low",.int a t1),("tail",tl),("high",.int b t2)]) ∧
  Fz g e (aB C [("low",.int a t1),("high",.int b t2),("tail",tl)])∧(d==sysModules)=false∧(e==sysModules)=false
theorem EntD.mono {C:Cx}{mg:Str→Option Value}{g g':G}{tl:Value}{v:Value}{d e:Addr}(k:G.le g g')(h:EntD C mg g tl v d e):EntD C mg g' tl v d e:=by
 refine aT h fun T y a b t1 q1=>bC q1 fun t2 tag K h1 h2 q2=>di q2 fun h3 h4 h5 h6 h7=>?_;clear q1 q2 h
 exact (ba T y a b t1 (bf t2 tag K h1 (h2.mono k) (gU (h3.mono k) (h4.mono k) (h5.mono k) h6 h7)))
theorem nr {C:Cx}{mg:Str→Option Value}{g:G}{tl:Value}:∀ {l:List Value},(∀ v∈l,∃ y',EntAt C mg g tl y' v)→∃ ps:List (Addr×Addr),ps.length=l.length∧∀ (j:Nat) v p,l[j]?=some v→ps[j]?=some p→EntD C mg g tl v p.1 p.2
 | [],_=>(aG ([]) rfl (fun j v p h=>by simp at h))
 | v::l,h=>by
  refine aL (nr (l:=l) fun v hv=>h v (.tail _ hv)) fun ps h1 h2=>?_
  refine aT (h v (.head _)) fun y T d e a q3=>aT q3 fun b t1 t2 tag K k=>?_;clear q3
  refine (aG ((d,e)::ps) (by simp[h1]) (fun j v' p hv hp=>?_))
  cases j with
  | zero =>
   cases hv
   cases hp
   refine cy k fun k1 k2 k3 k4 k5 q4=>dI q4 fun k6 k7=>?_;clear q4 k
   exact (ba T y a b t1 (bf t2 tag K k1 k2 (gU k3 k4 k5 k6 k7)))
  | succ j=>exact h2 j v' p hv hp
section
variable {C:Cx}{A:Around}{g:G}{M:be}{env:Env}{mg mb:Str→Option Value}
theorem jE {α β:Type}{f:α→β}{l:List α}{k:Nat}{x:α}{ys:Array β}(h:ys.toList=(l.take k).map f)(hx:l[k]?=some x):(ys.push (f x)).toList=(l.take (k+1)).map f:=by
 rw[fM,h,List.take_succ,hx]
 simp
theorem w5 {s:Shared}{a b:Int}{t1 t2:Tok}{tl:Value}:KeqHits A s [(("low":Str),.int a t1),("high",.int b t2),("tail",tl)] [(("low":Str),Value.int a t1),("tail",tl),("high",.int b t2)] true :=
 KeqHits.hit (e:=true) (b:=true) rfl (SeqAt.EqAt.same _) (KeqHits.hit (e:=true) (b:=true) rfl (SeqAt.EqAt.same _) (KeqHits.hit (e:=true) (b:=true) rfl (SeqAt.EqAt.same _) .nil))
theorem xl {s:Shared}{t1 t2:Tok}{tl:Value}:KeqHits A s [(("low":Str),.int (-1) t2),("tail",tl)] [(("low":Str),Value.int (-1) t1),("tail",tl)] true :=
 KeqHits.hit (e:=true) (b:=true) rfl (SeqAt.EqAt.int_int _ _ _ _) (KeqHits.hit (e:=true) (b:=true) rfl (SeqAt.EqAt.same _) .nil)
theorem AI {L a1 a c LV f sh GR PG x0:Addr}{o:Option Str}{tk tt t1:Tok}{x:Str}{new:Array Value}(B:Base C mg mb g)(Fs:Fz g sh (aB C [("low",.int (-1) t1),("tail",dR o tk)]))(hsm:(sh==sysModules)=false)(Fc:Fz g a1 (ag (some (.ref GR))))(FG:Fz g GR (ai new))(hent:∀ v∈new.toList,∃ y',EntAt C mg g (dR o tk) y' v)(hsz:new.size≤1000)(rm:Rm A 1) :
  W C A (exec (aI (aw (st 32)) 4) (kn L a1 a c)) g ((L,aJ (n8 LV f (dR o tk) sh PG x0 x tt))::M) (fun fl g' M'=>fl=.next∧M'=(L,aJ (n8 LV f (dR o tk) sh PG x0 x tt))::M):=by
 refine aL (nr hent) fun ps hps1 hps2=>?_
 replace hps1:ps.length=new.size:=hps1.trans (by simp)
 have hat:∀ {k:Nat}{v:Value},new[k]?=some v→∃ p,ps[k]?=some p∧EntD C mg g (dR o tk) v p.1 p.2:=by
  intro k v hv
  have hk:k<ps.length:=by rw[hps1];exact (Array.getElem?_eq_some_iff.mp hv).1
  exact (aG (ps[k]) (List.getElem?_eq_getElem hk) (hps2 k v _ ((Array.getElem?_toList).trans hv) (List.getElem?_eq_getElem hk)))
 refine nI ?_
 refine ee ?_
 refine c8 ?_
 refine aR ?_
 refine' lO (cl:=[]) (by rfl') ?_ rm.h
 refine aU (c:=a1) (by rfl) (.fz Fc) ?_
 refine (cb GR new rfl (FG.imp fun O=>bj) (bw hsz (by decide)) (bU (fun k ys=>ys.toList=(ps.take k).map fun p=>.ref p.1) rfl ?_ ?_))
 ·intro k g₁ ys v Cl D I P hk l₁ j hv
  refine jf (hat hv) fun p hp T y aa q6=>aT q6 fun bb u1 u2 tag K q7=>cy q7 fun q5 hT hE hd he O=>?_;clear q6 q7;subst q5
  refine (bf T (.ref y) (.ref p.2) rfl (hT.mono l₁) ?_)
  refine du ?_
  refine ar (.head _) (by rfl) ?_
  refine aT hE.ex fun fd D' b f' le q8=>di q8 fun p1 p2 p3 p4 p5=>?_;clear q8
  refine eB (.fz (p1.mono l₁)) (.fz (p2.mono l₁)) (v:=.ref p.1) (by rfl) FF.lk_attrib rfl ?_
  exact ⟨rfl,jE (f:=fun p:Addr×Addr=>Value.ref p.1) j hp⟩
 intro g₁ g₂ ys1 D1 l₁ j1 l₂ FD1
 have l12:=l₁.trans l₂
 refine' lO (cl:=[]) (by rfl') ?_ rm.h
 refine aU (c:=a1) (by rfl) (.fz (Fc.mono l12)) ?_
 refine (cb GR new rfl ((FG.mono l12).imp fun O=>bj) (bw hsz (by decide)) (bU (fun k ys=>ys.toList=(ps.take k).map fun p=>.ref p.2) rfl ?_ ?_))
 ·intro k g₃ ys v Cl D I P hk l₃ j hv
  have l13:=l12.trans l₃
  refine jf (hat hv) fun p hp T y aa q10=>aT q10 fun bb u1 u2 tag K q11=>cy q11 fun q9 hT hE hd he O=>?_;clear q10 q11;subst q9
  refine (bf T (.ref y) (.ref p.2) rfl (hT.mono l13) ?_)
  refine ar (.head _) (by rfl) ?_
  exact ⟨rfl,jE (f:=fun p:Addr×Addr=>Value.ref p.2) j hp⟩
 intro g₃ g₄ ys2 D2 l₃ j2 l₄ FD2
 have l34:=l₃.trans l₄
 have l14:=l12.trans l34
 have jj1:ys1.toList=(ps.take new.size).map fun p=>Value.ref p.1:=j1
 have jj2:ys2.toList=(ps.take new.size).map fun p=>Value.ref p.2:=j2
 rw[← hps1,mu] at jj1 jj2
 have hs1:ys1.size=ps.length:=by rw[← fA,jj1,fZ]
 have hs2:ys2.size=ps.length:=by rw[← fA,jj2,fZ]
 refine wd (.fz (FD1.mono l34)) (.fz FD2) (ln2 [_,_,_] [] (.eq ah am) (.eq ah ao) (.Y 1 (.eq am ao)) ae hs1 hs2) (by have:=rm.u;show A.units<9900;exact aQ [_] [] (.lt ah ir) (.le (.a ah (.m 10 av)) ez) ae this) ?_ ?_
 ·intro s S j h1 h2
  have hj:j<ps.length:=by exact b9 h1 (cG hs1)
  have hjn:j<new.size:=by exact b9 hj (cG hps1)
  have e1:ys1[j]=.ref ps[j].1:=by
   have:ys1.toList[j]?=some (.ref ps[j].1):=by rw[jj1,List.getElem?_map,List.getElem?_eq_getElem hj];rfl
   rw[Array.getElem?_toList,Array.getElem?_eq_getElem h1] at this
   exact Option.some.inj this
  have e2:ys2[j]=.ref ps[j].2:=by
   have:ys2.toList[j]?=some (.ref ps[j].2):=by rw[jj2,List.getElem?_map,List.getElem?_eq_getElem hj];rfl
   rw[Array.getElem?_toList,Array.getElem?_eq_getElem h2] at this
   exact Option.some.inj this
  rw[e1,e2]
  refine jf (hat (Array.getElem?_eq_getElem hjn)) fun p hp T y aa q12=>aT q12 fun bb u1 u2 tag K q13=>cy q13 fun hv hT hE hd he q14=>dI q14 fun hds hes=>?_;clear q12 q13 q14
  rw[List.getElem?_eq_getElem hj] at hp
  cases hp
  exact rD S hds hes (.fz (hd.mono l14)) (.fz (he.mono l14)) (by have:=rm.u;show A.units+1<9900;exact aQ [_] [] (.lt (.a ah av) ir) (.le (.a ah (.m 10 av)) ez) ae this) rfl w5
 refine aV ?_
 rw[if_neg jo]
 refine c8 ?_
 refine aR ?_
 refine ar (.head _) (by rfl) ?_
 have hB:=(B.mono l14).m
 refine' nE hB fun d2 hd2=>?_
 ac_nf
 refine' fy fun t3 O=>?_
 ac_nf
 refine (an ([(_,_),(_,_)]) 0 rfl (gU (strKind_is _ _ _ _) rfl (strKind_is _ _ _ _) rfl trivial) ?_)
 rw[mT]
 refine wO hsm hd2 (.fz (Fs.mono l14)) (.own (.head _)) (by have:=rm.u;show A.units<9900;exact aQ [_] [] (.lt ah ir) (.le (.a ah (.m 10 av)) ez) ae this) rfl (fun s=>xl) ?_
 refine aV ?_
 rw[if_neg jo]
 refine ff ?_
 rw[if_neg jo]
 refine' bI (M':=(d2,aB C [("low",.int (-1) t3),("tail",dR o tk)])::(L,aJ (n8 LV f (dR o tk) sh PG x0 x tt))::M) (by rfl') ?_
 refine' xQ ?_
 refine bu ?_
 exact ⟨rfl,rfl⟩
end
end
section
section
variable {C:Cx}{A:Around}{g:G}{M:be}{env:Env}{mg mb:Str→Option Value}
theorem xx {a:Addr}{Q:PQ Value}(h:Q (.bool true) g M):W C A (compareOp .Is (.ref a) (.ref a)) g M Q:=fun s S=>wpAny_is_ref_self (an g M .refl S h)
theorem BC {L a1 a c LV f sh GR PG x0 y K0 ad:Addr}{o:Option Str}{tk tt t2:Tok}{x:Str}{lvs new:Array Value}{v0:Value}(B:Base C mg mb g)(FL:Fz g LV (ai lvs))(Fc:Fz g a1 (ag (some (.ref GR))))(FG:Fz g GR (ai new))(FK:Fz g K0 (ai #[.ref y]))(h0:new[0]?=some v0)(En:EntAt C mg g (dR o tk) y v0)(E0:Elem mg g x0 (.str "top" t2) ad .none K0)(rm:Rm A 10){Q:PQ Flow}(kQ:∀ g',G.le g g'→Q (.ret (.str x tt)) g' ((L,aJ (n8 LV f (dR o tk) sh PG x0 x tt))::M)) :
  W C A (exec (aI (aw (st 32)) 5) (kn L a1 a c)) g ((L,aJ (n8 LV f (dR o tk) sh PG x0 x tt))::M) Q:=by
 refine' bQ fun qQ KQ=>?_
 refine bK (B.get 1) fun ie eie=>?_
 refine aT En fun T0 d e aa bb q2=>c9 q2 fun u1 u2 tag K q1 q3=>dI q3 fun hT O=>?_;clear q2 q3 En;subst q1
 refine aT (id E0.ex) fun fd D' b f' le q4=>di q4 fun p1 p2 p3 p4 p5=>?_;clear q4
 refine cz ?_
 refine gk ?_
 refine ee ?_
 refine dw ?_
 refine aR ?_
 refine' jt (cl:=[("grown",a1)]) (by rfl') fun q_1 K_1=>?_
 refine du ?_
 refine ar (.head _) (by rfl) ?_
 refine eB (.fz p1) (.fz p2) (v:=.ref K0) (by rfl) FF.lk_kids rfl ?_
 refine bX (FK.imp fun O=>bj) fun I P Dr go=>?_
 refine K_1 I P 1 (fun k ys O=>ys.toList=(List.replicate k (Value.bool true))) _ _ _ (Dr _ rm.h) (by decide) rfl ?_ ?_
 ·intro k g₁ ys v Cl D hk l₁ j hv hM_1 r_1 R_1
  obtain rfl:k=0:=by exact nY (aQ [_] [] (.le ah b6) (.lt ah av) ae hk) (iE _)
  cases hv
  refine fH ?_
  refine ar (.head _) (by rfl) ?_
  refine aC ?_
  refine aC ?_
  refine aU (c:=a1) (by rfl) (.fz (Fc.mono l₁)) ?_
  refine' bx fun O O=>?_
  have SN:∀ N,Sees g₁ N GR (bq new):=fun N=>.fz ((FG.mono l₁).imp fun O=>bj)
  refine ⟨bE (SN _),?_⟩
  refine aO (SN _) (cY _) (cY _) (v:=.ref T0) h0 ?_
  refine' bx fun O O=>?_
  have ST:∀ N,Sees g₁ N T0 (bS #[.ref y,.ref e]):=fun N=>.fz (hT.mono l₁)
  refine ⟨kX (ST _),?_⟩
  refine dW (v:=.ref y) (ST _) (cY _) (cY _) rfl ?_
  refine xx ?_
  refine R_1 _ _ [] ?_
  show (ys.push _).toList=_
  rw[fM,j]
  rfl
 intro g₁ g₂ ys D1 l₁ j l₂ FD
 have l12:=l₁.trans l₂
 refine et ?_
 refine ab ?_
 refine' pL ?_
 refine aj ?_
 refine ⟨by simp only[List.length];decide,fun q=>?_⟩
 have hys:ys.toList=[Value.bool true]:=j
 refine w7 (da:=.list [.bool true]) (db:=.list [.bool true]) ?_ rfl rfl (by have:=rm.u;show A.units+64<9900;exact aQ [_] [] (.lt (.a ah oE) ir) (.le (.a ah (.m 10 (.l 10))) ez) ae this) ?_
 ·intro s S
  refine bK (S.isL (.fz FD)) fun n1 e1=>?_
  refine bK (S.isL (.own (.head _))) fun n2 e2=>?_
  exact (bV _ _ (.list e1 rfl rfl (by rw[hys];exact .cons (.bool true) .nil)) (.list e2 rfl rfl (.cons (.bool true) .nil)))
 refine aV ?_
 rw[if_pos (by rfl)]
 refine dw ?_
 refine aR ?_
 refine az ?_
 refine bF (B.mono l12) eie ?_
 refine aq ?_
 refine au ?_
 refine ab ?_
 refine ar (.tail _ (.head _)) (by rfl) ?_
 refine aj ?_
 refine ⟨(B.mono l12).kept 1 eie,?_⟩
 show W _ _ (call (.ref ie) [.ref x0] []) _ _ _
 refine (sj (B.mono l12) eie (E0.mono l12) rm.le).mono ?_
 refine fun O g₃ O l₃ q5=>dI q5 fun q6 q7=>?_;clear q5;subst q6;subst q7
 refine' pL ?_
 refine kJ ?_
 refine aV ?_
 rw[if_pos (by rfl)]
 refine dw ?_
 refine aR ?_
 refine az ?_
 refine bF (B.mono (l12.trans l₃)) eie ?_
 refine aq ?_
 refine au ?_
 refine ab ?_
 refine ar (.tail _ (.head _)) (by rfl) ?_
 refine aj ?_
 refine ⟨(B.mono (l12.trans l₃)).kept 1 eie,?_⟩
 show W _ _ (call (.ref ie) [.ref LV] []) _ _ _
 refine (lp (B.mono (l12.trans l₃)) eie (.fz (FL.mono (l12.trans l₃))) rm.le).mono ?_
 refine fun O g₄ O l₄ q8=>dI q8 fun q9 q10=>?_;clear q8;subst q9;subst q10
 refine' pL ?_
 refine kJ ?_
 refine aV ?_
 rw[if_pos (by rfl)]
 refine gu ?_
 rw[if_pos rfl]
 refine' bI (M':=(q,ai #[.bool true])::(L,aJ (n8 LV f (dR o tk) sh PG x0 x tt))::M) (by rfl') ?_
 refine' xQ ?_
 refine ar (.head _) (by rfl) ?_
 exact KQ _ _ _ fun l=>kQ _ l
end
end
section
section
variable {C:Cx}{A:Around}{g:G}{M:be}{env:Env}{mg mb:Str→Option Value}
theorem ia {a LV f:Addr}{o:Option Str}{tk:Tok}{cf:Nat→Nat→Nat}{ls:List Str}{lvs:Array Value}(B:Base C mg mb g)(Sb:SubAt mg g)(e:mg (ax (st 32))=some (.ref a))(hcf:qF cf ls.length)(hls:∀ s∈ls,s.length≤1000)(hne:∀ s∈ls,(s != ("":Str))=true)(hn:ls.length≤100)(h0:0<ls.length)(FL:Fz g LV (ai lvs))(hlv:StrsAre lvs.toList ls)(CF:CutOk C g f ls.length cf)(ho:∀ s,o=some s→s.length≤1000)(rm:Rm A (ls.length+15)) :
  W C A (call (.ref a) [.ref LV,.ref f,dR o tk] []) g M (fun r g' M'=>M'=M∧∃ t,r=.str (dH cf ls ls.length 0 ls.length).text t):=by
 refine aK (B.defs 32 rfl (by decide)) fun a' c e' Da O=>?_
 have:a'=a:=by rw[e] at e';cases e';rfl
 subst this
 refine ic (k:=1) (binds:=[("leaves",.ref LV),("cut",.ref f),("tail",dR o tk)]) Da B.lim rm.room (fun O=>rfl) rfl fun L as has=>?_
 obtain ⟨a1,rfl⟩:∃ a1,as=[a1]:=by
  match as,has with
  | [x],_=>exact ⟨x,rfl⟩
 refine aN (aX (i:=1) (by rfl) ?_)
 refine aN (aX (i:=1) (by rfl) ?_)
 refine aN (aX (i:=1) (by rfl) ?_)
 refine W_binds_nil ?_
 have rm1:Rm (A.deeper (kn L a1 a' c)) (ls.length+14):=(show Rm A (ls.length+14+1) from rm).deeper
 show W C (A.deeper (kn L a1 a' c)) (execs (aw (st 32)) (kn L a1 a' c)) g ((a1,ag none)::(L,aJ [("leaves",.ref LV),("cut",.ref f),("tail",dR o tk)])::M) _
 generalize A.deeper _=A1 at *
 refine ch (fX (ls:=ls) hcf hls ls.length 0 ls.length (de _ _) h0 (dX _)) fun z1 z2 z3=>?_
 rw[zA]
 refine' af ?_
 refine' AU B rm1.le fun g1 l1 sh GR PG x0 K0 ad t1 t2 Fs hsm E0=>?_
 replace B:=B.mono l1
 replace Sb:=Sb.mono l1
 replace FL:=FL.mono l1
 replace CF:=CF.mono l1
 clear l1
 show W C A1 (execs _ _) _ _ _
 refine' BK fun g2 l2 Fc=>?_
 replace B:=B.mono l2
 replace Sb:=Sb.mono l2
 replace FL:=FL.mono l2
 replace CF:=CF.mono l2
 replace Fs:=Fs.mono l2
 replace E0:=E0.mono l2
 clear l2
 refine' af ?_
 refine' (BL B Sb hcf hls hne hn h0 FL hlv CF Fs hsm E0 Fc rm1).mono ?_
 refine fun O g3 O l3 q6=>gr q6 fun q7 y new tt q8 q9=>yl q9 fun T hnew hent v0 hv0 En=>?_;clear q6 q9;subst q7;subst q8
 replace B:=B.mono l3
 replace FL:=FL.mono l3
 replace Fs:=Fs.mono l3
 replace E0:=E0.mono l3
 replace Fc:=Fc.mono l3
 clear l3 CF Sb
 generalize hG:dH cf ls ls.length 0 ls.length=t at *
 show W C A1 (execs _ _) _ _ _
 refine' dE fun g4 l4 FK=>?_
 refine' fo fun g5 l5 FG=>?_
 have l45:=l4.trans l5
 replace B:=B.mono l45
 replace FL:=FL.mono l45
 replace Fs:=Fs.mono l45
 replace E0:=E0.mono l45
 replace Fc:=Fc.mono l45
 replace T:=T.mono l45
 replace En:=En.mono l45
 replace FK:=FK.mono l5
 have hent:∀ v∈new.toList,∃ y',EntAt C mg g5 (dR o tk) y' v:=fun v hv=>let q10:=hent v hv;bK q10 fun y' h=>⟨y',h.mono l45⟩
 clear l4 l5 l45
 refine' af ?_
 refine' A9 (v0T:=0) B T (by with_unfolding_all exact cZ [_,_,_] [] (.le ah dJ) (.le am dJ) (.eq ah ao) (.le ao am) ae hn z1 (de _ _)) ho Fc FG hv0 En (rm1.le (by with_unfolding_all exact ln2 [_,_,_] [] (.le (.a ah pF) (.a am (.l 14))) (.le (.a ah av) ao) (.le ao am) ae z3 (de _ _))) fun g6 l6 ys hys=>?_
 replace B:=B.mono l6
 replace FL:=FL.mono l6
 replace Fs:=Fs.mono l6
 replace E0:=E0.mono l6
 replace Fc:=Fc.mono l6
 replace En:=En.mono l6
 replace FK:=FK.mono l6
 replace FG:=FG.mono l6
 have hent:∀ v∈new.toList,∃ y',EntAt C mg g6 (dR o tk) y' v:=fun v hv=>let q14:=hent v hv;bK q14 fun y' h=>⟨y',h.mono l6⟩
 clear l6 T
 show W C A1 (execs _ _) _ _ _
 refine' dE fun g7 l7 FP=>?_
 replace B:=B.mono l7
 replace FL:=FL.mono l7
 replace Fs:=Fs.mono l7
 replace E0:=E0.mono l7
 replace Fc:=Fc.mono l7
 replace En:=En.mono l7
 replace FK:=FK.mono l7
 replace FG:=FG.mono l7
 have hent:∀ v∈new.toList,∃ y',EntAt C mg g7 (dR o tk) y' v:=fun v hv=>let q15:=hent v hv;bK q15 fun y' h=>⟨y',h.mono l7⟩
 clear l7
 refine' af ?_
 refine' AT FP hys (by with_unfolding_all exact cZ [_,_,_] [] (.le ah (.l 200000)) (.X 1002 (.le am dJ)) (.le (.a ah cH) (.m 1002 ao)) (.X 1002 (.le ao am)) ae hn z2 (de _ _)) ho fun g8 l8=>?_
 have hent:∀ v∈new.toList,∃ y',EntAt C mg g8 (dR o tk) y' v:=fun v hv=>let q19:=hent v hv;bK q19 fun y' h=>⟨y',h.mono l8⟩
 show W C A1 (execs _ _) _ _ _
 refine' af ?_
 refine' (AI (B.mono l8) (Fs.mono l8) hsm (Fc.mono l8) (FG.mono l8) hent (by with_unfolding_all exact ln2 [_,_] [] (.le ah bg) (.X 2 (.le am dJ)) (.eq (.a ah av) (.m 2 am)) ae hn hnew) rm1.le).mono ?_
 refine fun O g9 O l9 q20=>dI q20 fun q21 q22=>?_;clear q20;subst q21;subst q22
 have l89:=l8.trans l9
 show W C A1 (execs _ _) _ _ _
 refine' af ?_
 refine' BC (B.mono l89) (FL.mono l89) (Fc.mono l89) (FG.mono l89) (FK.mono l89) hv0 (En.mono l89) (E0.mono l89) (rm1.le (bw (by decide) (j6 _ _))) fun g10 l10=>?_
 exact (bP ([_]) M rfl rfl tt rfl)
end
end
section
section
variable {C:Cx}{A:Around}{g:G}{M:be}{env:Env}
theorem rr {a:Addr}{c:String}{xs:Array Value}{n i:Nat}{Q:Array Value→G→be→Prop}(hi:M[i]?=some (a,(·=seqObj c xs n)))(h:Q xs g M):W C A (Builtin.List.listItems (.ref a)) g M Q:=fun s S=>by
 refine aL (S.own _ (iu hi)) fun o ho q1=>?_;subst q1
 exact listItems_at ho rfl (an g M .refl S h)
theorem mH {a:Addr}{c:String}{xs:Array Value}{n i:Nat}{f:Array Value→Array Value}{Q:PQ Unit}(hi:M[i]?=some (a,(·=seqObj c xs n)))(h1:xs.size≤1000)(h2:(f xs).size≤1000)(h:∀ k,Q () g (M.set i (a,(·=seqObj c (f xs) k)))):W C A (Builtin.List.listUpdate (.ref a) f) g M Q:=fun s S=>by
 refine aL (S.own _ (iu hi)) fun o ho q2=>?_;subst q2
 obtain ⟨k,hk⟩:∃ k,(s.heap.update a (Obj.mapSeq f)).get? a=some (seqObj c (f xs) k):=⟨_,get?_update_seq ho f⟩
 refine listUpdate_at ho rfl ?_ (bw h1 (by decide)) (bw h2 (by decide))
 exact (an g _ .refl (S.set (P':=(·=seqObj c (f xs) k)) (n:=s.toks) hi (Heap.SameBut.update ..) hk rfl) (h k))
theorem uO {a:Addr}{c:String}{xs:Array Value}{n i:Nat}{Q:Nat→G→be→Prop}(hi:M[i]?=some (a,(·=seqObj c xs n)))(h:Q n g M):W C A (seqEpoch a) g M Q:=fun s S=>by
 refine aL (S.own _ (iu hi)) fun o ho q3=>?_;subst q3
 exact seqEpoch_at ho rfl (an g M .refl S h)
theorem wF {x y:Str}{t u:Tok}{v w:Value}{xs:Array Keyed}(hne:x≠y)(hp:xs.Perm #[(.str x t,v),(.str y u,w)])(hs:SortedToK PyProof.Rows.strKind xs 2) :
  xs=if x.cps.toList<y.cps.toList then #[(.str x t,v),(.str y u,w)] else #[(.str y u,w),(.str x t,v)]:=by
 have hl:xs.toList.Perm [(.str x t,v),(.str y u,w)]:=Array.perm_iff_toList_perm.mp hp
 have h2:xs.toList=[(.str x t,v),(.str y u,w)]∨xs.toList=[(.str y u,w),(.str x t,v)]:=ksk_perm2 hl
 have h01:=hs 0 1 (by decide) (by decide)
 have hxy:x.cps.toList≠y.cps.toList:=fun e=>hne (gf e)
 rcases h2 with h|h
 ·have hx:xs=#[(.str x t,v),(.str y u,w)]:=Array.toList_inj.mp (by rw[h])
  subst hx
  have h01:decide (y.cps.toList<x.cps.toList)=false:=h01
  have hlt:x.cps.toList<y.cps.toList:=by
   have h3:¬ y.cps.toList<x.cps.toList:=of_decide_eq_false h01
   exact Decidable.byContradiction fun h4=>hxy (List.le_antisymm (List.not_lt.mp h3) (List.not_lt.mp h4))
  rw[if_pos hlt]
 ·have hx:xs=#[(.str y u,w),(.str x t,v)]:=Array.toList_inj.mp (by rw[h])
  subst hx
  have h01:decide (x.cps.toList<y.cps.toList)=false:=h01
  rw[if_neg (of_decide_eq_false h01)]
theorem r9 {x y:Str}{t u:Tok}{v w:Value}{Q:Unit×SortSt→G→be→Prop}(hne:x≠y)(h:∀ st',failedOf st'=none→arrOf st'=(if x.cps.toList<y.cps.toList then #[(.str x t,v),(.str y u,w)] else #[(.str y u,w),(.str x t,v)])→Q ((),st') g M) :
  W C A (sortRuns'.run (SortSt.mk' oneType' #[(.str x t,v),(.str y u,w)] #[] 7 none)) g M Q:=fun s S=>by
 refine wpAny_mono (wpS_sortRunsK (κ:=PyProof.Rows.strKind) (E:=fun O O=>False) (a₀:=#[(.str x t,v),(.str y u,w)]) (Q:=fun O st'=>failedOf st'=none∧arrOf st'=(if x.cps.toList<y.cps.toList then #[(.str x t,v),(.str y u,w)] else #[(.str y u,w),(.str x t,v)]))
  strKind_oneLt ?_ ⟨Array.Perm.refl _,rfl,rfl,rfl⟩ (by show 2≤2;exact dX _) (by show 2<64;exact by decide) fun st' a1 a2 a3=>⟨a2,wF hne a1 a3⟩) ?_ fun O O e=>e
 ·intro p hp
  rcases List.mem_cons.mp hp with rfl|hp
  ·exact ⟨_,rfl⟩
  ·obtain rfl:=List.mem_singleton.mp hp
   exact ⟨_,rfl⟩
 ·refine fun q4 s' q5=>ch q5 fun q6 h1 h2=>?_;clear q5;rcases q4 with ⟨⟨⟩,st'⟩;subst q6
  exact (an g M .refl S (h st' h1 h2))
theorem yJ {a q:Addr}{v w:Value}{x y:Str}{n:Nat}{Q:PySem.Fin→G→be→Prop}(hne:x≠y)(h1:∀ g' N,G.le g g'→W C A (call (.ref q) [v]) g' N (fun r g'' N'=>N'=N∧∃ t,r=.str x t))(h2:∀ g' N,G.le g g'→W C A (call (.ref q) [w]) g' N (fun r g'' N'=>N'=N∧∃ t,r=.str y t))(h:∀ g' k,G.le g g'→Q (.done (.ret .none)) g' ((a,(·=seqObj "list" (if x.cps.toList<y.cps.toList then #[v,w] else #[w,v]) k))::M)) :
  W C A (ksk_tree a (.ref q) false) g ((a,(·=seqObj "list" #[v,w] n))::M) Q:=by
 unfold ksk_tree
 refine ak (rr (i:=0) rfl ?_)
 refine ak (mH (i:=0) rfl (by show 2≤1000;exact by decide) (by show 0≤1000;exact by decide) fun e1=>?_)
 refine ak (uO (i:=0) rfl ?_)
 refine ak ?_
 show W C A (newTuple [v,w]) g ((a,(·=seqObj "list" #[] e1))::M) _
 refine fun s S=>wpAny_newTuple (an g _ .refl (S.push_own (P:=fun O=>True) (n:=s.toks) rfl trivial) ?_) (by show 2≤2^24;exact by decide)
 generalize s.heap.objs.size=hT
 refine eP (i:=0) ?_
 refine ak ?_
 refine fun s S=>wpAny_newList (an g _ .refl (S.push_own (P:=(·=seqObj "list" #[] 0)) (n:=s.toks) rfl rfl) ?_) (iE _)
 generalize s.heap.objs.size=kS
 refine aD ?_
 show W C A _ g ((kS,(·=seqObj "list" #[] 0))::(a,(·=seqObj "list" #[] e1))::M) _
 unfold ksk_rest
 refine ak (xN ?_)
 refine ak ?_
 rw[← Array.forIn_toList]
 show W C A (forIn [v,w] _ _) _ _ _
 rw[nX]
 refine ak ?_
 refine ak (kZ ?_)
 refine (h1 g _ .refl).mono ?_
 refine fun O g1 O l1 q7=>ew q7 fun q8 t q9=>?_;clear q7;subst q8;subst q9
 refine ak (mH (i:=0) rfl (by show 0≤1000;exact by decide) (by show 1≤1000;exact by decide) fun e2=>?_)
 refine ay ?_
 dsimp only
 rw[nX]
 refine ak ?_
 refine ak (kZ ?_)
 refine (h2 g1 _ l1).mono ?_
 refine fun O g2 O l2 q10=>ew q10 fun q11 u q12=>?_;clear q10;subst q11;subst q12
 refine ak (mH (i:=0) rfl (by show 1≤1000;exact by decide) (by show 2≤1000;exact by decide) fun e3=>?_)
 refine ay ?_
 dsimp only
 rw[qy]
 refine ay ?_
 refine ak (rr (i:=0) rfl ?_)
 unfold ksk_end
 dsimp only
 rw[if_neg jo]
 have hn2:¬ (#[v,w]:Array Value).size<2:=by show ¬ 2<2;exact um (dX _)
 rw[if_neg hn2,if_neg hn2,if_neg jo]
 show W C A (keyKind' #[Value.str x t,.str y u] >>= _) _ _ _
 rw[keyKind_strs (v₁:=.str x t) (v₂:=.str y u) (vs:=[]) (StrsAre.cons x t (StrsAre.cons y u .nil))]
 refine ak (ay ?_)
 refine ak ?_
 have hz:((#[].push (Value.str x t)).push (Value.str y u)).zip #[v,w]=#[(.str x t,v),(.str y u,w)]:=Array.toList_inj.mp (by rw[Array.toList_zip];rfl)
 rw[hz]
 refine r9 hne fun st' hf ha=>?_
 show W C A (ksk_tail a false e1 (.ref kS) st') _ _ _
 unfold ksk_tail
 dsimp only
 refine ak (mH (i:=0) rfl (by show 2≤1000;exact by decide) (by show 0≤1000;exact by decide) fun e4=>?_)
 refine ak ?_
 refine fun s S=>wpAny_letGo (an g2 _ .refl S ?_)
 refine ak (uO (i:=1) rfl ?_)
 have hout:(arrOf st').map (·.2)=if x.cps.toList<y.cps.toList then #[v,w] else #[w,v]:=by
  rw[ha]
  split<;>simp
 refine ak (mH (i:=1) rfl (by show 0≤1000;exact by decide) (by
  show (if false=true then _ else ((arrOf st').map (·.2))).size≤1000
  rw[if_neg jo,hout]
  split<;>(show 2≤1000;exact by decide)) fun e5=>?_)
 rw[hf,if_neg jo,hout]
 simp only[bne_self_eq_false,sA,if_false]
 refine eP (i:=0) ?_
 refine ay ?_
 exact h g2 e5 (l1.trans l2)
theorem mO:∀ {vs:List Value}{ss:List Str},vs.length=ss.length→(∀ (j:Nat) v,vs[j]?=some v→∃ y t,ss[j]?=some y∧v=.str y t)→StrsAre vs ss
 | [],[],_,_=>.nil
 | [],_::_,h,_=>by simp at h
 | _::_,[],h,_=>by simp at h
 | v::vs,s::ss,h,k=>by
  refine bJ (k 0 v rfl) fun y t e q13=>?_;subst q13
  cases e
  exact .cons _ _ (mO (by simpa using h) fun j v hv=>k (j+1) v hv)
theorem mN {x:Str}{acc:Array Value}(h:ItemsOf (SignAt x) acc x.cps.size):StrsAre acc.toList (x.cps.toList.map fun c=>(⟨#[c]⟩:Str)):=by
 refine mO (by rw[fA,h.1,fZ,fA]) fun j v hv=>?_
 refine bJ (h.2 j v (Array.getElem?_toList.symm.trans hv)) fun c u hc q14=>?_;subst q14
 refine (bV _ u ?_ rfl)
 rw[List.getElem?_map,Array.getElem?_toList,hc]
 rfl
theorem lR {x:Str}{t:Tok}{Q:PQ Value}(hA:A.handled=none)(hx:x.length≤1000)(h:∀ l xs,StrsAre xs.toList (x.cps.toList.map fun c=>(⟨#[c]⟩:Str))→Q (.ref l) g ((l,ai xs)::M)):W C A (call (.type "list") [.str x t]) g M Q:=f8 fun s S=>by
 refine call_list_str hA x t (fun h' tk acc' c' k hS hI htk=>?_) (bw hx (by decide))
 exact (an g _ .refl (S.newAt (P:=ai acc') k hS ⟨c',rfl⟩ htk) (h _ acc' (mN hI)))
theorem oq {x:Str}{t:Tok}{Q:List Value→G→be→Prop}(hA:A.handled=none)(hx:x.length≤1000)(h:∀ vs:List Value,StrsAre vs (x.cps.toList.map fun c=>(⟨#[c]⟩:Str))→Q vs g M):W C A (collect (.str x t)) g M Q:=f8 fun s S=>by
 refine wpAny_collect_str hA x t (fun s' acc keep hg hd ho hI hn=>?_) (bw hx (by decide))
 have e:s'={ s with heap:=s'.heap,gens:=s'.gens,drawn:=s'.drawn,toks:=s'.toks,os:=s'.os }:=rfl
 have S':St C g M s':=by
  have S1:=S.keeps (h':=s'.heap) (n:=s'.toks) keep hn
  exact ⟨S1.sub,S1.own,S1.sep,S1.nd,S1.tab,S1.tcode,S1.tsep,S1.tnd,hg.trans S.gens,ho.trans S.os,S1.tk⟩
 exact (an g M .refl S' (h _ (mN hI)))
theorem vf {a b:Nat}{tt:Tok}{q:Addr}{x y:Str}{Q:PQ Value}(hA:A.handled=none)(hne:x≠y)(h1:∀ A' g' N t,Rm A' 2→G.le g g'→W C A' (call (.ref q) [.str ⟨#[a]⟩ t]) g' N (fun r g'' N'=>N'=N∧∃ t,r=.str x t))(h2:∀ A' g' N t,Rm A' 2→G.le g g'→W C A' (call (.ref q) [.str ⟨#[b]⟩ t]) g' N (fun r g'' N'=>N'=N∧∃ t,r=.str y t))(rm:Rm A 5)(h:∀ g' l xs,G.le g g'→StrsAre xs.toList (if x.cps.toList<y.cps.toList then [(⟨#[a]⟩:Str),⟨#[b]⟩] else [(⟨#[b]⟩:Str),⟨#[a]⟩])→Q (.ref l) g' ((l,ai xs)::M)) :
  W C A (call (.builtin "sorted") [.str ⟨#[a,b]⟩ tt] [("key",.ref q)]) g M Q:=fun s S=>by
 refine call_function_entry_kw kind_sorted plain_sorted entry_sorted (ksk_s1 _ _) ?_
 unfold Builtin.«sorted»
 refine wpAny_bind (m:=checkCount "sorted" 1 1 _) (wpAny_pure ?_)
 suffices H:W C A.in1 (collect (.str ⟨#[a,b]⟩ tt) >>= fun vs=>newList vs >>= fun l=>holding [l] (call (.builtin "list.sort") [l] [("key",.ref q)]) >>= fun O=>ret l) g M (fun fin g' M'=>∃ v,fin=.done (.ret v)∧Q v g' M') from by
  refine wpAny_mono (H s S) (fun fin s' q15=>cm q15 fun g' M' l' S' v q16=>dI q16 fun e hq=>(ky v e g' M' l' (jb S' hq))) fun O O x=>x
 have rm1:Rm A.in1 4:=rm.in1
 refine ak (oq rm1.h (by show 2≤1000;exact by decide) fun vs hvs=>?_)
 obtain ⟨v1,t1,vs',e,hv1,h3⟩:∃ v1 t1 vs',vs=v1::vs'∧v1=.str ⟨#[a]⟩ t1∧StrsAre vs' [(⟨#[b]⟩:Str)]:=by
  cases hvs with
  | cons y t h=>exact (bf _ _ _ rfl rfl h)
 subst e hv1
 obtain ⟨t2,e⟩:∃ t2,vs'=[.str ⟨#[b]⟩ t2]:=by
  cases h3 with
  | cons y t h=>cases h;exact ⟨_,rfl⟩
 subst e
 refine ak ?_
 refine fun s S=>wpAny_newList (an g _ .refl (S.push_own (P:=(·=seqObj "list" #[.str ⟨#[a]⟩ t1,.str ⟨#[b]⟩ t2] 0)) (n:=s.toks) rfl rfl) ?_) (by show 2≤2^24;exact by decide)
 generalize s.heap.objs.size=l
 refine ak (aD ?_)
 refine fun s S=>?_
 refine aL (S.own _ (.head _)) fun o ho q17=>?_;subst q17
 refine wpAny_call_entry_kw slot_list_sort (aG _ ho rfl) entry_list_sort ?_ (ksk_l1 _ _)
 rw[ksk_t1]
 have rm2:Rm A.in1.in1 3:=rm1.in1
 refine wpAny_mono (yJ (A:=A.in1.in1) (x:=x) (y:=y) (n:=0) (Q:=fun fin g' M'=>fin=.done (.ret .none)∧∃ k,M'=(l,(·=seqObj "list" (if x.cps.toList<y.cps.toList then #[.str ⟨#[a]⟩ t1,.str ⟨#[b]⟩ t2] else #[.str ⟨#[b]⟩ t2,.str ⟨#[a]⟩ t1]) k))::M) hne (fun g' N l'=>h1 _ g' N t1 rm2.le l') (fun g' N l'=>h2 _ g' N t2 rm2.le l') (fun g' k l'=>(lx rfl k rfl)) s S) ?_ fun O O x=>x
 refine fun O s' q18=>bc q18 fun g' O l' S' q19 q21=>bK q21 fun k q20=>?_;clear q18 q21;subst q19;subst q20
 refine (ky .none rfl g' _ l' (jb S' ?_))
 refine rU (i:=0) (P':=ai (if x.cps.toList<y.cps.toList then #[.str ⟨#[a]⟩ t1,.str ⟨#[b]⟩ t2] else #[.str ⟨#[b]⟩ t2,.str ⟨#[a]⟩ t1])) rfl (fun o e=>⟨k,e⟩) ?_
 refine ay (aG _ rfl (h g' l _ l' ?_))
 split
 ·exact .cons _ _ (.cons _ _ .nil)
 ·exact .cons _ _ (.cons _ _ .nil)
end
end
section
section
variable {C:Cx}{A:Around}{g:G}{M:be}{env:Env}
theorem om (k v target iter:Expr)(scope:Scope)(pos:Pos)(it:Value)(d:Addr)(cenv:Env) :
  compTurn (.DictComp k v [⟨target,iter,[],0⟩] scope pos) 0 it (.ref d) cenv=(standAt iter.pos >>= fun O=>pyNext it >>= fun r=>match r with
   | none=>pure (.done .next)
   | some x=>letOwnedTupleGo target it x >>= fun O=>assign target cenv x >>= fun O=>gF [] cenv >>= fun ok =>
     if ok=true then (eval k cenv >>= fun kv=>holding [kv] (eval v cenv) >>= fun vv=>standAt { k.pos with endLine:=v.pos.endLine,endCol:=v.pos.endCol } >>= fun O=>holding [kv,vv] (dictSet d kv vv)) >>= fun O =>
      again (.compLoop (.DictComp k v [⟨target,iter,[],0⟩] scope pos) 0 it (.ref d) cenv)
     else again (.compLoop (.DictComp k v [⟨target,iter,[],0⟩] scope pos) 0 it (.ref d) cenv)):=by rfl
theorem oA {k v target iter:Expr}{scope:Scope}{pos:Pos}{it acc:Value}{cenv:Env}{Q:PQ Flow}(h0:WC C A (.compLoop (.DictComp k v [⟨target,iter,[],0⟩] scope pos) 0 it acc cenv) g M Q)(h:W C A (pyIter it) g M (fun it' g₁ M₁=>WC C A (.compLoop (.DictComp k v [⟨target,iter,[],0⟩] scope pos) 0 it' acc cenv) g₁ M₁ Q)) :
  WC C A (.compStart (.DictComp k v [⟨target,iter,[],0⟩] scope pos) 0 it acc cenv) g M Q:=fun s S=>by
 refine codeAny_of_tree ?_
 show wpAny _ _ ((compStart (.DictComp k v [⟨target,iter,[],0⟩] scope pos) 0 it acc cenv).onRaise (fun x=>do noteFrame x cenv;standAt theWindowsPlace)) _ _ s
 refine wpAny_notedAt (toE ?_)
 unfold compStart
 show wpAny _ _ (ask >>= _) _ _ s
 refine wpAny_bind (wpAny_askSetting (wpAny_ite ?_))
 split
 ·first
   | exact wpAny_bind (wpAny_pure (wpAny_pure (And.intro rfl (h0 s S))))
   | exact wpAny_pure (And.intro rfl (h0 s S))
 ·have q:=h s S
  have key:wpAny C.M A (pyIter it) (fun it' s'=>codeAny C.M A (.compLoop (.DictComp k v [⟨target,iter,[],0⟩] scope pos) 0 it' acc cenv) (fun r s'=>match r with|.ok f=>∃ g' M',G.le g g'∧St C g' M' s'∧Q f g' M'|.error _=>False) s') (fun O O=>False) s :=
   wpAny_mono q (fun it' s' q1=>aK q1 fun g₁ M₁ l₁ S₁ h₁=>codeAny_mono (h₁ s' S₁) fun r s'' x=>by
    cases r with
    | error e=>exact x
    | ok f=>refine aK x fun g' M' l' S' q=>?_;clear x;exact (an g' M' (l₁.trans l') S' q)) fun O O x=>x
  refine wpAny_bind (wpAny_rule ?_)
  show wpAny _ _ (standAt iter.pos >>= _) _ _ s
  exact wpAny_bind (wpAny_standAt (wpAny_bind (wpAny_mono key (fun it' s' h'=>wpAny_pure (And.intro rfl h')) fun O O x=>x)))
theorem vg {d:Addr}{kvs:List (Str×Value)}{k:Str}{t:Tok}{v:Value}{i:Nat}{Q:PQ Unit}(hi:M[i]?=some (d,aB C kvs))(hsz:kvs.length≤1000)(h:Q () g (M.set i (d,aB C (stored kvs k v)))):W C A (dictSet d (.str k t) v) g M Q:=f8 fun s S=>by
 unfold dictSet
 refine wpAny_holding ?_
 refine wpAny_bind ((PySem.strKind prog C.w).pyHash (strKind_is prog C.w k t) ?_)
 refine wpAny_dictSetHashed_pairs (knd:=PySem.strKind prog C.w) (strKind_is prog C.w k t) (S.dict (.own (iu hi))) ?_ (bw hsz (by decide))
 intro h' hd hs (hn:s.toks≤s.toks+1)
 refine aL (Heap.dictOf_iff.mp hd) fun o eo p=>?_
 exact (an g _ .refl (S.set (P':=aB C (stored kvs k v)) hi hs eo p hn) h)
theorem sR {kvs:List (Str×Value)}{k:Str}{v:Value}:(stored kvs k v).length≤kvs.length+1:=by
 unfold stored
 split
 ·rw[fZ];exact dG _ _
 ·rw[ζ17];exact dX _
theorem lL {key val iter:Expr}{x:Str}{px:Pos}{scope:Scope}{pos:Pos}{cenv:Env}{I D:Addr}{P:Nat→OP}{n:Nat}{V:Nat→Value→Prop}{F:Value→be}{F0:be}{J:Nat→List (Str×Value)→Prop}{Q:PQ Flow}(Dr:DrawsW C A g I P n V)(hn:n≤1000)(store:∀ g' N v F' (Q':PQ Unit),(F'=F0∨∃ u,F'=F u)→Q' () g' (F v++N)→W C A (storeName cenv x v) g' (F'++N) Q')(turn:∀ k g' kvs v,k<n→G.le g g'→J k kvs→V k v→W C A (eval key cenv) g' (F v++(D,aB C kvs)::(I,P (k+1))::M) (fun kv g₃ M₃=>∃ kx kt,kv=.str kx kt∧M₃=F v++(D,aB C kvs)::(I,P (k+1))::M ∧
   W C A (eval val cenv) g₃ (F v++(D,aB C kvs)::(I,P (k+1))::M) (fun vv g₄ M₄=>M₄=F v++(D,aB C kvs)::(I,P (k+1))::M∧J (k+1) (stored kvs kx vv))))(fin:∀ g' kvs F',G.le g g'→J n kvs→(F'=F0∨∃ u,F'=F u)→Q .next g' (F'++(D,aB C kvs)::M))(j0:J 0 []) :
  WC C A (.compStart (.DictComp key val [⟨.Name x px,iter,[],0⟩] scope pos) 0 (.ref I) (.ref D) cenv) g (F0++(D,aB C [])::(I,P 0)::M) Q:=by
 have loop:WC C A (.compLoop (.DictComp key val [⟨.Name x px,iter,[],0⟩] scope pos) 0 (.ref I) (.ref D) cenv) g ((F0++[(D,aB C [])])++(I,P 0)::M) Q:=by
  refine gd (target:=.Name x px) (ifs:=[]) (ip:=iter.pos) (Y:=F0++[(D,aB C [])]) (J:=fun k g' Y=>∃ F' kvs,Y=F'++[(D,aB C kvs)]∧kvs.length≤k∧J k kvs∧(F'=F0∨∃ u,F'=F u))
   (om _ _ _ _ scope pos (.ref I) D cenv) rfl rfl rfl Dr ik ?_ ?_ (cb F0 ([]) rfl (dX _) j0 (.inl rfl))
  ·refine fun k g' O v hk l' q2 hv=>bc q2 fun F' kvs q3 hlen j hF=>?_;clear q2;subst q3
   refine aF ?_
   rw[iY,xp]
   refine store g' _ v F' _ hF ?_
   refine dr ?_
   rw[if_pos rfl]
   refine ak ((turn k g' kvs v hk l' j hv).mono ?_)
   refine fun O g₃ O l₃ q4=>aK q4 fun kx kt q5 q6 h=>?_;clear q4;subst q5;subst q6
   refine ak (aD (h.mono ?_))
   refine fun vv g₄ O l₄ q7=>dI q7 fun q8 j'=>?_;clear q7;subst q8
   refine ak (aP ?_)
   refine aD ?_
   refine vg (i:=(F v).length) (kvs:=kvs) ?_ (bw hlen (bY (b9 hk hn))) ?_
   ·rw[List.getElem?_append_right (dX _),nh];rfl
   ·refine (dB ([]) (F v++[(D,aB C (stored kvs kx vv))]) ?_ (F v) _ (cr rfl (bw sR (mt hlen _)) j' (.inr ⟨v,rfl⟩)))
    rw[List.set_append_right _ _ (dX _),nh,si,iY]
    rfl
  ·refine fun g' O l' q9=>bc q9 fun F' kvs q10 hlen j hF=>?_;clear q9;subst q10
   rw[iY,xp]
   exact fin g' kvs F' l' j hF
 have loop':WC C A (.compLoop (.DictComp key val [⟨.Name x px,iter,[],0⟩] scope pos) 0 (.ref I) (.ref D) cenv) g (F0++(D,aB C [])::(I,P 0)::M) Q:=by
  rw[iY,xp] at loop
  exact loop
 refine oA loop' ?_
 refine Dr.self g _ (F0.length+1) 0 _ .refl ?_ loop'
 rw[List.getElem?_append_right (dG _ _),xO]
 rfl
theorem o0 {Pm:OP}{Q:PQ Value}(hm:Fz g mainGlobals Pm)(h:∀ d,(d==sysModules)=false→Q (.ref d) g ((d,aB C [])::M)):W C A newDict g M Q:=fun s S=>by
 refine wpAny_newObj_type ?_
 exact (an g _ .refl (S.push_own (P:=aB C []) (n:=s.toks) rfl (by
  refine aL (Heap.dictOf_iff.mp (Heap.DictOf.new (knd:=PySem.strKind prog C.w) s.heap)) fun o e p=>?_
  rw[Heap.get?_push_size _ rfl] at e
  cases e
  exact p)) (h _ (i0 S hm)))
theorem ue {key val iter:Expr}{x:Str}{px:Pos}{scope:Scope}{cl:List (Str×Addr)}{pos:Pos}{Pm:OP}{Q:PQ Value}(hm:∀ g',G.le g g'→Fz g' mainGlobals Pm)(hclos:closureFor scope env=pure cl)(h:W C A (eval iter env) g M (fun xv g₁ M₁=>W C A (pyIter xv) g₁ M₁ (fun itv g₂ M₂=>∃ (I:Addr) (P:Nat→OP) (n:Nat) (V:Nat→Value→Prop) (M₀:be) (J:Nat→List (Str×Value)→Prop),itv=.ref I∧M₂=(I,P 0)::M₀∧DrawsW C A g₂ I P n V∧n≤1000∧J 0 [] ∧
   (∀ k g' kvs v Cl D,k<n→G.le g₂ g'→J k kvs→V k v →
    W C A (eval key (compEnvC scope cl Cl env)) g' ((Cl,aJ [(x,v)])::(D,aB C kvs)::(I,P (k+1))::M₀) (fun kv g₃ M₃=>∃ kx kt,kv=.str kx kt∧M₃=(Cl,aJ [(x,v)])::(D,aB C kvs)::(I,P (k+1))::M₀ ∧
     W C A (eval val (compEnvC scope cl Cl env)) g₃ ((Cl,aJ [(x,v)])::(D,aB C kvs)::(I,P (k+1))::M₀) (fun vv g₄ M₄=>M₄=(Cl,aJ [(x,v)])::(D,aB C kvs)::(I,P (k+1))::M₀∧J (k+1) (stored kvs kx vv)))) ∧
   (∀ g' kvs D,G.le g₂ g'→J n kvs→(D==sysModules)=false→Q (.ref D) g' ((D,aB C kvs)::M₀)))))(hcell:∀ y∈scope.names,y.2≠.cell:=by decide)(hkind:scope.kind=.function:=by with_unfolding_all exact Eq.refl ScopeKind.function)(hnames:∀ x∈scope.names,x.2=.local→scope.names.lookup x.1=some .local:=by decide)(hx:scope.names.lookup x=some .local:=by decide)(hs:∀ x,foldedSetIterable iter env x=pure x:=by intro _;rfl'):W C A (eval (.DictComp key val [⟨.Name x px,iter,[],0⟩] scope pos) env) g M Q:=by
 rw[arm_eval_DictComp]
 refine j7 (t':=comprehension (.DictComp key val [⟨.Name x px,iter,[],0⟩] scope pos) scope env (firstIterPos [⟨.Name x px,iter,[],0⟩] pos) newDict false (eval iter env) none) rfl ?_
 refine eh (gc:=⟨.Name x px,iter,[],0⟩) rfl hs hclos hcell hkind hnames (h.mono fun xv g₁ M₁ l₁ h=>h.mono ?_)
 refine fun O g₂ O l₂ q11=>aT q11 fun I P n V M₀ q14=>mz q14 fun J q12 q13 Dr hn q15=>ch q15 fun j0 turn fin=>?_;clear q11 q14 q15;subst q12;subst q13
 refine o0 (hm g₂ (l₁.trans l₂)) fun D hD Cl=>?_
 refine lL (cenv:=compEnvC scope cl Cl env) (F:=fun v=>[(Cl,aJ [(x,v)])]) (F0:=[(Cl,aJ [])]) (J:=J) Dr hn ?_ ?_ ?_ j0
 ·intro g' N v F' Q' hF hq
  rcases hF with rfl|⟨u,rfl⟩
  ·exact aX (i:=0) (l:=[]) rfl hq hkind (lookup_relabel_local hx)
  ·refine aX (i:=0) (l:=[(x,u)]) rfl ?_ hkind (lookup_relabel_local hx)
   have e:bR [(x,u)] x v=[(x,v)]:=by simp only[bR,if_true]
   rw[e]
   exact hq
 ·intro k g' kvs v hk l' j hv
  exact turn k g' kvs v Cl D hk l' j hv
 ·intro g' kvs F' l' j hF
  rcases hF with rfl|⟨u,rfl⟩
  ·exact (bV _ _ rfl (fin g' kvs D l' j hD))
  ·exact (bV _ _ rfl (fin g' kvs D l' j hD))
end
end
section
section
variable {C:Cx}{A:Around}{g:G}{M:be}{env:Env}
theorem sM {scope:Scope}{cl:List (Str×Addr)}{x:Str}{Q:Env→G→be→Prop}(hc:aW scope.names=[x])(h:∀ Cl c,Q (newEnv scope Cl env.globals ((x,c)::cl) env.qual none .none (some env) builtinsNs) g ((c,ag none)::(Cl,aJ [])::M)):W C A (newFunctionEnv scope env.globals cl [] env.qual none .none (some env)) g M Q:=by
 unfold newFunctionEnv
 refine ak (nZ (P:=aJ []) (aG (fun O=>none) (an (#[]) 0 rfl (fun O h=>by simp at h) (fun O=>rfl)) (fun x v e=>by cases e)) fun L=>?_)
 refine gW scope.names cl _ fun as hl=>?_
 rw[hc] at hl ⊢
 obtain ⟨c,rfl⟩:∃ c,as=[c]:=by
  match as,hl with
  | [c],_=>exact ⟨c,rfl⟩
 dsimp only
 rw[qy]
 exact ak (ay (ay (h L c)))
theorem ly {e:Expr}{scope:Scope}{pos:Pos}{newAcc first:Sem Value}{gc:Comprehension}{gs:List Comprehension}{cl:List (Str×Addr)}{x:Str}{Q:PQ Value}(hcl:clausesOf e=gc::gs)(hs:∀ x,foldedSetIterable gc.iter env x=pure x)(hclos:closureFor scope env=pure cl)(hcell:aW scope.names=[x])(hkind:scope.kind=.function)(hnames:∀ x∈scope.names,x.2=.local→scope.names.lookup x.1=some .local)(h:W C A first g M (fun x₁ g₁ M₁=>W C A (pyIter x₁) g₁ M₁ (fun it g₂ M₂=>W C A newAcc g₂ M₂ (fun acc g₃ M₃=>∀ Cl c,WC C A (.compStart e 0 it acc (compEnvC scope ((x,c)::cl) Cl env)) g₃ ((c,ag none)::(Cl,aJ [])::M₃)
   (fun O g₄ M₄=>∃ l X M₅,M₄=X::(Cl,aJ l)::M₅∧Q acc g₄ M₅))))):W C A (comprehension e scope env pos newAcc false first none) g M Q:=fun s S=>by
 refine wpAny_comprehension_free (use:=none) hcl hs hclos hkind hnames (wpAny_mono (h s S) (fun x₁ s₁ q1=>aK q1 fun g₁ M₁ l₁ S₁ h₁=>wpAny_mono (h₁ s₁ S₁) (fun it s₂ q2=>aK q2 fun g₂ M₂ l₂ S₂ h₂=>wpAny_mono (h₂ s₂ S₂) (fun acc s₃ q3=>aK q3 fun g₃ M₃ l₃ S₃ h₃=>?_) fun O O x=>x) fun O O x=>x) fun O O x=>x)
 refine wpAny_mono (sM (C:=C) (A:=A) (Q:=fun cenv g₄ M₄=>∃ Cl c,cenv=newEnv scope Cl env.globals ((x,c)::cl) env.qual none .none (some env) builtinsNs∧g₃=g₄∧(c,ag none)::(Cl,aJ [])::M₃=M₄) hcell (fun Cl c=>(an Cl c rfl rfl rfl)) s₃ S₃) ?_ fun O O x=>x
 refine fun O s₄ q4=>cm q4 fun O O l₄ S₄ Cl q8=>bT q8 fun c q5 q6 q7=>?_;clear q4 q8;subst q5;subst q6;subst q7
 refine codeAny_mono (h₃ Cl c s₄ S₄) ?_
 rintro r s₅ h₅
 cases r with
 | error e=>exact h₅.elim
 | ok f =>
  refine cm h₅ fun g₅ O l₅ S₅ l q10=>bJ q10 fun X M₅ q9 q=>?_;clear q10 h₅;subst q9
  have S₆:St C g₅ ((Cl,aJ l)::M₅) s₅:=S₅.drop (X:=[X])
  refine aL (S₆.loc (.own (.head _))) fun O hn O=>?_
  exact (aG _ hn (fun h' hs'=>(an g₅ M₅ ((((l₁.trans l₂).trans l₃).trans l₄).trans l₅) (S₆.forget (i:=0) rfl (fun b o ne e=>(hs'.2 b ne).trans e) (dX _)) q)))
theorem d0 {env:Env}:∀ {names:List (Str×NameKind)}{x:Str},names.lookup x=some .cell →
  (names.map fun (n,k)=>if (k==NameKind.free&&env.scope.kind==.function&&env.kindOf n==some .cell) then (n,NameKind.cell) else (n,k)).lookup x=some .cell
 | [],_,h=>by simp at h
 | (n,k)::r,x,h=>by
  have ih:=@d0 env r x
  show List.lookup x ((if (k==NameKind.free&&env.scope.kind==.function&&env.kindOf n==some .cell)=true then (n,NameKind.cell) else (n,k))::_)=_
  cases hx:x==n with
  | true =>
   simp only[pq,hx] at h
   cases h
   simp[pq,hx]
  | false =>
   simp only[pq,hx] at h
   by_cases hc:(k==NameKind.free&&env.scope.kind==.function&&env.kindOf n==some .cell)=true
   ·rw[if_pos hc];simp only[pq,hx];exact ih h
   ·rw[if_neg hc];simp only[pq,hx];exact ih h
theorem sk {key val iter:Expr}{x:Str}{px:Pos}{scope:Scope}{cl:List (Str×Addr)}{pos:Pos}{Pm:OP}{Q:PQ Value}(hm:∀ g',G.le g g'→Fz g' mainGlobals Pm)(hclos:closureFor scope env=pure cl)(h:∀ q:PQ Value,(∀ (I:Addr) (P:Nat→OP) (n:Nat) (J:Nat→List (Str×Value)→Prop) (V:Nat→Value→Prop) (g₂:G) (M₀:be),DrawsW C A g₂ I P n V→n≤1000→J 0 [] →
   (∀ k g' kvs v Cl c M1,k<n→G.le g₂ g'→J k kvs→V k v→∀ q₁:PQ Value,(∀ kx kt g₃,(∀ q₂:PQ Value,(∀ vv g₄,J (k+1) (stored kvs kx vv)→q₂ vv g₄ ((c,ag (some v))::M1))→W C A (eval val (compEnvC scope ((x,c)::cl) Cl env)) g₃ ((c,ag (some v))::M1) q₂)→q₁ (.str kx kt) g₃ ((c,ag (some v))::M1)) →
    W C A (eval key (compEnvC scope ((x,c)::cl) Cl env)) g' ((c,ag (some v))::M1) q₁) →
   (∀ g' kvs D,G.le g₂ g'→J n kvs→(D==sysModules)=false→Q (.ref D) g' ((D,aB C kvs)::M₀))→q (.ref I) g₂ ((I,P 0)::M₀))→W C A (eval iter env) g M (fun xv g₁ M₁=>W C A (pyIter xv) g₁ M₁ q))(hcell:aW scope.names=[x]:=by rfl')(hkind:scope.kind=.function:=by with_unfolding_all exact Eq.refl ScopeKind.function)(hnames:∀ x∈scope.names,x.2=.local→scope.names.lookup x.1=some .local:=by decide)(hx:scope.names.lookup x=some .cell:=by decide)(hs:∀ x,foldedSetIterable iter env x=pure x:=by intro _;rfl'):W C A (eval (.DictComp key val [⟨.Name x px,iter,[],0⟩] scope pos) env) g M Q:=by
 rw[arm_eval_DictComp]
 refine j7 (t':=comprehension (.DictComp key val [⟨.Name x px,iter,[],0⟩] scope pos) scope env (firstIterPos [⟨.Name x px,iter,[],0⟩] pos) newDict false (eval iter env) none) rfl ?_
 refine ly (gc:=⟨.Name x px,iter,[],0⟩) rfl hs hclos hcell hkind hnames ((h (fun v g₂ M₂=>G.le g g₂→_) ?_).mono fun xv g₁ M₁ l₁ h=>h.mono fun O O O l₂ h=>h (l₁.trans l₂))
 intro I P n J V g₂ M₀ Dr hn j0 turn fin l₁
 refine o0 (hm g₂ l₁) fun D hD Cl c=>?_
 refine lL (cenv:=compEnvC scope ((x,c)::cl) Cl env) (F:=fun v=>[(c,ag (some v)),(Cl,aJ [])]) (F0:=[(c,ag none),(Cl,aJ [])]) (J:=J) Dr hn ?_ ?_ ?_ j0
 ·intro g' N v F' Q' hF hq
  have hlk:(compEnvC scope ((x,c)::cl) Cl env).cells.lookup x=some c:=by
   show List.lookup x ((x,c)::cl)=some c
   simp[pq]
  rcases hF with rfl|⟨u,rfl⟩
  ·exact aH (i:=0) hlk rfl hq hkind (d0 hx)
  ·exact aH (i:=0) hlk rfl hq hkind (d0 hx)
 ·intro k g' kvs v hk l' j hv
  refine turn k g' kvs v Cl c _ hk l' j hv _ fun kx kt g₃ h=>(an kx kt rfl rfl (h _ fun vv g₄ j'=>⟨rfl,j'⟩))
 ·intro g' kvs F' l' j hF
  rcases hF with rfl|⟨u,rfl⟩
  ·exact (dQ _ _ _ rfl (fin g' kvs D l' j hD))
  ·exact (dQ _ _ _ rfl (fin g' kvs D l' j hD))
end
end
section
section
variable {C:Cx}{A:Around}{g:G}{M:be}{env:Env}
noncomputable def sU (a b:Int):OP:=fun o=>∃ t u v,o={ cls:=.type "range",data:=.fields #[.int a t,.int b u,.int 4 v] }
theorem wm {a b:Int}{t u v:Tok}{Q:PQ Value}(hp:Builtin.divisionGoesByPylong (b-a) 4=false)(h:∀ g' r,G.le g g'→Fz g' r (sU a b)→Q (.ref r) g' M):W C A (call (.type "range") [.int a t,.int b u,.int 4 v]) g M Q:=fun s S=>by
 refine call_range_3 (by decide) ?_ (.inl hp)
 refine bT ((S.push_own (P:=sU a b) (n:=s.toks) (o:={ cls:=.type "range",data:=.fields #[.int a t,.int b u,.int 4 v] }) rfl (gJ _ _ _ rfl)).freeze) fun x p ga S'=>?_
 exact (an _ _ (G.le_put ga) S' (h _ _ (G.le_put ga) (aG x G.put_self p)))
theorem ow {r:Addr}{a b:Int}{Q:PQ Value}(hr:Fz g r (sU a b))(ha:0≤a∧a<1000)(hb:0≤b∧b<1000)(h:∀ (I:Addr) (P:Nat→OP) (n:Nat),n≤1000→(∀ i,i<n→a+i*4<b)→(∀ A':Around,A'.handled=none→DrawsW C A' g I P n (fun i v=>∃ t,v=.int (a+i*4) t))→Q (.ref I) g ((I,P 0)::M)):W C A (pyIter (.ref r)) g M Q:=fun s S=>by
 refine jf (S.sees (.fz hr)) fun o ho t u v q1=>?_;subst q1
 obtain ⟨n,hn,hle,hlt⟩:∃ n:Nat,Builtin.Range.rangeSize a b 4=(n:Int)∧n≤1000∧∀ i:Nat,i<n→a+i*4<b:=by
  unfold Builtin.Range.rangeSize
  simp only[show ((4:Int) > 0) from by decide,if_true]
  by_cases hab:a<b
  ·rw[if_pos hab]
   refine (bU (((b-a-1)/4+1).toNat) (by omega) (by omega) (fun i hi=>by omega))
  ·rw[if_neg hab]
   exact (bU 0 rfl (by decide) (fun i hi=>absurd hi (um (iE _))))
 have hsmall:Builtin.Range.small a b 4=true:=by
  unfold Builtin.Range.small
  rw[hn]
  simp[Builtin.Range.rangeFitsLong]
  omega
 refine wpAny_pyIter_range ho hsmall ?_
 rw[hn]
 refine (an g _ .refl (S.push_own (P:=jv g s.heap.objs.size [s.heap.objs.size] (fun h=>IsRangeIter h s.heap.objs.size (a+((0:Nat):Int)*4) ((n:Int)-((0:Nat):Int)) 4)) (n:=s.toks) rfl ?_) (h _ (fun k=>jv g s.heap.objs.size [s.heap.objs.size] (fun h=>IsRangeIter h s.heap.objs.size (a+(k:Int)*4) ((n:Int)-(k:Int)) 4)) n hle hlt fun A' hA=>?_))
 ·refine (bU (s.heap.push _) (Heap.get?_push_size _ rfl) (fun b hb ne=>absurd (by simpa using hb) ne) ?_)
  have e:=Heap.get?_push_size s.heap (o:={ cls:=.type "range_iterator",data:=.fields #[rawInt a,rawInt (n:Int),rawInt 4] }) rfl
  simpa using e
 ·exact cR (Walks.range hA _ a 4 n) (fun k h hh=>⟨_,hh⟩) fun b hb ne=>absurd (by simpa using hb) ne
theorem Am {a b:Int}{t u:Tok}{Q:PQ Value}(hA:A.handled=none)(h:∀ t,Q (.int (if b<a then b else a) t) g M):W C A (call (.builtin "min") [.int a t,.int b u]) g M Q:=f8 fun s S =>
 min_two_ints hA fun h' tk k hn=>(an g M .refl (S.keeps k hn) (by
  split
  ·rename_i q;have:=h u;rw[if_pos q] at this;exact this
  ·rename_i q;have:=h t;rw[if_neg q] at this;exact this))
noncomputable def wb (m:Nat)(v:Value):Prop:=∃ (n:Nat) (t:Tok),v=.int (n:Int) t∧n<m
noncomputable def lH (xs:Array Value)(i:Nat):Int:=match xs[i]? with|some (Value.int n _)=>n|_=>0
theorem mR {xs:Array Value}{i:Nat}{n:Int}{t:Tok}(h:xs[i]?=some (.int n t)):lH xs i=n:=by unfold lH;rw[h]
theorem sH {xs:Array Value}{i:Nat}(h:xs[i]?=none):lH xs i=0:=by unfold lH;rw[h]
theorem xc {l:Addr}{xs:Array Value}{Q:PQ Value}(hA:A.handled=none)(hl:Fz g l (ai xs))(hsz:xs.size≤1000)(hx:∀ (j:Nat) v,xs[j]?=some v→wb (10^12) v)(h:∀ v,wb (10^15+1) v→Q v g M):W C A (call (.builtin "sum") [.ref l]) g M Q:=f8 fun s S=>by
 have L:=S.list (.inl (hl.imp fun O=>bj))
 refine call_sum_walk ?_
 refine wpAny_pyIter_list L ?_
 have hlt:l<s.heap.objs.size:=aL L fun o e O=>Heap.lt_size e
 have hval:∀ i v,xs[i]?=some v→∃ t,v=Value.int (lH xs i) t:=by
  intro i v hv
  refine bJ (hx i v hv) fun n t q2 O=>?_;subst q2
  exact ⟨t,by rw[mR hv]⟩
 have hb:∀ i,0≤lH xs i∧lH xs i<10^12:=by
  intro i
  cases hv:xs[i]? with
  | none=>rw[sH hv];exact ⟨Int.le_refl _,by decide⟩
  | some v =>
   refine bJ (hx i v hv) fun n t q3 hn=>?_;subst q3
   rw[mR hv]
   exact ⟨eF [_] [] (.L b6 bA) ae,aQ [_] [] (.T bA (.p 10 12)) (.lt ah (.p 10 12)) ae hn⟩
 generalize lH xs=val at *
 have hps:∀ j,0≤preSum val j∧preSum val j≤j*10^12:=by
  intro j
  induction j with
  | zero=>exact ⟨Int.le_refl _,by simp[preSum]⟩
  | succ j ih =>
   have:=hb j
   simp only[preSum]
   push_cast
   lia
 refine (ba s.heap.objs.size ([s.heap.objs.size,l]) ([s.heap.objs.size]) xs.size _ (cb _ val rfl (Walks.list (A:=A.in1) hA _ l (eE hlt) xs) ⟨(bU _ (Heap.get?_push_size _ rfl) rfl rfl),?_⟩ (cr (fun b hb=>?_) hval (fun j hj=>?_) (fun h' tk t' hk hn=>?_))))
 ·refine aL L fun o e r=>?_;clear L
  exact (aG o (Heap.get?_push_of_some _ e) r)
 ·show b<(s.heap.push _).objs.size
  rw[Heap.size_push]
  rcases List.mem_cons.mp hb with rfl|hb
  ·exact kI _
  ·obtain rfl:=List.mem_singleton.mp hb;exact Nat.lt_succ_of_lt hlt
 ·have h1:=hb j
  have h2:=hps (j+1)
  have:((j+1:Nat):Int)≤1000:=by exact ln2 [_,_] [] (.L (.c (.a ah av)) bg) (.le am bg) (.lt ah am) ae hsz hj
  unfold InLong
  constructor<;>constructor<;>lia
 ·have keep:∀ b o,s.heap.get? b=some o→h'.get? b=some o:=fun b o e=>hk b o (by
   intro hm
   obtain rfl:=List.mem_singleton.mp hm
   exact absurd (Heap.lt_size e) (ro _)) (Heap.get?_push_of_some _ e)
  have h2:=hps xs.size
  refine (an g M .refl (S.keeps keep hn) (h _ (bV ((preSum val xs.size).toNat) t' (by rw[jX h2.1]) ?_)))
  have:(xs.size:Int)≤1000:=by exact aQ [_] [] (.L bA bg) (.le ah bg) ae hsz
  lia
theorem tY {T:Addr}{items:Array Value}{ys:List Str}{x:Str}{u:Tok}{Q:PQ Value}(hT:Fz g T (bS items))(hi:StrsAre items.toList ys)(h:Q (.bool (!(ys.any (·==x)))) g M):W C A (compareOp .NotIn (.str x u) (.ref T)) g M Q:=fun s S =>
 notin_tuple_strs (S.tuple (.fz hT)) hi (an g M .refl S h)
end
end
section
noncomputable abbrev dn (L cS cB cC cT cP cL cK cO cD cN a c0:Addr):Env:=cV (bB (st 33)) L mainGlobals (c5 (aW (bB (st 33)).names) [cS,cB,cC,cT,cP,cL,cK,cO,cD,cN] []) (ax (st 33)++".<locals>.") (some a) (.ref c0) builtinsNs
section
variable {C:Cx}{A:Around}{g:G}{M:be}{mg mb:Str→Option Value}{L cS cB cC cT cP cL cK cO cD cN a c0:Addr}{lo:List (Str×Value)}
theorem Ba {Q:PQ Flow}(kQ:∀ g',G.le g g'→∀ T t1 t2 t3 t4,Fz g' T (bS #[.int 8435 t1,.int 3608 t2,.int 31415 t3,.int 1 t4])→Q .next g' ((L,aJ lo)::(cB,ag (some (.ref T)))::M)):W C A (exec (aI (aw (st 33)) 0) (dn L cS cB cC cT cP cL cK cO cD cN a c0)) g ((L,aJ lo)::(cB,ag none)::M) Q:=by
 refine' bQ fun qQ KQ=>?_
 refine aA ?_
 refine ed ?_
 refine ab ?_
 refine' bx fun t1 O=>?_
 refine ab ?_
 refine' bx fun t2 O=>?_
 refine ab ?_
 refine' bx fun t3 O=>?_
 refine ab ?_
 refine' bx fun t4 O=>?_
 refine aj ?_
 refine ⟨by simp only[List.length];decide,fun T g₂ l₂ FT=>?_⟩
 refine aH (i:=1) (by rfl) (by rfl) ?_
 exact KQ _ _ _ fun l=>kQ _ l T t1 t2 t3 t4 FT
theorem AX {T SL:Addr}{t1 t2 t3 t4:Tok}{sxs:Array Value}{ns:List Int}(B:Base C mg mb g)(FB:Fz g cB (ag (some (.ref T))))(FT:Fz g T (bS #[.int 8435 t1,.int 3608 t2,.int 31415 t3,.int 1 t4]))(FS:Fz g cS (ag (some (.ref SL))))(FL:Fz g SL (ai sxs))(hns:IntsAre sxs.toList ns)(hsz:sxs.size≤63)(rm:Rm A 3){Q:PQ Flow}(kQ:∀ g',G.le g g'→∀ CL xs,Fz g' CL (ai xs)→xs.size=4→(∀ (j:Nat) v,xs[j]?=some v→wb (10^16) v)→Q .next g' ((L,aJ lo)::(cC,ag (some (.ref CL)))::M)) :
  W C A (exec (aI (aw (st 33)) 1) (dn L cS cB cC cT cP cL cK cO cD cN a c0)) g ((L,aJ lo)::(cC,ag none)::M) Q:=by
 refine' bQ fun qQ KQ=>?_
 refine aA ?_
 refine' jt (cl:=[("script",cS),("begun",cB)]) (by rfl') fun q_1 K_1=>?_
 ac_nf
 refine bL B c6 ?_
 ac_nf
 refine ⟨br,?_⟩
 show W _ _ (call (.type "range") [.int 4 _]) _ _ _
 refine fu fun g₁ r l₁ Fr=>?_
 refine cw Fr (by decide) (by decide) fun I P' Dr=>?_
 refine K_1 I P' 4 (fun k ys O=>ys.size=k∧∀ (j:Nat) v,ys[j]?=some v→wb (10^16) v) _ _ _ (Dr _ rm.h) (by decide) ⟨rfl,fun j v h=>by simp at h⟩ ?_ ?_
 ·intro k g₂ ys v Cl D hk l₂ j hv hM_1 r_1 R_1
  obtain ⟨tk,rfl⟩:∃ t,v=.int (k:Int) t:=by refine bK hv fun t q1=>?_;clear hv;subst q1;exact ⟨t,by rw[mi]⟩
  have l12:=l₁.trans l₂
  replace B:=B.mono l12
  replace FB:=FB.mono l12
  replace FT:=FT.mono l12
  replace FS:=FS.mono l12
  replace FL:=FL.mono l12
  refine bh ?_
  refine aC ?_
  refine aU (c:=cB) (by rfl) (.fz FB) ?_
  refine ar (.head _) (by rfl) ?_
  have ST:∀ N,Sees g₂ N T (bS #[.int 8435 t1,.int 3608 t2,.int 31415 t3,.int 1 t4]):=fun N=>.fz FT
  refine ⟨kX (ST _),?_⟩
  obtain ⟨bv,tb,hbv⟩:∃ (bv:Nat) (tb:Tok),(#[.int 8435 t1,.int 3608 t2,.int 31415 t3,.int 1 t4]:Array Value)[((k:Nat):Int).toNat]?=some (.int (bv:Int) tb)∧bv≤31415:=by
   rw[d3]
   rcases (show k=0∨k=1∨k=2∨k=3 from by lia) with rfl|rfl|rfl|rfl
   ·exact (bV 8435 t1 rfl (by decide))
   ·exact (bV 3608 t2 rfl (by decide))
   ·exact (bV 31415 t3 rfl (dX _))
   ·exact (bV 1 t4 rfl (by decide))
  refine dW (v:=.int (bv:Int) tb) (ST _) (cY _) (aQ [_] [] (.T bA (.p 2 62)) (.lt ah oK) ae hk) hbv.1 ?_
  refine az ?_
  refine bL B zU ?_
  refine aq ?_
  refine au ?_
  refine ab ?_
  refine' jt (cl:=[("script",cS)]) (by rfl') fun q_2 K_2=>?_
  ac_nf
  refine bL B c6 ?_
  ac_nf
  refine bL B qc ?_
  ac_nf
  refine bL B eN ?_
  refine aq ?_
  refine au ?_
  refine ab ?_
  refine aU (c:=cS) (by rfl) (.fz FS) ?_
  refine aj ?_
  refine ⟨ap,?_⟩
  show W _ _ (call (.builtin "len") [.ref SL]) _ _ _
  refine fJ (.fz (FL.imp fun O=>bj)) (dV hsz (by decide)) fun t5=>?_
  refine ab ?_
  refine' bx fun t6 O=>?_
  refine aj ?_
  refine ⟨ap,?_⟩
  show W _ _ (call (.builtin "min") [.int (sxs.size:Int) t5,.int 60 t6]) _ _ _
  refine Am rm.h fun t7=>?_
  generalize hbd:(if (60:Int)<(sxs.size:Int) then 60 else (sxs.size:Int))=bd
  have hbd2:0≤bd∧bd≤60∧bd≤sxs.size:=by
   subst hbd
   split<;>lia
  refine ab ?_
  refine' bx fun t8 O=>?_
  refine aj ?_
  refine ⟨br,?_⟩
  show W _ _ (call (.type "range") [.int (k:Int) tk,.int bd t7,.int 4 t8]) _ _ _
  refine wm (PyProof.noPylong_small (eF [] [] (.lt oK cI) ae)) fun g₃ r3 l₃ Fr3=>?_
  refine ow Fr3 (⟨eF [_] [] (.L b6 bA) ae,aQ [_] [] (.T bA bg) (.lt ah oK) ae hk⟩) (⟨hbd2.1,aQ [] [_] (.T dq bg) (.L dq (.l 60)) ae hbd2.2.1⟩) fun I3 P3 n3 hn3 hlt3 Dr3=>?_
  refine K_2 I3 P3 n3 (fun k ys O=>ys.size=k∧∀ (j:Nat) v,ys[j]?=some v→wb (10^12) v) _ _ _ (Dr3 _ rm.h) (bw hn3 (by decide)) ⟨rfl,fun j v h=>by simp at h⟩ ?_ ?_
  ·intro k4 g₄ ys4 v4 Cl4 D4 hk4 l₄ j4 hv4 hM_2 r_2 R_2
   refine bK hv4 fun tk4 q2=>?_;clear hv4;subst q2
   have hlt4:=hlt3 k4 hk4
   have l34:=l₃.trans l₄
   refine bh ?_
   refine aC ?_
   refine aU (c:=cS) (by rfl) (.fz (FS.mono l34)) ?_
   refine ar (.head _) (by rfl) ?_
   have SN:∀ N,Sees g₄ N SL (bq sxs):=fun N=>.fz ((FL.mono l34).imp fun O=>bj)
   refine ⟨bE (SN _),?_⟩
   have hlt5:((k:Int)+(k4:Int)*4).toNat<sxs.size:=by exact cZ [_,_,_,_] [_] (.lt ah am) (.L dq eG) (.T (.a lK (.r nq 4)) dq) (.Q bA (.a lK (.r nq 4))) ae hbd2.2.2 hlt4 (jX (eF [_,_] [] (.L b6 (.a bA (.r eG 4))) ae))
   have hx:sxs[((k:Int)+(k4:Int)*4).toNat]?=some sxs[((k:Int)+(k4:Int)*4).toNat]:=Array.getElem?_eq_getElem hlt5
   refine bJ (f9 (j:=((k:Int)+(k4:Int)*4).toNat) hns ((Array.getElem?_toList).trans hx)) fun sv st5 hsv hse=>?_
   rw[hse] at hx
   refine aO (SN _) (cY _) (ln2 [_,_] [_] (.T (.a bA (.r eG 4)) (.p 2 63)) (.L dq (.l 60)) (.T (.a bA (.r eG 4)) dq) ae hbd2.2.1 hlt4) hx ?_
   refine bh ?_
   refine' bx fun O O=>?_
   refine' bx fun O O=>?_
   refine lW (cY _) (by decide +kernel) fun O O=>?_
   refine fq (by decide) fun t9 O=>?_
   refine R_2 _ _ [] ⟨?_,?_⟩
   ·rw[re,j4.1]
   ·intro j v hv
    rw[Array.getElem?_push] at hv
    split at hv
    ·cases hv
     have e:sv.fmod (10^Int.toNat 12)=sv%1000000000000:=im _ (by decide)
     rw[e]
     exact (bV ((sv%1000000000000).toNat) t9 (by rw[jX (Int.emod_nonneg _ (by decide))]) (by have:=Int.emod_lt_of_pos sv (show (0:Int)<1000000000000 by decide);have:=Int.emod_nonneg sv (show (1000000000000:Int)≠0 by decide);lia))
    ·exact j4.2 j v hv
  intro g₄ g₅ ys5 D5 l₄ j5 l₅ F5
  refine aj ?_
  refine ⟨ap,?_⟩
  show W _ _ (call (.builtin "sum") [.ref D5]) _ _ _
  refine xc rm.h F5 (by rw[j5.1];exact hn3) j5.2 fun v hv=>?_
  refine bJ hv fun nv tv q3 hnv=>?_;clear hv;subst q3
  refine' nx fun t10 O=>?_
  refine R_1 _ _ [] ⟨?_,?_⟩
  ·rw[re,j.1]
  ·intro j' v hv
   rw[Array.getElem?_push] at hv
   split at hv
   ·cases hv
    have:=hbv.2
    exact (bV (bv+nv) t10 (by push_cast;rfl) (ln2 [_,_] [] (.lt (.a ah am) (.p 10 16)) (.le ah (.l 31415)) (.lt am (.a (.p 10 15) av)) ae hbv.2 hnv))
   ·exact j.2 j' v hv
 intro g₂ g₃ xs CL l₂ j l₃ FC
 refine aH (i:=1) (by rfl) (by rfl) ?_
 exact KQ _ _ _ fun l=>kQ _ l CL xs FC j.1 j.2
end
end
section
section
variable {C:Cx}{A:Around}{g:G}{M:be}{mg mb:Str→Option Value}{L cS cB cC cT cP cL cK cO cD cN a c0 CL:Addr}{lo:List (Str×Value)}{n0 n1 n2 n3:Nat}{u0 u1 u2 u3:Tok}
noncomputable abbrev dN (n0 n1 n2 n3:Nat)(u0 u1 u2 u3:Tok):Array Value:=#[.int (n0:Int) u0,.int (n1:Int) u1,.int (n2:Int) u2,.int (n3:Int) u3]
noncomputable def dg (w i:Nat):Nat:=(bp w).cps.getD i 0
theorem AF (B:Base C mg mb g)(FC:Fz g cC (ag (some (.ref CL))))(FL:Fz g CL (ai (dN n0 n1 n2 n3 u0 u1 u2 u3)))(rm:Rm A 1){Q:PQ Flow}(kQ:∀ g',G.le g g'→∀ f' N tm,mg (ax (st (5+n0%5)))=some (.ref f')→(N==sysModules)=false→Fz g' N (gi C (n0%5))→Q .next g' ((L,aJ (bR (bR lo "hand" (.ref f')) "menu" (.str (bp (n0%5)) tm)))::(cN,ag (some (.ref N)))::M)) :
  W C A (exec (aI (aw (st 33)) 2) (dn L cS cB cC cT cP cL cK cO cD cN a c0)) g ((L,aJ lo)::(cN,ag none)::M) Q:=by
 refine' bQ fun qQ KQ=>?_
 refine bK (B.get 24) fun lh elh=>?_
 refine cU ?_
 refine az ?_
 refine bF B elh ?_
 refine aq ?_
 refine au ?_
 refine ab ?_
 refine bh ?_
 refine aC ?_
 refine aU (c:=cC) (by rfl) (.fz FC) ?_
 refine' bx fun O O=>?_
 have SN:∀ N,Sees g N CL (bq (dN n0 n1 n2 n3 u0 u1 u2 u3)):=fun N=>.fz (FL.imp fun O=>bj)
 refine ⟨bE (SN _),?_⟩
 refine aO (SN _) (cY _) (cY _) (v:=.int (n0:Int) u0) (by rfl) ?_
 refine' bx fun O O=>?_
 refine fq (by decide) fun t1 O=>?_
 have e:(n0:Int).fmod 5=((n0%5:Nat):Int):=by
  rw[im _ (by decide)];rfl
 rw[e]
 refine aj ?_
 refine ⟨B.kept 24 elh,?_⟩
 show W _ _ (call (.ref lh) [.int ((n0%5:Nat):Int) t1] []) _ _ _
 refine (tj B elh (cQ _ (by decide)) rm).mono ?_
 refine fun O g₁ O l₁ q1=>yu q1 fun q2 T i f' N q5=>mz q5 fun tm q3 q4 hf' FT q6=>dI q6 fun hN FN=>?_;clear q1 q5 q6;subst q2;subst q3;subst q4
 refine mv rm.h (.fz FT) ?_
 refine aF ?_
 refine aX (i:=0) (by rfl) ?_
 refine aF ?_
 refine aX (i:=0) (by rfl) ?_
 refine aF ?_
 refine aH (i:=1) (by rfl) (by rfl) ?_
 exact KQ _ _ _ fun l=>kQ _ l f' N tm hf' hN FN
theorem mV {w:Nat}:3≤(bp w).length∧(bp w).length≤7:=by
 unfold bp
 split<;>decide
theorem AS {w:Nat}{tm:Tok}(B:Base C mg mb g)(FC:Fz g cC (ag (some (.ref CL))))(FL:Fz g CL (ai (dN n0 n1 n2 n3 u0 u1 u2 u3)))(hn0:n0<10^16)(hm:lk lo "menu"=some (.str (bp w) tm)){Q:PQ Flow}(kQ:∀ g',G.le g g'→∀ t,Q .next g' ((L,aJ (bR lo "first" (.int ((n0/5%(bp w).length:Nat):Int) t)))::M)) :
  W C A (exec (aI (aw (st 33)) 3) (dn L cS cB cC cT cP cL cK cO cD cN a c0)) g ((L,aJ lo)::M) Q:=by
 refine' bQ fun qQ KQ=>?_
 have hml:=mV (w:=w)
 refine aA ?_
 refine bh ?_
 refine bh ?_
 refine aC ?_
 refine aU (c:=cC) (by rfl) (.fz FC) ?_
 refine' bx fun O O=>?_
 have SN:∀ N,Sees g N CL (bq (dN n0 n1 n2 n3 u0 u1 u2 u3)):=fun N=>.fz (FL.imp fun O=>bj)
 refine ⟨bE (SN _),?_⟩
 refine aO (SN _) (cY _) (cY _) (v:=.int (n0:Int) u0) (by rfl) ?_
 refine' bx fun O O=>?_
 refine cX (by decide) (PyProof.noPylong_small (eF [] [] (.lt (.l 5) cI) ae)) fun t1 O=>?_
 have e:(n0:Int).fdiv 5=((n0/5:Nat):Int):=by
  rw[gV _ (by decide)];rfl
 rw[e]
 refine az ?_
 refine bL B eN ?_
 refine aq ?_
 refine au ?_
 refine ab ?_
 refine ar (.head _) hm ?_
 refine aj ?_
 refine ⟨ap,?_⟩
 show W _ _ (call (.builtin "len") [.str (bp w) tm]) _ _ _
 refine dS (dV hml.2 (by decide)) fun t2=>?_
 refine fq (ku (aQ [_] [] (.T b6 bA) (.le pF ah) ae hml.1)) fun t3 O=>?_
 have e2:(((n0/5:Nat):Int)).fmod ((bp w).length:Int)=((n0/5%(bp w).length:Nat):Int):=by
  rw[im _ (cY _)];rfl
 rw[e2]
 refine aX (i:=0) (by rfl) ?_
 exact KQ _ _ _ fun l=>kQ _ l t3
theorem eX {A:Around}{x:Str}{i:Nat}{t u:Tok}{Q:PQ Value}(hi:i<x.length)(hx:x.length≤100000)(h:∀ t',t'≠0→Q (.str ⟨#[x.cps.getD i 0]⟩ t') g M):W C A (getItem (.str x t) (.int (i:Int) u)) g M Q:=by
 refine oJ (by simp[fitsSsize];exact ln2 [_,_] [] (.T bA cE) (.lt ah am) (.le am (.l 100000)) ae hi hx) (charAt_isSome (eF [_,_] [] (.L (.g bA) eG) ae) (aQ [_,_] [] (.T bA eG) (.lt ah am) ae hi)) fun t' ht'=>?_
 have hs:i<x.cps.size:=hi
 have e:Txt.item x (i:Int)=⟨#[x.cps.getD i 0]⟩:=item_meets (cY _) (by rw[d3,Array.getElem?_eq_getElem hs];simp[hs])
 rw[e]
 exact h t' ht'
noncomputable def fstI (n0:Nat):Nat:=n0/5%(bp (n0%5)).length
noncomputable def sndI (n0:Nat):Nat:=(fstI n0+1+n0/35%((bp (n0%5)).length-1))%(bp (n0%5)).length
theorem tQ (n0:Nat):fstI n0<(bp (n0%5)).length∧sndI n0<(bp (n0%5)).length∧fstI n0≠sndI n0:=by
 have hml:=mV (w:=n0%5)
 unfold sndI
 have h1:fstI n0<(bp (n0%5)).length:=cQ _ (b9 (by decide) hml.1)
 have h2:n0/35%((bp (n0%5)).length-1)<(bp (n0%5)).length-1:=cQ _ (ln2 [_,_] [] (.lt b6 ah) (.le pF am) (.le am (.a ah av)) ae hml.1 (aE _ _))
 generalize n0/35%((bp (n0%5)).length-1)=q at *
 generalize (bp (n0%5)).length=m at *
 generalize fstI n0=f at *
 refine (iPPP h1 (cQ _ (b9 (by decide) hml.1)) ?_)
 by_cases hlt:f+1+q<m
 ·rw[uI hlt];exact eE (eF [_,_] [] (.lt ah (.a (.a ah av) am)) ae)
 ·have:(f+1+q)%m=f+1+q-m:=by
   rw[Nat.mod_eq_sub_mod (by exact uJ hlt),uI (by exact gh [_,_,_,_,_] [] (.lt ah am) (.lt ao aM) (.lt bD am) (.le aM am) (.eq (.a ah am) (.a (.a bD av) ao)) ae h2 h1 (de _ _) (bn (aQ [_,_,_] [] (.le ah (.a (.a am av) ao)) (.nlt (.a (.a am av) ao) ah) ae hlt)))]
  exact df (gh [_,_,_,_,_,_] [] (.lt ah am) (.lt ao aM) (.eq ah bD) (.eq (.a aM av) dc) (.eq (.a bD dc) (.a (.a am av) ao)) ae h2 this (bn (aQ [_] [] (.le av ah) (.le pF ah) ae hml.1)) (bn (aQ [_,_,_] [] (.le ah (.a (.a am av) ao)) (.nlt (.a (.a am av) ao) ah) ae hlt)))
theorem AQ {tm tf:Tok}(B:Base C mg mb g)(FC:Fz g cC (ag (some (.ref CL))))(FL:Fz g CL (ai (dN n0 n1 n2 n3 u0 u1 u2 u3)))(hn0:n0<10^16)(hm:lk lo "menu"=some (.str (bp (n0%5)) tm))(hf:lk lo "first"=some (.int (fstI n0:Int) tf)){Q:PQ Flow}(kQ:∀ g',G.le g g'→∀ t,Q .next g' ((L,aJ lo)::(cT,ag (some (.str ⟨#[dg (n0%5) (fstI n0),dg (n0%5) (sndI n0)]⟩ t)))::M)) :
  W C A (exec (aI (aw (st 33)) 4) (dn L cS cB cC cT cP cL cK cO cD cN a c0)) g ((L,aJ lo)::(cT,ag none)::M) Q:=by
 refine' bQ fun qQ KQ=>?_
 have hml:=mV (w:=n0%5)
 refine ch (tQ n0) fun h1 h2 h3=>?_
 have SN:∀ N,Sees g N CL (bq (dN n0 n1 n2 n3 u0 u1 u2 u3)):=fun N=>.fz (FL.imp fun O=>bj)
 refine aA ?_
 refine bh ?_
 refine aC ?_
 refine ar (.head _) hm ?_
 refine ar (.head _) hf ?_
 refine ⟨dA,?_⟩
 refine eX h1 (bw hml.2 (by decide)) fun t1 O=>?_
 refine aC ?_
 refine ar (.head _) hm ?_
 refine bh ?_
 refine bh ?_
 refine bh ?_
 refine ar (.head _) hf ?_
 refine' bx fun O O=>?_
 refine' nx fun O O=>?_
 refine bh ?_
 refine bh ?_
 refine aC ?_
 refine aU (c:=cC) (by rfl) (.fz FC) ?_
 refine' bx fun O O=>?_
 refine ⟨bE (SN _),?_⟩
 refine aO (SN _) (cY _) (cY _) (v:=.int (n0:Int) u0) (by rfl) ?_
 refine' bx fun O O=>?_
 refine cX (by decide) (PyProof.noPylong_small (eF [] [] (.lt (.l 35) cI) ae)) fun t2 O=>?_
 refine bh ?_
 refine az ?_
 refine bL B eN ?_
 refine aq ?_
 refine au ?_
 refine ab ?_
 refine ar (.head _) hm ?_
 refine aj ?_
 refine ⟨ap,?_⟩
 show W _ _ (call (.builtin "len") [.str (bp (n0%5)) tm]) _ _ _
 refine dS (dV hml.2 (by decide)) fun t3=>?_
 refine' bx fun O O=>?_
 refine' q0 fun O O=>?_
 refine fq (ku (aQ [_] [] (.T b6 (.s bA av)) (.le pF ah) ae hml.1)) fun t4 O=>?_
 refine' nx fun O O=>?_
 refine az ?_
 refine bL B eN ?_
 refine aq ?_
 refine au ?_
 refine ab ?_
 refine ar (.head _) hm ?_
 refine aj ?_
 refine ⟨ap,?_⟩
 show W _ _ (call (.builtin "len") [.str (bp (n0%5)) tm]) _ _ _
 refine dS (dV hml.2 (by decide)) fun t5=>?_
 refine fq (ku (aQ [_] [] (.T b6 bA) (.le pF ah) ae hml.1)) fun t6 O=>?_
 have e:((fstI n0:Int)+1+((n0:Int).fdiv 35).fmod ((bp (n0%5)).length-1)).fmod (bp (n0%5)).length=(sndI n0:Int):=by
  have e1:(n0:Int).fdiv 35=((n0/35:Nat):Int):=by
   rw[gV _ (by decide)];rfl
  have e2:((bp (n0%5)).length:Int)-1=(((bp (n0%5)).length-1:Nat):Int):=by exact aQ [_,_] [] (.Q (.s bA av) eG) (.Y 1 (.eq (.a am av) ah)) ae (bn (aQ [_] [] (.le av ah) (.le pF ah) ae hml.1))
  rw[e1,e2,im _ (cY _),im _ (cY _),← Int.natCast_emod]
  unfold sndI
  push_cast
  rfl
 rw[e]
 refine ⟨dA,?_⟩
 refine eX h2 (bw hml.2 (by decide)) fun t7 O=>?_
 refine fT (by show 1+1≤2^24;decide) fun t8=>?_
 refine aH (i:=1) (by rfl) (by rfl) ?_
 exact KQ _ _ _ fun l=>kQ _ l t8
end
end
section
noncomputable def pairsL:List (Str×Str):=[("fi","ﬁ"),("hz","㎐"),("kw","㎾"),("kb","㎅"),("kv","㎸"),("wb","㏝"),("rs","₨"),("sv","㏜"),("nf","㎋"),("nw","㎻")]
section
variable {C:Cx}{A:Around}{g:G}{M:be}{env:Env}{mg mb:Str→Option Value}{L cS cB cC cT cP cL cK cO cD cN a c0 CL:Addr}{lo:List (Str×Value)}{n0 n1 n2 n3:Nat}{u0 u1 u2 u3:Tok}
theorem fj {x y:Str}{k1 k2:Nat}{p1 p2 pos:Pos}{k:Nat}{Q:PQ Value}(h:∀ g' T t u,G.le g g'→Fz g' T (bS #[.str x t,.str y u])→t≠0→u≠0→t≠u→Q (.ref T) g' M):W C A (eval (.Tuple [.Constant (.str x) k1 p1,.Constant (.str y) k2 p2] k pos) env) g M Q:=by
 refine ed ?_
 refine ab ?_
 refine gx fun t g1 l1 ht h1 h2=>?_
 refine ab ?_
 refine gx fun u g2 l2 hu h3 h4=>?_
 refine aj ?_
 refine ⟨by simp only[List.length];decide,fun T g3 l3 FT=>?_⟩
 refine h g3 T t u ((l1.trans l2).trans l3) FT ht hu ?_
 intro e
 subst e
 exact absurd h2 (Nat.not_lt.mpr h3)
noncomputable def uW (g:G)(PL:Addr):Prop:=∃ xs:Array Value,Fz g PL (ai xs)∧xs.size=10∧∀ (j:Nat) p,pairsL[j]?=some p→∃ T t u,xs[j]?=some (.ref T)∧Fz g T (bS #[.str p.1 t,.str p.2 u])∧t≠0∧u≠0∧t≠u
theorem Bg:W C A (exec (aI (aw (st 33)) 5) (dn L cS cB cC cT cP cL cK cO cD cN a c0)) g ((L,aJ lo)::M)
  (fun f g' M'=>f=.next∧∃ PL,M'=(L,aJ (bR lo "pairs" (.ref PL)))::M∧uW g' PL):=by
 refine aA ?_
 refine eJ ?_
 refine ab ?_
 refine fj fun g0 T0 t0 v0 l0 F0 h0 k0 m0=>?_
 refine ab ?_
 refine fj fun g1 T1 t1 v1 l1 F1 h1 k1 m1=>?_
 refine ab ?_
 refine fj fun g2 T2 t2 v2 l2 F2 h2 k2 m2=>?_
 refine ab ?_
 refine fj fun g3 T3 t3 v3 l3 F3 h3 k3 m3=>?_
 refine ab ?_
 refine fj fun g4 T4 t4 v4 l4 F4 h4 k4 m4=>?_
 refine ab ?_
 refine fj fun g5 T5 t5 v5 l5 F5 h5 k5 m5=>?_
 refine ab ?_
 refine fj fun g6 T6 t6 v6 l6 F6 h6 k6 m6=>?_
 refine ab ?_
 refine fj fun g7 T7 t7 v7 l7 F7 h7 k7 m7=>?_
 refine ab ?_
 refine fj fun g8 T8 t8 v8 l8 F8 h8 k8 m8=>?_
 refine ab ?_
 refine fj fun g9 T9 t9 v9 l9 F9 h9 k9 m9=>?_
 refine aj ?_
 refine ⟨by simp only[List.length];decide,fun PL g' l' FP=>?_⟩
 refine aX (i:=0) (by rfl) ?_
 refine (yi rfl PL rfl _ FP (jb rfl ?_))
 have F0:=F0.mono ((((((((((l1).trans l2).trans l3).trans l4).trans l5).trans l6).trans l7).trans l8).trans l9).trans l')
 have F1:=F1.mono (((((((((l2).trans l3).trans l4).trans l5).trans l6).trans l7).trans l8).trans l9).trans l')
 have F2:=F2.mono ((((((((l3).trans l4).trans l5).trans l6).trans l7).trans l8).trans l9).trans l')
 have F3:=F3.mono (((((((l4).trans l5).trans l6).trans l7).trans l8).trans l9).trans l')
 have F4:=F4.mono ((((((l5).trans l6).trans l7).trans l8).trans l9).trans l')
 have F5:=F5.mono (((((l6).trans l7).trans l8).trans l9).trans l')
 have F6:=F6.mono ((((l7).trans l8).trans l9).trans l')
 have F7:=F7.mono (((l8).trans l9).trans l')
 have F8:=F8.mono ((l9).trans l')
 have F9:=F9.mono (l')
 intro j p hp
 match j,hp with
 | 0,hp=>cases hp;exact (bf T0 t0 v0 rfl F0 (iPPP h0 k0 m0))
 | 1,hp=>cases hp;exact (bf T1 t1 v1 rfl F1 (iPPP h1 k1 m1))
 | 2,hp=>cases hp;exact (bf T2 t2 v2 rfl F2 (iPPP h2 k2 m2))
 | 3,hp=>cases hp;exact (bf T3 t3 v3 rfl F3 (iPPP h3 k3 m3))
 | 4,hp=>cases hp;exact (bf T4 t4 v4 rfl F4 (iPPP h4 k4 m4))
 | 5,hp=>cases hp;exact (bf T5 t5 v5 rfl F5 (iPPP h5 k5 m5))
 | 6,hp=>cases hp;exact (bf T6 t6 v6 rfl F6 (iPPP h6 k6 m6))
 | 7,hp=>cases hp;exact (bf T7 t7 v7 rfl F7 (iPPP h7 k7 m7))
 | 8,hp=>cases hp;exact (bf T8 t8 v8 rfl F8 (iPPP h8 k8 m8))
 | 9,hp=>cases hp;exact (bf T9 t9 v9 rfl F9 (iPPP h9 k9 m9))
 | n+10,hp=>cases hp
end
end
section
noncomputable def pI (n0:Nat):Nat:=n0/210%10
noncomputable def pA (n0:Nat):Str:=(pairsL.getD (pI n0) ("","")).1
noncomputable def pB (n0:Nat):Str:=(pairsL.getD (pI n0) ("","")).2
theorem wR (n0:Nat):pairsL[pI n0]?=some (pA n0,pB n0):=by
 have h:pI n0<pairsL.length:=cQ _ (by decide)
 unfold pA pB
 rw[List.getD_eq_getElem?_getD,List.getElem?_eq_getElem h]
 rfl
noncomputable def jQ (n0:Nat):List Nat:=[dg (n0%5) (fstI n0),dg (n0%5) (sndI n0),(pA n0).cps.getD 0 0,(pA n0).cps.getD 1 0]
theorem lE (n0:Nat):(pA n0).cps.toList=[(pA n0).cps.getD 0 0,(pA n0).cps.getD 1 0]:=by
 have h:pI n0<10:=cQ _ (by decide)
 unfold pA
 generalize pI n0=i at *
 have:∀ i,i<10→(pairsL.getD i ("","")).1.cps.toList=[(pairsL.getD i ("","")).1.cps.getD 0 0,(pairsL.getD i ("","")).1.cps.getD 1 0]:=by decide +kernel
 exact this i h
noncomputable def wordN (n0 n1:Nat):List Nat:=(List.range (2+n0/2100%6)).map fun k=>(jQ n0).getD (n1/4^k%4) 0
section
variable {C:Cx}{A:Around}{g:G}{M:be}{env:Env}{mg mb:Str→Option Value}{L cS cB cC cT cP cL cK cO cD cN a c0 CL:Addr}{lo:List (Str×Value)}{n0 n1 n2 n3:Nat}{u0 u1 u2 u3:Tok}
theorem BA {PL:Addr}(FC:Fz g cC (ag (some (.ref CL))))(FL:Fz g CL (ai (dN n0 n1 n2 n3 u0 u1 u2 u3)))(hn0:n0<10^16)(hP:uW g PL)(hpl:lk lo "pairs"=some (.ref PL))(hA:A.handled=none){Q:PQ Flow}(kQ:∀ g',G.le g g'→∀ tp tb,tp≠0→tb≠0→tp≠tb→Q .next g' ((L,aJ (bR lo "both" (.str (pB n0) tb)))::(cP,ag (some (.str (pA n0) tp)))::M)) :
  W C A (exec (aI (aw (st 33)) 6) (dn L cS cB cC cT cP cL cK cO cD cN a c0)) g ((L,aJ lo)::(cP,ag none)::M) Q:=by
 refine' bQ fun qQ KQ=>?_
 refine bT hP fun xs FP hsz hat=>?_;clear hP
 refine bC (hat _ _ (wR n0)) fun T t u hx FT q1=>ch q1 fun ht hu htu=>?_;clear q1
 have SN:∀ N,Sees g N CL (bq (dN n0 n1 n2 n3 u0 u1 u2 u3)):=fun N=>.fz (FL.imp fun O=>bj)
 have SP:∀ N,Sees g N PL (bq xs):=fun N=>.fz (FP.imp fun O=>bj)
 refine cU ?_
 refine aC ?_
 refine ar (.head _) hpl ?_
 refine bh ?_
 refine bh ?_
 refine aC ?_
 refine aU (c:=cC) (by rfl) (.fz FC) ?_
 refine' bx fun O O=>?_
 refine ⟨bE (SN _),?_⟩
 refine aO (SN _) (cY _) (cY _) (v:=.int (n0:Int) u0) (by rfl) ?_
 refine' bx fun O O=>?_
 refine cX (by decide) (PyProof.noPylong_small (eF [] [] (.lt (.l 210) cI) ae)) fun t1 O=>?_
 refine' bx fun O O=>?_
 refine fq (by decide) fun t2 O=>?_
 have e:((n0:Int).fdiv 210).fmod 10=(pI n0:Int):=by
  rw[gV _ (by decide),im _ (by decide)];rfl
 rw[e]
 refine ⟨bE (SP _),?_⟩
 have hpi:pI n0<10:=cQ _ (by decide)
 refine aO (SP _) (cY _) (aQ [_] [] (.T bA (.p 2 63)) (.lt ah (.l 10)) ae hpi) (v:=.ref T) (by rw[d3];exact hx) ?_
 refine cj hA (.fz FT) ?_
 refine aF ?_
 refine aH (i:=1) (by rfl) (by rfl) ?_
 refine aF ?_
 refine aX (i:=0) (by rfl) ?_
 exact KQ _ _ _ fun l=>kQ _ l t u ht hu htu
theorem AH {tt tp:Tok}(B:Base C mg mb g)(FC:Fz g cC (ag (some (.ref CL))))(FL:Fz g CL (ai (dN n0 n1 n2 n3 u0 u1 u2 u3)))(hn0:n0<10^16)(hn1:n1<10^16)(FT:Fz g cT (ag (some (.str ⟨#[dg (n0%5) (fstI n0),dg (n0%5) (sndI n0)]⟩ tt))))(FP:Fz g cP (ag (some (.str (pA n0) tp))))(rm:Rm A 1){Q:PQ Flow}(kQ:∀ g',G.le g g'→∀ t,Q .next g' ((L,aJ (bR lo "word" (.str ⟨(wordN n0 n1).toArray⟩ t)))::M)) :
  W C A (exec (aI (aw (st 33)) 7) (dn L cS cB cC cT cP cL cK cO cD cN a c0)) g ((L,aJ lo)::M) Q:=by
 refine' bQ fun qQ KQ=>?_
 have SN:∀ {g'} N,G.le g g'→Sees g' N CL (bq (dN n0 n1 n2 n3 u0 u1 u2 u3)):=fun N l=>.fz ((FL.mono l).imp fun O=>bj)
 have h6:n0/2100%6<6:=cQ _ (by decide)
 refine aA ?_
 refine bl ?_
 refine' eA fun O O=>?_
 intro pl
 refine' fg ?_
 refine aq ?_
 refine au ?_
 refine ab ?_
 refine' jt (cl:=[("two",cT),("pair",cP),("cells",cC)]) (by rfl') fun q_1 K_1=>?_
 refine az ?_
 refine bL B c6 ?_
 refine aq ?_
 refine au ?_
 refine ab ?_
 refine bh ?_
 refine' bx fun O O=>?_
 refine bh ?_
 refine bh ?_
 refine aC ?_
 refine aU (c:=cC) (by rfl) (.fz FC) ?_
 refine' bx fun O O=>?_
 refine ⟨bE (SN _ .refl),?_⟩
 refine aO (SN _ .refl) (cY _) (cY _) (v:=.int (n0:Int) u0) (by rfl) ?_
 refine' bx fun O O=>?_
 refine cX (by decide) (PyProof.noPylong_small (eF [] [] (.lt (.l 2100) cI) ae)) fun t1 O=>?_
 refine' bx fun O O=>?_
 refine fq (by decide) fun t2 O=>?_
 refine' nx fun t3 O=>?_
 have e:(2:Int)+((n0:Int).fdiv 2100).fmod 6=((2+n0/2100%6:Nat):Int):=by
  rw[gV _ (by decide),im _ (by decide)];exact (rP 2 _).symm
 rw[e]
 refine aj ?_
 refine ⟨br,?_⟩
 show W _ _ (call (.type "range") [.int ((2+n0/2100%6:Nat):Int) t3]) _ _ _
 refine fu fun g₁ r l₁ Fr=>?_
 refine cw Fr (by decide) (⟨eF [_] [] (.T (.g (.p 2 62)) (.c (.a cH ah))) ae,aQ [_] [] (.T (.c (.a cH ah)) (.p 2 62)) (.lt ah sZ) ae h6⟩) fun I P' Dr=>?_
 have hnn:(((2+n0/2100%6:Nat):Int)-0).toNat=2+n0/2100%6:=by exact rfl
 rw[hnn] at Dr
 refine K_1 I P' _ (fun k ys O=>StrsAre ys.toList ((List.range k).map fun k=>(⟨#[(jQ n0).getD (n1/4^k%4) 0]⟩:Str))) _ _ _ (Dr _ rm.h) (aQ [_] [] (.le (.a cH ah) aY) (.lt ah sZ) ae h6) .nil ?_ ?_
 ·intro k g₂ ys v Cl D hk l₂ j hv hM_1 r_1 R_1
  obtain ⟨tk,rfl⟩:∃ t,v=.int (k:Int) t:=by refine bK hv fun t q2=>?_;clear hv;subst q2;exact ⟨t,by rw[mi]⟩
  have l12:=l₁.trans l₂
  refine aC ?_
  refine bh ?_
  refine aU (c:=cT) (by rfl) (.fz (FT.mono l12)) ?_
  refine aU (c:=cP) (by rfl) (.fz (FP.mono l12)) ?_
  have hpl:(pA n0).length=2:=by
   have:=congrArg List.length (lE n0)
   exact this
  refine fT (by rw[hpl];show 2+2≤2^24;decide) fun t4=>?_
  have he:(⟨#[dg (n0%5) (fstI n0),dg (n0%5) (sndI n0)]⟩:Str)++pA n0=⟨(jQ n0).toArray⟩:=by
   apply gf
   rw[dx,lE]
   rfl
  rw[he]
  refine bh ?_
  refine bh ?_
  refine aC ?_
  refine aU (c:=cC) (by rfl) (.fz (FC.mono l12)) ?_
  refine' bx fun O O=>?_
  refine ⟨bE (SN _ l12),?_⟩
  refine aO (SN _ l12) (cY _) (cY _) (v:=.int (n1:Int) u1) (by rfl) ?_
  refine bh ?_
  refine' bx fun O O=>?_
  refine ar (.head _) (by rfl) ?_
  have hk7:k<8:=by exact ln2 [_,_] [] (.lt ah vM) (.lt am sZ) (.lt ah (.a cH am)) ae h6 hk
  refine lW (cY _) ?_ fun t5 O=>?_
  ·have:(Builtin.Int.intBits 4:Int)=3:=by decide +kernel
   rw[this];exact aQ [_] [] (.L (.m 3 bA) (.p 2 27)) (.X 3 (.lt ah vM)) ae hk7
  have hpos:0<4^k:=n9 (by decide)
  have e4:(4:Int)^(k:Int).toNat=((4^k:Nat):Int):=by rw[d3];push_cast;rfl
  rw[e4]
  have h47:4^k≤4^7:=fv (by decide) (aQ [_] [] (.le ah fs) (.lt ah vM) ae hk7)
  have h477:4^7=16384:=by decide
  refine cX (ku (aQ [_] [] (.T b6 bA) (.lt b6 ah) ae hpos)) (PyProof.noPylong_small (aQ [_] [] (.lt ah cI) (.le ah (.p 4 7)) ae h47)) fun t6 O=>?_
  refine' bx fun O O=>?_
  refine fq (by decide) fun t7 O=>?_
  have e5:((n1:Int).fdiv ((4^k:Nat):Int)).fmod 4=((n1/4^k%4:Nat):Int):=by
   rw[gV _ (cY _),im _ (by decide)];rfl
  rw[e5]
  refine ⟨dA,?_⟩
  have hlt:n1/4^k%4<4:=cQ _ (by decide)
  refine eX (show n1/4^k%4<4 from hlt) (by show 4≤100000;decide) fun t8 O=>?_
  refine R_1 _ _ [] ?_
  show StrsAre (ys.push _).toList ((List.range (k+1)).map _)
  rw[fM,qX,ζ18]
  have e6:(jQ n0).toArray.getD (n1/4^k%4) 0=(jQ n0).getD (n1/4^k%4) 0:=by simp[Array.getD_eq_getD_getElem?,List.getD_eq_getElem?_getD]
  show StrsAre _ (_++[(⟨#[(jQ n0).getD (n1/4^k%4) 0]⟩:Str)])
  rw[← e6]
  exact StrsAre.append' j (.cons _ _ .nil)
 intro g₂ g₃ ys D l₂ j l₃ FD
 refine aj ?_
 refine ⟨ap,?_⟩
 show W _ _ (call (.builtin "str.join") [.str Str.empty _,.ref D]) _ _ _
 refine er (.fz (FD.imp fun O=>bj)) j ?_ fun t'=>?_
 ·rw[sum_flat]
  show _+_*0≤_
  have:∀ m:Nat,m≤8→(List.map (fun s:Str=>s.cps.toList) ((List.range m).map fun k=>(⟨#[(jQ n0).getD (n1/4^k%4) 0]⟩:Str))).flatten.length≤8:=by
   intro m hm
   rw[jW]
   have:∀ l:List Nat,(List.map ((fun s:Str=>s.cps.toList)∘fun k=>(⟨#[(jQ n0).getD (n1/4^k%4) 0]⟩:Str)) l).flatten.length=l.length:=by
    intro l
    induction l with
    | nil=>rfl
    | cons x r ih=>rw[dC,oC,ζ17,ih];show 1+_=_;rw[eR];exact lV _ _
   rw[this,rC]
   exact hm
  have:=this (2+n0/2100%6) (aQ [_] [] (.le (.a cH ah) vM) (.lt ah sZ) ae h6)
  exact aQ [_,_] [] (.le (.a ah (.r am 0)) aY) (.le ah vM) ae this
 have ej:Txt.join Str.empty ((List.range (2+n0/2100%6)).map fun k=>(⟨#[(jQ n0).getD (n1/4^k%4) 0]⟩:Str))=⟨(wordN n0 n1).toArray⟩:=by
  apply gf
  rw[eH,jW]
  show _=wordN n0 n1
  unfold wordN
  generalize List.range (2+n0/2100%6)=l
  induction l with
  | nil=>rfl
  | cons x r ih=>rw[dC,oC,ih];rfl
 rw[ej]
 refine aX (i:=0) (by rfl) ?_
 exact KQ _ _ _ fun l=>kQ _ l t'
end
end
section
noncomputable def AY:Expr→Expr
 | .Call _ _ (k::_) _=>k.value
 | e=>e
noncomputable def BX:Expr→Expr
 | .BinOp l _ _ _=>l
 | e=>e
noncomputable abbrev u8:Expr:=AY (BX (tX (aI (aw (st 33)) 9)))
noncomputable abbrev q33:Str:=ax (st 33)++".<locals>."++"<lambda>"
noncomputable def bW (w c:Nat):Str:=(kz w (sing c)).getD ""
noncomputable def Av (n0:Nat):Str:=bW (n0%5) (dg (n0%5) (fstI n0))
noncomputable def Ax (n0:Nat):Str:=bW (n0%5) (dg (n0%5) (sndI n0))
theorem fS:∀ w,w<5→∀ i,i<(bp w).length→kz w (sing (dg w i))=some (bW w (dg w i))∧(bW w (dg w i)).length≤6∧∀ j,j<(bp w).length→j≠i→bW w (dg w i)≠bW w (dg w j):=by decide +kernel
noncomputable def fD (n0:Nat):List Nat:=(if (Av n0).cps.toList<(Ax n0).cps.toList then [dg (n0%5) (fstI n0),dg (n0%5) (sndI n0)] else [dg (n0%5) (sndI n0),dg (n0%5) (fstI n0)])++[(pA n0).cps.getD 0 0,(pA n0).cps.getD 1 0]
section
variable {C:Cx}{A:Around}{g:G}{M:be}{env:Env}{mg mb:Str→Option Value}{L cS cB cC cT cP cL cK cO cD cN a c0 CL N:Addr}{lo:List (Str×Value)}{n0 n1 n2 n3:Nat}{u0 u1 u2 u3:Tok}
theorem jN {w:Nat}(FN:Fz g N (gi C w)):∃ kvs,Fz g N (aB C kvs)∧∀ x nm,kz w x=some nm→∃ t,valueAt kvs x=some (.str nm t):=by
 refine xF FN fun o e kvs hd hx=>?_;clear FN
 refine (aG kvs (aG o e hd) (fun x nm h=>?_))
 have:=hx x
 rw[h] at this
 exact this
theorem xL {q c':Addr}{pm ct:Value}{w c:Nat}{nm:Str}{t:Tok}(B:Base C mg mb g)(F:Fz g q (fV (cF "<lambda>" q33 (gS u8) (.expr (kD u8)) (gK u8) [("names",cN)] pm (.ref c') ct)))(hcd:CodeIn g (.ref c') q33)(Fc:Fz g cN (ag (some (.ref N))))(FN:Fz g N (gi C w))(h:kz w (sing c)=some nm)(rm:Rm A 1) :
  W C A (call (.ref q) [.str (sing c) t] []) g M (fun r g' M'=>M'=M∧∃ t,r=.str nm t):=by
 refine aL (jN FN) fun kvs FD hv=>?_
 refine bK (hv _ _ h) fun tn hvn=>?_
 refine mA (binds:=[("sign",Value.str (sing c) t)]) (.fz F) hcd B.lim rm.room (by rfl) (by rfl) fun L2=>?_
 refine' bI (M':=(L2,aJ [("sign",Value.str (sing c) t)])::M) (by rfl') ?_
 refine aC ?_
 refine jV (c:=cN) (by rfl) (.fz Fc) ?_
 refine ar (.head _) (by rfl) ?_
 have SD:Sees g ((L2,aJ [("sign",Value.str (sing c) t)])::M) N (aB C kvs):=.fz FD
 refine ⟨gm SD,?_⟩
 refine gb SD hvn ?_
 exact (bP ([_]) M rfl rfl tn rfl)
theorem Bv {tt tp:Tok}(B:Base C mg mb g)(hT:lU C c0 (qsOf 33))(FT:Fz g cT (ag (some (.str ⟨#[dg (n0%5) (fstI n0),dg (n0%5) (sndI n0)]⟩ tt))))(FP:Fz g cP (ag (some (.str (pA n0) tp))))(Fc:Fz g cN (ag (some (.ref N))))(FN:Fz g N (gi C (n0%5)))(rm:Rm A 6){Q:PQ Flow}(kQ:∀ g',G.le g g'→∀ LL xs,Fz g' LL (ai xs)→StrsAre xs.toList ((fD n0).map sing)→Q .next g' ((L,aJ lo)::(cL,ag (some (.ref LL)))::M)) :
  W C A (exec (aI (aw (st 33)) 9) (dn L cS cB cC cT cP cL cK cO cD cN a c0)) g ((L,aJ lo)::(cL,ag none)::M) Q:=by
 refine' bQ fun qQ KQ=>?_
 refine ch (tQ n0) fun i1 i2 i3=>?_
 refine ch (fS (n0%5) (cQ _ (by decide)) (fstI n0) i1) fun a1 a2 a3=>?_
 refine ch (fS (n0%5) (cQ _ (by decide)) (sndI n0) i2) fun b1 b2 b3=>?_
 refine aA ?_
 refine bh ?_
 refine az ?_
 refine bL B vY ?_
 refine aq ?_
 refine fK ?_
 refine ab ?_
 refine aU (c:=cT) (by rfl) (.fz FT) ?_
 refine aj ?_
 refine eO ?_
 refine ak ?_
 refine iA (mg:=mg) (c:=c0) (qs:=qsOf 33) (cl:=[("names",cN)]) B.bi hT rfl rfl rfl (.head _) (fun x hx O O=>by cases hx with|head=>rfl|tail _ h=>cases h) fun q c' g₁ ct l₁ hcd=>?_
 refine ak (aP ?_)
 refine ay ?_
 refine d9 ?_
 refine ⟨ap,?_⟩
 show W _ _ (call (.builtin "sorted") [.str ⟨#[dg (n0%5) (fstI n0),dg (n0%5) (sndI n0)]⟩ tt] [("key",.ref q)]) g₁ ((q,fV (cF "<lambda>" q33 (gS u8) (.expr (kD u8)) (gK u8) [("names",cN)] ((mg (Str.ofString "__name__")).getD Value.none) (Value.ref c') ct))::(L,aJ lo)::(cL,ag none)::M) _
 refine' dE fun g₂ l₂ Fq=>?_
 have l12:=l₁.trans l₂
 refine vf rm.h (x:=Av n0) (y:=Ax n0) (a3 _ i2 i3.symm) ?_ ?_ rm.le ?_
 ·intro A' g' N' t rm' l'
  exact xL ((B.mono l12).mono l') (Fq.mono l') ((hcd.mono l₂).mono l') ((Fc.mono l12).mono l') ((FN.mono l12).mono l') a1 rm'.le
 ·intro A' g' N' t rm' l'
  exact xL ((B.mono l12).mono l') (Fq.mono l') ((hcd.mono l₂).mono l') ((Fc.mono l12).mono l') ((FN.mono l12).mono l') b1 rm'.le
 intro g₃ l xs l₃ hxs
 refine et ?_
 refine ab ?_
 refine aC ?_
 refine aU (c:=cP) (by rfl) (.fz (FP.mono (l12.trans l₃))) ?_
 refine' bx fun O O=>?_
 have hpl:(pA n0).length=2:=congrArg List.length (lE n0)
 refine ⟨dA,?_⟩
 refine eX (i:=0) (b9 (by decide) (cG hpl.symm)) (bw (cG hpl) (by decide)) fun t1 O=>?_
 refine ab ?_
 refine aC ?_
 refine aU (c:=cP) (by rfl) (.fz (FP.mono (l12.trans l₃))) ?_
 refine' bx fun O O=>?_
 refine ⟨dA,?_⟩
 refine eX (i:=1) (b9 (by decide) (cG hpl.symm)) (bw (cG hpl) (by decide)) fun t2 O=>?_
 refine aj ?_
 refine ⟨by simp only[List.length];decide,fun l2=>?_⟩
 have hxl:xs.size=2:=by
  have:=hxs.length
  rw[fA] at this
  rw[this]
  split<;>rfl
 refine fb (.own (.tail _ (.head _))) (.own (.head _)) (by rw[hxl];show 2+2≤2^24;decide) fun LL=>?_
 refine' yY ?_
 refine' Bc ?_
 refine' dE fun g₄ l₄ FLL=>?_
 refine aH (i:=1) (by rfl) (by rfl) ?_
 refine KQ _ _ _ fun l=>kQ _ l LL _ FLL ?_
 rw[kf]
 unfold fD
 rw[ζ18]
 refine StrsAre.append' ?_ (.cons _ _ (.cons _ _ .nil))
 have e:(List.map sing (if (Av n0).cps.toList<(Ax n0).cps.toList then [dg (n0%5) (fstI n0),dg (n0%5) (sndI n0)] else [dg (n0%5) (sndI n0),dg (n0%5) (fstI n0)]))=(if (Av n0).cps.toList<(Ax n0).cps.toList then [(⟨#[dg (n0%5) (fstI n0)]⟩:Str),⟨#[dg (n0%5) (sndI n0)]⟩] else [(⟨#[dg (n0%5) (sndI n0)]⟩:Str),⟨#[dg (n0%5) (fstI n0)]⟩]):=by
  split<;>rfl
 rw[e]
 exact hxs
theorem AL {W0:List Nat}{tp tb tw:Tok}(B:Base C mg mb g)(Pr:Prep C mg g)(FC:Fz g cC (ag (some (.ref CL))))(FL:Fz g CL (ai (dN n0 n1 n2 n3 u0 u1 u2 u3)))(FP:Fz g cP (ag (some (.str (pA n0) tp))))(hb:lk lo "both"=some (.str (pB n0) tb))(hw:lk lo "word"=some (.str ⟨W0.toArray⟩ tw))(htp:tp≠0)(htb:tb≠0)(htt:tp≠tb)(rm:Rm A 8)(hc:∀ {a:Addr},mg (ax (st 25))=some (.ref a)→W C A (call (.ref a) [.str ⟨W0.toArray⟩ tw,.str (pA n0) tp,.str (pB n0) tb,.int (n2:Int) u2] []) g ((L,aJ lo)::M) (fun r g' M'=>M'=(L,aJ lo)::M∧∃ t,r=.str ⟨W0.toArray⟩ t)){Q:PQ Flow}(kQ:∀ g',G.le g g'→Q .next g' ((L,aJ lo)::M)) :
  W C A (exec (aI (aw (st 33)) 8) (dn L cS cB cC cT cP cL cK cO cD cN a c0)) g ((L,aJ lo)::M) Q:=by
 refine' bQ fun qQ KQ=>?_
 refine bK (B.get 25) fun lr elr=>?_
 have SN:∀ {g'} N,G.le g g'→Sees g' N CL (bq (dN n0 n1 n2 n3 u0 u1 u2 u3)):=fun N l=>.fz ((FL.mono l).imp fun O=>bj)
 refine nI ?_
 refine aR ?_
 refine az ?_
 refine bF B elr ?_
 refine aq ?_
 refine au ?_
 refine ab ?_
 refine ar (.head _) hw ?_
 refine ab ?_
 refine aU (c:=cP) (by rfl) (.fz FP) ?_
 refine ab ?_
 refine ar (.head _) hb ?_
 refine ab ?_
 refine aC ?_
 refine aU (c:=cC) (by rfl) (.fz FC) ?_
 refine' bx fun O O=>?_
 refine ⟨bE (SN _ .refl),?_⟩
 refine aO (SN _ .refl) (cY _) (cY _) (v:=.int (n2:Int) u2) (by rfl) ?_
 refine aj ?_
 refine ⟨B.kept 25 elr,?_⟩
 show W _ _ (call (.ref lr) [.str ⟨W0.toArray⟩ tw,.str (pA n0) tp,.str (pB n0) tb,.int (n2:Int) u2] []) _ _ _
 refine (hc elr).mono ?_
 refine fun O g₁ O l₁ q1=>ew q1 fun q2 t1 q3=>?_;clear q1;subst q2;subst q3
 refine ar (.head _) hw ?_
 refine kM ?_
 rw[bne_self_eq_false]
 refine aV ?_
 rw[if_neg jo]
 refine bu ?_
 exact KQ _ _ _ fun l=>kQ _ l
end
end
section
noncomputable def wdN (n3:Nat):Nat:=3+n3%60
noncomputable def fx (n3:Nat):Option Str:=match n3/240%3 with
 | 0=>some "."
 | 1=>none
 | _=>some ""
noncomputable def figOf (n0 c:Nat):Nat:=1+(fD n0).idxOf c
noncomputable def z6 (n0 n1:Nat):List Nat:=(wordN n0 n1).map (figOf n0)
theorem nL (n0:Nat):(fD n0).length=4:=by
 unfold fD
 rw[ζ17]
 split<;>rfl
theorem rp {n0 c:Nat}(h:c∈jQ n0):c∈fD n0:=by
 unfold jQ at h
 unfold fD
 simp only[mh,mr,or_false] at h
 split<;>simp only[pd,mh,mr,or_false]<;>(rcases h with h|h|h|h<;>simp[h])
theorem jR {n0 n1 c:Nat}(h:c∈wordN n0 n1):c∈jQ n0:=by
 unfold wordN at h
 refine aL (List.mem_map.mp h) fun k O q1=>?_;subst q1
 have hlt:n1/4^k%4<(jQ n0).length:=cQ _ (by decide)
 rw[List.getD_eq_getElem?_getD,List.getElem?_eq_getElem hlt]
 exact me _
theorem jh (n0 n1:Nat):2≤(wordN n0 n1).length∧(wordN n0 n1).length≤7:=by
 have:n0/2100%6<6:=cQ _ (by decide)
 unfold wordN
 rw[fZ,rC]
 exact ⟨eF [_] [] (.le cH (.a cH ah)) ae,aQ [_] [] (.le (.a cH ah) fs) (.lt ah sZ) ae this⟩
theorem rq {n0 n1 c:Nat}(h:c∈wordN n0 n1):1≤figOf n0 c∧figOf n0 c≤4:=by
 have h1:=List.idxOf_lt_length_of_mem (rp (jR h))
 rw[nL] at h1
 unfold figOf
 exact ⟨eF [_] [] (.le av (.a av ah)) ae,aQ [_] [] (.le (.a av ah) oK) (.lt ah oK) ae h1⟩
theorem kg {a b:Nat}(h:sing a=sing b):a=b:=by
 have:=congrArg (fun s:Str=>s.cps.toList) h
 simpa [sing] using this
theorem zE {n0 c:Nat}(h:c∈fD n0):((fD n0).map sing)[(fD n0).idxOf c]?=some (sing c)∧∀ m,m<(fD n0).idxOf c→((fD n0).map sing)[m]?≠some (sing c):=by
 have h1:=List.idxOf_lt_length_of_mem h
 constructor
 ·rw[List.getElem?_map,List.getElem?_eq_getElem h1,List.getElem_idxOf]
  rfl
 ·intro m hm e
  rw[List.getElem?_map,List.getElem?_eq_getElem (jw hm h1)] at e
  have e2:=kg (Option.some.inj e)
  have:=List.not_of_lt_findIdx (p:=(·==c)) (xs:=fD n0) hm
  rw[e2] at this
  simp at this
section
variable {C:Cx}{A:Around}{g:G}{M:be}{env:Env}{mg mb:Str→Option Value}{L cS cB cC cT cP cL cK cO cD cN a c0 CL N:Addr}{lo:List (Str×Value)}{n0 n1 n2 n3:Nat}{u0 u1 u2 u3:Tok}
theorem zg (FC:Fz g cC (ag (some (.ref CL))))(FL:Fz g CL (ai (dN n0 n1 n2 n3 u0 u1 u2 u3)))(hn3:n3<10^16)(hA:A.handled=none){Q:PQ Flow}(kQ:∀ g',G.le g g'→∀ tw tk,Q .next g' ((L,aJ (bR (bR lo "tail" (dR (fx n3) tk)) "width" (.int (wdN n3:Int) tw)))::M)) :
  W C A (exec (aI (aw (st 33)) 10) (dn L cS cB cC cT cP cL cK cO cD cN a c0)) g ((L,aJ lo)::M) Q:=by
 refine' bQ fun qQ KQ=>?_
 have SN:∀ {g'} N,G.le g g'→Sees g' N CL (bq (dN n0 n1 n2 n3 u0 u1 u2 u3)):=fun N l=>.fz ((FL.mono l).imp fun O=>bj)
 refine dk (na:="width") (nb:="tail") hA ?_
 refine eL ?_
 refine bh ?_
 refine' bx fun O O=>?_
 refine bh ?_
 refine aC ?_
 refine aU (c:=cC) (by rfl) (.fz FC) ?_
 refine' bx fun O O=>?_
 refine ⟨bE (SN _ .refl),?_⟩
 refine aO (SN _ .refl) (cY _) (cY _) (v:=.int (n3:Int) u3) (by rfl) ?_
 refine' bx fun O O=>?_
 refine fq (by decide) fun t2 O=>?_
 refine' nx fun tw O=>?_
 have e:(3:Int)+(n3:Int).fmod 60=(wdN n3:Int):=by
  rw[im _ (by decide)];exact (rP 3 _).symm
 rw[e]
 refine aC ?_
 refine eJ ?_
 refine ab ?_
 refine' eA fun ta O=>?_
 refine ab ?_
 refine' qk ?_
 refine ab ?_
 refine' eA fun tb O=>?_
 refine aj ?_
 refine ⟨by simp only[List.length];decide,fun l g₂ l₂ Fl=>?_⟩
 refine bh ?_
 refine bh ?_
 refine aC ?_
 refine aU (c:=cC) (by rfl) (.fz (FC.mono l₂)) ?_
 refine' bx fun O O=>?_
 refine ⟨bE (SN _ l₂),?_⟩
 refine aO (SN _ l₂) (cY _) (cY _) (v:=.int (n3:Int) u3) (by rfl) ?_
 refine' bx fun O O=>?_
 refine cX (by decide) (PyProof.noPylong_small (eF [] [] (.lt (.l 240) cI) ae)) fun t3 O=>?_
 refine' bx fun O O=>?_
 refine fq (by decide) fun t4 O=>?_
 have e2:((n3:Int).fdiv 240).fmod 3=((n3/240%3:Nat):Int):=by
  rw[gV _ (by decide),im _ (by decide)];rfl
 rw[e2]
 have SL:∀ N,Sees g₂ N l (bq #[.str "." ta,.none,.str "" tb]):=fun N=>.fz (Fl.imp fun O=>bj)
 refine ⟨bE (SL _),?_⟩
 have h3:n3/240%3<3:=cQ _ (by decide)
 obtain ⟨tk,htk⟩:∃ tk,(#[.str "." ta,.none,.str "" tb]:Array Value)[((n3/240%3:Nat):Int).toNat]?=some (dR (fx n3) tk):=by
  rw[d3]
  unfold fx
  rcases (show n3/240%3=0∨n3/240%3=1∨n3/240%3=2 by lia) with h|h|h<;>rw[h]
  ·exact ⟨ta,rfl⟩
  ·exact ⟨0,rfl⟩
  ·exact ⟨tb,rfl⟩
 refine aO (SL _) (cY _) (aQ [_] [] (.T bA (.p 2 63)) (.lt ah pF) ae h3) htk ?_
 intro T g₃ l₃ FT
 refine (bf T _ _ rfl (.fz FT) ?_)
 refine aX (i:=0) (by rfl) ?_
 refine aX (i:=0) (by rfl) ?_
 exact KQ _ _ _ fun l=>kQ _ l tw tk
theorem Ap {LL:Addr}{lxs:Array Value}{tw tW:Tok}(B:Base C mg mb g)(FC:Fz g cC (ag (some (.ref CL))))(FL:Fz g CL (ai (dN n0 n1 n2 n3 u0 u1 u2 u3)))(hn3:n3<10^16)(Fl:Fz g cL (ag (some (.ref LL))))(FLL:Fz g LL (ai lxs))(hlx:StrsAre lxs.toList ((fD n0).map sing))(hw:lk lo "word"=some (.str ⟨(wordN n0 n1).toArray⟩ tw))(hW:lk lo "width"=some (.int (wdN n3:Int) tW))(rm:Rm A 164){Q:PQ Flow}(kQ:∀ g',G.le g g'→∀ u t,DG u→u≠[]→u.length≤7→Q .next g' ((L,aJ (bR lo "root" (.str (bk u) t)))::M)) :
  W C A (exec (aI (aw (st 33)) 11) (dn L cS cB cC cT cP cL cK cO cD cN a c0)) g ((L,aJ lo)::M) Q:=by
 refine' bQ fun qQ KQ=>?_
 have SN:∀ {g'} N,G.le g g'→Sees g' N CL (bq (dN n0 n1 n2 n3 u0 u1 u2 u3)):=fun N l=>.fz ((FL.mono l).imp fun O=>bj)
 refine bK (B.get 26) fun lr elr=>?_
 have hwl:=jh n0 n1
 refine aA ?_
 refine az ?_
 refine bF B elr ?_
 refine aq ?_
 refine au ?_
 refine ab ?_
 refine bl ?_
 refine' eA fun O O=>?_
 intro pl
 refine' fg ?_
 refine aq ?_
 refine au ?_
 refine ab ?_
 refine' jt (cl:=[("ladder",cL)]) (by rfl') fun q_1 K_1=>?_
 refine ar (.head _) hw ?_
 refine fe fun I P' Dr=>?_
 have hsz:(⟨(wordN n0 n1).toArray⟩:Str).cps.size=(wordN n0 n1).length:=by simp
 rw[hsz] at Dr
 refine K_1 I P' _ (fun k ys O=>StrsAre ys.toList (((z6 n0 n1).take k).map fun d=>bk [d])) _ _ _ (Dr _ rm.h) (bw hwl.2 (by decide)) .nil ?_ ?_
 ·intro k g₂ ys v Cl D hk l₂ j hv hM_1 r_1 R_1
  refine bJ hv fun c tc hc q2=>?_;clear hv;subst q2
  have hc':(wordN n0 n1)[k]?=some c:=by simpa using hc
  have hcm:=iu hc'
  refine dI (zE (rp (jR hcm))) fun hl1 hl2=>?_
  have hdk:(z6 n0 n1)[k]?=some (figOf n0 c):=by unfold z6;rw[List.getElem?_map,hc'];rfl
  refine az ?_
  refine bL (B.mono l₂) sO ?_
  refine aq ?_
  refine au ?_
  refine ab ?_
  refine bh ?_
  refine' bx fun O O=>?_
  refine bl ?_
  refine aU (c:=cL) (by rfl) (.fz (Fl.mono l₂)) ?_
  intro pl2
  have SLL:∀ N,Sees g₂ N LL (ai lxs):=fun N=>.fz (FLL.mono l₂)
  refine fG F.slot_list_index F.type_list_index (SLL _) ?_
  refine aq ?_
  refine au ?_
  refine ab ?_
  refine ar (.head _) (by rfl) ?_
  refine aj ?_
  refine ⟨ap,?_⟩
  show W _ _ (call (.builtin "list.index") [.ref LL,.str (sing c) tc]) _ _ _
  refine nC (j:=(fD n0).idxOf c) (SLL _) hlx hl1 hl2 (by rw[fZ,nL];exact by decide) fun t3 O=>?_
  refine' nx fun t4 O=>?_
  have e4:(1:Int)+(((fD n0).idxOf c:Nat):Int)=(figOf n0 c:Int):=(rP 1 _).symm
  rw[e4]
  have hfo:=rq hcm
  refine aj ?_
  refine ⟨br,?_⟩
  show W _ _ (call (.type "str") [.int (figOf n0 c:Int) t4]) _ _ _
  refine qC (a:=(figOf n0 c:Int)) ?_ fun t5 O=>?_
  ·have:((figOf n0 c:Int)).natAbs≤4:=by exact hfo.2
   have h2:((figOf n0 c:Int)).natAbs.log2≤2:=by
    rcases (show ((figOf n0 c:Int)).natAbs=1∨((figOf n0 c:Int)).natAbs=2∨((figOf n0 c:Int)).natAbs=3∨((figOf n0 c:Int)).natAbs=4 by lia) with h|h|h|h<;>rw[h]<;>decide
   exact dV h2 (by decide)
  refine R_1 _ _ [] ?_
  rw[pJ hfo]
  show StrsAre (ys.push _).toList _
  rw[fM,cu _ hdk]
  exact StrsAre.append' j (.cons _ _ .nil)
 intro g₂ g₃ ys D l₂ j l₃ FD
 have l23:=l₂.trans l₃
 have hdl:(z6 n0 n1).length=(wordN n0 n1).length:=fZ ..
 have j:StrsAre ys.toList (((z6 n0 n1).take (wordN n0 n1).length).map fun d=>bk [d]):=j
 rw[← hdl,mu] at j
 refine aj ?_
 refine ⟨ap,?_⟩
 show W _ _ (call (.builtin "str.join") [.str Str.empty _,.ref D]) _ _ _
 refine er (.fz (FD.imp fun O=>bj)) j ?_ fun t'=>?_
 ·rw[sum_flat,jW]
  show _+_*0≤_
  have:∀ l:List Nat,(List.map ((fun s:Str=>s.cps.toList)∘fun d=>bk [d]) l).flatten.length=l.length:=by
   intro l
   induction l with
   | nil=>rfl
   | cons x r ih=>rw[dC,oC,ζ17,ih];show 1+_=_;rw[eR];exact lV _ _
  rw[this]
  exact ln2 [_,_,_] [] (.le (.a ah (.r am 0)) aY) (.le ao fs) (.eq ah ao) ae hwl.2 hdl
 rw[lw]
 refine ab ?_
 refine ar (.head _) hW ?_
 refine ab ?_
 refine bh ?_
 refine aC ?_
 refine aU (c:=cC) (by rfl) (.fz (FC.mono l23)) ?_
 refine' bx fun O O=>?_
 refine ⟨bE (SN _ l23),?_⟩
 refine aO (SN _ l23) (cY _) (cY _) (v:=.int (n3:Int) u3) (by rfl) ?_
 refine' bx fun O O=>?_
 refine cX (by decide) (PyProof.noPylong_small (eF [] [] (.lt (.l 60) cI) ae)) fun t6 O=>?_
 have e6:(n3:Int).fdiv 60=((n3/60:Nat):Int):=by
  rw[gV _ (by decide)];rfl
 rw[e6]
 refine aj ?_
 refine ⟨(B.mono l23).kept 26 elr,?_⟩
 show W _ _ (call (.ref lr) [.str (bk (z6 n0 n1)) t',.int (wdN n3:Int) tW,.int ((n3/60:Nat):Int) t6] []) _ _ _
 have h60:n3%60<60:=cQ _ (by decide)
 refine (sJ (ds:=z6 n0 n1) (Wd:=wdN n3) (B.mono l23) elr ?_ (bw hwl.1 (cG hdl.symm)) (bw (cG hdl) hwl.2) (by unfold wdN;exact dG _ _) (by unfold wdN;exact aQ [_] [] (.le (.a pF ah) rj) (.lt ah (.l 60)) ae h60) rm).mono ?_
 ·intro d hd
  refine aL (List.mem_map.mp hd) fun c hc q3=>?_;subst q3
  exact rq hc
 refine fun O g₄ O l₄ q4=>uo q4 fun q5 u t7 q6 hu q7=>dI q7 fun hne hul=>?_;clear q4 q7;subst q5;subst q6
 refine aX (i:=0) (by rfl) ?_
 exact KQ _ _ _ fun l=>kQ _ l u t7 hu hne hul
theorem Ac {u:List Nat}{tr tW:Tok}(B:Base C mg mb g)(hr:lk lo "root"=some (.str (bk u) tr))(hW:lk lo "width"=some (.int (wdN n3:Int) tW))(hu:DG u)(hul:u.length≤7)(rm:Rm A 164){Q:PQ Flow}(kQ:∀ g',G.le g g'→∀ R ys,Fz g' R (ai ys)→IntsAre ys.toList (dl (wdN n3) u)→Q .next g' ((L,aJ (bR lo "ranks" (.ref R)))::M)) :
  W C A (exec (aI (aw (st 33)) 12) (dn L cS cB cC cT cP cL cK cO cD cN a c0)) g ((L,aJ lo)::M) Q:=by
 refine' bQ fun qQ KQ=>?_
 refine bK (B.get 27) fun lr elr=>?_
 refine aA ?_
 refine az ?_
 refine bF B elr ?_
 refine aq ?_
 refine au ?_
 refine ab ?_
 refine ar (.head _) hr ?_
 refine ab ?_
 refine ar (.head _) hW ?_
 refine aj ?_
 refine ⟨B.kept 27 elr,?_⟩
 show W _ _ (call (.ref lr) [.str (bk u) tr,.int (wdN n3:Int) tW] []) _ _ _
 have h60:n3%60<60:=cQ _ (by decide)
 refine (rB (u:=u) (Wd:=wdN n3) B elr hu (by unfold wdN;exact dG _ _) (by unfold wdN;exact aQ [_] [] (.le (.a pF ah) rj) (.lt ah (.l 60)) ae h60) hul rm).mono ?_
 refine fun O g₁ O l₁ q8=>uo q8 fun q9 R ys q10 FR hys=>?_;clear q8;subst q9;subst q10
 refine aX (i:=0) (by rfl) ?_
 exact KQ _ _ _ fun l=>kQ _ l R ys FR hys
theorem zT {R:Addr}{ys:Array Value}{ns:List Int}(hr:lk lo "ranks"=some (.ref R))(FR:Fz g R (ai ys))(hys:IntsAre ys.toList ns)(hne:ns≠[])(rm:Rm A 8){Q:PQ Flow}(kQ:∀ g',G.le g g'→Q .next g' ((L,aJ lo)::M)) :
  W C A (exec (aI (aw (st 33)) 13) (dn L cS cB cC cT cP cL cK cO cD cN a c0)) g ((L,aJ lo)::M) Q:=by
 refine' bQ fun qQ KQ=>?_
 refine nI ?_
 refine aR ?_
 refine ar (.head _) hr ?_
 refine et ?_
 refine aj ?_
 refine ⟨by simp only[List.length];decide,fun l=>?_⟩
 refine rT (.fz (FR.imp fun O=>bj)) ((Sees.own (.head _)).imp fun O=>bj) hys .nil (by have:=rm.u;show A.units+64<9900;exact aQ [_] [] (.lt (.a ah oE) ir) (.le (.a ah (.m 10 vM)) ez) ae this) ?_
 rw[decide_eq_false hne]
 refine aV ?_
 rw[if_neg jo]
 refine' xQ ?_
 refine bu ?_
 exact KQ _ _ _ fun l=>kQ _ l
end
end
section
noncomputable def eS (w c:Nat):Str:=Txt.replace (bW w c) "&" "\x01"
noncomputable def twoL (n0:Nat):List Nat:=[dg (n0%5) (fstI n0),dg (n0%5) (sndI n0)]
theorem ko {n0 c:Nat}(h:c∈twoL n0):kz (n0%5) (sing c)=some (bW (n0%5) c)∧(bW (n0%5) c).length≤6:=by
 refine ch (tQ n0) fun i1 i2 i3=>?_
 have h5:=cQ n0 (show 0<5 by decide)
 unfold twoL at h
 simp only[mh,mr,or_false] at h
 rcases h with rfl|rfl
 ·exact ⟨(fS _ h5 _ i1).1,(fS _ h5 _ i1).2.1⟩
 ·exact ⟨(fS _ h5 _ i2).1,(fS _ h5 _ i2).2.1⟩
noncomputable def RowsTo (n0:Nat)(f:Nat→Str)(k:Nat)(kvs:List (Str×Value)):Prop:=∀ (i c:Nat),i<k→(twoL n0)[i]?=some c→∃ t,valueAt kvs (sing c)=some (.str (f c) t)
theorem RowsTo.step {n0 k c:Nat}{f:Nat→Str}{kvs:List (Str×Value)}{t:Tok}(h:RowsTo n0 f k kvs)(hc:(twoL n0)[k]?=some c):RowsTo n0 f (k+1) (stored kvs (sing c) (.str (f c) t)):=by
 intro i d hi hd
 rw[fN]
 by_cases e:sing d=sing c
 ·rw[if_pos e]
  have:=kg e
  subst this
  exact ⟨t,rfl⟩
 ·rw[if_neg e]
  refine h i d ?_ hd
  rcases Nat.lt_succ_iff_lt_or_eq.mp hi with h'|h'
  ·exact h'
  ·subst h'
   rw[hc] at hd
   cases hd
   exact absurd rfl e
theorem RowsTo.at {n0 c:Nat}{f:Nat→Str}{kvs:List (Str×Value)}(h:RowsTo n0 f 2 kvs)(hc:c∈twoL n0):∃ t,valueAt kvs (sing c)=some (.str (f c) t):=by
 obtain ⟨i,hi,he⟩:=List.mem_iff_getElem.mp hc
 exact h i c hi (by rw[List.getElem?_eq_getElem hi,he])
section
variable {C:Cx}{A:Around}{g:G}{M:be}{env:Env}{mg mb:Str→Option Value}{L cS cB cC cT cP cL cK cO cD cN a c0 CL N:Addr}{lo:List (Str×Value)}{n0 n1 n2 n3:Nat}{u0 u1 u2 u3:Tok}
theorem zQ {tt:Tok}(B:Base C mg mb g)(FT:Fz g cT (ag (some (.str ⟨(twoL n0).toArray⟩ tt))))(Fc:Fz g cN (ag (some (.ref N))))(FN:Fz g N (gi C (n0%5)))(hA:A.handled=none){Q:PQ Flow}(kQ:∀ g',G.le g g'→∀ KD kvs,Fz g' KD (aB C kvs)→RowsTo n0 (eS (n0%5)) 2 kvs→Q .next g' ((L,aJ lo)::(cK,ag (some (.ref KD)))::M)) :
  W C A (exec (aI (aw (st 33)) 14) (dn L cS cB cC cT cP cL cK cO cD cN a c0)) g ((L,aJ lo)::(cK,ag none)::M) Q:=by
 refine' bQ fun qQ KQ=>?_
 refine aL (jN FN) fun nvs FD hv=>?_
 have hm:=B.m
 refine aA ?_
 refine' ue (cl:=[("names",cN)]) (Pm:=ix mg) (fun g' l=>hm.mono l) (by rfl') ?_
 refine aU (c:=cT) (by rfl) (.fz FT) ?_
 refine fe fun I P' Dr=>?_
 refine (ba I P' 2 _ _ (dy (RowsTo n0 (eS (n0%5))) rfl rfl (Dr _ hA) (by decide) (iPPP (fun i c hi=>absurd hi (qN _)) ?_ ?_)))
 ·intro k g₂ kvs v Cl D hk l₂ j hv2
  refine bJ hv2 fun c tc hc q1=>?_;clear hv2;subst q1
  have hc':(twoL n0)[k]?=some c:=by simpa using hc
  refine dI (ko (iu hc')) fun hnm hnl=>?_
  refine bK (hv _ _ hnm) fun tn htn=>?_
  refine ar (.head _) (by rfl) ?_
  refine (an (sing c) tc rfl rfl ?_)
  refine bl ?_
  refine aC ?_
  refine aU (c:=cN) (by rfl) (.fz (Fc.mono l₂)) ?_
  refine ar (.head _) (by rfl) ?_
  have SD:∀ N',Sees g₂ N' N (aB C nvs):=fun N'=>.fz (FD.mono l₂)
  refine ⟨gm (SD _),?_⟩
  refine gb (SD _) htn ?_
  intro pl
  refine' dU ?_
  refine aq ?_
  refine au ?_
  refine ab ?_
  refine gx fun t1 g1 l1 h1 a1 b1=>?_
  refine ab ?_
  refine gx fun t2 g2 l2 h2 a2 b2=>?_
  refine aj ?_
  refine ⟨ap,?_⟩
  show W _ _ (call (.builtin "str.replace") [.str (bW (n0%5) c) tn,.str "&" t1,.str "\x01" t2]) _ _ _
  refine' fE h1 h2 (eE (b9 b1 a2)) (by decide) (by rw[show Str.length "\x01"=1 from by decide +kernel];with_unfolding_all exact aQ [_] [] (.le (.a ah (.r (.a ah av) 1)) aY) (.X 2 (.le ah sZ)) ae hnl) fun t'=>?_
  exact ⟨rfl,j.step hc'⟩
 intro g₂ kvs D l₂ j hD
 refine' dE fun g₃ l₃ FK=>?_
 refine aH (i:=1) (by rfl) (by rfl) ?_
 exact KQ _ _ _ fun l=>kQ _ l D kvs FK j
end
end
section
noncomputable def qJ (z:List Nat)(i j:Nat):Bool:=decide (z.drop i<z.drop j)
noncomputable def qB (z:List Nat)(k:Nat):Str:=⟨(z.drop k).toArray⟩
section
variable {C:Cx}{A:Around}{g:G}{M:be}{env:Env}{mg mb:Str→Option Value}{L cS cB cC cT cP cL cK cO cD cN a c0 CL N:Addr}{lo:List (Str×Value)}{n0 n1 n2 n3:Nat}{u0 u1 u2 u3:Tok}
theorem km {a RL:Addr}{xs:Array Value}{z:List Nat}(B:Base C mg mb g)(e:mg (ax (st 29))=some (.ref a))(FR:Fz g RL (ai xs))(hz:z.length≤1000)(hxs:StrsAre xs.toList ((List.range z.length).map (qB z)))(rm:Rm A 1) :
  W C A (call (.ref a) [.ref RL] []) g M (fun r g' M'=>M'=M∧∃ f,r=.ref f∧CutOk C g' f z.length (fw (qJ z))):=by
 have hlen:=hxs.length
 rw[fA,fZ,rC] at hlen
 have hat:∀ (i:Nat) x,xs[i]?=some x→i<z.length∧∃ t,x=.str (qB z i) t:=by
  intro i x hx
  refine bJ (c7 (j:=i) hxs ((Array.getElem?_toList).trans hx)) fun y t hy q1=>?_;subst q1
  rw[List.getElem?_map] at hy
  have hi:i<z.length:=by
   have:=(Array.getElem?_eq_some_iff.mp hx).1
   exact b9 this (cG hlen)
  rw[List.getElem?_range hi] at hy
  cases hy
  exact (lx hi t rfl)
 have h:=i7 (M:=M) (lt:=qJ z) B e FR (bw (cG hlen) hz) ?_ ?_ rm
 ·rw[hlen] at h
  exact h
 ·intro i j x y hij hx hy A' s E Q hq
  refine ew (hat i x hx) fun hi t q2=>?_;subst q2
  refine ew (hat j y hy) fun hj u q3=>?_;subst q3
  refine (PySem.strKind prog C.w).eqBool (strKind_is prog C.w _ t) (strKind_is prog C.w _ u) ?_
  have hne:qB z i≠qB z j:=by
   intro e
   have:=congrArg (fun s:Str=>s.cps.toList.length) e
   simp only[qB,gA] at this
   exact jY 0 (gh [_,_,_,_,_] [] (.le av b6) (.eq ah am) (.le ao (.a ah aM)) (.eq (.a am bD) ao) (.lt aM bD) ae this (aE _ _) (bn (bY hj)) (gz (cZ [_,_,_,_,_] [] (.le ah am) (.Y 1 (.eq ao aM)) (.le bD (.a aM am)) (.eq (.a ao ah) bD) ae this (aE _ _) (bn (bY hi))) hij))
  rw[decide_eq_false hne]
  exact hq
 ·intro i j x y hx hy A' s E Q hq
  refine ew (hat i x hx) fun hi t q4=>?_;subst q4
  refine ew (hat j y hy) fun hj u q5=>?_;subst q5
  exact lt_str hq
theorem je (lt:Nat→Nat→Bool)(n:Nat):qF (fw lt) n:=by
 intro low high h _
 have:=fa (fun i j=>lt (low+1+i) (low+1+j)) (high-low-2)
 unfold fw
 exact ⟨eF [_,_] [] (.lt ah (.a (.a ah av) am)) ae,cZ [_,_,_,_,_] [] (.lt (.a (.a ah av) am) ao) (.le am aM) (.eq (.a aM cH) bD) (.eq (.a bD ah) ao) ae this (bn (ln2 [_,_,_] [] (.le cH ah) (.le (.a am cH) ao) (.le ao (.a ah am)) ae h (aE _ _))) (bn (aQ [_,_] [] (.le ah am) (.le (.a ah cH) am) ae h))⟩
noncomputable def iS (w c:Nat):Str:=(dH (fw (qJ (eS w c).cps.toList)) ((bW w c).cps.toList.map sing) (bW w c).length 0 (bW w c).length).text
theorem u6:∀ w,w<5→∀ i,i<(bp w).length→(eS w (dg w i)).length=(bW w (dg w i)).length∧1≤(bW w (dg w i)).length:=by decide +kernel
theorem pC {n0 c:Nat}(h:c∈twoL n0):(eS (n0%5) c).length=(bW (n0%5) c).length∧1≤(bW (n0%5) c).length:=by
 refine ch (tQ n0) fun i1 i2 i3=>?_
 have h5:=cQ n0 (show 0<5 by decide)
 unfold twoL at h
 simp only[mh,mr,or_false] at h
 rcases h with rfl|rfl
 ·exact u6 _ h5 _ i1
 ·exact u6 _ h5 _ i2
theorem zV {KD:Addr}{kvs:List (Str×Value)}{tt:Tok}(B:Base C mg mb g)(Sb:SubAt mg g)(FT:Fz g cT (ag (some (.str ⟨(twoL n0).toArray⟩ tt))))(Fc:Fz g cN (ag (some (.ref N))))(FN:Fz g N (gi C (n0%5)))(FK:Fz g cK (ag (some (.ref KD))))(FD:Fz g KD (aB C kvs))(hk:RowsTo n0 (eS (n0%5)) 2 kvs)(rm:Rm A 40){Q:PQ Flow}(kQ:∀ g',G.le g g'→∀ OD ovs,(OD==sysModules)=false→Fz g' OD (aB C ovs)→RowsTo n0 (iS (n0%5)) 2 ovs→(∀ x,x ∉ (twoL n0).map sing→valueAt ovs x=none)→Q .next g' ((L,aJ lo)::(cO,ag (some (.ref OD)))::M)) :
  W C A (exec (aI (aw (st 33)) 15) (dn L cS cB cC cT cP cL cK cO cD cN a c0)) g ((L,aJ lo)::(cO,ag none)::M) Q:=by
 refine' bQ fun qQ KQ=>?_
 refine aL (jN FN) fun nvs FN' hv=>?_
 refine bK (B.get 32) fun ln eln=>?_
 refine bK (B.get 29) fun lb elb=>?_
 have hm:=B.m
 refine aA ?_
 refine' sk (cl:=[("names",cN),("keys",cK)]) (Pm:=ix mg) (fun g' l=>hm.mono l) (by rfl') fun q K=>?_
 refine aU (c:=cT) (by rfl) (.fz FT) ?_
 refine fe fun I P' Dr=>?_
 refine K I P' 2 (fun k kvs=>RowsTo n0 (iS (n0%5)) k kvs∧∀ x,x ∉ (twoL n0).map sing→valueAt kvs x=none) _ _ _ (Dr _ rm.h) (by decide) ⟨fun i c hi=>absurd hi (qN _),fun x O=>rfl⟩ ?_ ?_
 ·intro k g₂ ovs v Cl cc M1 hk2 l₂ j hv2 q₁ K₁
  refine bJ hv2 fun c tc hc q6=>?_;clear hv2;subst q6
  have hc':(twoL n0)[k]?=some c:=by simpa using hc
  have hcm:=iu hc'
  refine dI (ko hcm) fun hnm hnl=>?_
  refine dI (pC hcm) fun hkl hn1=>?_
  refine bK (hv _ _ hnm) fun tn htn=>?_
  refine bK (hk.at hcm) fun tk htk=>?_
  replace B:=B.mono l₂
  replace Sb:=Sb.mono l₂
  replace Fc:=Fc.mono l₂
  replace FN':=FN'.mono l₂
  replace FK:=FK.mono l₂
  replace FD:=FD.mono l₂
  refine aU (c:=cc) (by rfl) (.own (.head _)) ?_
  refine K₁ (sing c) tc _ fun q₂ K₂=>?_
  refine az ?_
  refine bF B eln ?_
  refine aq ?_
  refine au ?_
  refine ab ?_
  refine az ?_
  refine bL B mF ?_
  refine aq ?_
  refine au ?_
  refine ab ?_
  refine aC ?_
  refine aU (c:=cN) (by rfl) (.fz Fc) ?_
  refine aU (c:=cc) (by rfl) (.own (.head _)) ?_
  have SD:∀ N',Sees g₂ N' N (aB C nvs):=fun N'=>.fz FN'
  refine ⟨gm (SD _),?_⟩
  refine gb (SD _) htn ?_
  refine aj ?_
  refine ⟨br,?_⟩
  show W _ _ (call (.type "list") [.str (bW (n0%5) c) tn]) _ _ _
  refine lR rm.h (bw hnl (by decide)) fun LV lvs hlv=>?_
  refine' dE fun g₃ l₃ FLV=>?_
  replace B:=B.mono l₃
  replace Sb:=Sb.mono l₃
  replace FK:=FK.mono l₃
  replace FD:=FD.mono l₃
  refine ab ?_
  refine az ?_
  refine bF B elb ?_
  refine aq ?_
  refine au ?_
  refine ab ?_
  refine' jt (cl:=[("sign",cc),("keys",cK)]) (by rfl') fun q₃ K₃=>?_
  refine az ?_
  refine bL B c6 ?_
  refine aq ?_
  refine au ?_
  refine ab ?_
  refine az ?_
  refine bL B eN ?_
  refine aq ?_
  refine au ?_
  refine ab ?_
  refine aC ?_
  refine aU (c:=cK) (by rfl) (.fz FK) ?_
  refine aU (c:=cc) (by rfl) (.own (.head _)) ?_
  have SK:∀ {g'} N',G.le g₃ g'→Sees g' N' KD (aB C kvs):=fun N' l=>.fz (FD.mono l)
  refine ⟨gm (SK _ .refl),?_⟩
  refine gb (SK _ .refl) htk ?_
  refine aj ?_
  refine ⟨ap,?_⟩
  show W _ _ (call (.builtin "len") [.str (eS (n0%5) c) tk]) _ _ _
  refine dS (ln2 [_,_] [] (.lt ah (.p 2 62)) (.le am sZ) (.eq ah am) ae hnl hkl) fun t2=>?_
  refine aj ?_
  refine ⟨br,?_⟩
  show W _ _ (call (.type "range") [.int ((eS (n0%5) c).length:Int) t2]) _ _ _
  refine fu fun g₄ r l₄ Fr=>?_
  refine cw Fr (by decide) (⟨eF [_] [] (.T (.g (.p 2 62)) bA) ae,ln2 [_,_] [] (.T bA (.p 2 62)) (.le am sZ) (.eq ah am) ae hnl hkl⟩) fun I4 P4 Dr4=>?_
  have hnn:(((eS (n0%5) c).length:Int)-0).toNat=(eS (n0%5) c).length:=by exact rfl
  rw[hnn] at Dr4
  refine K₃ I4 P4 _ (fun k ys O=>StrsAre ys.toList ((List.range k).map (qB (eS (n0%5) c).cps.toList))) _ _ _ (Dr4 _ rm.h) (ln2 [_,_] [] (.le ah aY) (.le am sZ) (.eq ah am) ae hnl hkl) .nil ?_ ?_
  ·intro k5 g₅ ys v5 Cl5 M5 hk5 l₅ j5 hv5 hM5 r₅ K₅
   obtain ⟨tk5,rfl⟩:∃ t,v5=.int (k5:Int) t:=by refine bK hv5 fun t q7=>?_;clear hv5;subst q7;exact ⟨t,by rw[mi]⟩
   have l45:=l₄.trans l₅
   refine aC ?_
   refine aC ?_
   refine aU (c:=cK) (by rfl) (.fz (FK.mono l45)) ?_
   refine aU (c:=cc) (by rfl) (.own (.tail _ (hM5 _ (.head _)))) ?_
   refine ⟨gm (SK _ l45),?_⟩
   refine gb (SK _ l45) htk ?_
   refine pw ?_
   ac_nf
   intro sl g₆ l₆ Fs
   refine ⟨dA,?_⟩
   have hkk:(eS (n0%5) c).length≤2^24:=by exact ln2 [_,_] [] (.le ah (.p 2 24)) (.le am sZ) (.eq ah am) ae hnl hkl
   refine gj (a:=k5) (ta:=tk5) (.fz Fs) (bY hk5) hkk fun t6=>?_
   refine K₅ _ _ [] ?_
   show StrsAre (ys.push _).toList _
   rw[fM,qX,ζ18]
   exact StrsAre.append' j5 (.cons _ _ .nil)
  intro g₅ g₆ ys RL l₅ j5 l₆ FRL
  have l36:=(l₄.trans l₅).trans l₆
  replace B:=B.mono l36
  replace Sb:=Sb.mono l36
  replace FLV:=FLV.mono l36
  refine aj ?_
  refine ⟨B.kept 29 elb,?_⟩
  show W _ _ (call (.ref lb) [.ref RL] []) _ _ _
  have hzl:(eS (n0%5) c).cps.toList.length=(bW (n0%5) c).length:=by
   rw[fA];exact hkl
  have j5:StrsAre ys.toList ((List.range (eS (n0%5) c).length).map (qB (eS (n0%5) c).cps.toList)):=j5
  rw[hkl,← hzl] at j5
  refine (km B elb FRL (ln2 [_,_] [] (.le ah bg) (.le am sZ) (.eq ah am) ae hnl hzl) j5 rm.le).mono ?_
  refine fun O g₇ O l₇ q8=>d6 q8 fun q9 f q10 CF=>?_;clear q8;subst q9;subst q10
  rw[hzl] at CF
  replace B:=B.mono l₇
  replace Sb:=Sb.mono l₇
  replace FLV:=FLV.mono l₇
  refine ab ?_
  refine' qk ?_
  refine aj ?_
  refine ⟨B.kept 32 eln,?_⟩
  show W _ _ (call (.ref ln) [.ref LV,.ref f,dR none 0] []) _ _ _
  have hlsl:((bW (n0%5) c).cps.toList.map sing).length=(bW (n0%5) c).length:=by
   rw[fZ,fA];rfl
  rw[← hlsl] at CF
  refine (ia (o:=none) (tk:=0) (ls:=(bW (n0%5) c).cps.toList.map sing) B Sb eln (je _ _) ?_ ?_ (ln2 [_,_] [] (.le ah dJ) (.le am sZ) (.eq ah am) ae hnl hlsl) (b9 hn1 (cG hlsl.symm)) FLV hlv CF (fun s e=>absurd e (by simp)) (rm.le (ln2 [_,_] [] (.le (.a ah (.l 15)) (.l 40)) (.le am sZ) (.eq ah am) ae hnl hlsl))).mono ?_
  ·intro s hs
   refine aL (List.mem_map.mp hs) fun c O q11=>?_;subst q11
   show 1≤1000
   exact by decide
  ·intro s hs
   refine aL (List.mem_map.mp hs) fun c O q12=>?_;subst q12
   exact bne_iff_ne.mpr fun e=>by
    have:=congrArg Str.length e
    exact absurd (show (1:Nat)=0 from this) (by decide)
  refine fun O g₈ O l₈ q13=>ew q13 fun q14 t8 q15=>?_;clear q13;subst q14;subst q15
  refine K₂ _ _ ⟨?_,?_⟩
  ·have e:(dH (fw (qJ (eS (n0%5) c).cps.toList)) ((bW (n0%5) c).cps.toList.map sing) ((bW (n0%5) c).cps.toList.map sing).length 0 ((bW (n0%5) c).cps.toList.map sing).length).text=iS (n0%5) c:=by
    rw[hlsl];rfl
   rw[e]
   exact j.1.step hc'
  ·intro x hx
   rw[fN,if_neg]
   ·exact j.2 x hx
   ·intro e
    exact hx (e▸List.mem_map_of_mem hcm)
 intro g₂ ovs D l₂ j hD
 refine' dE fun g₃ l₃ FO=>?_
 refine aH (i:=1) (by rfl) (by rfl) ?_
 exact KQ _ _ _ fun l=>kQ _ l D ovs hD FO j.1 j.2
end
end
section
noncomputable def sigN (n0:Nat)(u:List Nat):List Nat:=u.map fun d=>(fD n0).getD (d-1) 0
noncomputable def leafS (n0 c:Nat):Str:=if c∈twoL n0 then iS (n0%5) c else sing c
section
variable {C:Cx}{A:Around}{g:G}{M:be}{env:Env}{mg mb:Str→Option Value}{L cS cB cC cT cP cL cK cO cD cN a c0 CL N:Addr}{lo:List (Str×Value)}{n0 n1 n2 n3:Nat}{u0 u1 u2 u3:Tok}
theorem zr {LL:Addr}{lxs:Array Value}{u:List Nat}{tr:Tok}(B:Base C mg mb g)(Fl:Fz g cL (ag (some (.ref LL))))(FLL:Fz g LL (ai lxs))(hlx:StrsAre lxs.toList ((fD n0).map sing))(hr:lk lo "root"=some (.str (bk u) tr))(hu:DG u)(hul:u.length≤7)(rm:Rm A 1){Q:PQ Flow}(kQ:∀ g',G.le g g'→∀ SG xs,Fz g' SG (ai xs)→StrsAre xs.toList ((sigN n0 u).map sing)→Q .next g' ((L,aJ (bR lo "signs" (.ref SG)))::M)) :
  W C A (exec (aI (aw (st 33)) 16) (dn L cS cB cC cT cP cL cK cO cD cN a c0)) g ((L,aJ lo)::M) Q:=by
 refine' bQ fun qQ KQ=>?_
 show W _ _ (exec (Stmt.Assign [Expr.Name _ _] (Expr.ListComp _ _ _ _) _) _) _ _ _
 refine' eM (cl:=[("ladder",cL)]) (by rfl') ?_
 refine ar (.head _) hr ?_
 refine fe fun I P' Dr=>?_
 have hsz:(bk u).cps.size=u.length:=bo ..
 rw[hsz] at Dr
 refine (ba I P' _ _ _ (bf (fun k ys O=>StrsAre ys.toList (((sigN n0 u).take k).map sing)) 0 lo rfl rfl (cx (Dr _ rm.h) (bw hul (by decide)) .nil ?_ rfl ?_)))
 ·intro k g₂ ys v Cl D hk l₂ j hv
  refine bJ hv fun c tc hc q1=>?_;clear hv;subst q1
  obtain ⟨d,hd⟩:∃ d,u[k]?=some d:=⟨u[k],List.getElem?_eq_getElem hk⟩
  have hcd:c=d+48:=by
   rw[← Array.getElem?_toList,cM,List.getElem?_map,hd] at hc
   exact (Option.some.inj hc).symm
  subst hcd
  have hdg:=hu d (iu hd)
  refine dr ?_
  rw[if_pos rfl]
  refine aC ?_
  refine aU (c:=cL) (by rfl) (.fz (Fl.mono l₂)) ?_
  refine bh ?_
  refine az ?_
  refine bL (B.mono l₂) pH ?_
  refine aq ?_
  refine au ?_
  refine ab ?_
  refine ar (.head _) (by rfl) ?_
  refine aj ?_
  refine ⟨br,?_⟩
  show W _ _ (call (.type "int") [.str ⟨#[d+48]⟩ tc]) _ _ _
  refine my (mE hdg) (by show 1≤640;decide) fun t3 O=>?_
  refine' bx fun O O=>?_
  refine' q0 fun t4 O=>?_
  have e:(d:Int)-1=((d-1:Nat):Int):=by exact aQ [_,_] [] (.Q (.s bA av) eG) (.Y 1 (.eq (.a am av) ah)) ae (bn hdg.1)
  rw[e]
  have SN:∀ N,Sees g₂ N LL (bq lxs):=fun N=>.fz ((FLL.mono l₂).imp fun O=>bj)
  refine ⟨bE (SN _),?_⟩
  have h4:=nL n0
  have hll:=hlx.length
  rw[fA,fZ] at hll
  have hx:lxs[d-1]?=some lxs[d-1]:=Array.getElem?_eq_getElem (gh [_,_,_,_] [] (.lt ah am) (.le ao oK) (.Y 1 (.Q (.s lK av) bA)) (.Y 1 (.eq aM oK)) (.Y 1 (.eq am aM)) ae hdg.2 e h4 hll)
  refine bJ (c7 (j:=d-1) hlx ((Array.getElem?_toList).trans hx)) fun y t5 hy hye=>?_
  rw[hye] at hx
  refine aO (SN _) (cY _) (ln2 [_,_] [] (.T bA (.p 2 63)) (.le am oK) (.Y 1 (.Q (.s eG av) bA)) ae hdg.2 e) (by rw[d3];exact hx) ?_
  refine ⟨⟨[],rfl⟩,?_⟩
  have hs:(sigN n0 u)[k]?=some ((fD n0).getD (d-1) 0):=by unfold sigN;rw[List.getElem?_map,hd];rfl
  have hy2:y=sing ((fD n0).getD (d-1) 0):=by
   rw[List.getElem?_map,List.getElem?_eq_getElem (by exact cZ [_,_,_] [] (.lt ah am) (.le ao oK) (.Y 1 (.Q (.s lK av) bA)) (.Y 1 (.eq am oK)) ae hdg.2 e h4)] at hy
   rw[List.getD_eq_getElem?_getD,List.getElem?_eq_getElem (by exact cZ [_,_,_] [] (.lt ah am) (.le ao oK) (.Y 1 (.Q (.s lK av) bA)) (.Y 1 (.eq am oK)) ae hdg.2 e h4)]
   exact (Option.some.inj hy).symm
  subst hy2
  show StrsAre (ys.push _).toList _
  rw[fM,cu _ hs]
  exact StrsAre.append' j (.cons _ _ .nil)
 intro g₂ g₃ ys D l₂ j l₃ FD
 have hsl:(sigN n0 u).length=u.length:=fZ ..
 have j:StrsAre ys.toList (((sigN n0 u).take u.length).map sing):=j
 rw[← hsl,mu] at j
 exact KQ _ _ _ fun l=>kQ _ l D ys FD j
theorem zd {SG OD:Addr}{sxs:Array Value}{sg:List Nat}{ovs:List (Str×Value)}(Fo:Fz g cO (ag (some (.ref OD))))(hOD:(OD==sysModules)=false)(FO:Fz g OD (aB C ovs))(hov:RowsTo n0 (iS (n0%5)) 2 ovs)(hno:∀ x,x ∉ (twoL n0).map sing→valueAt ovs x=none)(hs:lk lo "signs"=some (.ref SG))(FS:Fz g SG (ai sxs))(hsx:StrsAre sxs.toList (sg.map sing))(hsl:sg.length≤7)(rm:Rm A 1){Q:PQ Flow}(kQ:∀ g',G.le g g'→∀ LV xs,Fz g' LV (ai xs)→StrsAre xs.toList (sg.map (leafS n0))→Q .next g' ((L,aJ (bR lo "leaves" (.ref LV)))::M)) :
  W C A (exec (aI (aw (st 33)) 17) (dn L cS cB cC cT cP cL cK cO cD cN a c0)) g ((L,aJ lo)::M) Q:=by
 refine' bQ fun qQ KQ=>?_
 have hll:=hsx.length
 rw[fA,fZ] at hll
 show W _ _ (exec (Stmt.Assign [Expr.Name _ _] (Expr.ListComp _ _ _ _) _) _) _ _ _
 refine' eM (cl:=[("own",cO)]) (by rfl') ?_
 refine ar (.head _) hs ?_
 refine bX (FS.imp fun O=>bj) fun I P' Dr O=>?_
 refine (ba I P' _ _ _ (bf (fun k ys O=>StrsAre ys.toList ((sg.take k).map (leafS n0))) 0 lo rfl rfl (cx (Dr _ rm.h) (ln2 [_,_] [] (.le ah aY) (.le am fs) (.eq ah am) ae hsl hll) .nil ?_ rfl ?_)))
 ·intro k g₂ ys v Cl D hk l₂ j hv
  refine bJ (c7 (j:=k) hsx ((Array.getElem?_toList).trans hv)) fun y tc hy q2=>?_;subst q2
  obtain ⟨c,hc⟩:∃ c,sg[k]?=some c:=⟨sg[k],List.getElem?_eq_getElem (b9 hk (cG hll))⟩
  rw[List.getElem?_map,hc] at hy
  cases hy
  refine dr ?_
  rw[if_pos rfl]
  refine bl ?_
  refine aU (c:=cO) (by rfl) (.fz (Fo.mono l₂)) ?_
  intro pl
  refine jJ F.slot_dict_get F.type_dict_get (.fz (FO.mono l₂)) ?_
  refine aq ?_
  refine au ?_
  refine ab ?_
  refine ar (.head _) (by rfl) ?_
  refine ab ?_
  refine ar (.head _) (by rfl) ?_
  refine aj ?_
  refine ⟨ap,?_⟩
  show W _ _ (call (.builtin "dict.get") [.ref OD,.str (sing c) tc,.str (sing c) tc]) _ _ _
  refine yo (.fz (FO.mono l₂)) hOD ?_
  obtain ⟨t2,ht2⟩:∃ t2,(valueAt ovs (sing c)).getD (.str (sing c) tc)=.str (leafS n0 c) t2:=by
   unfold leafS
   by_cases h:c∈twoL n0
   ·refine bK (hov.at h) fun t e=>?_
    rw[e,if_pos h]
    exact ⟨t,rfl⟩
   ·rw[if_neg h,hno]
    ·exact ⟨tc,rfl⟩
    ·intro hm
     refine aL (List.mem_map.mp hm) fun d hd e=>?_
     exact h (kg e▸hd)
  rw[ht2]
  refine ⟨⟨[],rfl⟩,?_⟩
  show StrsAre (ys.push _).toList _
  rw[fM,cu _ hc]
  exact StrsAre.append' j (.cons _ _ .nil)
 intro g₂ g₃ ys D l₂ j l₃ FD
 have j:StrsAre ys.toList ((sg.take sxs.size).map (leafS n0)):=j
 rw[hll,mu] at j
 exact KQ _ _ _ fun l=>kQ _ l D ys FD j
theorem BE {i w:Nat}{a:Addr}{x:Str}{t:Tok}(B:Base C mg mb g)(hw:w<5)(e:mg (ax (st (5+w)))=some (.ref a))(hx:x.length≤7)(rm:Rm A 1) :
  W C A (call (.ref a) [.str x t] []) g M (fun v O M'=>M'=M∧∃ t',v=.str (ub (5+w) x) t'):=by
 have key:∀ k,(match st k with|.FunctionDef ..=>true|_=>false)=true→k≠2→mg (ax (st k))=some (.ref a)→∃ c,DefAt g k a c:=by
  intro k h1 h2 h3
  refine aK (B.defs k h1 h2) fun a' c e' Da O=>?_
  have:a'=a:=by rw[h3] at e';cases e';rfl
  subst this
  exact ⟨c,Da⟩
 rcases BS hw with rfl|rfl|rfl|rfl|rfl
 ·refine bK (key 5 rfl (by decide) e) fun c D=>?_
  exact zv D B.lim rm.room hx
 ·refine bK (key 6 rfl (by decide) e) fun c D=>?_
  exact zS D B.lim rm.room hx
 ·refine bK (key 7 rfl (by decide) e) fun c D=>?_
  exact zu D B.lim rm.room hx
 ·refine bK (key 8 rfl (by decide) e) fun c D=>?_
  exact y8 D B.lim rm.room hx
 ·refine bK (key 9 rfl (by decide) e) fun c D=>?_
  exact Al D B.lim rm.room hx
theorem xf {w:Nat}{a:Addr}(B:Base C mg mb g)(hw:w<5)(e:mg (ax (st (5+w)))=some (.ref a)):rE (.ref a) g M:=by
 rcases BS hw with rfl|rfl|rfl|rfl|rfl
 ·exact B.kept 5 e
 ·exact B.kept 6 e
 ·exact B.kept 7 e
 ·exact B.kept 8 e
 ·exact B.kept 9 e
noncomputable def dO (n0:Nat)(sg:List Nat):Str:=ub (5+n0%5) ⟨sg.toArray⟩
theorem vP (l:List Nat):Txt.join Str.empty (l.map sing)=⟨l.toArray⟩:=by
 apply gf
 rw[eH,jW]
 show _=l
 induction l with
 | nil=>rfl
 | cons x r ih=>rw[dC,oC,ih];rfl
theorem zB {SG hf:Addr}{sxs:Array Value}{sg:List Nat}(B:Base C mg mb g)(hs:lk lo "signs"=some (.ref SG))(FS:Fz g SG (ai sxs))(hsx:StrsAre sxs.toList (sg.map sing))(hsl:sg.length≤7)(hh:lk lo "hand"=some (.ref hf))(ehf:mg (ax (st (5+n0%5)))=some (.ref hf))(rm:Rm A 1){Q:PQ Flow}(kQ:∀ g',G.le g g'→∀ t,Q .next g' ((L,aJ (bR lo "page" (.str (dO n0 sg) t)))::M)) :
  W C A (exec (aI (aw (st 33)) 18) (dn L cS cB cC cT cP cL cK cO cD cN a c0)) g ((L,aJ lo)::M) Q:=by
 refine' bQ fun qQ KQ=>?_
 refine aA ?_
 refine az ?_
 refine ar (.head _) hh ?_
 refine aq ?_
 refine au ?_
 refine ab ?_
 refine bl ?_
 refine' eA fun O O=>?_
 intro pl
 refine' fg ?_
 refine aq ?_
 refine au ?_
 refine ab ?_
 refine ar (.head _) hs ?_
 refine aj ?_
 refine ⟨ap,?_⟩
 show W _ _ (call (.builtin "str.join") [.str Str.empty _,.ref SG]) _ _ _
 refine er (.fz (FS.imp fun O=>bj)) hsx ?_ fun t'=>?_
 ·rw[sum_flat,jW]
  show _+_*0≤_
  have:∀ l:List Nat,(List.map ((fun s:Str=>s.cps.toList)∘sing) l).flatten.length=l.length:=by
   intro l
   induction l with
   | nil=>rfl
   | cons x r ih=>rw[dC,oC,ζ17,ih];show 1+_=_;rw[eR];exact lV _ _
  rw[this]
  exact aQ [_,_] [] (.le (.a ah (.r am 0)) aY) (.le ah fs) ae hsl
 rw[vP]
 refine aj ?_
 refine ⟨xf B (cQ _ (by decide)) ehf,?_⟩
 show W _ _ (call (.ref hf) [.str ⟨sg.toArray⟩ t'] []) _ _ _
 refine (BE (i:=0) B (cQ _ (by decide)) ehf (by show sg.toArray.size≤7;simpa using hsl) rm).mono ?_
 refine fun O g₁ O l₁ q3=>ew q3 fun q4 t1 q5=>?_;clear q3;subst q4;subst q5
 refine aX (i:=0) (by rfl) ?_
 exact KQ _ _ _ fun l=>kQ _ l t1
end
end
section
noncomputable def fU (n0:Nat)(pg:Str):Str:=Txt.replace (Txt.replace (Txt.replace pg "&" "\x01") (sing ((pA n0).cps.getD 0 0)) "\x02") (sing ((pA n0).cps.getD 1 0)) "\x03"
theorem iM {a b:Nat}(h:a≠b):(sing a==sing b)=false:=by
 cases q:sing a==sing b with
 | false=>rfl
 | true=>exact absurd (kg (eq_of_beq q)) h
theorem xM (n0:Nat):∀ i,i<2→97≤(pA n0).cps.getD i 0∧(pA n0).cps.getD i 0≤122:=by
 have h:pI n0<10:=cQ _ (by decide)
 unfold pA
 generalize pI n0=i at *
 have:∀ i,i<10→∀ j,j<2→97≤(pairsL.getD i ("","")).1.cps.getD j 0∧(pairsL.getD i ("","")).1.cps.getD j 0≤122:=by decide +kernel
 exact this i h
theorem uz (x:Str)(c:Nat)(z:Str)(hz:z.length=1):(Txt.replace x (sing c) z).length≤2*x.length:=by
 have:=i5 x z c
 rw[hz] at this
 have h2:(Txt.replace x (sing c) z).length=(Txt.replace x ⟨#[c]⟩ z).length:=rfl
 exact ln2 [_,_,_] [] (.le ah (.m 2 am)) (.le ao (.a am (.r am 1))) (.eq ah ao) ae this h2
section
variable {C:Cx}{A:Around}{g:G}{M:be}{env:Env}{mg mb:Str→Option Value}{L cS cB cC cT cP cL cK cO cD cN a c0 CL N:Addr}{lo:List (Str×Value)}{n0 n1 n2 n3:Nat}{u0 u1 u2 u3:Tok}
theorem mM {A:Around}{x:Str}{i:Nat}{t u:Tok}{Q:PQ Value}(hi:i<x.length)(hx:x.length≤100000)(h:∀ t' g',G.le g g'→t'≠0→g.n≤t'→t'<g'.n→Q (.str (sing (x.cps.getD i 0)) t') g' M):W C A (getItem (.str x t) (.int (i:Int) u)) g M Q:=by
 refine tS (by simp[fitsSsize];exact ln2 [_,_] [] (.T bA cE) (.lt ah am) (.le am (.l 100000)) ae hi hx) (charAt_isSome (eF [_,_] [] (.L (.g bA) eG) ae) (aQ [_,_] [] (.T bA eG) (.lt ah am) ae hi)) fun t' g' l' h0 h1 h2=>?_
 have hs:i<x.cps.size:=hi
 have e:Txt.item x (i:Int)=sing (x.cps.getD i 0):=item_meets (cY _) (by rw[d3,Array.getElem?_eq_getElem hs];simp[hs])
 rw[e]
 exact h t' g' l' h0 h1 h2
theorem Ar {pg:Str}{tg tp:Tok}(B:Base C mg mb g)(FP:Fz g cP (ag (some (.str (pA n0) tp))))(hp:lk lo "page"=some (.str pg tg))(hpg:pg.length≤1000) :
  W C A (exec (aI (aw (st 33)) 19) (dn L cS cB cC cT cP cL cK cO cD cN a c0)) g ((L,aJ lo)::(cD,ag none)::M)
  (fun f g' M'=>f=.next∧∃ t,M'=(L,aJ lo)::(cD,ag (some (.str (fU n0 pg) t)))::M):=by
 have h1l:Str.length "\x01"=1:=by decide +kernel
 have h2l:Str.length "\x02"=1:=by decide +kernel
 have h3l:Str.length "\x03"=1:=by decide +kernel
 have hpl:(pA n0).length=2:=congrArg List.length (lE n0)
 have hl0:=xM n0 0 (by decide)
 have hl1:=xM n0 1 (by decide)
 refine aA ?_
 refine bl ?_
 refine bl ?_
 refine bl ?_
 refine ar (.head _) hp ?_
 intro pl
 refine' dU ?_
 refine aq ?_
 refine au ?_
 refine ab ?_
 refine gx fun t1 g1 l1 a1 b1 d1=>?_
 refine ab ?_
 refine gx fun t2 g2 l2 a2 b2 d2=>?_
 refine aj ?_
 refine ⟨ap,?_⟩
 show W _ _ (call (.builtin "str.replace") [.str pg tg,.str "&" t1,.str "\x01" t2]) _ _ _
 refine' fE a1 a2 (eE (b9 d1 b2)) (by decide) (by rw[h1l];with_unfolding_all exact aQ [_] [] (.le (.a ah (.r (.a ah av) 1)) aY) (.X 2 (.le ah bg)) ae hpg) fun t3=>?_
 have e1:=uz pg 38 "\x01" h1l
 have e1':(Txt.replace pg "&" "\x01").length≤2*pg.length:=e1
 generalize hx1:Txt.replace pg "&" "\x01"=x1 at *
 intro pl2
 refine' dU ?_
 refine aq ?_
 refine au ?_
 refine ab ?_
 refine aC ?_
 refine aU (c:=cP) (by rfl) (.fz ((FP.mono l1).mono l2)) ?_
 refine' bx fun O O=>?_
 refine ⟨dA,?_⟩
 refine mM (i:=0) (b9 (by decide) (cG hpl.symm)) (bw (cG hpl) (by decide)) fun t4 g4 l4 a4 b4 d4=>?_
 refine ab ?_
 refine gx fun t5 g5 l5 a5 b5 d5=>?_
 refine aj ?_
 refine ⟨ap,?_⟩
 show W _ _ (call (.builtin "str.replace") [.str x1 t3,.str (sing ((pA n0).cps.getD 0 0)) t4,.str "\x02" t5]) _ _ _
 refine' fE a4 a5 (eE (b9 d4 b5)) (show (sing _==sing 2)=false from iM (by exact df (b9 (by decide) hl0.1))) (by rw[h2l];with_unfolding_all exact ln2 [_,_] [] (.le (.a ah (.r (.a ah av) 1)) aY) (.X 4 (.le am bg)) (.X 2 (.le ah (.m 2 am))) ae hpg e1') fun t6=>?_
 have e2:=uz x1 ((pA n0).cps.getD 0 0) "\x02" h2l
 generalize hx2:Txt.replace x1 (sing ((pA n0).cps.getD 0 0)) "\x02"=x2 at *
 intro pl3
 refine' dU ?_
 refine aq ?_
 refine au ?_
 refine ab ?_
 refine aC ?_
 refine aU (c:=cP) (by rfl) (.fz ((((FP.mono l1).mono l2).mono l4).mono l5)) ?_
 refine' bx fun O O=>?_
 refine ⟨dA,?_⟩
 refine mM (i:=1) (b9 (by decide) (cG hpl.symm)) (bw (cG hpl) (by decide)) fun t7 g7 l7 a7 b7 d7=>?_
 refine ab ?_
 refine gx fun t8 g8 l8 a8 b8 d8=>?_
 refine aj ?_
 refine ⟨ap,?_⟩
 show W _ _ (call (.builtin "str.replace") [.str x2 t6,.str (sing ((pA n0).cps.getD 1 0)) t7,.str "\x03" t8]) _ _ _
 refine' fE a7 a8 (eE (b9 d7 b8)) (show (sing _==sing 3)=false from iM (by exact df (b9 (by decide) hl1.1))) (by rw[h3l];with_unfolding_all exact cZ [_,_,_] [] (.le (.a ah (.r (.a ah av) 1)) aY) (.X 8 (.le am bg)) (.X 4 (.le ao (.m 2 am))) (.X 2 (.le ah (.m 2 ao))) ae hpg e1' e2) fun t9=>?_
 refine aH (i:=1) (by rfl) (by rfl) ?_
 refine (lx rfl t9 ?_)
 unfold fU
 rw[hx1,hx2]
 rfl
theorem qA {a RL:Addr}{xs:Array Value}{ns:List Int}(B:Base C mg mb g)(e:mg (ax (st 29))=some (.ref a))(FR:Fz g RL (ai xs))(hz:ns.length≤1000)(hxs:IntsAre xs.toList ns)(hd:∀ i j,i<ns.length→j<ns.length→i≠j→ns.getD i 0≠ns.getD j 0)(rm:Rm A 1) :
  W C A (call (.ref a) [.ref RL] []) g M (fun r g' M'=>M'=M∧∃ f,r=.ref f∧CutOk C g' f ns.length (fw fun i j=>decide (ns.getD i 0<ns.getD j 0))):=by
 have hlen:=hxs.length
 rw[fA] at hlen
 have hat:∀ (i:Nat) x,xs[i]?=some x→i<ns.length∧∃ t,x=.int (ns.getD i 0) t:=by
  intro i x hx
  refine bJ (f9 (j:=i) hxs ((Array.getElem?_toList).trans hx)) fun y t hy q1=>?_;subst q1
  refine (lx ((List.getElem?_eq_some_iff.mp hy).1) t ?_)
  rw[List.getD_eq_getElem?_getD,hy]
  rfl
 have h:=i7 (M:=M) (lt:=fun i j=>decide (ns.getD i 0<ns.getD j 0)) B e FR (bw (cG hlen) hz) ?_ ?_ rm
 ·rw[hlen] at h
  exact h
 ·intro i j x y hij hx hy A' s E Q hq
  refine ew (hat i x hx) fun hi t q2=>?_;subst q2
  refine ew (hat j y hy) fun hj u q3=>?_;subst q3
  refine wpAny_eqBool_int ?_
  rw[beq_eq_false_iff_ne.mpr (hd i j hi hj hij)]
  exact hq
 ·intro i j x y hx hy A' s E Q hq
  refine ew (hat i x hx) fun hi t q4=>?_;subst q4
  refine ew (hat j y hy) fun hj u q5=>?_;subst q5
  exact lt_int hq
theorem rG (x:List Nat):qF (cutE x) x.length:=by
 intro low high h1 h2
 have hne:=mK h1 h2
 have hm:cutE x low high∈eg x low high:=by
  unfold cutE
  cases h:eg x low high with
  | nil=>exact absurd h hne
  | cons a r=>exact List.Mem.head _
 unfold eg at hm
 refine aL (List.mem_map.mp (List.mem_filter.mp hm).1) fun k hk e=>?_
 rw[List.mem_range] at hk
 exact ⟨aQ [_,_,_] [] (.lt ah am) (.eq (.a (.a ah av) ao) am) ae e,gh [_,_,_,_,_,_] [] (.lt ah am) (.lt ao aM) (.Y 1 (.eq (.a (.a bD av) ao) ah)) (.eq (.a aM av) dc) (.eq (.a dc bD) am) ae hk e (bn (ln2 [_,_,_] [] (.le av ah) (.le (.a am cH) ao) (.le ao (.a ah am)) ae h1 (aE _ _))) (bn (aQ [_,_] [] (.le ah am) (.le (.a ah cH) am) ae h1))⟩
noncomputable def BO (ns:List Int)(i j:Nat):Bool:=decide (ns.getD i 0<ns.getD j 0)
noncomputable def fW (u:List Nat)(ls:List Str):Str:=(dH (cutE (u.map (·+48))) ls ls.length 0 ls.length).text
noncomputable def jd (ns:List Int)(ls:List Str):Str:=(dH (fw (BO ns)) ls ls.length 0 ls.length).text
noncomputable def iB (z:List Nat)(ls:List Str):Str:=(dH (fw (qJ z)) ls ls.length 0 ls.length).text
theorem zz {LV RL:Addr}{lvs ys:Array Value}{u:List Nat}{ls:List Str}{ns:List Int}{o:Option Str}{tr tk:Tok}(B:Base C mg mb g)(Sb:SubAt mg g)(hr:lk lo "root"=some (.str (bk u) tr))(hl:lk lo "leaves"=some (.ref LV))(hrk:lk lo "ranks"=some (.ref RL))(ht:lk lo "tail"=some (dR o tk))(FL:Fz g LV (ai lvs))(hlv:StrsAre lvs.toList ls)(FR:Fz g RL (ai ys))(hys:IntsAre ys.toList ns)(hn:ls.length=u.length)(hnn:ns.length=u.length)(h0:0<u.length)(h7:u.length≤7)(hls:∀ s∈ls,s.length≤1000)(hne:∀ s∈ls,(s != ("":Str))=true)(ho:∀ s,o=some s→s.length≤1000)(hd:∀ i j,i<ns.length→j<ns.length→i≠j→ns.getD i 0≠ns.getD j 0)(rm:Rm A 40){Q:PQ Flow}(kQ:∀ g',G.le g g'→∀ t1 t2,Q .next g' ((L,aJ (bR (bR lo "ranked" (.str (jd ns ls) t2)) "plain" (.str (fW u ls) t1)))::M)) :
  W C A (exec (aI (aw (st 33)) 20) (dn L cS cB cC cT cP cL cK cO cD cN a c0)) g ((L,aJ lo)::M) Q:=by
 refine' bQ fun qQ KQ=>?_
 refine bK (B.get 32) fun ln eln=>?_
 refine bK (B.get 29) fun lb elb=>?_
 refine bK (B.get 28) fun le ele=>?_
 refine dk (na:="plain") (nb:="ranked") rm.h ?_
 refine eL ?_
 refine az ?_
 refine bF B eln ?_
 refine aq ?_
 refine au ?_
 refine ab ?_
 refine ar (.head _) hl ?_
 refine ab ?_
 refine az ?_
 refine bF B ele ?_
 refine aq ?_
 refine au ?_
 refine ab ?_
 refine ar (.head _) hr ?_
 refine aj ?_
 refine ⟨B.kept 28 ele,?_⟩
 show W _ _ (call (.ref le) [.str (nS (u.map (·+48))) tr] []) _ _ _
 have hul:(u.map (·+48)).length=ls.length:=by rw[fZ,hn]
 refine (kW B ele (cZ [_,_,_] [] (.le ah bg) (.eq am ao) (.le ao fs) (.eq ah am) ae hn h7 hul) rm.le).mono ?_
 refine fun O g₁ O l₁ q6=>d6 q6 fun q7 f q8 CF=>?_;clear q6;subst q7;subst q8
 rw[hul] at CF
 replace B:=B.mono l₁
 replace Sb:=Sb.mono l₁
 replace FL:=FL.mono l₁
 replace FR:=FR.mono l₁
 refine ab ?_
 refine ar (.head _) ht ?_
 refine aj ?_
 refine ⟨B.kept 32 eln,?_⟩
 show W _ _ (call (.ref ln) [.ref LV,.ref f,dR o tk] []) _ _ _
 have hcf:qF (cutE (u.map (·+48))) ls.length:=hul▸rG (u.map (·+48))
 refine (ia (o:=o) (tk:=tk) (ls:=ls) B Sb eln hcf hls hne (ln2 [_,_] [] (.le ah dJ) (.eq ah am) (.le am fs) ae hn h7) (b9 h0 (cG hn.symm)) FL hlv CF ho (rm.le (ln2 [_,_] [] (.le (.a ah (.l 15)) (.l 40)) (.eq ah am) (.le am fs) ae hn h7))).mono ?_
 refine fun O g₂ O l₂ q9=>ew q9 fun q10 t1 q11=>?_;clear q9;subst q10;subst q11
 replace B:=B.mono l₂
 replace Sb:=Sb.mono l₂
 replace FL:=FL.mono l₂
 replace FR:=FR.mono l₂
 refine az ?_
 refine bF B eln ?_
 refine aq ?_
 refine au ?_
 refine ab ?_
 refine ar (.head _) hl ?_
 refine ab ?_
 refine az ?_
 refine bF B elb ?_
 refine aq ?_
 refine au ?_
 refine ab ?_
 refine ar (.head _) hrk ?_
 refine aj ?_
 refine ⟨B.kept 29 elb,?_⟩
 show W _ _ (call (.ref lb) [.ref RL] []) _ _ _
 refine (qA B elb FR (ln2 [_,_] [] (.le ah bg) (.eq ah am) (.le am fs) ae hnn h7) hys hd rm.le).mono ?_
 refine fun O g₃ O l₃ q12=>d6 q12 fun q13 f2 q14 CF2=>?_;clear q12;subst q13;subst q14
 have hnl:ns.length=ls.length:=by exact ln2 [_,_,_] [] (.eq ah am) (.Y 1 (.eq am ao)) (.eq ah ao) ae hn hnn
 rw[hnl] at CF2
 replace B:=B.mono l₃
 replace Sb:=Sb.mono l₃
 replace FL:=FL.mono l₃
 refine ab ?_
 refine ar (.head _) ht ?_
 refine aj ?_
 refine ⟨B.kept 32 eln,?_⟩
 show W _ _ (call (.ref ln) [.ref LV,.ref f2,dR o tk] []) _ _ _
 refine (ia (o:=o) (tk:=tk) (ls:=ls) (cf:=fw (BO ns)) B Sb eln (je _ _) hls hne (ln2 [_,_] [] (.le ah dJ) (.eq ah am) (.le am fs) ae hn h7) (b9 h0 (cG hn.symm)) FL hlv CF2 ho (rm.le (ln2 [_,_] [] (.le (.a ah (.l 15)) (.l 40)) (.eq ah am) (.le am fs) ae hn h7))).mono ?_
 refine fun O g₄ O l₄ q15=>ew q15 fun q16 t2 q17=>?_;clear q15;subst q16;subst q17
 intro T g₅ l₅ FT
 refine (bf T _ _ rfl (.fz FT) ?_)
 refine aX (i:=0) (by rfl) ?_
 refine aX (i:=0) (by rfl) ?_
 exact KQ _ _ _ fun l=>kQ _ l t1 t2
end
end
section
section
variable {C:Cx}{A:Around}{g:G}{M:be}{env:Env}{mg mb:Str→Option Value}{L cS cB cC cT cP cL cK cO cD cN a c0 CL N:Addr}{lo:List (Str×Value)}{n0 n1 n2 n3:Nat}{u0 u1 u2 u3:Tok}
theorem zt {pg od:Str}{tg td tk:Tok}{o:Option Str}(B:Base C mg mb g)(Sb:SubAt mg g)(Fd:Fz g cD (ag (some (.str od td))))(hp:lk lo "page"=some (.str pg tg))(ht:lk lo "tail"=some (dR o tk))(hol:od.length=pg.length)(h0:0<pg.length)(h7:pg.length≤100)(ho:∀ s,o=some s→s.length≤1000)(rm:Rm A 120){Q:PQ Flow}(kQ:∀ g',G.le g g'→∀ t,Q .next g' ((L,aJ (bR lo "written" (.str (iB od.cps.toList (pg.cps.toList.map sing)) t)))::M)) :
  W C A (exec (aI (aw (st 33)) 21) (dn L cS cB cC cT cP cL cK cO cD cN a c0)) g ((L,aJ lo)::M) Q:=by
 refine' bQ fun qQ KQ=>?_
 refine bK (B.get 32) fun ln eln=>?_
 refine bK (B.get 29) fun lb elb=>?_
 refine aA ?_
 refine az ?_
 refine bF B eln ?_
 refine aq ?_
 refine au ?_
 refine ab ?_
 refine az ?_
 refine bL B mF ?_
 refine aq ?_
 refine au ?_
 refine ab ?_
 refine ar (.head _) hp ?_
 refine aj ?_
 refine ⟨br,?_⟩
 show W _ _ (call (.type "list") [.str pg tg]) _ _ _
 refine lR rm.h (bw h7 (by decide)) fun LV lvs hlv=>?_
 refine' dE fun g₃ l₃ FLV=>?_
 replace B:=B.mono l₃
 replace Sb:=Sb.mono l₃
 replace Fd:=Fd.mono l₃
 refine ab ?_
 refine az ?_
 refine bF B elb ?_
 refine aq ?_
 refine au ?_
 refine ab ?_
 refine' jt (cl:=[("order",cD)]) (by rfl') fun q_1 K_1=>?_
 refine az ?_
 refine bL B c6 ?_
 refine aq ?_
 refine au ?_
 refine ab ?_
 refine az ?_
 refine bL B eN ?_
 refine aq ?_
 refine au ?_
 refine ab ?_
 refine aU (c:=cD) (by rfl) (.fz Fd) ?_
 refine aj ?_
 refine ⟨ap,?_⟩
 show W _ _ (call (.builtin "len") [.str od td]) _ _ _
 refine dS (ln2 [_,_] [] (.lt ah (.p 2 62)) (.eq ah am) (.le am dJ) ae hol h7) fun t2=>?_
 refine aj ?_
 refine ⟨br,?_⟩
 show W _ _ (call (.type "range") [.int (od.length:Int) t2]) _ _ _
 refine fu fun g₄ r l₄ Fr=>?_
 refine cw Fr (by decide) (⟨eF [_] [] (.T (.g (.p 2 62)) bA) ae,ln2 [_,_] [] (.T bA (.p 2 62)) (.eq ah am) (.le am dJ) ae hol h7⟩) fun I4 P4 Dr4=>?_
 have hnn:((od.length:Int)-0).toNat=od.length:=by exact rfl
 rw[hnn] at Dr4
 refine K_1 I4 P4 _ (fun k ys O=>StrsAre ys.toList ((List.range k).map (qB od.cps.toList))) _ _ _ (Dr4 _ rm.h) (ln2 [_,_] [] (.le ah aY) (.eq ah am) (.le am dJ) ae hol h7) .nil ?_ ?_
 ·intro k5 g₅ ys v5 Cl5 D5 hk5 l₅ j5 hv5 hM_1 r_1 R_1
  obtain ⟨tk5,rfl⟩:∃ t,v5=.int (k5:Int) t:=by refine bK hv5 fun t q1=>?_;clear hv5;subst q1;exact ⟨t,by rw[mi]⟩
  have l45:=l₄.trans l₅
  refine aC ?_
  refine aU (c:=cD) (by rfl) (.fz (Fd.mono l45)) ?_
  refine pw ?_
  ac_nf
  intro sl g₆ l₆ Fs
  refine ⟨dA,?_⟩
  have hkk:od.length≤2^24:=by exact ln2 [_,_] [] (.le ah (.p 2 24)) (.eq ah am) (.le am dJ) ae hol h7
  refine gj (a:=k5) (ta:=tk5) (.fz Fs) (bY hk5) hkk fun t6=>?_
  refine R_1 _ _ [] ?_
  show StrsAre (ys.push _).toList _
  rw[fM,qX,ζ18]
  exact StrsAre.append' j5 (.cons _ _ .nil)
 intro g₅ g₆ ys RL l₅ j5 l₆ FRL
 have l36:=(l₄.trans l₅).trans l₆
 replace B:=B.mono l36
 replace Sb:=Sb.mono l36
 replace FLV:=FLV.mono l36
 refine aj ?_
 refine ⟨B.kept 29 elb,?_⟩
 show W _ _ (call (.ref lb) [.ref RL] []) _ _ _
 have hzl:od.cps.toList.length=pg.length:=by
  rw[fA];exact hol
 have j5:StrsAre ys.toList ((List.range od.length).map (qB od.cps.toList)):=j5
 rw[hol,← hzl] at j5
 refine (km B elb FRL (ln2 [_,_] [] (.le ah bg) (.le am dJ) (.eq ah am) ae h7 hzl) j5 rm.le).mono ?_
 refine fun O g₇ O l₇ q2=>d6 q2 fun q3 f q4 CF=>?_;clear q2;subst q3;subst q4
 rw[hzl] at CF
 replace B:=B.mono l₇
 replace Sb:=Sb.mono l₇
 replace FLV:=FLV.mono l₇
 refine ab ?_
 refine ar (.head _) ht ?_
 refine aj ?_
 refine ⟨B.kept 32 eln,?_⟩
 show W _ _ (call (.ref ln) [.ref LV,.ref f,dR o tk] []) _ _ _
 have hlsl:(pg.cps.toList.map sing).length=pg.length:=by
  rw[fZ,fA];rfl
 rw[← hlsl] at CF
 refine (ia (o:=o) (tk:=tk) (ls:=pg.cps.toList.map sing) B Sb eln (je _ _) ?_ ?_ (bw (cG hlsl) h7) (b9 h0 (cG hlsl.symm)) FLV hlv CF ho (rm.le (ln2 [_,_] [] (.le (.a ah (.l 15)) (.l 120)) (.le am dJ) (.eq ah am) ae h7 hlsl))).mono ?_
 ·intro s hs
  refine aL (List.mem_map.mp hs) fun c O q5=>?_;subst q5
  show 1≤1000
  exact by decide
 ·intro s hs
  refine aL (List.mem_map.mp hs) fun c O q6=>?_;subst q6
  exact bne_iff_ne.mpr fun e=>by
   have:=congrArg Str.length e
   exact absurd (show (1:Nat)=0 from this) (by decide)
 refine fun O g₈ O l₈ q7=>ew q7 fun q8 t8 q9=>?_;clear q7;subst q8;subst q9
 refine aX (i:=0) (by rfl) ?_
 exact KQ _ _ _ fun l=>kQ _ l t8
theorem ze {OD:Addr}{ovs:List (Str×Value)}{p:Str}{tt t1 t2 t3:Tok}(FT:Fz g cT (ag (some (.str ⟨(twoL n0).toArray⟩ tt))))(Fo:Fz g cO (ag (some (.ref OD))))(FO:Fz g OD (aB C ovs))(hov:RowsTo n0 (iS (n0%5)) 2 ovs)(h1:lk lo "plain"=some (.str p t1))(h2:lk lo "ranked"=some (.str p t2))(h3:lk lo "written"=some (.str p t3))(hp:p≠"")(hown:∀ c∈twoL n0,iS (n0%5) c≠"")(hA:A.handled=none){Q:PQ Flow}(kQ:∀ g',G.le g g'→Q (.ret (.bool true)) g' ((L,aJ lo)::M)) :
  W C A (exec (aI (aw (st 33)) 22) (dn L cS cB cC cT cP cL cK cO cD cN a c0)) g ((L,aJ lo)::M) Q:=by
 refine' bQ fun qQ KQ=>?_
 refine bK (hov 0 _ (by decide) (show (twoL n0)[0]?=some (dg (n0%5) (fstI n0)) from rfl)) fun ta ha=>?_
 refine bK (hov 1 _ (by decide) (show (twoL n0)[1]?=some (dg (n0%5) (sndI n0)) from rfl)) fun tb hb=>?_
 have SD:∀ N',Sees g N' OD (aB C ovs):=fun N'=>.fz FO
 have hl2:Str.length ⟨(twoL n0).toArray⟩=2:=rfl
 refine cz ?_
 refine mZ ?_
 refine ig ?_
 refine fH ?_
 refine' eA fun O O=>?_
 refine ed ?_
 refine ab ?_
 refine aC ?_
 refine aU (c:=cO) (by rfl) (.fz Fo) ?_
 refine aC ?_
 refine aU (c:=cT) (by rfl) (.fz FT) ?_
 refine' bx fun O O=>?_
 refine ⟨dA,?_⟩
 refine eX (i:=0) (b9 (by decide) (cG hl2.symm)) (bw (cG hl2) (by decide)) fun t5 O=>?_
 refine ⟨gm (SD _),?_⟩
 refine gb (SD _) ha ?_
 refine ab ?_
 refine aC ?_
 refine aU (c:=cO) (by rfl) (.fz Fo) ?_
 refine aC ?_
 refine aU (c:=cT) (by rfl) (.fz FT) ?_
 refine' bx fun O O=>?_
 refine ⟨dA,?_⟩
 refine eX (i:=1) (b9 (by decide) (cG hl2.symm)) (bw (cG hl2) (by decide)) fun t6 O=>?_
 refine ⟨gm (SD _),?_⟩
 refine gb (SD _) hb ?_
 refine ab ?_
 refine ar (.head _) h1 ?_
 refine aj ?_
 refine ⟨by simp only[List.length];decide,fun T g₂ l₂ FT2=>?_⟩
 refine tY (ys:=[iS (n0%5) (dg (n0%5) (fstI n0)),iS (n0%5) (dg (n0%5) (sndI n0)),p]) FT2 (.cons _ _ (.cons _ _ (.cons _ _ .nil))) ?_
 have hn:(!([iS (n0%5) (dg (n0%5) (fstI n0)),iS (n0%5) (dg (n0%5) (sndI n0)),p].any (·==(Str.ofString ""))))=true:=by
  have e1:(iS (n0%5) (dg (n0%5) (fstI n0))==(Str.ofString ""))=false:=beq_eq_false_iff_ne.mpr (hown _ (.head _))
  have e2:(iS (n0%5) (dg (n0%5) (sndI n0))==(Str.ofString ""))=false:=beq_eq_false_iff_ne.mpr (hown _ (.tail _ (.head _)))
  have e3:(p==(Str.ofString ""))=false:=beq_eq_false_iff_ne.mpr hp
  simp only[List.any_cons,List.any_nil,e1,e2,e3,Bool.or_false,Bool.not_false]
 rw[hn]
 refine aV ?_
 rw[if_pos rfl]
 refine ig ?_
 refine fH ?_
 refine ar (.head _) h2 ?_
 refine ar (.head _) h1 ?_
 refine pX ?_
 rw[beq_self_eq_true]
 refine aV ?_
 rw[if_pos rfl]
 refine fC ?_
 refine fH ?_
 refine ar (.head _) h3 ?_
 refine ar (.head _) h1 ?_
 refine pX ?_
 rw[beq_self_eq_true]
 exact KQ _ _ _ fun l=>kQ _ l
end
end
section
structure LawFacts (n0 n1 n2 n3:Nat):Prop where
 read:r7 ⟨(wordN n0 n1).toArray⟩ (pA n0) (pB n0) n2=⟨(wordN n0 n1).toArray⟩
 hpb:(pA n0==pB n0)=false
 hwl:Str.length ⟨(wordN n0 n1).toArray⟩+(Str.length ⟨(wordN n0 n1).toArray⟩+1)*(pB n0).length≤16777216
 hxl:(typedX ⟨(wordN n0 n1).toArray⟩ (pA n0) (pB n0) n2).cps.size≤7
 hpc:∀ c,Txt.contains (pA n0) (sing c)=true→97≤c∧c≤122
 hlow:∀ c∈typedUp (pA n0) n2 (typedX ⟨(wordN n0 n1).toArray⟩ (pA n0) (pB n0) n2) (typedX ⟨(wordN n0 n1).toArray⟩ (pA n0) (pB n0) n2).cps.size,eC c=true→Builtin.Str.tooLong (Txt.lower ⟨#[c]⟩).length=false
 hjoin:(((((typedUp (pA n0) n2 (typedX ⟨(wordN n0 n1).toArray⟩ (pA n0) (pB n0) n2) (typedX ⟨(wordN n0 n1).toArray⟩ (pA n0) (pB n0) n2).cps.size).filter eC).map dZ)).map (·.length)).sum≤16777216
 own:∀ c∈twoL n0,iS (n0%5) c≠""
 leaf:∀ u,DG u→∀ s∈(sigN n0 u).map (leafS n0),s.length≤1000∧(s != ("":Str))=true
 rlen:∀ u,DG u→(dl (wdN n3) u).length=u.length
 rdis:∀ u,DG u→∀ i j,i<(dl (wdN n3) u).length→j<(dl (wdN n3) u).length→i≠j→(dl (wdN n3) u).getD i 0≠(dl (wdN n3) u).getD j 0
 plen:∀ u,DG u→u≠[]→u.length≤7→0<(dO n0 (sigN n0 u)).length∧(dO n0 (sigN n0 u)).length≤100∧(fU n0 (dO n0 (sigN n0 u))).length=(dO n0 (sigN n0 u)).length
 plain:∀ u,DG u→u≠[]→u.length≤7→fW u ((sigN n0 u).map (leafS n0))≠""
 ranked:∀ u,DG u→u≠[]→u.length≤7→jd (dl (wdN n3) u) ((sigN n0 u).map (leafS n0))=fW u ((sigN n0 u).map (leafS n0))
 written:∀ u,DG u→u≠[]→u.length≤7→iB (fU n0 (dO n0 (sigN n0 u))).cps.toList ((dO n0 (sigN n0 u)).cps.toList.map sing)=fW u ((sigN n0 u).map (leafS n0))
theorem zf:aw (st 33)=[aI (aw (st 33)) 0,aI (aw (st 33)) 1,aI (aw (st 33)) 2,aI (aw (st 33)) 3,aI (aw (st 33)) 4,aI (aw (st 33)) 5,aI (aw (st 33)) 6,aI (aw (st 33)) 7,aI (aw (st 33)) 8,aI (aw (st 33)) 9,aI (aw (st 33)) 10,
 aI (aw (st 33)) 11,aI (aw (st 33)) 12,aI (aw (st 33)) 13,aI (aw (st 33)) 14,aI (aw (st 33)) 15,aI (aw (st 33)) 16,aI (aw (st 33)) 17,aI (aw (st 33)) 18,aI (aw (st 33)) 19,aI (aw (st 33)) 20,aI (aw (st 33)) 21,aI (aw (st 33)) 22]:=by rfl
section
variable {C:Cx}{A:Around}{g:G}{M:be}{env:Env}{mg mb:Str→Option Value}
theorem r8 (n3:Nat):∀ s,fx n3=some s→s.length≤1000:=by
 intro s h
 unfold fx at h
 split at h
 ·cases h;decide
 ·cases h
 ·cases h;decide
theorem sX {xs:Array Value}(h4:xs.size=4)(h:∀ (j:Nat) v,xs[j]?=some v→wb (10^16) v):∃ n0 n1 n2 n3 u0 u1 u2 u3,xs=dN n0 n1 n2 n3 u0 u1 u2 u3∧n0<10^16∧n1<10^16∧n2<10^16∧n3<10^16:=by
 obtain ⟨l⟩:=xs
 have hl:∃ a b c d,l=[a,b,c,d]:=by
  refine rg (l:=l) h4 fun a r h=>?_
  refine rg h fun b r h=>?_
  refine rg h fun c r h=>?_
  refine rg h fun d r h=>?_
  exact BZ h (th a b c d rfl)
 clear h4
 refine n4 hl fun a b c d e=>?_;subst e
 ·refine bJ (h 0 a rfl) fun n0 u0 q1 h0=>?_;subst q1
  refine bJ (h 1 b rfl) fun n1 u1 q2 h1=>?_;subst q2
  refine bJ (h 2 c rfl) fun n2 u2 q3 h2=>?_;subst q3
  refine bJ (h 3 d rfl) fun n3 u3 q4 h3=>?_;subst q4
  exact (ba n0 n1 n2 n3 u0 (bf u1 u2 u3 rfl h0 (iPPP h1 h2 h3)))
theorem AD {a SL:Addr}{sxs:Array Value}{ns:List Int}(facts:∀ n0 n1 n2 n3,n0<10^16→n1<10^16→n2<10^16→n3<10^16→LawFacts n0 n1 n2 n3)(B:Base C mg mb g)(Sb:SubAt mg g)(Pr:Prep C mg g)(e:mg (ax (st 33))=some (.ref a))(FSL:Fz g SL (ai sxs))(hns:IntsAre sxs.toList ns)(hsz:sxs.size≤63)(rm:Rm A 170) :
  W C A (call (.ref a) [.ref SL] []) g M (fun r g' M'=>M'=M∧r=.bool true):=by
 refine aK (B.defs 33 rfl (by decide)) fun a' c0 e' Da hq=>?_
 have:a'=a:=by rw[e] at e';cases e';rfl
 subst this
 have hT:=hq (by decide)
 refine ic (k:=10) (binds:=[("script",.ref SL)]) Da B.lim rm.room (fun O=>rfl) rfl fun L as has=>?_
 obtain ⟨cS,cB,cC,cT,cP,cL,cK,cO,cD,cN,rfl⟩:∃ cS cB cC cT cP cL cK cO cD cN,as=[cS,cB,cC,cT,cP,cL,cK,cO,cD,cN]:=by
  refine rg has fun a1 r h=>?_
  refine rg h fun a2 r h=>?_
  refine rg h fun a3 r h=>?_
  refine rg h fun a4 r h=>?_
  refine rg h fun a5 r h=>?_
  refine rg h fun a6 r h=>?_
  refine rg h fun a7 r h=>?_
  refine rg h fun a8 r h=>?_
  refine rg h fun a9 r h=>?_
  refine rg h fun a10 r h=>?_
  exact BZ h (ba a1 a2 a3 a4 a5 (ba a6 a7 a8 a9 a10 rfl))
 refine aN (aH (i:=9) (by rfl) (by rfl) ?_)
 refine W_binds_nil ?_
 have rm1:Rm (A.deeper (dn L cS cB cC cT cP cL cK cO cD cN a' c0)) 169:=rm.deeper
 show W C (A.deeper (dn L cS cB cC cT cP cL cK cO cD cN a' c0)) (execs (aw (st 33)) (dn L cS cB cC cT cP cL cK cO cD cN a' c0)) g ((cN,ag none)::(cD,ag none)::(cO,ag none)::(cK,ag none)::(cL,ag none)::(cP,ag none)::(cT,ag none)::(cC,ag none)::(cB,ag none)::(cS,ag (some (.ref SL)))::(L,aJ [])::M) _
 generalize A.deeper _=A1 at *
 refine' iG (M':=(L,aJ [])::(cS,ag (some (.ref SL)))::(cB,ag none)::(cC,ag none)::(cN,ag none)::(cT,ag none)::(cP,ag none)::(cL,ag none)::(cK,ag none)::(cO,ag none)::(cD,ag none)::M) ?_ ?_
 ·refine List.Perm.append_right M (l₁:=[(cN,ag none),(cD,ag none),(cO,ag none),(cK,ag none),(cL,ag none),(cP,ag none),(cT,ag none),(cC,ag none),(cB,ag none),(cS,ag (some (.ref SL))),(L,aJ [])])
   (l₂:=[(L,aJ []),(cS,ag (some (.ref SL))),(cB,ag none),(cC,ag none),(cN,ag none),(cT,ag none),(cP,ag none),(cL,ag none),(cK,ag none),(cO,ag none),(cD,ag none)]) ?_
  refine (List.reverse_perm _).symm.trans ?_
  refine (List.perm_append_singleton (cN,ag none) [(L,aJ []),(cS,ag (some (.ref SL))),(cB,ag none),(cC,ag none),(cT,ag none),(cP,ag none),(cL,ag none),(cK,ag none),(cO,ag none),(cD,ag none)]).trans ?_
  exact (List.perm_middle (a:=(cN,ag none)) (l₁:=[(L,aJ []),(cS,ag (some (.ref SL))),(cB,ag none),(cC,ag none)]) (l₂:=[(cT,ag none),(cP,ag none),(cL,ag none),(cK,ag none),(cO,ag none),(cD,ag none)])).symm
 rw[zf]
 refine' fo fun g1 l1 FS=>?_
 replace B:=B.mono l1
 replace Sb:=Sb.mono l1
 replace Pr:=Pr.mono l1
 replace FSL:=FSL.mono l1
 clear l1
 show W C A1 (execs _ _) _ _ _
 refine' af ?_
 refine' Ba fun g2 l2 T t1 t2 t3 t4 FTp=>?_
 replace B:=B.mono l2
 replace Sb:=Sb.mono l2
 replace Pr:=Pr.mono l2
 replace FSL:=FSL.mono l2
 replace FS:=FS.mono l2
 clear l2
 refine' bI (M':=(L,aJ [])::(cB,ag (some (.ref T)))::(cC,ag none)::(cN,ag none)::(cT,ag none)::(cP,ag none)::(cL,ag none)::(cK,ag none)::(cO,ag none)::(cD,ag none)::M) (by rfl') ?_
 refine' fo fun g3 l3 FB=>?_
 replace B:=B.mono l3
 replace Sb:=Sb.mono l3
 replace Pr:=Pr.mono l3
 replace FSL:=FSL.mono l3
 replace FS:=FS.mono l3
 replace FTp:=FTp.mono l3
 clear l3
 show W C A1 (execs _ _) _ _ _
 refine' af ?_
 refine' AX B FB FTp FS FSL hns hsz rm1.le fun g4 l4 CL xs FCL h4 hx=>?_
 replace B:=B.mono l4
 replace Sb:=Sb.mono l4
 replace Pr:=Pr.mono l4
 replace FSL:=FSL.mono l4
 replace FS:=FS.mono l4
 replace FTp:=FTp.mono l4
 replace FB:=FB.mono l4
 clear l4
 refine' bI (M':=(L,aJ [])::(cC,ag (some (.ref CL)))::(cN,ag none)::(cT,ag none)::(cP,ag none)::(cL,ag none)::(cK,ag none)::(cO,ag none)::(cD,ag none)::M) (by rfl') ?_
 refine' fo fun g5 l5 FC=>?_
 replace B:=B.mono l5
 replace Sb:=Sb.mono l5
 replace Pr:=Pr.mono l5
 replace FSL:=FSL.mono l5
 replace FS:=FS.mono l5
 replace FTp:=FTp.mono l5
 replace FB:=FB.mono l5
 replace FCL:=FCL.mono l5
 clear l5
 clear FB FTp FS FSL
 refine aT (sX h4 hx) fun n0 n1 n2 n3 u0 q14=>bC q14 fun u1 u2 u3 q13 h0 q15=>ch q15 fun h1 h2 h3=>?_;clear q14 q15;subst q13
 have LF:=facts n0 n1 n2 n3 h0 h1 h2 h3
 show W C A1 (execs _ _) _ _ _
 refine' af ?_
 refine' AF B FC FCL rm1.le fun g6 l6 hf N tm ehf hN FN=>?_
 replace B:=B.mono l6
 replace Sb:=Sb.mono l6
 replace Pr:=Pr.mono l6
 replace FCL:=FCL.mono l6
 replace FC:=FC.mono l6
 clear l6
 refine' bI (M':=(L,aJ [("hand",.ref hf),("menu",.str (bp (n0%5)) tm)])::(cN,ag (some (.ref N)))::(cT,ag none)::(cP,ag none)::(cL,ag none)::(cK,ag none)::(cO,ag none)::(cD,ag none)::M) (by rfl') ?_
 refine' fo fun g7 l7 FcN=>?_
 replace B:=B.mono l7
 replace Sb:=Sb.mono l7
 replace Pr:=Pr.mono l7
 replace FCL:=FCL.mono l7
 replace FC:=FC.mono l7
 replace FN:=FN.mono l7
 clear l7
 show W C A1 (execs _ _) _ _ _
 refine' af ?_
 refine' AS (w:=n0%5) B FC FCL h0 (by rfl') fun g8 l8 tf=>?_
 replace B:=B.mono l8
 replace Sb:=Sb.mono l8
 replace Pr:=Pr.mono l8
 replace FCL:=FCL.mono l8
 replace FC:=FC.mono l8
 replace FN:=FN.mono l8
 replace FcN:=FcN.mono l8
 clear l8
 refine' bI (M':=(L,aJ [("hand",.ref hf),("menu",.str (bp (n0%5)) tm),("first",.int (fstI n0:Int) tf)])::(cT,ag none)::(cP,ag none)::(cL,ag none)::(cK,ag none)::(cO,ag none)::(cD,ag none)::M) (by rfl') ?_
 show W C A1 (execs _ _) _ _ _
 refine' af ?_
 refine' AQ B FC FCL h0 (by rfl') (by rfl') fun g9 l9 tt=>?_
 replace B:=B.mono l9
 replace Sb:=Sb.mono l9
 replace Pr:=Pr.mono l9
 replace FCL:=FCL.mono l9
 replace FC:=FC.mono l9
 replace FN:=FN.mono l9
 replace FcN:=FcN.mono l9
 clear l9
 refine' bI (M':=(L,aJ [("hand",.ref hf),("menu",.str (bp (n0%5)) tm),("first",.int (fstI n0:Int) tf)])::(cT,ag (some (.str ⟨(twoL n0).toArray⟩ tt)))::(cP,ag none)::(cL,ag none)::(cK,ag none)::(cO,ag none)::(cD,ag none)::M) (by rfl') ?_
 refine' fo fun g10 l10 FT=>?_
 replace B:=B.mono l10
 replace Sb:=Sb.mono l10
 replace Pr:=Pr.mono l10
 replace FCL:=FCL.mono l10
 replace FC:=FC.mono l10
 replace FN:=FN.mono l10
 replace FcN:=FcN.mono l10
 clear l10
 show W C A1 (execs _ _) _ _ _
 refine' af ?_
 refine' (Bg).mono ?_
 refine fun O g11 O l11 q26=>d6 q26 fun q27 PL q28 hP=>?_;clear q26;subst q27;subst q28
 replace B:=B.mono l11
 replace Sb:=Sb.mono l11
 replace Pr:=Pr.mono l11
 replace FCL:=FCL.mono l11
 replace FC:=FC.mono l11
 replace FN:=FN.mono l11
 replace FcN:=FcN.mono l11
 replace FT:=FT.mono l11
 clear l11
 refine' bI (M':=(L,aJ [("hand",.ref hf),("menu",.str (bp (n0%5)) tm),("first",.int (fstI n0:Int) tf),("pairs",.ref PL)])::(cP,ag none)::(cL,ag none)::(cK,ag none)::(cO,ag none)::(cD,ag none)::M) (by rfl') ?_
 show W C A1 (execs _ _) _ _ _
 refine' af ?_
 refine' BA FC FCL h0 hP (by rfl') rm1.h fun g12 l12 tp tb htp htb htt=>?_
 replace B:=B.mono l12
 replace Sb:=Sb.mono l12
 replace Pr:=Pr.mono l12
 replace FCL:=FCL.mono l12
 replace FC:=FC.mono l12
 replace FN:=FN.mono l12
 replace FcN:=FcN.mono l12
 replace FT:=FT.mono l12
 clear l12
 refine' bI (M':=(L,aJ [("hand",.ref hf),("menu",.str (bp (n0%5)) tm),("first",.int (fstI n0:Int) tf),("pairs",.ref PL),("both",.str (pB n0) tb)])::(cP,ag (some (.str (pA n0) tp)))::(cL,ag none)::(cK,ag none)::(cO,ag none)::(cD,ag none)::M) (by rfl') ?_
 refine' fo fun g13 l13 FP=>?_
 replace B:=B.mono l13
 replace Sb:=Sb.mono l13
 replace Pr:=Pr.mono l13
 replace FCL:=FCL.mono l13
 replace FC:=FC.mono l13
 replace FN:=FN.mono l13
 replace FcN:=FcN.mono l13
 replace FT:=FT.mono l13
 clear l13
 show W C A1 (execs _ _) _ _ _
 refine' af ?_
 refine' AH B FC FCL h0 h1 FT FP rm1.le fun g14 l14 tw=>?_
 replace B:=B.mono l14
 replace Sb:=Sb.mono l14
 replace Pr:=Pr.mono l14
 replace FCL:=FCL.mono l14
 replace FC:=FC.mono l14
 replace FN:=FN.mono l14
 replace FcN:=FcN.mono l14
 replace FT:=FT.mono l14
 replace FP:=FP.mono l14
 clear l14
 refine' bI (M':=(L,aJ [("hand",.ref hf),("menu",.str (bp (n0%5)) tm),("first",.int (fstI n0:Int) tf),("pairs",.ref PL),("both",.str (pB n0) tb),("word",.str ⟨(wordN n0 n1).toArray⟩ tw)])::(cL,ag none)::(cK,ag none)::(cO,ag none)::(cD,ag none)::M) (by rfl') ?_
 have hread:∀ {a:Addr},mg (ax (st 25))=some (.ref a)→W C A1 (call (.ref a) [.str ⟨(wordN n0 n1).toArray⟩ tw,.str (pA n0) tp,.str (pB n0) tb,.int (n2:Int) u2] []) g14 ((L,aJ [("hand",.ref hf),("menu",.str (bp (n0%5)) tm),("first",.int (fstI n0:Int) tf),("pairs",.ref PL),("both",.str (pB n0) tb),("word",.str ⟨(wordN n0 n1).toArray⟩ tw)])::(cL,ag none)::(cK,ag none)::(cO,ag none)::(cD,ag none)::M) (fun r g' M'=>M'=(L,aJ [("hand",.ref hf),("menu",.str (bp (n0%5)) tm),("first",.int (fstI n0:Int) tf),("pairs",.ref PL),("both",.str (pB n0) tb),("word",.str ⟨(wordN n0 n1).toArray⟩ tw)])::(cL,ag none)::(cK,ag none)::(cO,ag none)::(cD,ag none)::M∧∃ t,r=.str ⟨(wordN n0 n1).toArray⟩ t):=by
  intro a e25
  have h:=ua (M:=(L,aJ [("hand",.ref hf),("menu",.str (bp (n0%5)) tm),("first",.int (fstI n0:Int) tf),("pairs",.ref PL),("both",.str (pB n0) tb),("word",.str ⟨(wordN n0 n1).toArray⟩ tw)])::(cL,ag none)::(cK,ag none)::(cO,ag none)::(cD,ag none)::M) (tw:=tw) (tn:=u2) B Pr e25 htp htb htt LF.hpb LF.hwl LF.hxl (b9 h2 (by decide)) LF.hpc LF.hlow LF.hjoin rm1.le
  rw[LF.read] at h
  exact h
 show W C A1 (execs _ _) _ _ _
 refine' af ?_
 refine' AL (W0:=wordN n0 n1) B Pr FC FCL FP (by rfl') (by rfl') htp htb htt rm1.le hread fun g15 l15=>?_
 replace B:=B.mono l15
 replace Sb:=Sb.mono l15
 replace Pr:=Pr.mono l15
 replace FCL:=FCL.mono l15
 replace FC:=FC.mono l15
 replace FN:=FN.mono l15
 replace FcN:=FcN.mono l15
 replace FT:=FT.mono l15
 replace FP:=FP.mono l15
 clear l15
 clear Pr
 clear hread hP
 show W C A1 (execs _ _) _ _ _
 refine' af ?_
 refine' Bv B hT FT FP FcN FN rm1.le fun g16 l16 LL lxs FLL hlx=>?_
 replace B:=B.mono l16
 replace Sb:=Sb.mono l16
 replace FCL:=FCL.mono l16
 replace FC:=FC.mono l16
 replace FN:=FN.mono l16
 replace FcN:=FcN.mono l16
 replace FT:=FT.mono l16
 replace FP:=FP.mono l16
 clear l16
 refine' bI (M':=(L,aJ [("hand",.ref hf),("menu",.str (bp (n0%5)) tm),("first",.int (fstI n0:Int) tf),("pairs",.ref PL),("both",.str (pB n0) tb),("word",.str ⟨(wordN n0 n1).toArray⟩ tw)])::(cL,ag (some (.ref LL)))::(cK,ag none)::(cO,ag none)::(cD,ag none)::M) (by rfl') ?_
 refine' fo fun g17 l17 Fl=>?_
 replace B:=B.mono l17
 replace Sb:=Sb.mono l17
 replace FCL:=FCL.mono l17
 replace FC:=FC.mono l17
 replace FN:=FN.mono l17
 replace FcN:=FcN.mono l17
 replace FT:=FT.mono l17
 replace FP:=FP.mono l17
 replace FLL:=FLL.mono l17
 clear l17
 show W C A1 (execs _ _) _ _ _
 refine' af ?_
 refine' zg FC FCL h3 rm1.h fun g18 l18 tW tk=>?_
 replace B:=B.mono l18
 replace Sb:=Sb.mono l18
 replace FCL:=FCL.mono l18
 replace FC:=FC.mono l18
 replace FN:=FN.mono l18
 replace FcN:=FcN.mono l18
 replace FT:=FT.mono l18
 replace FP:=FP.mono l18
 replace FLL:=FLL.mono l18
 replace Fl:=Fl.mono l18
 clear l18
 refine' bI (M':=(L,aJ [("hand",.ref hf),("menu",.str (bp (n0%5)) tm),("first",.int (fstI n0:Int) tf),("pairs",.ref PL),("both",.str (pB n0) tb),("word",.str ⟨(wordN n0 n1).toArray⟩ tw),("tail",dR (fx n3) tk),("width",.int (wdN n3:Int) tW)])::(cK,ag none)::(cO,ag none)::(cD,ag none)::M) (by rfl') ?_
 show W C A1 (execs _ _) _ _ _
 refine' af ?_
 refine' Ap B FC FCL h3 Fl FLL hlx (by rfl') (by rfl') rm1.le fun g19 l19 u tr hu hune hul=>?_
 replace B:=B.mono l19
 replace Sb:=Sb.mono l19
 replace FCL:=FCL.mono l19
 replace FC:=FC.mono l19
 replace FN:=FN.mono l19
 replace FcN:=FcN.mono l19
 replace FT:=FT.mono l19
 replace FP:=FP.mono l19
 replace FLL:=FLL.mono l19
 replace Fl:=Fl.mono l19
 clear l19
 refine' bI (M':=(L,aJ [("hand",.ref hf),("menu",.str (bp (n0%5)) tm),("first",.int (fstI n0:Int) tf),("pairs",.ref PL),("both",.str (pB n0) tb),("word",.str ⟨(wordN n0 n1).toArray⟩ tw),("tail",dR (fx n3) tk),("width",.int (wdN n3:Int) tW),("root",.str (bk u) tr)])::(cK,ag none)::(cO,ag none)::(cD,ag none)::M) (by rfl') ?_
 clear FC FCL
 show W C A1 (execs _ _) _ _ _
 refine' af ?_
 refine' Ac (n3:=n3) B (by rfl') (by rfl') hu hul rm1.le fun g20 l20 R rys FR hrys=>?_
 replace B:=B.mono l20
 replace Sb:=Sb.mono l20
 replace FN:=FN.mono l20
 replace FcN:=FcN.mono l20
 replace FT:=FT.mono l20
 replace FP:=FP.mono l20
 replace FLL:=FLL.mono l20
 replace Fl:=Fl.mono l20
 clear l20
 refine' bI (M':=(L,aJ [("hand",.ref hf),("menu",.str (bp (n0%5)) tm),("first",.int (fstI n0:Int) tf),("pairs",.ref PL),("both",.str (pB n0) tb),("word",.str ⟨(wordN n0 n1).toArray⟩ tw),("tail",dR (fx n3) tk),("width",.int (wdN n3:Int) tW),("root",.str (bk u) tr),("ranks",.ref R)])::(cK,ag none)::(cO,ag none)::(cD,ag none)::M) (by rfl') ?_
 have hul0:0<u.length:=by
  cases u with
  | nil=>exact absurd rfl hune
  | cons _ _=>exact Nat.succ_pos _
 have hrl:=LF.rlen u hu
 have hrne:dl (wdN n3) u≠[]:=by
  intro e
  rw[e] at hrl
  simp at hrl
  exact jY 0 (ln2 [_] [] (.le av b6) (.lt b6 ah) (.Y 1 (.eq b6 ah)) ae hul0 hrl)
 show W C A1 (execs _ _) _ _ _
 refine' af ?_
 refine' zT (by rfl') FR hrys hrne rm1.le fun g21 l21=>?_
 replace B:=B.mono l21
 replace Sb:=Sb.mono l21
 replace FN:=FN.mono l21
 replace FcN:=FcN.mono l21
 replace FT:=FT.mono l21
 replace FP:=FP.mono l21
 replace FLL:=FLL.mono l21
 replace Fl:=Fl.mono l21
 replace FR:=FR.mono l21
 clear l21
 show W C A1 (execs _ _) _ _ _
 refine' af ?_
 refine' zQ B FT FcN FN rm1.h fun g22 l22 KD kvs FKD hkvs=>?_
 replace B:=B.mono l22
 replace Sb:=Sb.mono l22
 replace FN:=FN.mono l22
 replace FcN:=FcN.mono l22
 replace FT:=FT.mono l22
 replace FP:=FP.mono l22
 replace FLL:=FLL.mono l22
 replace Fl:=Fl.mono l22
 replace FR:=FR.mono l22
 clear l22
 refine' bI (M':=(L,aJ [("hand",.ref hf),("menu",.str (bp (n0%5)) tm),("first",.int (fstI n0:Int) tf),("pairs",.ref PL),("both",.str (pB n0) tb),("word",.str ⟨(wordN n0 n1).toArray⟩ tw),("tail",dR (fx n3) tk),("width",.int (wdN n3:Int) tW),("root",.str (bk u) tr),("ranks",.ref R)])::(cK,ag (some (.ref KD)))::(cO,ag none)::(cD,ag none)::M) (by rfl') ?_
 refine' fo fun g23 l23 FK=>?_
 replace B:=B.mono l23
 replace Sb:=Sb.mono l23
 replace FN:=FN.mono l23
 replace FcN:=FcN.mono l23
 replace FT:=FT.mono l23
 replace FP:=FP.mono l23
 replace FLL:=FLL.mono l23
 replace Fl:=Fl.mono l23
 replace FR:=FR.mono l23
 replace FKD:=FKD.mono l23
 clear l23
 show W C A1 (execs _ _) _ _ _
 refine' af ?_
 refine' zV B Sb FT FcN FN FK FKD hkvs rm1.le fun g24 l24 OD ovs hOD FOD hov hno=>?_
 replace B:=B.mono l24
 replace Sb:=Sb.mono l24
 replace FN:=FN.mono l24
 replace FcN:=FcN.mono l24
 replace FT:=FT.mono l24
 replace FP:=FP.mono l24
 replace FLL:=FLL.mono l24
 replace Fl:=Fl.mono l24
 replace FR:=FR.mono l24
 replace FKD:=FKD.mono l24
 replace FK:=FK.mono l24
 clear l24
 refine' bI (M':=(L,aJ [("hand",.ref hf),("menu",.str (bp (n0%5)) tm),("first",.int (fstI n0:Int) tf),("pairs",.ref PL),("both",.str (pB n0) tb),("word",.str ⟨(wordN n0 n1).toArray⟩ tw),("tail",dR (fx n3) tk),("width",.int (wdN n3:Int) tW),("root",.str (bk u) tr),("ranks",.ref R)])::(cO,ag (some (.ref OD)))::(cD,ag none)::M) (by rfl') ?_
 refine' fo fun g25 l25 Fo=>?_
 replace B:=B.mono l25
 replace Sb:=Sb.mono l25
 replace FN:=FN.mono l25
 replace FcN:=FcN.mono l25
 replace FT:=FT.mono l25
 replace FP:=FP.mono l25
 replace FLL:=FLL.mono l25
 replace Fl:=Fl.mono l25
 replace FR:=FR.mono l25
 replace FKD:=FKD.mono l25
 replace FK:=FK.mono l25
 replace FOD:=FOD.mono l25
 clear l25
 clear FK FKD FN FcN
 show W C A1 (execs _ _) _ _ _
 refine' af ?_
 refine' zr B Fl FLL hlx (by rfl') hu hul rm1.le fun g26 l26 SG sgx FSG hsg=>?_
 replace B:=B.mono l26
 replace Sb:=Sb.mono l26
 replace FT:=FT.mono l26
 replace FP:=FP.mono l26
 replace FLL:=FLL.mono l26
 replace Fl:=Fl.mono l26
 replace FR:=FR.mono l26
 replace FOD:=FOD.mono l26
 replace Fo:=Fo.mono l26
 clear l26
 refine' bI (M':=(L,aJ [("hand",.ref hf),("menu",.str (bp (n0%5)) tm),("first",.int (fstI n0:Int) tf),("pairs",.ref PL),("both",.str (pB n0) tb),("word",.str ⟨(wordN n0 n1).toArray⟩ tw),("tail",dR (fx n3) tk),("width",.int (wdN n3:Int) tW),("root",.str (bk u) tr),("ranks",.ref R),("signs",.ref SG)])::(cD,ag none)::M) (by rfl') ?_
 have hsl:(sigN n0 u).length=u.length:=fZ ..
 clear Fl FLL
 show W C A1 (execs _ _) _ _ _
 refine' af ?_
 refine' zd Fo hOD FOD hov hno (by rfl') FSG hsg (bw (cG hsl) hul) rm1.le fun g27 l27 LV lvs FLV hlv=>?_
 replace B:=B.mono l27
 replace Sb:=Sb.mono l27
 replace FT:=FT.mono l27
 replace FP:=FP.mono l27
 replace FR:=FR.mono l27
 replace FOD:=FOD.mono l27
 replace Fo:=Fo.mono l27
 replace FSG:=FSG.mono l27
 clear l27
 refine' bI (M':=(L,aJ [("hand",.ref hf),("menu",.str (bp (n0%5)) tm),("first",.int (fstI n0:Int) tf),("pairs",.ref PL),("both",.str (pB n0) tb),("word",.str ⟨(wordN n0 n1).toArray⟩ tw),("tail",dR (fx n3) tk),("width",.int (wdN n3:Int) tW),("root",.str (bk u) tr),("ranks",.ref R),("signs",.ref SG),("leaves",.ref LV)])::(cD,ag none)::M) (by rfl') ?_
 show W C A1 (execs _ _) _ _ _
 refine' af ?_
 refine' zB B (by rfl') FSG hsg (bw (cG hsl) hul) (by rfl') ehf rm1.le fun g28 l28 tg=>?_
 replace B:=B.mono l28
 replace Sb:=Sb.mono l28
 replace FT:=FT.mono l28
 replace FP:=FP.mono l28
 replace FR:=FR.mono l28
 replace FOD:=FOD.mono l28
 replace Fo:=Fo.mono l28
 replace FSG:=FSG.mono l28
 replace FLV:=FLV.mono l28
 clear l28
 refine' bI (M':=(L,aJ [("hand",.ref hf),("menu",.str (bp (n0%5)) tm),("first",.int (fstI n0:Int) tf),("pairs",.ref PL),("both",.str (pB n0) tb),("word",.str ⟨(wordN n0 n1).toArray⟩ tw),("tail",dR (fx n3) tk),("width",.int (wdN n3:Int) tW),("root",.str (bk u) tr),("ranks",.ref R),("signs",.ref SG),("leaves",.ref LV),("page",.str (dO n0 (sigN n0 u)) tg)])::(cD,ag none)::M) (by rfl') ?_
 refine ch (LF.plen u hu hune hul) fun p1 p2 p3=>?_
 show W C A1 (execs _ _) _ _ _
 refine' af ?_
 refine' (Ar B FP (by rfl') (bw p2 (by decide))).mono ?_
 refine fun O g29 O l29 q71=>ew q71 fun q72 td q73=>?_;clear q71;subst q72;subst q73
 replace B:=B.mono l29
 replace Sb:=Sb.mono l29
 replace FT:=FT.mono l29
 replace FP:=FP.mono l29
 replace FR:=FR.mono l29
 replace FOD:=FOD.mono l29
 replace Fo:=Fo.mono l29
 replace FSG:=FSG.mono l29
 replace FLV:=FLV.mono l29
 clear l29
 refine' bI (M':=(L,aJ [("hand",.ref hf),("menu",.str (bp (n0%5)) tm),("first",.int (fstI n0:Int) tf),("pairs",.ref PL),("both",.str (pB n0) tb),("word",.str ⟨(wordN n0 n1).toArray⟩ tw),("tail",dR (fx n3) tk),("width",.int (wdN n3:Int) tW),("root",.str (bk u) tr),("ranks",.ref R),("signs",.ref SG),("leaves",.ref LV),("page",.str (dO n0 (sigN n0 u)) tg)])::(cD,ag (some (.str (fU n0 (dO n0 (sigN n0 u))) td)))::M) (by rfl') ?_
 refine' fo fun g30 l30 Fd=>?_
 replace B:=B.mono l30
 replace Sb:=Sb.mono l30
 replace FT:=FT.mono l30
 replace FP:=FP.mono l30
 replace FR:=FR.mono l30
 replace FOD:=FOD.mono l30
 replace Fo:=Fo.mono l30
 replace FSG:=FSG.mono l30
 replace FLV:=FLV.mono l30
 clear l30
 have hll:((sigN n0 u).map (leafS n0)).length=u.length:=by rw[fZ,hsl]
 have hlf:=LF.leaf u hu
 show W C A1 (execs _ _) _ _ _
 refine' af ?_
 refine' zz B Sb (by rfl') (by rfl') (by rfl') (by rfl') FLV hlv FR hrys hll hrl hul0 hul (fun s hs=>(hlf s hs).1) (fun s hs=>(hlf s hs).2) (r8 n3) (LF.rdis u hu) rm1.le fun g31 l31 tpl trk=>?_
 replace B:=B.mono l31
 replace Sb:=Sb.mono l31
 replace FT:=FT.mono l31
 replace FP:=FP.mono l31
 replace FR:=FR.mono l31
 replace FOD:=FOD.mono l31
 replace Fo:=Fo.mono l31
 replace FSG:=FSG.mono l31
 replace FLV:=FLV.mono l31
 replace Fd:=Fd.mono l31
 clear l31
 refine' bI (M':=(L,aJ [("hand",.ref hf),("menu",.str (bp (n0%5)) tm),("first",.int (fstI n0:Int) tf),("pairs",.ref PL),("both",.str (pB n0) tb),("word",.str ⟨(wordN n0 n1).toArray⟩ tw),("tail",dR (fx n3) tk),("width",.int (wdN n3:Int) tW),("root",.str (bk u) tr),("ranks",.ref R),("signs",.ref SG),("leaves",.ref LV),("page",.str (dO n0 (sigN n0 u)) tg),("ranked",.str (jd (dl (wdN n3) u) ((sigN n0 u).map (leafS n0))) trk),("plain",.str (fW u ((sigN n0 u).map (leafS n0))) tpl)])::M) (by rfl') ?_
 show W C A1 (execs _ _) _ _ _
 refine' af ?_
 refine' zt B Sb Fd (by rfl') (by rfl') p3 p1 p2 (r8 n3) rm1.le fun g32 l32 twr=>?_
 replace B:=B.mono l32
 replace Sb:=Sb.mono l32
 replace FT:=FT.mono l32
 replace FP:=FP.mono l32
 replace FR:=FR.mono l32
 replace FOD:=FOD.mono l32
 replace Fo:=Fo.mono l32
 replace FSG:=FSG.mono l32
 replace FLV:=FLV.mono l32
 replace Fd:=Fd.mono l32
 clear l32
 refine' bI (M':=(L,aJ [("hand",.ref hf),("menu",.str (bp (n0%5)) tm),("first",.int (fstI n0:Int) tf),("pairs",.ref PL),("both",.str (pB n0) tb),("word",.str ⟨(wordN n0 n1).toArray⟩ tw),("tail",dR (fx n3) tk),("width",.int (wdN n3:Int) tW),("root",.str (bk u) tr),("ranks",.ref R),("signs",.ref SG),("leaves",.ref LV),("page",.str (dO n0 (sigN n0 u)) tg),("ranked",.str (jd (dl (wdN n3) u) ((sigN n0 u).map (leafS n0))) trk),("plain",.str (fW u ((sigN n0 u).map (leafS n0))) tpl),("written",.str (iB (fU n0 (dO n0 (sigN n0 u))).cps.toList ((dO n0 (sigN n0 u)).cps.toList.map sing)) twr)])::M) (by rfl') ?_
 rw[LF.ranked u hu hune hul,LF.written u hu hune hul]
 show W C A1 (execs _ _) _ _ _
 refine' af ?_
 refine' ze FT Fo FOD hov (by rfl') (by rfl') (by rfl') (LF.plain u hu hune hul) LF.own rm1.h fun g33 l33=>?_
 replace B:=B.mono l33
 replace Sb:=Sb.mono l33
 replace FT:=FT.mono l33
 replace FP:=FP.mono l33
 replace FR:=FR.mono l33
 replace FOD:=FOD.mono l33
 replace Fo:=Fo.mono l33
 replace FSG:=FSG.mono l33
 replace FLV:=FLV.mono l33
 replace Fd:=Fd.mono l33
 clear l33
 exact (an ([_]) M rfl rfl rfl)
end
end
noncomputable def lettersL:List Nat:=[102,105,104,122,107,119,98,118,114,115,110]
noncomputable def signsL:List Nat:=[38,60,62,34,13,10,9]
noncomputable def hC (c:Nat)(x:Str):Bool:=eC c&&dZ c==x&&!Builtin.Str.tooLong (Txt.lower ⟨#[c]⟩).length
theorem wM:∀ c∈signsL,hC c (sing c)=true:=by decide +kernel
theorem sm:∀ i,i<27→eC (ju.getD i 0).toNat=false:=by decide +kernel
theorem tI:∀ f,f<12→∀ c∈lettersL,hC (alphL.getD f 0+c-97) (sing c)=true:=by
 intro f hf
 refine sq hf (by decide +kernel) fun f hf=>?_
 refine sq hf (by decide +kernel) fun f hf=>?_
 refine sq hf (by decide +kernel) fun f hf=>?_
 refine sq hf (by decide +kernel) fun f hf=>?_
 refine sq hf (by decide +kernel) fun f hf=>?_
 refine sq hf (by decide +kernel) fun f hf=>?_
 refine sq hf (by decide +kernel) fun f hf=>?_
 refine sq hf (by decide +kernel) fun f hf=>?_
 refine sq hf (by decide +kernel) fun f hf=>?_
 refine sq hf (by decide +kernel) fun f hf=>?_
 refine sq hf (by decide +kernel) fun f hf=>?_
 refine sq hf (by decide +kernel) fun f hf=>?_
 exact Cz hf
theorem oy (x y z:Str)(hy:y.length≠0):∃ parts,Str.join y parts=x∧Txt.replace x y z=Str.join z parts:=by
 unfold Txt.replace
 have h0:(y.length==0&&z.length==0)=false:=by simp[hy]
 rw[h0,Bool.or_false]
 cases he:(Builtin.Str.occurrences x y 0 x.length (x.length+1)).isEmpty
 ·rw[if_neg jo]
  refine (aG (Builtin.Str.partsBetween x (Builtin.Str.occurrences x y 0 x.length (x.length+1)) y.length) ?_ (StrLaws.glued_eq_join _ _))
  refine bK (StrLaws.occ_chain x y (x.length+1)) fun f h=>?_
  rw[StrLaws.partsBetween_eq,StrLaws.join_partsFrom x y _ 0 f h,StrLaws.sub_whole]
 ·rw[if_pos rfl]
  exact (aG ([x]) rfl rfl)
theorem nn {y:Str}{c:Nat}:∀ {parts:List Str}{p:Str},p∈parts→c∈p.cps.toList→c∈(Str.join y parts).cps.toList
 | [],_,h,_=>nomatch h
 | [q],p,h,hc=>by
  obtain rfl:=List.mem_singleton.mp h
  exact hc
 | q::r::s,p,h,hc=>by
  have e:Str.join y (q::r::s)=q++y++Str.join y (r::s):=rfl
  rw[e,dx,dx]
  rcases List.mem_cons.mp h with rfl|h
  ·exact List.mem_append_left _ (List.mem_append_left _ hc)
  ·exact uQ _ (nn h hc)
theorem nl {y z:Str}(h:z.length≤y.length):∀ parts:List Str,(Str.join z parts).length≤(Str.join y parts).length
 | []=>dX _
 | [q]=>dX _
 | q::r::s=>by
  have e1:Str.join y (q::r::s)=q++y++Str.join y (r::s):=rfl
  have e2:Str.join z (q::r::s)=q++z++Str.join z (r::s):=rfl
  have ih:=nl h (r::s)
  rw[e1,e2,cq,cq,cq,cq]
  exact ln2 [_,_,_,_,_] [] (.le (.a (.a ah am) ao) (.a (.a ah aM) bD)) (.le am aM) (.le ao bD) ae h ih
theorem rI {z:Str}{c:Nat}:∀ {parts:List Str},c∈(Str.join z parts).cps.toList→c∈z.cps.toList∨∃ p∈parts,c∈p.cps.toList
 | [],h=>by cases h
 | [q],h=>.inr (aG q (.head _) h)
 | q::r::s,h=>by
  have e:Str.join z (q::r::s)=q++z++Str.join z (r::s):=rfl
  rw[e,dx,dx,pd,pd] at h
  rcases h with (h|h)|h
  ·exact .inr (aG q (.head _) h)
  ·exact .inl h
  ·rcases rI h with h|⟨p,hp,hc⟩
   ·exact .inl h
   ·exact .inr (aG p (.tail _ hp) hc)
theorem tz {word pair:Str}{b number:Nat}(hp:pair.length=2)(hb:b ∉ word.cps.toList) :
  sub b pair.cps.toList (typedX word pair (sing b) number).cps.toList=word.cps.toList∧(typedX word pair (sing b) number).length≤word.length∧∀ c∈(typedX word pair (sing b) number).cps.toList,c=b∨c∈word.cps.toList:=by
 unfold typedX
 by_cases h:number%2=1
 ·rw[if_pos h]
  refine aL (oy word pair (sing b) (df (aQ [_] [] (.lt b6 ah) (.Y 1 (.eq ah cH)) ae hp))) fun parts h1 h2=>?_
  have hfree:∀ p∈parts,b ∉ p.cps.toList:=fun p hm hc=>hb (by rw[← h1];exact nn hm hc)
  refine (iPPP ?_ ?_ ?_)
  ·rw[h2]
   show sub b pair.cps.toList (Str.join ⟨#[b]⟩ parts).cps.toList=_
   rw[n5 b pair parts hfree,h1]
  ·rw[h2]
   have:=nl (y:=pair) (z:=sing b) (by rw[hp];show 1≤2;exact by decide) parts
   rw[h1] at this
   exact this
  ·intro c hc
   rw[h2] at hc
   rcases rI hc with h|⟨p,hm,hc⟩
   ·exact .inl (List.mem_singleton.mp h)
   ·exact .inr (by rw[← h1];exact nn hm hc)
 ·rw[if_neg h]
  exact (iPPP (dj hb) (dX _) (fun c hc=>.inr hc))
noncomputable def gg (l:List Nat):List Nat:=((l.filter eC).map fun c=>(dZ c).cps.toList).flatten
theorem iq (a b:List Nat):gg (a++b)=gg a++gg b:=by
 unfold gg
 rw[s5,ζ18,ζ117]
theorem vA {c:Nat}{x:Str}(h:hC c x=true):gg [c]=x.cps.toList:=by
 unfold hC at h
 simp only[iO,beq_iff_eq] at h
 unfold gg
 rw[oS,h.1.1,if_pos rfl,List.filter_nil,dC,oH,h.1.2]
 simp
theorem mP {number k:Nat}:gg [markR number k]=[]:=by
 have h:=sm (number/(k+2)%27) (cQ _ (by decide))
 unfold gg markR
 rw[oS,h]
 rfl
structure TypedOk (pair:Str) (b:Nat) (l:List Nat):Prop where
 two:pair.length=2
 low:∀ c∈pair.cps.toList,c∈lettersL
 both:hC b pair=true∧b ∉ pair.cps.toList
 all:∀ c∈l,c=b∨c∈pair.cps.toList∨(c∈signsL∧c ∉ pair.cps.toList∧c≠b)
theorem uh {pair:Str}{b f c:Nat}{l:List Nat}(h:TypedOk pair b l)(hc:c∈l):hC (fO pair f c) ⟨(sub b pair.cps.toList [c]).toArray⟩=true:=by
 unfold fO
 have hcon:Txt.contains pair (sing c)=decide (c∈pair.cps.toList):=gZ pair c
 rw[hcon]
 rcases h.all c hc with rfl|hp|⟨hs,hn,hb⟩
 ·rw[if_neg (by simpa using h.both.2),sub_self]
  exact h.both.1
 ·rw[if_pos (by simpa using hp)]
  have hb:c≠b:=fun e=>h.both.2 (e▸hp)
  rw[dj (by simpa using Ne.symm hb)]
  exact tI _ (cQ _ (by decide)) c (h.low c hp)
 ·rw[if_neg (by simpa using hn),dj (by simpa using Ne.symm hb)]
  exact wM c hs
theorem qp {pair:Str}{b number k c:Nat}{l:List Nat}(h:TypedOk pair b l)(hc:c∈l):gg (eI pair number k c)=sub b pair.cps.toList [c]:=by
 have hb:=vA (uh (f:=figR number k) h hc)
 unfold eI
 split
 ·exact hb
 ·split
  ·show gg ([markR number k]++[fO pair (figR number k) c])=_
   rw[iq,mP,hb]
   rfl
  ·show gg ([fO pair (figR number k) c]++[markR number k])=_
   rw[iq,mP,hb,tD]
theorem io {pair x:Str}{b number:Nat}(h:TypedOk pair b x.cps.toList):∀ k,k≤x.cps.size→gg (typedUp pair number x k)=sub b pair.cps.toList (x.cps.toList.take k)
 | 0,_=>rfl
 | k+1,hk=>by
  have hlt:k<x.cps.toList.length:=by rw[fA];exact hk
  have hc:x.cps.getD k 0=x.cps.toList[k]:=by
   have:k<x.cps.size:=by exact hk
   simp[this]
  rw[typedUp,iq,io h k (bY hk),hc,qp h (me hlt),← hY,List.take_succ,List.getElem?_eq_getElem hlt]
  rfl
theorem lZ {pair x:Str}{number c:Nat}:∀ {k:Nat},k≤x.cps.size→c∈typedUp pair number x k→(∃ m,c=markR number m)∨∃ m d,d∈x.cps.toList∧c=fO pair (figR number m) d
 | 0,_,h=>nomatch h
 | k+1,hk,h=>by
  rw[typedUp,pd] at h
  rcases h with h|h
  ·exact lZ (bY hk) h
  ·have hlt:k<x.cps.toList.length:=by rw[fA];exact hk
   have hd:x.cps.getD k 0∈x.cps.toList:=by
    have h2:k<x.cps.size:=by exact hk
    have:x.cps.getD k 0=x.cps.toList[k]:=by simp[h2]
    rw[this]
    exact me hlt
   unfold eI at h
   split at h
   ·obtain rfl:=List.mem_singleton.mp h
    exact .inr (bV k _ hd rfl)
   ·split at h
    ·rcases List.mem_cons.mp h with rfl|h
     ·exact .inl ⟨k,rfl⟩
     ·obtain rfl:=List.mem_singleton.mp h
      exact .inr (bV k _ hd rfl)
    ·rcases List.mem_cons.mp h with rfl|h
     ·exact .inr (bV k _ hd rfl)
     ·obtain rfl:=List.mem_singleton.mp h
      exact .inl ⟨k,rfl⟩
theorem kq:∀ w,w<5→∀ i,i<(bp w).length→dg w i∈signsL:=by decide +kernel
theorem nG:∀ i,i<10→(∀ c∈(pairsL.getD i ("","")).1.cps.toList,c∈lettersL)∧(pairsL.getD i ("","")).1.length=2∧(pairsL.getD i ("","")).2=sing ((pairsL.getD i ("","")).2.cps.getD 0 0)∧hC ((pairsL.getD i ("","")).2.cps.getD 0 0) (pairsL.getD i ("","")).1=true∧8000≤(pairsL.getD i ("","")).2.cps.getD 0 0:=by decide +kernel
theorem kG:∀ c∈lettersL,97≤c∧c≤122:=by decide
theorem gR:∀ c∈signsL,c≤62:=by decide
noncomputable def bN (n0:Nat):Nat:=(pB n0).cps.getD 0 0
theorem vr {n0 c:Nat}(h:c∈jQ n0):c∈signsL∨c∈(pA n0).cps.toList:=by
 refine ch (tQ n0) fun i1 i2 i3=>?_
 have h5:=cQ n0 (show 0<5 by decide)
 unfold jQ at h
 rw[lE]
 simp only[mh,mr,or_false] at h ⊢
 rcases h with rfl|rfl|rfl|rfl
 ·exact .inl (kq _ h5 _ i1)
 ·exact .inl (kq _ h5 _ i2)
 ·exact .inr (.inl rfl)
 ·exact .inr (.inr rfl)
theorem kE (n0 n1 n2:Nat):TypedOk (pA n0) (bN n0) (typedX ⟨(wordN n0 n1).toArray⟩ (pA n0) (pB n0) n2).cps.toList∧sub (bN n0) (pA n0).cps.toList (typedX ⟨(wordN n0 n1).toArray⟩ (pA n0) (pB n0) n2).cps.toList=wordN n0 n1 ∧
  (typedX ⟨(wordN n0 n1).toArray⟩ (pA n0) (pB n0) n2).length≤7:=by
 have hi:pI n0<10:=cQ _ (by decide)
 refine di (nG (pI n0) hi) fun q1 q2 q3 q4 q5=>?_
 have q1:∀ c∈(pA n0).cps.toList,c∈lettersL:=q1
 have q2:(pA n0).length=2:=q2
 have q3:pB n0=sing (bN n0):=q3
 have q4:hC (bN n0) (pA n0)=true:=q4
 have q5:8000≤bN n0:=q5
 have hpl:∀ c∈(pA n0).cps.toList,c≤122:=fun c hc=>(kG c (q1 c hc)).2
 have hw:∀ c∈wordN n0 n1,c∈signsL∨c∈(pA n0).cps.toList:=fun c hc=>vr (jR hc)
 have hbw:bN n0 ∉ (⟨(wordN n0 n1).toArray⟩:Str).cps.toList:=by
  intro h
  have h:bN n0∈wordN n0 n1:=by simpa using h
  rcases hw _ h with h|h
  ·have:=gR _ h;exact jY 0 (ln2 [_] [] (.le av b6) (.le (.l 8000) ah) (.le ah rj) ae q5 this)
  ·have:=hpl _ h;exact jY 0 (ln2 [_] [] (.le av b6) (.le (.l 8000) ah) (.le ah (.l 122)) ae q5 this)
 refine ch (tz (number:=n2) q2 hbw) fun t1 t2 t3=>?_
 rw[← q3] at t1 t2 t3
 have hwl:=jh n0 n1
 refine (iPPP ⟨q2,q1,⟨q4,fun h=>by have:=hpl _ h;exact jY 0 (ln2 [_] [] (.le av b6) (.le (.l 8000) ah) (.le ah (.l 122)) ae q5 this)⟩,fun c hc=>?_⟩ (by simpa using t1) ?_)
 ·rcases t3 c hc with h|h
  ·exact .inl h
  ·have h:c∈wordN n0 n1:=by simpa using h
   rcases hw c h with h|h
   ·refine .inr (.inr (iPPP h (fun h2=>?_) (fun e=>?_)))
    ·have h3:=gR _ h
     have:=(kG c (q1 c h2)).1
     exact jY 0 (ln2 [_] [] (.le av b6) (.le ah rj) (.le mo ah) ae h3 this)
    ·have h3:=gR _ h
     exact jY 0 (cZ [_,_] [] (.le av b6) (.le (.l 8000) ah) (.Y 1 (.eq am ah)) (.le am rj) ae q5 e h3)
   ·exact .inr (.inl h)
 ·have:(⟨(wordN n0 n1).toArray⟩:Str).length=(wordN n0 n1).length:=by show (wordN n0 n1).toArray.size=_;simp
  exact bw t2 (bw (cG this) hwl.2)
theorem s7 (n0 n1 n2:Nat):r7 ⟨(wordN n0 n1).toArray⟩ (pA n0) (pB n0) n2=⟨(wordN n0 n1).toArray⟩:=by
 refine ch (kE n0 n1 n2) fun h1 h2 h3=>?_
 apply gf
 unfold r7
 dsimp only
 rw[eH,jW]
 have e:=io (number:=n2) h1 _ (dX _)
 have e3:List.take (typedX ⟨(wordN n0 n1).toArray⟩ (pA n0) (pB n0) n2).cps.size (typedX ⟨(wordN n0 n1).toArray⟩ (pA n0) (pB n0) n2).cps.toList=(typedX ⟨(wordN n0 n1).toArray⟩ (pA n0) (pB n0) n2).cps.toList:=sL (by rw[fA];exact dX _)
 rw[e3,h2] at e
 unfold gg at e
 rw[← jW]
 rw[jW]
 exact e
theorem xm (n0 n1 n2:Nat):∀ c∈typedUp (pA n0) n2 (typedX ⟨(wordN n0 n1).toArray⟩ (pA n0) (pB n0) n2) (typedX ⟨(wordN n0 n1).toArray⟩ (pA n0) (pB n0) n2).cps.size,eC c=true→Builtin.Str.tooLong (Txt.lower ⟨#[c]⟩).length=false:=by
 refine ch (kE n0 n1 n2) fun h1 h2 h3=>?_
 intro c hc hn
 rcases lZ (dX _) hc with ⟨m,rfl⟩|⟨m,d,hd,rfl⟩
 ·have:=sm (n2/(m+2)%27) (cQ _ (by decide))
  unfold markR at hn
  rw[this] at hn
  cases hn
 ·have:=uh (f:=figR n2 m) h1 hd
  unfold hC at this
  simp only[iO,Bool.not_eq_true'] at this
  exact this.2
theorem xE (n0 n1 n2:Nat):(((((typedUp (pA n0) n2 (typedX ⟨(wordN n0 n1).toArray⟩ (pA n0) (pB n0) n2) (typedX ⟨(wordN n0 n1).toArray⟩ (pA n0) (pB n0) n2).cps.size).filter eC).map dZ)).map (·.length)).sum≤16777216:=by
 refine ch (kE n0 n1 n2) fun h1 h2 h3=>?_
 rw[sum_flat,jW]
 have e:=io (number:=n2) h1 _ (dX _)
 have e3:List.take (typedX ⟨(wordN n0 n1).toArray⟩ (pA n0) (pB n0) n2).cps.size (typedX ⟨(wordN n0 n1).toArray⟩ (pA n0) (pB n0) n2).cps.toList=(typedX ⟨(wordN n0 n1).toArray⟩ (pA n0) (pB n0) n2).cps.toList:=sL (by rw[fA];exact dX _)
 rw[e3,h2] at e
 unfold gg at e
 have hwl:=jh n0 n1
 show (List.map (fun c=>(dZ c).cps.toList) _).flatten.length≤_
 rw[e]
 exact bw hwl.2 (by decide)
theorem tK {p a b:List Nat}:p++a<p++b↔a<b:=by
 induction p with
 | nil=>exact Iff.rfl
 | cons c r ih =>
  rw[lC,lC,qR]
  constructor
  ·rintro (h|⟨_,h⟩)
   ·exact absurd h (ro _)
   ·exact ih.mp h
  ·exact fun h=>.inr ⟨rfl,ih.mpr h⟩
theorem pV {p x y:List Nat}{a b:Nat}(h:a<b):p++a::x<p++b::y:=tK.mpr (List.cons_lt_cons_iff.mpr (.inl h))
theorem oc:∀ {x y:List Nat},x<y→(∃ r,r≠[]∧y=x++r)∨∃ p a b x' y',x=p++a::x'∧y=p++b::y'∧a<b
 | [],[],h=>absurd h (nK _)
 | [],b::y,_=>.inl (aG (b::y) (by simp) rfl)
 | a::x,[],h=>absurd h (List.not_lt_nil _)
 | a::x,b::y,h=>by
  rcases List.cons_lt_cons_iff.mp h with h'|⟨rfl,h'⟩
  ·exact .inr (ba ([]) a b x y (iPPP rfl rfl h'))
  ·rcases oc h' with ⟨r,hr,e⟩|⟨p,c,d,x',y',e1,e2,hl⟩
   ·exact .inl (aG r hr (by rw[e];rfl))
   ·exact .inr (ba (a::p) c d x' y' (iPPP (by rw[e1];rfl) (by rw[e2];rfl) hl))
theorem ei {x:List Nat}{k high:Nat}(h:k≤high):(x.drop k).take (high-k)++x.drop high=x.drop k:=by
 have:x.drop high=(x.drop k).drop (high-k):=by rw[oV];congr 1;exact aQ [_,_,_] [] (.eq ah (.a am ao)) (.Y 1 (.eq (.a ao am) ah)) ae (bn h)
 rw[this,rt]
theorem pM {x:List Nat}{i j:Nat}(hi:i≤x.length)(hj:j≤x.length)(h:i≠j):x.drop i≠x.drop j:=by
 intro e
 have:=congrArg List.length e
 rw[gA,gA] at this
 exact jY 0 (gh [_,_,_,_,_] [] (.le av b6) (.eq ah am) (.le ao (.a ah aM)) (.eq (.a am bD) ao) (.lt aM bD) ae this (aE _ _) (bn hj) (gz (cZ [_,_,_,_,_] [] (.le ah am) (.Y 1 (.eq ao aM)) (.le bD (.a aM am)) (.eq (.a ao ah) bD) ae this (aE _ _) (bn hi)) h))
theorem o5 {x:List Nat}{low high m:Nat}(h1:low<m)(h2:m<high)(h3:high≤x.length)(inv:∀ k,low<k→k<high→x.drop high<x.drop k)(hmin:∀ k,low<k→k<high→k≠m→x.drop m<x.drop k):cutE x low high=m:=by
 have hW:∀ k,k<high→((x.drop k).take (high-k)).length=high-k:=fun k hk=>by rw[js,gA];exact qm (cZ [_,_,_,_,_] [] (.le ah am) (.le ao aM) (.le aM (.a am bD)) (.eq (.a ah bD) ao) ae h3 (aE _ _) (bn (bY hk)))
 have hm:mq ((x.drop m).take (high-m))=true:=by
  unfold mq
  refine decide_eq_true ?_
  unfold i4
  rw[List.filter_eq_nil_iff]
  intro k hk
  refine aL (List.mem_map.mp hk) fun i hi q1=>?_;subst q1
  rw[List.mem_range,hW m h2] at hi
  have hWj:((x.drop m).take (high-m)).drop (1+i)=(x.drop (m+(1+i))).take (high-(m+(1+i))):=by
   rw[List.drop_take,oV];congr 1;exact Nat.sub_sub _ _ _
  rw[hWj]
  have hj:m+(1+i)<high:=by exact cZ [_,_,_,_,_] [] (.lt (.a ah (.a av am)) ao) (.lt am aM) (.eq (.a aM av) bD) (.eq (.a bD ah) ao) ae hi (bn (ln2 [_,_,_] [] (.le av ah) (.lt am ao) (.le ao (.a ah am)) ae h2 (aE _ _))) (bn (bY h2))
  have hmj:m<m+(1+i):=by exact eF [_,_] [] (.lt ah (.a ah (.a av am))) ae
  generalize m+(1+i)=j at *
  intro hlt
  have hlt:=of_decide_eq_true hlt
  have hS:=hmin j (b9 h1 (bY hmj)) hj (df hmj)
  have e1:=ei (x:=x) (bY hj)
  have e2:=ei (x:=x) (bY h2)
  rcases oc hlt with ⟨r,hr,e⟩|⟨p,a,b,x',y',e3,e4,hab⟩
  ·have hp:x.drop (m+(high-j))=r++x.drop high:=by
    have:x.drop (m+(high-j))=(x.drop m).drop (high-j):=by rw[oV]
    rw[this,← e2,e,iY,List.drop_append,hW j hj]
    simp[List.drop_of_length_le (cG (hW j hj))]
   have hinv:=inv (m+(high-j)) (b9 h1 (dG _ _)) (ln2 [_,_,_,_] [] (.lt (.a ah am) ao) (.lt ah aM) (.eq (.a am aM) ao) ae hmj (bn (bY hj)))
   rw[hp] at hinv
   have:x.drop j<x.drop m:=by
    rw[← e1,← e2,e,iY]
    exact tK.mpr hinv
   exact nK _ (qP hS this)
  ·have:x.drop j<x.drop m:=by
    rw[← e1,← e2,e3,e4,iY,iY]
    exact pV hab
   exact nK _ (qP hS this)
 have hk:∀ k,low<k→k<m→mq ((x.drop k).take (high-k))=false:=by
  intro k hk1 hk2
  unfold mq
  refine decide_eq_false ?_
  unfold i4
  intro he
  rw[List.filter_eq_nil_iff] at he
  have hmem:m-k∈(List.range (((x.drop k).take (high-k)).length-1)).map (1+·):=by
   refine List.mem_map.mpr (aG (m-k-1) ?_ (aQ [_,_] [] (.eq (.a av ah) am) (.eq (.a ah av) am) ae (bn (ln2 [_,_,_] [] (.le av ah) (.lt am ao) (.le ao (.a ah am)) ae hk2 (aE _ _)))))
   rw[List.mem_range,hW k (b9 hk2 (bY h2))]
   exact vc [_,_,_,_,_,_,_] [] (.lt ah am) (.lt ao aM) (.le bD (.a am av)) (.le aM (.a bD dc)) (.eq (.a ah av) ke) (.eq (.a ke dc) ao) ae h2 (aE _ _) (aE _ _) (bn (ln2 [_,_,_] [] (.le av ah) (.lt am ao) (.le ao (.a ah am)) ae hk2 (aE _ _))) (bn (bY hk2))
  refine he (m-k) hmem (decide_eq_true ?_)
  have hWm:((x.drop k).take (high-k)).drop (m-k)=(x.drop m).take (high-m):=by
   rw[List.drop_take,oV]
   congr 1
   ·exact gh [_,_,_,_,_,_,_] [] (.eq ah am) (.eq (.a ao aM) bD) (.Y 1 (.eq (.a dc aM) ke)) (.Y 1 (.eq (.a am ke) bD)) (.eq (.a ah dc) ao) ae (bn (ln2 [_,_,_] [] (.le ah am) (.lt ao am) (.lt ah ao) ae h2 hk2)) (bn (bY hk2)) (bn (bY h2)) (bn (cZ [_,_,_,_,_] [] (.le ah am) (.lt ao aM) (.le aM (.a am bD)) (.eq (.a ah bD) ao) ae h2 (aE _ _) (bn (bY hk2))))
   ·congr 1;exact aQ [_,_,_] [] (.eq (.a ah am) ao) (.eq (.a am ah) ao) ae (bn (bY hk2))
  rw[hWm]
  have hS:=hmin k hk1 (b9 hk2 (bY h2)) (eE hk2)
  have e1:=ei (x:=x) (k:=k) (high:=high) (bY (b9 hk2 (bY h2)))
  have e2:=ei (x:=x) (bY h2)
  have hl1:=hW k (b9 hk2 (bY h2))
  have hl2:=hW m h2
  by_cases hlt:(x.drop m).take (high-m)<(x.drop k).take (high-k)
  ·exact hlt
  ·exfalso
   by_cases hgt:(x.drop k).take (high-k)<(x.drop m).take (high-m)
   ·rcases oc hgt with ⟨r,hr,e⟩|⟨p,a,b,x',y',e3,e4,hab⟩
    ·have:=congrArg List.length e
     rw[ζ17] at this
     exact jY 0 (BN [_,_,_,_,_,_,_,_] [] (.le av b6) (.lt ah am) (.Y 1 (.eq ao aM)) (.eq bD dc) (.Y 1 (.eq bD (.a ao ke))) (.le we (.a aM ah)) (.eq (.a dc am) we) ae hk2 hl1 hl2 this (aE _ _) (bn (bY h2)))
    ·have:x.drop k<x.drop m:=by
      rw[← e1,← e2,e3,e4,iY,iY]
      exact pV hab
     exact nK _ (qP hS this)
   ·have:=congrArg List.length (kV hlt hgt)
    exact jY 0 (BN [_,_,_,_,_,_,_] [] (.le av b6) (.lt ah am) (.Y 1 (.eq ao aM)) (.eq bD dc) (.Y 1 (.eq bD ao)) (.le ke (.a aM ah)) (.eq (.a dc am) ke) ae hk2 hl1 hl2 this (aE _ _) (bn (bY h2)))
 unfold cutE eg
 have hr:List.range (high-low-1)=List.range (m-low-1)++(m-low-1)::(List.range (high-m-1)).map (m-low+·):=by
  have:high-low-1=(m-low-1)+(1+(high-m-1)):=by lia
  rw[this,List.range_add,List.range_add]
  congr 1
  simp only[List.range_one,ζ18,dC,oH,jW,xp]
  congr 1
  apply List.map_congr_left
  intro i _
  simp only[Function.comp]
  exact aQ [_,_,_] [] (.eq (.a ah (.a av am)) (.a ao am)) (.eq (.a ah av) ao) ae (bn (ln2 [_,_,_] [] (.le av ah) (.lt am ao) (.le ao (.a ah am)) ae h1 (aE _ _)))
 rw[hr,ζ18,s5,dC]
 have hnil:((List.range (m-low-1)).map (low+1+·)).filter (fun k=>mq ((x.drop k).take (high-k)))=[]:=by
  rw[List.filter_eq_nil_iff]
  intro k hkm
  refine aL (List.mem_map.mp hkm) fun i hi q2=>?_;subst q2
  rw[List.mem_range] at hi
  rw[hk _ (by exact eF [_,_] [] (.lt ah (.a (.a ah av) am)) ae) (by exact cZ [_,_,_,_,_] [] (.lt (.a (.a ah av) am) ao) (.lt am aM) (.eq (.a aM av) bD) (.eq (.a bD ah) ao) ae hi (bn (ln2 [_,_,_] [] (.le av ah) (.lt am ao) (.le ao (.a ah am)) ae h1 (aE _ _))) (bn (bY h1)))]
  simp
 have hmm:low+1+(m-low-1)=m:=by exact ln2 [_,_,_,_] [] (.eq (.a (.a ah av) am) ao) (.eq (.a am av) aM) (.eq (.a aM ah) ao) ae (bn (ln2 [_,_,_] [] (.le av ah) (.lt am ao) (.le ao (.a ah am)) ae h1 (aE _ _))) (bn (bY h1))
 rw[hnil,si,hmm,oS,hm,if_pos rfl]
 rfl
theorem gy {f f':Nat→Nat→Bool}:∀ {k:Nat},(∀ i j,i≤k→j≤k→f i j=f' i j)→argBest f k=argBest f' k
 | 0,_=>rfl
 | k+1,h=>by
  have ih:=gy (k:=k) fun i j hi hj=>h i j (bw hi (dG _ _)) (bw hj (dG _ _))
  unfold argBest
  rw[ih,h (k+1) (argBest f' k) (dX _) (bw (fa _ _) (fB _))]
theorem oT {lt:Nat→Nat→Bool}{key:Nat→List Nat}{low high:Nat}(h:low+2≤high)(hlt:∀ i j,low<i→i<high→low<j→j<high→lt i j=decide (key i<key j)) :
  low<fw lt low high∧fw lt low high<high∧∀ k,low<k→k<high→¬ key k<key (fw lt low high):=by
 have hb:=je lt high low high h (dX _)
 refine (iPPP hb.1 hb.2 (fun k h1 h2=>?_))
 have e:argBest (fun i j=>lt (low+1+i) (low+1+j)) (high-low-2)=argBest (fun i j=>decide (key (low+1+i)<key (low+1+j))) (high-low-2) :=
  gy fun i j hi hj=>hlt _ _ (eF [_,_] [] (.lt ah (.a (.a ah av) am)) ae) (cZ [_,_,_,_,_] [] (.lt (.a (.a ah av) am) ao) (.le am aM) (.eq (.a aM cH) bD) (.eq (.a bD ah) ao) ae hi (bn (ln2 [_,_,_] [] (.le cH ah) (.le (.a am cH) ao) (.le ao (.a ah am)) ae h (aE _ _))) (bn (aQ [_,_] [] (.le ah am) (.le (.a ah cH) am) ae h))) (eF [_,_] [] (.lt ah (.a (.a ah av) am)) ae) (cZ [_,_,_,_,_] [] (.lt (.a (.a ah av) am) ao) (.le am aM) (.eq (.a aM cH) bD) (.eq (.a bD ah) ao) ae hj (bn (ln2 [_,_,_] [] (.le cH ah) (.le (.a am cH) ao) (.le ao (.a ah am)) ae h (aE _ _))) (bn (aQ [_,_] [] (.le ah am) (.le (.a ah cH) am) ae h)))
 have:=iz (fun a b:List Nat=>decide (a<b)) (fun a b c h1 h2=>decide_eq_true (qP (of_decide_eq_true h1) (of_decide_eq_true h2))) (fun a=>decide_eq_false (nK _)) (fun i=>key (low+1+i)) (high-low-2) (k-low-1) (vc [_,_,_,_,_,_,_] [] (.le ah am) (.lt ao aM) (.le bD (.a am cH)) (.le aM (.a bD dc)) (.eq (.a ah av) ke) (.eq (.a ke dc) ao) ae h2 (aE _ _) (aE _ _) (bn (ln2 [_,_,_] [] (.le av ah) (.lt am ao) (.le ao (.a ah am)) ae h1 (aE _ _))) (bn (bY h1)))
 have hk:low+1+(k-low-1)=k:=by exact ln2 [_,_,_,_] [] (.eq (.a (.a ah av) am) ao) (.eq (.a am av) aM) (.eq (.a aM ah) ao) ae (bn (ln2 [_,_,_] [] (.le av ah) (.lt am ao) (.le ao (.a ah am)) ae h1 (aE _ _))) (bn (bY h1))
 rw[hk] at this
 unfold fw
 rw[e]
 exact of_decide_eq_false this
theorem iX {x:List Nat}{lt:Nat→Nat→Bool}{ls:List Str}(hlt:∀ i j,i<x.length→j<x.length→lt i j=decide (x.drop i<x.drop j)):∀ (fuel low high:Nat),low<high→high≤x.length→(∀ k,low<k→k<high→x.drop high<x.drop k) →
  dH (fw lt) ls fuel low high=dH (cutE x) ls fuel low high
 | 0,_,_,_,_,_=>rfl
 | fuel+1,low,high,h1,h2,inv=>by
  unfold dH
  by_cases q:high-low=1
  ·rw[if_pos q,if_pos q]
  ·rw[if_neg q,if_neg q]
   refine ch (oT (key:=fun k=>x.drop k) (low:=low) (high:=high) (ln2 [_,_,_] [] (.le (.a ah cH) am) (.eq (.a ao ah) am) (.lt av ao) ae (bn (bY h1)) (gz (ln2 [_,_,_] [] (.le av ah) (.lt am ao) (.le ao (.a ah am)) ae h1 (aE _ _)) (Ne.symm q))) fun i j O hi O hj=>hlt i j (b9 hi h2) (b9 hj h2)) fun c1 c2 c3=>?_
   generalize hm:fw lt low high=m at *
   have hmin:∀ k,low<k→k<high→k≠m→x.drop m<x.drop k:=by
    intro k hk1 hk2 hne
    by_cases hl:x.drop m<x.drop k
    ·exact hl
    ·exact absurd (kV hl (c3 k hk1 hk2)) (pM (bY (b9 c2 h2)) (bY (b9 hk2 h2)) hne.symm)
   rw[o5 c1 c2 h2 inv hmin,iX hlt fuel low m c1 (bY (b9 c2 h2)) fun k hk1 hk2=>hmin k hk1 (b9 hk2 (bY c2)) (eE hk2),iX hlt fuel m high c2 h2 fun k hk1 hk2=>inv k (b9 c1 (bY hk1)) hk2]
theorem wG:∀ {a b:List Nat}{i j:Nat},(∀ d∈a,1≤d)→(∀ d∈b,1≤d)→a.length+i=b.length+j→(a++List.replicate i 0<b++List.replicate j 0↔a<b)
 | [],[],i,j,_,_,hl=>by
  simp only[lj,qx] at hl
  subst hl
  exact ⟨fun h=>absurd h (nK _),fun h=>absurd h (nK _)⟩
 | [],b::bs,i,j,_,hb,hl=>by
  obtain ⟨k,rfl⟩:∃ k,i=k+1:=⟨i-1,by simp only[lj,eR] at hl;exact aQ [_,_] [] (.eq ah (.a am av)) (.Y 1 (.eq (.a am av) ah)) ae (bn (aQ [_,_,_] [] (.le av ah) (.Y 1 (.eq (.a b6 ah) (.a (.a am av) ao))) ae hl))⟩
  have h1:=hb b (.head _)
  refine ⟨fun O=>uA _ _,fun O=>?_⟩
  rw[si,ru,lC]
  exact List.cons_lt_cons_iff.mpr (.inl (h1))
 | a::as,[],i,j,ha,_,hl=>by
  obtain ⟨k,rfl⟩:∃ k,j=k+1:=⟨j-1,by simp only[lj,eR] at hl;exact aQ [_,_] [] (.eq ah (.a am av)) (.Y 1 (.eq (.a am av) ah)) ae (bn (aQ [_,_,_] [] (.le av ah) (.eq (.a (.a am av) ao) (.a b6 ah)) ae hl))⟩
  have h1:=ha a (.head _)
  refine ⟨fun h=>?_,fun h=>absurd h (List.not_lt_nil _)⟩
  rw[si,ru,lC] at h
  rcases List.cons_lt_cons_iff.mp h with h|⟨h,_⟩<;>lia
 | a::as,b::bs,i,j,ha,hb,hl=>by
  have ih:=wG (a:=as) (b:=bs) (i:=i) (j:=j) (fun d h=>ha d (.tail _ h)) (fun d h=>hb d (.tail _ h)) (by simp only[eR] at hl;exact aQ [_,_,_,_] [] (.eq (.a ah am) (.a ao aM)) (.eq (.a (.a ah av) am) (.a (.a ao av) aM)) ae hl)
  rw[lC,lC,qR,qR,ih]
theorem rL (B:Nat)(a:List Nat):∀ i,bz B (a++List.replicate i 0)=bz B a*B^i:=by
 intro i
 rw[dP,List.length_replicate]
 have:bz B (List.replicate i 0)=0:=by
  induction i with
  | zero=>rfl
  | succ k ih=>rw[ru,eD,ih];simp
 rw[this,pj]
theorem qG {Wd:Nat}(hW:3≤Wd){u:List Nat}(hu:DG u){i j:Nat}(hi:i≤u.length)(hj:j≤u.length) :
  bz (2^Wd) (u.drop i)*(2^Wd)^i<bz (2^Wd) (u.drop j)*(2^Wd)^j↔u.drop i<u.drop j:=by
 have hB:8≤2^Wd:=bw (show 8≤2^3 by decide) (fv (by decide) hW)
 have hd:∀ k,∀ d∈u.drop k,1≤d∧d≤4:=fun k d h=>hu d (xg h)
 have hp:∀ k m,∀ d∈u.drop k++List.replicate m 0,d<2^Wd:=by
  intro k m d h
  rcases List.mem_append.mp h with h|h
  ·have:=hd k d h;exact ln2 [_,_] [] (.lt ah am) (.le vM am) (.le ah oK) ae hB this.2
  ·have:=List.eq_of_mem_replicate h;exact ln2 [_,_] [] (.lt ah am) (.le vM am) (.eq ah b6) ae hB this
 rw[← rL,← rL,← iL (by simp only[ζ17,gA,List.length_replicate];exact ln2 [_,_,_,_,_] [] (.eq (.a ah am) (.a ao aM)) (.eq (.a ah am) bD) (.Y 1 (.eq (.a ao aM) bD)) ae (bn hi) (bn hj)) (hp i i) (hp j j)]
 exact wG (fun d h=>(hd i d h).1) (fun d h=>(hd j d h).1) (by simp only[gA];exact ln2 [_,_,_,_,_] [] (.eq (.a ah am) (.a ao aM)) (.eq (.a ah am) bD) (.Y 1 (.eq (.a ao aM) bD)) ae (bn hi) (bn hj))
theorem kl {Wd k:Nat}{u:List Nat}(hk:k<u.length):(dl Wd u).getD k 0=((bz (2^Wd) (u.drop k)*(2^Wd)^k:Nat):Int):=by
 unfold dl
 rw[List.getD_eq_getElem?_getD,List.getElem?_map,List.getElem?_range hk]
 rfl
theorem oQ {Wd:Nat}{u:List Nat}:(dl Wd u).length=u.length:=by
 unfold dl
 rw[fZ,rC]
theorem vS {u:List Nat}{i j:Nat}:(u.map (·+48)).drop i<(u.map (·+48)).drop j↔u.drop i<u.drop j:=by
 rw[← List.map_drop,← List.map_drop]
 exact nJ
theorem vD {Wd:Nat}(hW:3≤Wd){u:List Nat}(hu:DG u){i j:Nat}(hi:i<u.length)(hj:j<u.length)(hne:i≠j):(dl Wd u).getD i 0≠(dl Wd u).getD j 0:=by
 rw[kl hi,kl hj]
 intro e
 have e:=Int.ofNat_inj.mp e
 have h1:¬ u.drop i<u.drop j:=fun h=>ro _ (e▸(qG hW hu (bY hi) (bY hj)).mpr h)
 have h2:¬ u.drop j<u.drop i:=fun h=>ro _ (e▸(qG hW hu (bY hj) (bY hi)).mpr h)
 exact pM (bY hi) (bY hj) hne (kV h1 h2)
theorem pr {Wd:Nat}(hW:3≤Wd){u:List Nat}(hu:DG u)(h0:0<u.length){ls:List Str}(hl:ls.length=u.length):jd (dl Wd u) ls=fW u ls:=by
 unfold jd fW
 rw[hl]
 have hx:(u.map (·+48)).length=u.length:=fZ ..
 rw[iX (x:=u.map (·+48)) (lt:=BO (dl Wd u)) ?_ u.length 0 u.length h0 (cG hx.symm) ?_]
 ·intro i j hi hj
  rw[hx] at hi hj
  unfold BO
  rw[kl hi,kl hj]
  have:=qG hW hu (bY hi) (bY hj)
  rw[decide_eq_decide,Int.ofNat_lt,vS]
  exact this
 ·intro k hk1 hk2
  rw[List.drop_of_length_le (cG hx)]
  have:(u.map (·+48)).drop k≠[]:=by
   intro e
   have:=congrArg List.length e
   rw[gA,hx] at this
   simp at this
   exact jY 0 (cZ [_,_,_] [] (.le av b6) (.lt ah am) (.eq ao b6) (.le am (.a ao ah)) ae hk2 this (aE _ _))
  cases h:(u.map (·+48)).drop k with
  | nil=>exact absurd h this
  | cons a r=>exact uA _ _
theorem kF {cf:Nat→Nat→Nat}{ls:List Str}{K:Nat}(hcf:qF cf ls.length)(hls:∀ s∈ls,s.length≤K)(hne:∀ s∈ls,s≠""):∀ (fuel low high:Nat),high-low≤fuel→low<high→high≤ls.length →
  (dH cf ls fuel low high).text.length+2≤(K+2)*(high-low)∧0<(dH cf ls fuel low high).text.length
 | 0,low,high,h,h1,_=>by lia
 | fuel+1,low,high,h,h1,h2=>by
  unfold dH
  by_cases q:high-low=1
  ·rw[if_pos q,q]
   have hm:ls.getD low ""∈ls:=by
    rw[List.getD_eq_getElem?_getD,List.getElem?_eq_getElem (show low<ls.length by exact b9 h1 h2)]
    exact me _
   have h3:=hls _ hm
   have h4:=hne _ hm
   show (ls.getD low "").length+2≤(K+2)*1∧0<(ls.getD low "").length
   refine ⟨by exact aQ [_,_] [] (.le (.a ah cH) (.r (.a am cH) 1)) (.le ah am) ae h3,?_⟩
   rcases u9 (ls.getD low "").length with h5|h5
   ·refine absurd (Str.ext' ?_) h4
    exact Array.eq_empty_of_size_eq_zero h5
   ·exact h5
  ·rw[if_neg q]
   refine dI (hcf low high (ln2 [_,_,_] [] (.le (.a ah cH) am) (.eq (.a ao ah) am) (.lt av ao) ae (bn (bY h1)) (gz (ln2 [_,_,_] [] (.le av ah) (.lt am ao) (.le ao (.a ah am)) ae h1 (aE _ _)) (Ne.symm q))) h2) fun c1 c2=>?_
   refine dI (kF hcf hls hne fuel low (cf low high) (gh [_,_,_,_,_,_] [] (.le ah am) (.le ao (.a am av)) (.lt aM bD) (.le bD (.a ao dc)) (.eq (.a ah dc) aM) ae h c2 (aE _ _) (bn (bY c1))) c1 (bY (b9 c2 h2))) fun a1 a2=>?_
   refine dI (kF hcf hls hne fuel (cf low high) high (gh [_,_,_,_,_,_] [] (.le ah am) (.le ao (.a am av)) (.lt aM bD) (.le dc (.a ao aM)) (.eq (.a ah bD) dc) ae h c1 (aE _ _) (bn (bY c2))) c2 h2) fun b1 b2=>?_
   show ((("(":Str)++_)++_++(")":Str)).length+2≤_∧0<((("(":Str)++_)++_++(")":Str)).length
   rw[cq,cq,cq]
   show 1+_+_+1+2≤_∧0<1+_+_+1
   have e:(K+2)*(high-low)=(K+2)*(cf low high-low)+(K+2)*(high-cf low high):=by
    rw[← oz];congr 1;exact cZ [_,_,_,_,_,_] [] (.eq ah (.a am ao)) (.eq (.a ah aM) bD) (.Y 1 (.eq (.a am aM) dc)) (.Y 1 (.eq (.a ao dc) bD)) ae (bn (bY h1)) (bn (bY c1)) (bn (bY c2))
   exact ⟨cZ [_,_,_,_,_] [] (.le (.a (.a (.a (.a av ah) am) av) cH) ao) (.le (.a ah cH) aM) (.le (.a am cH) bD) (.Y 1 (.eq ao (.a aM bD))) ae a1 b1 e,eF [_,_] [] (.lt b6 (.a (.a (.a av ah) am) av)) ae⟩
section
noncomputable def no (a b:List Nat):Prop:=∃ p c d a' b',a=p++c::a'∧b=p++d::b'∧c<d
theorem sd {a b:List Nat}(h:no a b)(x y:List Nat):a++x<b++y:=by
 refine aT h fun p c d a' b' q3=>ch q3 fun q1 q2 hl=>?_;clear q3 h;subst q1;subst q2
 rw[iY,iY]
 exact pV hl
structure Blocks (enc:Nat→List Nat) (S:List Nat):Prop where
 start:∀ d∈S,∃ h t,enc d=h::t∧h≤3∧∀ c∈t,3<c
 order:∀ d∈S,∀ d'∈S,d<d'→no (enc d) (enc d')
section
variable {enc:Nat→List Nat}{S:List Nat}
theorem uy (B:Blocks enc S):∀ {x y:List Nat},(∀ d∈x,d∈S)→(∀ d∈y,d∈S)→x<y→x.flatMap enc<y.flatMap enc
 | [],[],_,_,h=>absurd h (nK _)
 | [],b::y,_,hy,_=>by
  refine aK (B.start b (hy b (.head _))) fun h t e O O=>?_
  rw[lf,e]
  exact uA _ _
 | a::x,[],_,_,h=>absurd h (List.not_lt_nil _)
 | a::x,b::y,hx,hy,h=>by
  rw[lf,lf]
  rcases List.cons_lt_cons_iff.mp h with h2|⟨rfl,h2⟩
  ·exact sd (B.order a (hx a (.head _)) b (hy b (.head _)) h2) _ _
  ·exact tK.mpr (uy B (fun d hd=>hx d (.tail _ hd)) (fun d hd=>hy d (.tail _ hd)) h2)
noncomputable def fY (enc:Nat→List Nat)(x:List Nat)(i:Nat):Nat:=((x.take i).flatMap enc).length
theorem jn (x:List Nat)(i:Nat):(x.flatMap enc).drop (fY enc x i)=(x.drop i).flatMap enc:=by
 have:x.flatMap enc=(x.take i).flatMap enc++(x.drop i).flatMap enc:=by rw[← List.flatMap_append,rt]
 rw[this]
 exact List.drop_left
theorem qi {x:List Nat}{i:Nat}(h:i<x.length):fY enc x (i+1)=fY enc x i+(enc x[i]).length:=by
 unfold fY
 rw[List.take_succ_eq_append_getElem h,List.flatMap_append,ζ17,lf,List.flatMap_nil,tD]
theorem uH (B:Blocks enc S){d:Nat}(hd:d∈S):0<(enc d).length:=by
 refine aK (B.start d hd) fun h t e O O=>?_
 rw[e]
 exact Nat.succ_pos _
theorem kA (B:Blocks enc S){x:List Nat}(hx:∀ d∈x,d∈S){i:Nat}:∀ {j:Nat},i<j→j≤x.length→fY enc x i+(j-i)≤fY enc x j
 | 0,h,_=>absurd h (qN _)
 | j+1,h,hj=>by
  have h1:=qi (enc:=enc) (show j<x.length by exact hj)
  have h2:=uH B (hx _ (me (show j<x.length by exact hj)))
  by_cases q:i=j
  ·subst q;exact cZ [_,_,_,_,_] [] (.le (.a ah am) ao) (.Y 1 (.eq ao (.a ah aM))) (.lt b6 aM) (.eq (.a am bD) (.a bD av)) ae h1 h2 (bn (bY h))
  ·have:=kA B hx (i:=i) (j:=j) (gz (aQ [_,_] [] (.le ah am) (.lt ah (.a am av)) ae h) q) (bY hj)
   exact vc [_,_,_,_,_,_,_,_] [] (.le (.a ah am) ao) (.Y 1 (.eq ao (.a aM bD))) (.lt b6 bD) (.le (.a ah dc) aM) (.le ke (.a dc we)) (.eq (.a am we) (.a ke av)) ae h1 h2 this (aE _ _) (bn (bY h))
theorem o8 (B:Blocks enc S){x:List Nat}(hx:∀ d∈x,d∈S){low p:Nat}:∀ {high:Nat},low≤high→high≤x.length→fY enc x low≤p→p<fY enc x high→(∃ k,low≤k∧k<high∧p=fY enc x k)∨∃ c r,(x.flatMap enc).drop p=c::r∧3<c
 | 0,h,_,h1,h2=>by
  obtain rfl:low=0:=by exact nY h (iE _)
  lia
 | j+1,h,hj,h1,h2=>by
  by_cases q:p<fY enc x j
  ·by_cases ql:low=j+1
   ·subst ql
    have:=kA B hx (i:=j) (j:=j+1) (h) hj
    lia
   ·rcases o8 B hx (high:=j) (aQ [_,_] [] (.le ah am) (.lt ah (.a am av)) ae (gz h ql)) (bY hj) h1 q with ⟨k,a,b,c⟩|h
    ·exact .inl (bU k a (b9 b (dG _ _)) c)
    ·exact .inr h
  ·by_cases qe:p=fY enc x j
   ·by_cases ql:low=j+1
    ·subst ql
     lia
    ·exact .inl (bU j (aQ [_,_] [] (.le ah am) (.lt ah (.a am av)) ae (gz h ql)) (kI _) qe)
   ·refine .inr ?_
    have hjl:j<x.length:=by exact hj
    refine aK (B.start _ (hx _ (me hjl))) fun h t e O ht=>?_
    have e1:=qi (enc:=enc) hjl
    have e2:(x.flatMap enc).drop p=((x.flatMap enc).drop (fY enc x j)).drop (p-fY enc x j):=by rw[oV];congr 1;exact aQ [_,_,_] [] (.eq ah (.a am ao)) (.Y 1 (.eq (.a ao am) ah)) ae (bn (aQ [_,_] [] (.le ah am) (.nlt am ah) ae q))
    have e3:x.drop j=x[j]::x.drop (j+1):=nR hjl
    obtain ⟨k,hk⟩:∃ k,p-fY enc x j=k+1:=⟨p-fY enc x j-1,by exact aQ [_,_] [] (.eq ah (.a am av)) (.Y 1 (.eq (.a am av) ah)) ae (bn (ln2 [_,_,_] [] (.le av ah) (.le am (.a ah ao)) (.lt ao am) ae (aE _ _) (gz (aQ [_,_] [] (.le ah am) (.nlt am ah) ae q) (Ne.symm qe))))⟩
    rw[e] at e1
    simp only[eR] at e1
    have hkt:k<t.length:=by exact gh [_,_,_,_,_,_] [] (.lt ah am) (.lt ao aM) (.eq aM (.a bD (.a am av))) (.Y 1 (.eq dc (.a ah av))) (.eq (.a dc bD) ao) ae h2 e1 hk (bn (aQ [_,_] [] (.le ah am) (.nlt am ah) ae q))
    rw[e2,jn,e3,lf,e,hk,lC,List.drop_succ_cons,za (bY hkt),nR hkt]
    exact (bV (t[k]) _ rfl (ht _ (me hkt)))
end
theorem s9 {e:List Nat}(hnd:e.Nodup)(rest:List Nat){i j:Nat}(hi:i<e.length)(hj:j<e.length):decide (e.drop i++rest<e.drop j++rest)=decide (e.drop i<e.drop j):=by
 by_cases q:i=j
 ·subst q
  rw[decide_eq_false (nK _),decide_eq_false (nK _)]
 ·have hne:e[i]≠e[j]:=fun h=>q ((List.getElem_inj hnd).mp h)
  rw[nR hi,nR hj,lC,lC,decide_eq_decide,qR,qR]
  constructor
  ·rintro (h|⟨h,_⟩)
   ·exact .inl h
   ·exact absurd h hne
  ·rintro (h|⟨h,_⟩)
   ·exact .inl h
   ·exact absurd h hne
theorem jO {Z e rest:List Nat}{PL pg:List Str}{o:Nat}(hZ:Z.drop o=e++rest)(hnd:e.Nodup)(hPL:∀ i,i<e.length→PL.getD (o+i) ""=pg.getD i ""):∀ {fuel fuel' a b:Nat},b-a≤fuel→b-a≤fuel'→a<b→b≤e.length →
  dH (fw (qJ Z)) PL fuel (o+a) (o+b)=dH (fw (qJ e)) pg fuel' a b
 | 0,_,a,b,h,_,h1,_=>by lia
 | _+1,0,a,b,_,h,h1,_=>by lia
 | fuel+1,fuel'+1,a,b,hf,hf',h1,h2=>by
  unfold dH
  have e1:o+b-(o+a)=b-a:=by exact ln2 [_,_,_,_,_] [] (.eq ah am) (.eq (.a ah (.a ao aM)) (.a ao bD)) (.Y 1 (.eq (.a am aM) bD)) ae (bn (aQ [_,_,_] [] (.le (.a ah am) (.a ah ao)) (.lt am ao) ae h1)) (bn (bY h1))
  rw[e1]
  by_cases q:b-a=1
  ·rw[if_pos q,if_pos q,hPL a (b9 h1 h2)]
  ·rw[if_neg q,if_neg q]
   have hc:fw (qJ Z) (o+a) (o+b)=o+fw (qJ e) a b:=by
    unfold fw
    rw[e1,gy (f':=fun i j=>qJ e (a+1+i) (a+1+j)) ?_]
    ·exact eF [_,_,_] [] (.eq (.a (.a (.a ah am) av) ao) (.a ah (.a (.a am av) ao))) ae
    ·intro i j hi hj
     have hd:∀ k,k≤b-a-2→Z.drop (o+a+1+k)=e.drop (a+1+k)++rest:=by
      intro k hk
      have:o+a+1+k=o+(a+1+k):=by exact eF [_,_,_] [] (.eq (.a (.a (.a ah am) av) ao) (.a ah (.a (.a am av) ao))) ae
      rw[this,← oV,hZ,za (by exact gh [_,_,_,_,_,_] [] (.le (.a (.a ah av) am) ao) (.le aM ao) (.le am bD) (.eq (.a dc ah) aM) (.eq (.a bD cH) dc) ae h2 hk (bn (bY h1)) (bn (aQ [_] [] (.le cH ah) (.lt av ah) ae (gz (ln2 [_,_,_] [] (.le av ah) (.lt am ao) (.le ao (.a ah am)) ae h1 (aE _ _)) (Ne.symm q)))))]
     unfold qJ
     rw[hd i hi,hd j hj]
     exact s9 hnd rest (gh [_,_,_,_,_,_] [] (.lt (.a (.a ah av) am) ao) (.le aM ao) (.le am bD) (.eq (.a dc ah) aM) (.eq (.a bD cH) dc) ae h2 hi (bn (bY h1)) (bn (aQ [_] [] (.le cH ah) (.lt av ah) ae (gz (ln2 [_,_,_] [] (.le av ah) (.lt am ao) (.le ao (.a ah am)) ae h1 (aE _ _)) (Ne.symm q))))) (gh [_,_,_,_,_,_] [] (.lt (.a (.a ah av) am) ao) (.le aM ao) (.le am bD) (.eq (.a dc ah) aM) (.eq (.a bD cH) dc) ae h2 hj (bn (bY h1)) (bn (aQ [_] [] (.le cH ah) (.lt av ah) ae (gz (ln2 [_,_,_] [] (.le av ah) (.lt am ao) (.le ao (.a ah am)) ae h1 (aE _ _)) (Ne.symm q)))))
   refine dI (je (qJ e) e.length a b (ln2 [_,_,_] [] (.le (.a ah cH) am) (.eq (.a ao ah) am) (.lt av ao) ae (bn (bY h1)) (gz (ln2 [_,_,_] [] (.le av ah) (.lt am ao) (.le ao (.a ah am)) ae h1 (aE _ _)) (Ne.symm q))) h2) fun c1 c2=>?_
   rw[hc,jO hZ hnd hPL (fuel':=fuel') (by exact gh [_,_,_,_,_,_] [] (.le ah am) (.le ao (.a am av)) (.lt aM bD) (.le bD (.a ao dc)) (.eq (.a ah dc) aM) ae hf c2 (aE _ _) (bn (bY c1))) (by exact gh [_,_,_,_,_,_] [] (.le ah am) (.le ao (.a am av)) (.lt aM bD) (.le bD (.a ao dc)) (.eq (.a ah dc) aM) ae hf' c2 (aE _ _) (bn (bY c1))) c1 (by exact bY (b9 c2 h2)),jO hZ hnd hPL (fuel':=fuel') (by exact gh [_,_,_,_,_,_] [] (.le ah am) (.le ao (.a am av)) (.lt aM bD) (.le dc (.a ao aM)) (.eq (.a ah bD) dc) ae hf c1 (aE _ _) (bn (bY c2))) (by exact gh [_,_,_,_,_,_] [] (.le ah am) (.le ao (.a am av)) (.lt aM bD) (.le dc (.a ao aM)) (.eq (.a ah bD) dc) ae hf' c1 (aE _ _) (bn (bY c2))) c2 h2]
theorem hJ {enc:Nat→List Nat}{S x:List Nat}{PL ls:List Str}(B:Blocks enc S)(hx:∀ d∈x,d∈S)(hown:∀ i,i<x.length→∀ fuel,fY enc x (i+1)-fY enc x i≤fuel→(dH (fw (qJ (x.flatMap enc))) PL fuel (fY enc x i) (fY enc x (i+1))).text=(ls.getD i "")) :
  ∀ (k fuel low high:Nat),high-low≤k→fY enc x high-fY enc x low≤fuel→low<high→high≤x.length→(∀ k,low<k→k<high→x.drop high<x.drop k) →
   (dH (fw (qJ (x.flatMap enc))) PL fuel (fY enc x low) (fY enc x high)).text=(dH (cutE x) ls k low high).text
 | 0,fuel,low,high,h,_,h1,_,_=>by lia
 | k+1,fuel,low,high,hk,hf,h1,h2,inv=>by
  by_cases q:high-low=1
  ·obtain rfl:high=low+1:=by exact ln2 [_,_,_] [] (.eq ah (.a am av)) (.eq ao av) (.Y 1 (.eq (.a ao am) ah)) ae q (bn (bY h1))
   rw[hown low (h2) fuel hf]
   show _=Tr.text (if low+1-low=1 then _ else _)
   rw[if_pos (q)]
   rfl
  ·have hl:=kA B hx h1 h2
   obtain ⟨f,rfl⟩:∃ f,fuel=f+1:=⟨fuel-1,by exact aQ [_,_] [] (.eq ah (.a am av)) (.Y 1 (.eq (.a am av) ah)) ae (bn (vc [_,_,_,_,_,_,_] [] (.le av ah) (.le am ah) (.lt ao aM) (.le (.a bD dc) ke) (.le aM (.a dc ao)) (.le ke (.a am bD)) ae hf h1 hl (aE _ _) (aE _ _)))⟩
   refine ch (oT (lt:=qJ (x.flatMap enc)) (key:=fun p=>(x.flatMap enc).drop p) (low:=fY enc x low) (high:=fY enc x high) (ln2 [_,_,_] [] (.le (.a ah cH) am) (.le (.a ah ao) am) (.lt av ao) ae hl (gz (ln2 [_,_,_] [] (.le av ah) (.lt am ao) (.le ao (.a ah am)) ae h1 (aE _ _)) (Ne.symm q))) fun i j O O O O=>rfl) fun c1 c2 c3=>?_
   have hm:∃ m,low<m∧m<high∧fw (qJ (x.flatMap enc)) (fY enc x low) (fY enc x high)=fY enc x m:=by
    rcases o8 B hx (low:=low) (high:=high) (bY h1) h2 (bY c1) c2 with ⟨m,a,b,e⟩|⟨c,r,e,hc⟩
    ·refine (bU m ?_ b e)
     rcases Nat.lt_or_ge low m with h|h
     ·exact h
     ·obtain rfl:m=low:=by exact nY h a
      exact ln2 [_,_,_] [] (.lt ah ah) (.lt am ao) (.eq ao am) ae c1 e
    ·exfalso
     have b1:=kA B hx (i:=low) (j:=low+1) (kI _) (bw h1 h2)
     have b2:=kA B hx (i:=low+1) (j:=high) (ln2 [_,_,_] [] (.lt (.a ah av) am) (.eq (.a ao ah) am) (.lt av ao) ae (bn (bY h1)) (gz (ln2 [_,_,_] [] (.le av ah) (.lt am ao) (.le ao (.a ah am)) ae h1 (aE _ _)) (Ne.symm q))) h2
     refine c3 (fY enc x (low+1)) (ln2 [_,_,_,_] [] (.lt ah am) (.le (.a ah ao) am) (.le (.a aM av) (.a ao aM)) ae b1 (aE _ _)) (gh [_,_,_,_,_,_] [] (.lt ah am) (.le (.a ah ao) am) (.le aM (.a ao (.a bD av))) (.eq (.a dc bD) aM) (.lt av dc) ae b2 (aE _ _) (bn (bY h1)) (gz (ln2 [_,_,_] [] (.le av ah) (.lt am ao) (.le ao (.a ah am)) ae h1 (aE _ _)) (Ne.symm q))) ?_
     have hll:low+1<x.length:=by exact cZ [_,_,_,_] [] (.lt (.a ah av) am) (.le ao am) (.eq (.a aM ah) ao) (.lt av aM) ae h2 (bn (bY h1)) (gz (ln2 [_,_,_] [] (.le av ah) (.lt am ao) (.le ao (.a ah am)) ae h1 (aE _ _)) (Ne.symm q))
     refine aK (B.start _ (hx _ (me hll))) fun h t e' h3 O=>?_
     show (x.flatMap enc).drop _<(x.flatMap enc).drop _
     rw[e,jn,nR hll,lf,e',lC]
     exact List.cons_lt_cons_iff.mpr (.inl (dV h3 hc))
   refine bT hm fun m m1 m2 em=>?_;clear hm
   rw[em] at c3
   have hS:∀ i,∀ d∈x.drop i,d∈S:=fun i d hd=>hx d (xg hd)
   have hmin:∀ k,low<k→k<high→k≠m→x.drop m<x.drop k:=by
    intro j hj1 hj2 hne
    by_cases hlt:x.drop m<x.drop j
    ·exact hlt
    ·by_cases hgt:x.drop j<x.drop m
     ·exfalso
      have b1:=kA B hx (i:=low) (j:=j) hj1 (bY (b9 hj2 h2))
      have b2:=kA B hx (i:=j) (j:=high) hj2 h2
      refine c3 (fY enc x j) (cZ [_,_,_,_,_] [] (.lt ah am) (.lt ao aM) (.le (.a ah bD) am) (.le aM (.a bD ao)) ae hj1 b1 (aE _ _)) (cZ [_,_,_,_,_] [] (.lt ah am) (.lt ao aM) (.le (.a ah bD) am) (.le aM (.a bD ao)) ae hj2 b2 (aE _ _)) ?_
      show (x.flatMap enc).drop _<(x.flatMap enc).drop _
      rw[jn,jn]
      exact uy B (hS _) (hS _) hgt
     ·exact absurd (kV hlt hgt) (pM (bY (b9 m2 h2)) (bY (b9 hj2 h2)) hne.symm)
   have hb:=kA B hx m1 (show m≤x.length by exact bY (b9 m2 h2))
   have hb2:=kA B hx m2 h2
   have i1:=hJ B hx hown k f low m (gh [_,_,_,_,_,_] [] (.le ah am) (.le ao (.a am av)) (.lt aM bD) (.le bD (.a ao dc)) (.eq (.a ah dc) aM) ae hk m2 (aE _ _) (bn (bY m1))) (vc [_,_,_,_,_,_,_] [] (.le ah am) (.le ao (.a am av)) (.lt aM bD) (.Y 1 (.eq aM dc)) (.le bD (.a ao ke)) (.eq (.a ah ke) dc) ae hf c2 em (aE _ _) (bn (aQ [_,_,_] [] (.le ah am) (.le (.a ah ao) am) ae hb))) m1 (bY (b9 m2 h2)) fun j j1 j2=>hmin j j1 (b9 j2 (bY m2)) (eE j2)
   have i2:=hJ B hx hown k f m high (by exact gh [_,_,_,_,_,_] [] (.le ah am) (.le ao (.a am av)) (.lt aM bD) (.le dc (.a ao aM)) (.eq (.a ah bD) dc) ae hk m1 (aE _ _) (bn (bY m2))) (by exact vc [_,_,_,_,_,_,_] [] (.le ah am) (.le ao (.a am av)) (.lt aM bD) (.eq bD dc) (.le ke (.a ao aM)) (.eq (.a ah dc) ke) ae hf c1 em (aE _ _) (bn (aQ [_,_,_] [] (.le ah am) (.le (.a ah ao) am) ae hb2))) m2 h2 fun j j1 j2=>inv j (by exact b9 m1 (bY j1)) j2
   show Tr.text (if fY enc x high-fY enc x low=1 then _ else _)=Tr.text (if high-low=1 then _ else _)
   rw[if_neg (by exact df (cZ [_,_,_,_] [] (.lt av ah) (.lt am ao) (.lt ao aM) (.le aM (.a ah am)) ae c1 c2 (aE _ _))),if_neg q,em,o5 m1 m2 h2 inv hmin]
   show ("("++(dH _ PL f _ _).text++(dH _ PL f _ _).text++")":Str)=("("++(dH _ ls k _ _).text++(dH _ ls k _ _).text++")":Str)
   rw[i1,i2]
end
noncomputable def ma (ss:List (Nat×List Nat))(l:List Nat):List Nat:=ss.foldl (fun l p=>sub p.1 p.2 l) l
theorem lM:∀ (ss:List (Nat×List Nat)) (a b:List Nat),ma ss (a++b)=ma ss a++ma ss b
 | [],a,b=>rfl
 | p::r,a,b=>by
  show ma r (sub p.1 p.2 (a++b))=ma r (sub p.1 p.2 a)++ma r (sub p.1 p.2 b)
  rw[hY,lM]
theorem sn:∀ ss:List (Nat×List Nat),ma ss []=[]
 | []=>rfl
 | p::r=>sn r
theorem jc (ss:List (Nat×List Nat)):∀ l:List Nat,ma ss l=l.flatMap fun c=>ma ss [c]
 | []=>sn ss
 | c::r=>by
  have:c::r=[c]++r:=rfl
  rw[this,lM,jc ss r]
  rfl
theorem pf:∀ (ss:List (Nat×List Nat)) (x:Str),(ss.foldl (fun x p=>Txt.replace x ⟨#[p.1]⟩ ⟨p.2.toArray⟩) x).cps.toList=ma ss x.cps.toList
 | [],x=>rfl
 | p::r,x=>by
  have h:=pf r (Txt.replace x ⟨#[p.1]⟩ ⟨p.2.toArray⟩)
  rw[dM] at h
  exact h
noncomputable def xR (w:Nat)(l:List Nat):List Nat:=ma (rS (5+w)) l
noncomputable def qE (p:Str)(l:List Nat):List Nat:=ma [(38,[1]),(p.cps.getD 0 0,[2]),(p.cps.getD 1 0,[3])] l
theorem pv (p:Str)(l:List Nat):(qE p l).length=l.length:=by
 have h1:∀ (a b:Nat) (l:List Nat),(sub a [b] l).length=l.length:=by
  intro a b l
  induction l with
  | nil=>rfl
  | cons k r ih =>
   unfold sub at ih ⊢
   rw[lf,ζ17,ih,eR]
   split<;>simp only[s6]<;>exact lV _ _
 show (sub _ _ (sub _ _ (sub _ _ l))).length=_
 rw[h1,h1,h1]
theorem tB (n0:Nat)(sg:List Nat):(dO n0 sg).cps.toList=xR (n0%5) sg:=pf _ _
theorem lI (n0:Nat)(pg:Str):(fU n0 pg).cps.toList=qE (pA n0) pg.cps.toList:=by
 unfold fU
 show (Txt.replace (Txt.replace (Txt.replace pg ⟨#[38]⟩ "\x01") ⟨#[(pA n0).cps.getD 0 0]⟩ "\x02") ⟨#[(pA n0).cps.getD 1 0]⟩ "\x03").cps.toList=_
 rw[dM,dM,dM]
 rfl
noncomputable def pU:List Nat→List Nat→Bool
 | a::x,b::y=>Nat.blt a b||(Nat.beq a b&&pU x y)
 | _,_=>false
theorem jF:∀ {a b:List Nat},pU a b=true→no a b
 | [],[],h=>nomatch h
 | [],_::_,h=>nomatch h
 | _::_,[],h=>nomatch h
 | a::x,b::y,h=>by
  unfold pU at h
  rw[Bool.or_eq_true,iO] at h
  rcases h with h|⟨h1,h2⟩
  ·exact (ba ([]) a b x y (iPPP rfl rfl (Nat.blt_eq.mp h)))
  ·obtain rfl:=uE h1
   refine aT (jF h2) fun p c d a' b' q3=>ch q3 fun q1 q2 h=>?_;clear q3;subst q1;subst q2
   exact (ba (a::p) c d a' b' (iPPP rfl rfl h))
noncomputable def tG (l:List Nat):Bool:=match l with
 | []=>false
 | h::t=>Nat.ble h 3&&t.all fun c=>Nat.blt 3 c
theorem oZ {l:List Nat}(h:tG l=true):∃ h t,l=h::t∧h≤3∧∀ c∈t,3<c:=by
 cases l with
 | nil=>cases h
 | cons a t =>
  unfold tG at h
  rw[iO,List.all_eq_true] at h
  exact (an a t rfl (Nat.le_of_ble_eq_true h.1) (fun c hc=>Nat.blt_eq.mp (h.2 c hc)))
theorem dh:∀ w,w<5→∀ i,i<(bp w).length→xR w [dg w i]=(bW w (dg w i)).cps.toList∧tG (eS w (dg w i)).cps.toList=true∧(eS w (dg w i)).cps.toList.Nodup∧(eS w (dg w i)).cps.getD 0 0=1:=by decide +kernel
theorem vx:∀ w,w<5→∀ i,i<(bp w).length→∀ j,j<(bp w).length→(bW w (dg w i)).cps.toList<(bW w (dg w j)).cps.toList→pU (eS w (dg w i)).cps.toList (eS w (dg w j)).cps.toList=true:=by decide +kernel
theorem wt:∀ w,w<5→∀ i,i<(bp w).length→∀ c∈lettersL,c ∉ (bW w (dg w i)).cps.toList:=by decide +kernel
theorem ja:∀ w,w<5→∀ c∈lettersL,xR w [c]=[c]:=by decide +kernel
theorem sV:∀ i,i<10→(pairsL.getD i ("","")).1.cps.getD 0 0≠(pairsL.getD i ("","")).1.cps.getD 1 0:=by decide +kernel
theorem jq (n0:Nat):(pA n0).cps.getD 0 0∈lettersL∧(pA n0).cps.getD 1 0∈lettersL∧(pA n0).cps.getD 0 0≠(pA n0).cps.getD 1 0:=by
 have hi:pI n0<10:=cQ _ (by decide)
 have q1:∀ c∈(pA n0).cps.toList,c∈lettersL:=(nG (pI n0) hi).1
 rw[lE] at q1
 exact (iPPP (q1 _ (.head _)) (q1 _ (.tail _ (.head _))) (sV (pI n0) hi))
theorem qW {w i n0:Nat}(hw:w<5)(hi:i<(bp w).length):qE (pA n0) (bW w (dg w i)).cps.toList=(eS w (dg w i)).cps.toList:=by
 refine ch (jq n0) fun l0 l1 O=>?_
 have hf:=wt w hw i hi
 have h38:∀ c∈lettersL,c≠38∧c≠1∧c≠2:=by decide
 have hk:(eS w (dg w i)).cps.toList=sub 38 [1] (bW w (dg w i)).cps.toList:=dM _ _ _
 have hm:∀ c∈lettersL,c ∉ sub 38 [1] (bW w (dg w i)).cps.toList:=by
  intro c hc hm
  unfold sub at hm
  refine aL (List.mem_flatMap.mp hm) fun k hk hm=>?_
  by_cases q:k=38
  ·rw[if_pos q] at hm
   exact (h38 c hc).2.1 (List.mem_singleton.mp hm)
  ·rw[if_neg q] at hm
   obtain rfl:=List.mem_singleton.mp hm
   exact hf _ hc hk
 show sub ((pA n0).cps.getD 1 0) [3] (sub ((pA n0).cps.getD 0 0) [2] (sub 38 [1] _))=_
 rw[dj (hm _ l0),dj (hm _ l1),hk]
theorem wg (n0:Nat):qE (pA n0) [(pA n0).cps.getD 0 0]=[2]:=by
 refine ch (jq n0) fun l0 l1 hne=>?_
 have h38:∀ c∈lettersL,c≠38∧97≤c:=by decide
 show sub ((pA n0).cps.getD 1 0) [3] (sub ((pA n0).cps.getD 0 0) [2] (sub 38 [1] _))=_
 rw[dj (c:=38) (by simpa using Ne.symm (h38 _ l0).1),sub_self,dj]
 have:=(h38 _ l1).2
 simp only[List.mem_singleton]
 exact df (b9 (by decide) this)
theorem wf (n0:Nat):qE (pA n0) [(pA n0).cps.getD 1 0]=[3]:=by
 refine ch (jq n0) fun l0 l1 hne=>?_
 have h38:∀ c∈lettersL,c≠38∧97≤c:=by decide
 show sub ((pA n0).cps.getD 1 0) [3] (sub ((pA n0).cps.getD 0 0) [2] (sub 38 [1] _))=_
 rw[dj (c:=38) (by simpa using Ne.symm (h38 _ l1).1),dj (c:=(pA n0).cps.getD 0 0) (by simpa using hne),sub_self]
noncomputable def sp (n0 d:Nat):Nat:=(fD n0).getD (d-49) 0
noncomputable def iy (n0 d:Nat):List Nat:=xR (n0%5) [sp n0 d]
noncomputable def ey (n0 d:Nat):List Nat:=qE (pA n0) (iy n0 d)
theorem xY (n0:Nat):∃ i j,i<(bp (n0%5)).length∧j<(bp (n0%5)).length∧(bW (n0%5) (dg (n0%5) i)).cps.toList<(bW (n0%5) (dg (n0%5) j)).cps.toList ∧
  fD n0=[dg (n0%5) i,dg (n0%5) j,(pA n0).cps.getD 0 0,(pA n0).cps.getD 1 0]∧dg (n0%5) i∈twoL n0∧dg (n0%5) j∈twoL n0:=by
 refine ch (tQ n0) fun i1 i2 i3=>?_
 have h5:=cQ n0 (show 0<5 by decide)
 unfold fD twoL
 by_cases h:(Av n0).cps.toList<(Ax n0).cps.toList
 ·rw[if_pos h]
  exact (cb _ _ i1 i2 h (iPPP rfl (.head _) (.tail _ (.head _))))
 ·rw[if_neg h]
  refine (cb _ _ i2 i1 ?_ (iPPP rfl (.tail _ (.head _)) (.head _)))
  by_cases h2:(Ax n0).cps.toList<(Av n0).cps.toList
  ·exact h2
  ·exact absurd (gf (kV h h2)) ((fS _ h5 _ i1).2.2 _ i2 (Ne.symm i3))
theorem jl (n0:Nat):∃ i j,i<(bp (n0%5)).length∧j<(bp (n0%5)).length∧(bW (n0%5) (dg (n0%5) i)).cps.toList<(bW (n0%5) (dg (n0%5) j)).cps.toList∧dg (n0%5) i∈twoL n0∧dg (n0%5) j∈twoL n0 ∧
  sp n0 49=dg (n0%5) i∧sp n0 50=dg (n0%5) j∧sp n0 51=(pA n0).cps.getD 0 0∧sp n0 52=(pA n0).cps.getD 1 0 ∧
  ey n0 49=(eS (n0%5) (dg (n0%5) i)).cps.toList∧ey n0 50=(eS (n0%5) (dg (n0%5) j)).cps.toList∧ey n0 51=[2]∧ey n0 52=[3]:=by
 refine bc (xY n0) fun i j h1 h2 h3 q4=>ch q4 fun h4 h5 h6=>?_;clear q4
 have hw:=cQ n0 (show 0<5 by decide)
 refine ch (jq n0) fun l0 l1 O=>?_
 have e0:sp n0 49=dg (n0%5) i:=by unfold sp;rw[h4];rfl
 have e1:sp n0 50=dg (n0%5) j:=by unfold sp;rw[h4];rfl
 have e2:sp n0 51=(pA n0).cps.getD 0 0:=by unfold sp;rw[h4];rfl
 have e3:sp n0 52=(pA n0).cps.getD 1 0:=by unfold sp;rw[h4];rfl
 refine (cb i j h1 h2 h3 (cx h5 h6 e0 e1 e2 (gU e3 ?_ ?_ ?_ ?_)))
 ·unfold ey iy;rw[e0,(dh _ hw _ h1).1,qW hw h1]
 ·unfold ey iy;rw[e1,(dh _ hw _ h2).1,qW hw h2]
 ·unfold ey iy;rw[e2,ja _ hw _ l0,wg]
 ·unfold ey iy;rw[e3,ja _ hw _ l1,wf]
noncomputable def pE:List Nat:=[49,50,51,52]
theorem uM {w i:Nat}(hw:w<5)(hi:i<(bp w).length):∃ t,(eS w (dg w i)).cps.toList=1::t:=by
 refine cA (dh w hw i hi) fun O h1 O h2=>?_
 generalize eS w (dg w i)=k at *
 obtain ⟨⟨l⟩⟩:=k
 cases l with
 | nil=>cases h1
 | cons a t =>
  have:a=1:=h2
  subst this
  exact ⟨t,rfl⟩
theorem nk (n0:Nat):Blocks (ey n0) pE:=by
 refine bc (jl n0) fun i j h1 h2 h3 q5=>cy q5 fun O O O O O q6=>di q6 fun O e0 e1 e2 e3=>?_;clear q5 q6
 have hw:=cQ n0 (show 0<5 by decide)
 refine bK (uM hw h1) fun t1 k1=>?_
 refine bK (uM hw h2) fun t2 k2=>?_
 constructor
 ·intro d hd
  unfold pE at hd
  simp only[mh,mr,or_false] at hd
  rcases hd with rfl|rfl|rfl|rfl
  ·rw[e0];exact oZ (dh _ hw _ h1).2.1
  ·rw[e1];exact oZ (dh _ hw _ h2).2.1
  ·rw[e2];exact (an 2 ([]) rfl (by decide) (fun O h=>nomatch h))
  ·rw[e3];exact (an 3 ([]) rfl (by decide) (fun O h=>nomatch h))
 ·intro d hd d' hd' hl
  unfold pE at hd hd'
  simp only[mh,mr,or_false] at hd hd'
  rcases hd with rfl|rfl|rfl|rfl<;>rcases hd' with rfl|rfl|rfl|rfl<;>try lia
  ·rw[e0,e1];exact jF (vx _ hw _ h1 _ h2 h3)
  ·rw[e0,e2,k1];exact (ba ([]) 1 2 t1 ([]) (iPPP rfl rfl (by decide)))
  ·rw[e0,e3,k1];exact (ba ([]) 1 3 t1 ([]) (iPPP rfl rfl (by decide)))
  ·rw[e1,e2,k2];exact (ba ([]) 1 2 t2 ([]) (iPPP rfl rfl (by decide)))
  ·rw[e1,e3,k2];exact (ba ([]) 1 3 t2 ([]) (iPPP rfl rfl (by decide)))
  ·rw[e2,e3];exact (ba ([]) 2 3 ([]) ([]) (iPPP rfl rfl (by decide)))
theorem pQ {u:List Nat}(hu:DG u):∀ d∈u.map (·+48),d∈pE:=by
 intro d hd
 refine aL (List.mem_map.mp hd) fun k hk q7=>?_;subst q7
 have:=hu k hk
 unfold pE
 simp only[mh,mr,or_false]
 lia
theorem tC (n0:Nat)(u:List Nat):sigN n0 u=(u.map (·+48)).map (sp n0):=by
 unfold sigN
 rw[jW]
 apply List.map_congr_left
 intro d _
 show _=(fD n0).getD (d+48-49) 0
 congr 1
theorem li (n0:Nat)(u:List Nat):(dO n0 (sigN n0 u)).cps.toList=(u.map (·+48)).flatMap (iy n0):=by
 rw[tB,tC]
 unfold xR
 rw[jc,List.flatMap_map]
 rfl
theorem tZ (n0:Nat)(u:List Nat):(fU n0 (dO n0 (sigN n0 u))).cps.toList=(u.map (·+48)).flatMap (ey n0):=by
 rw[lI,li]
 unfold qE
 rw[jc,List.flatMap_assoc]
 congr 1
 funext d
 show _=qE _ _
 unfold qE
 rw[jc]
theorem u4 (n0:Nat)(x:List Nat)(i:Nat):fY (iy n0) x i=fY (ey n0) x i:=by
 unfold fY
 rw[List.length_flatMap,List.length_flatMap]
 congr 2
 funext d
 exact (pv _ _).symm
theorem tN {n0:Nat}{u:List Nat}(hu:DG u){i fuel:Nat}(hi:i<u.length)(hf:fY (ey n0) (u.map (·+48)) (i+1)-fY (ey n0) (u.map (·+48)) i≤fuel) :
  (dH (fw (qJ ((u.map (·+48)).flatMap (ey n0)))) (((u.map (·+48)).flatMap (iy n0)).map sing) fuel (fY (ey n0) (u.map (·+48)) i) (fY (ey n0) (u.map (·+48)) (i+1))).text=(((sigN n0 u).map (leafS n0)).getD i ""):=by
 have hx:=pQ hu
 rw[tC]
 have hi:i<(u.map (·+48)).length:=by rw[fZ];exact hi
 generalize u.map (·+48)=x at *
 clear hu
 have hm:=hx _ (me hi)
 have hs:=qi (enc:=ey n0) hi
 have hZ:(x.flatMap (ey n0)).drop (fY (ey n0) x i)=ey n0 x[i]++(x.drop (i+1)).flatMap (ey n0):=by
  rw[jn,nR hi,lf]
 have hP:(x.flatMap (iy n0)).drop (fY (ey n0) x i)=iy n0 x[i]++(x.drop (i+1)).flatMap (iy n0):=by
  rw[← u4,jn,nR hi,lf]
 have hlen:(ey n0 x[i]).length=(iy n0 x[i]).length:=pv _ _
 have hPL:∀ k,k<(ey n0 x[i]).length→((x.flatMap (iy n0)).map sing).getD (fY (ey n0) x i+k) ""=((iy n0 x[i]).map sing).getD k "":=by
  intro k hk
  rw[List.getD_eq_getElem?_getD,List.getD_eq_getElem?_getD,← List.getElem?_drop,← List.map_drop,hP,ζ18,List.getElem?_append_left (by rw[fZ];exact b9 hk (cG hlen))]
 have hls:((x.map (sp n0)).map (leafS n0)).getD i ""=leafS n0 (sp n0 x[i]):=by
  rw[List.getD_eq_getElem?_getD,List.getElem?_map,List.getElem?_map,List.getElem?_eq_getElem hi]
  rfl
 rw[hls]
 generalize x[i]=d at *
 have hw:=cQ n0 (show 0<5 by decide)
 have hnd:(ey n0 d).Nodup:=by
  refine bc (jl n0) fun i j h1 h2 h3 q8=>cy q8 fun O O O O O q9=>di q9 fun O e0 e1 e2 e3=>?_;clear q8 q9
  unfold pE at hm
  simp only[mh,mr,or_false] at hm
  rcases hm with rfl|rfl|rfl|rfl
  ·rw[e0];exact (dh _ hw _ h1).2.2.1
  ·rw[e1];exact (dh _ hw _ h2).2.2.1
  ·rw[e2];decide
  ·rw[e3];decide
 have hp:=uH (nk n0) hm
 have hT:=jO (a:=0) (b:=(ey n0 d).length) (fuel:=fuel) (fuel':=(ey n0 d).length) hZ hnd hPL (gh [_,_,_,_,_,_] [] (.le ah am) (.le ao am) (.Y 1 (.eq aM (.a bD dc))) (.le ah dc) (.le aM (.a ao bD)) ae hf hs (de _ _) (aE _ _)) (de _ _) hp (dX _)
 rw[pj,← hs] at hT
 rw[hT]
 refine bc (jl n0) fun p q h1 h2 h3 q10=>cy q10 fun t1 t2 s0 s1 s2 q11=>di q11 fun s3 e0 e1 e2 e3=>?_;clear q10 q11
 refine ch (jq n0) fun l0 l1 O=>?_
 have hsgn:∀ c∈lettersL,c ∉ twoL n0:=by
  intro c hc ht
  have a1:=(kG c hc).1
  refine ch (tQ n0) fun i1 i2 O=>?_
  unfold twoL at ht
  simp only[mh,mr,or_false] at ht
  rcases ht with rfl|rfl
  ·have:=gR _ (kq _ hw _ i1);exact jY 0 (ln2 [_] [] (.le av b6) (.le mo ah) (.le ah rj) ae a1 this)
  ·have:=gR _ (kq _ hw _ i2);exact jY 0 (ln2 [_] [] (.le av b6) (.le mo ah) (.le ah rj) ae a1 this)
 unfold pE at hm
 simp only[mh,mr,or_false] at hm
 rcases hm with rfl|rfl|rfl|rfl
 ·have hpg:iy n0 49=(bW (n0%5) (dg (n0%5) p)).cps.toList:=by unfold iy;rw[s0,(dh _ hw _ h1).1]
  rw[s0,hlen,hpg,e0]
  unfold leafS
  rw[if_pos t1]
  rfl
 ·have hpg:iy n0 50=(bW (n0%5) (dg (n0%5) q)).cps.toList:=by unfold iy;rw[s1,(dh _ hw _ h2).1]
  rw[s1,hlen,hpg,e1]
  unfold leafS
  rw[if_pos t2]
  rfl
 ·have hpg:iy n0 51=[(pA n0).cps.getD 0 0]:=by unfold iy;rw[s2,ja _ hw _ l0]
  rw[s2,hlen,hpg]
  unfold leafS
  rw[if_neg (hsgn _ l0)]
  rfl
 ·have hpg:iy n0 52=[(pA n0).cps.getD 1 0]:=by unfold iy;rw[s3,ja _ hw _ l1]
  rw[s3,hlen,hpg]
  unfold leafS
  rw[if_neg (hsgn _ l1)]
  rfl
theorem rs {n0:Nat}{u:List Nat}(hu:DG u)(h0:u≠[]):iB (fU n0 (dO n0 (sigN n0 u))).cps.toList ((dO n0 (sigN n0 u)).cps.toList.map sing)=fW u ((sigN n0 u).map (leafS n0)):=by
 have hpos:0<u.length:=List.length_pos_iff.mpr h0
 unfold iB fW
 rw[tZ,li]
 have hx:(u.map (·+48)).length=u.length:=fZ ..
 have hl:(((u.map (·+48)).flatMap (iy n0)).map sing).length=fY (ey n0) (u.map (·+48)) u.length:=by
  rw[fZ,← u4]
  unfold fY
  rw[sL (cG hx)]
 have hs:((sigN n0 u).map (leafS n0)).length=u.length:=by rw[tC,fZ,fZ,fZ]
 rw[hl,hs]
 have e0:fY (ey n0) (u.map (·+48)) 0=0:=rfl
 have:=hJ (nk n0) (pQ hu) (PL:=((u.map (·+48)).flatMap (iy n0)).map sing) (ls:=(sigN n0 u).map (leafS n0)) (fun i hi fuel hf=>tN hu (b9 hi (cG hx)) hf) u.length (fY (ey n0) (u.map (·+48)) u.length) 0 u.length (de _ _) (de _ _) hpos (cG hx.symm) ?_
 ·rw[e0] at this
  exact this
 ·intro k hk1 hk2
  rw[List.drop_of_length_le (cG hx)]
  rw[nR (show k<(u.map (·+48)).length by exact b9 hk2 (cG hx.symm))]
  exact uA _ _
theorem gE {s:Str}(h:0<s.length):s≠"":=by
 rintro rfl
 exact absurd h (by decide)
theorem yN (c:Nat):sing c≠"":=gE (show 0<1 by decide)
theorem ug {n0 c:Nat}(h:c∈twoL n0):(iS (n0%5) c).length≤18∧0<(iS (n0%5) c).length:=by
 refine dI (ko h) fun O h6=>?_
 refine dI (pC h) fun O h1=>?_
 have hl:((bW (n0%5) c).cps.toList.map sing).length=(bW (n0%5) c).length:=by rw[fZ];exact fA
 have:=kF (cf:=fw (qJ (eS (n0%5) c).cps.toList)) (ls:=(bW (n0%5) c).cps.toList.map sing) (K:=1) (je _ _)
  (fun s hs=>by refine aL (List.mem_map.mp hs) fun k O q1=>?_;subst q1;exact dX 1) (fun s hs=>by refine aL (List.mem_map.mp hs) fun k O q2=>?_;subst q2;exact yN k)
  (bW (n0%5) c).length 0 (bW (n0%5) c).length (de _ _) h1 (cG hl.symm)
 unfold iS
 refine ⟨?_,this.2⟩
 have h3:=this.1
 lia
theorem wS (n0 c:Nat):(leafS n0 c).length≤18∧0<(leafS n0 c).length:=by
 unfold leafS
 by_cases h:c∈twoL n0
 ·rw[if_pos h];exact ug h
 ·rw[if_neg h];exact ⟨show 1≤18 by decide,show 0<1 by decide⟩
theorem jL (n0:Nat)(u:List Nat):∀ s∈(sigN n0 u).map (leafS n0),s.length≤18∧0<s.length:=by
 intro s hs
 refine aL (List.mem_map.mp hs) fun c O q3=>?_;subst q3
 exact wS n0 c
theorem rf (n0:Nat)(u:List Nat):((sigN n0 u).map (leafS n0)).length=u.length:=by
 rw[fZ]
 unfold sigN
 rw[fZ]
theorem wD {n0 d:Nat}(h:d∈pE):0<(iy n0 d).length∧(iy n0 d).length≤6:=by
 have hw:=cQ n0 (show 0<5 by decide)
 refine bc (jl n0) fun p q h1 h2 h3 q4=>cy q4 fun t1 t2 s0 s1 s2 q5=>di q5 fun s3 e0 e1 e2 e3=>?_;clear q4 q5
 refine ch (jq n0) fun l0 l1 O=>?_
 have hn:∀ i,i<(bp (n0%5)).length→dg (n0%5) i∈twoL n0→0<(bW (n0%5) (dg (n0%5) i)).cps.toList.length∧(bW (n0%5) (dg (n0%5) i)).cps.toList.length≤6:=by
  intro i hi ht
  rw[fA]
  exact ⟨(pC ht).2,(ko ht).2⟩
 unfold pE at h
 simp only[mh,mr,or_false] at h
 rcases h with rfl|rfl|rfl|rfl
 ·have hpg:iy n0 49=(bW (n0%5) (dg (n0%5) p)).cps.toList:=by unfold iy;rw[s0,(dh _ hw _ h1).1]
  rw[hpg];exact hn p h1 t1
 ·have hpg:iy n0 50=(bW (n0%5) (dg (n0%5) q)).cps.toList:=by unfold iy;rw[s1,(dh _ hw _ h2).1]
  rw[hpg];exact hn q h2 t2
 ·have hpg:iy n0 51=[(pA n0).cps.getD 0 0]:=by unfold iy;rw[s2,ja _ hw _ l0]
  rw[hpg];exact ⟨Nat.succ_pos _,show 1≤6 by decide⟩
 ·have hpg:iy n0 52=[(pA n0).cps.getD 1 0]:=by unfold iy;rw[s3,ja _ hw _ l1]
  rw[hpg];exact ⟨Nat.succ_pos _,show 1≤6 by decide⟩
theorem so {enc:Nat→List Nat}{K:Nat}:∀ {x:List Nat},(∀ d∈x,(enc d).length≤K)→(x.flatMap enc).length≤K*x.length
 | [],_=>iE _
 | d::r,h=>by
  have ih:=so (x:=r) fun e he=>h e (.tail _ he)
  have h1:=h d (.head _)
  rw[lf,ζ17,eR,Nat.mul_succ]
  exact ln2 [_,_,_,_] [] (.le (.a ah am) (.a ao aM)) (.le am ao) (.le ah aM) ae ih h1
theorem vn (n0 n1 n2 n3:Nat):LawFacts n0 n1 n2 n3:=by
 have hi:pI n0<10:=cQ _ (by decide)
 refine di (nG (pI n0) hi) fun q1 q2 q3 q4 q5=>?_
 have q1:∀ c∈(pA n0).cps.toList,c∈lettersL:=q1
 have q2:(pA n0).length=2:=q2
 have q3:pB n0=sing (bN n0):=q3
 have hB:(pB n0).length=1:=by rw[q3];rfl
 have hw3:3≤wdN n3:=dG _ _
 constructor
 case read=>exact s7 n0 n1 n2
 case hpb =>
  refine beq_eq_false_iff_ne.mpr fun e=>?_
  rw[e,hB] at q2
  cases q2
 case hwl =>
  have h1:=jh n0 n1
  have h2:Str.length ⟨(wordN n0 n1).toArray⟩=(wordN n0 n1).length:=by show (wordN n0 n1).toArray.size=_;simp
  rw[hB,h2]
  exact aQ [_] [] (.le (.a ah (.r (.a ah av) 1)) aY) (.X 2 (.le ah fs)) ae h1.2
 case hxl=>exact (kE n0 n1 n2).2.2
 case hpc =>
  intro c hc
  have:Txt.contains (pA n0) (sing c)=decide (c∈(pA n0).cps.toList):=gZ _ _
  rw[this] at hc
  exact kG c (q1 c (of_decide_eq_true hc))
 case hlow=>exact xm n0 n1 n2
 case hjoin=>exact xE n0 n1 n2
 case own=>exact fun c hc=>gE (ug hc).2
 case leaf =>
  intro u _ s hs
  have h:=jL n0 u s hs
  exact ⟨bw h.1 (by decide),bne_iff_ne.mpr (gE h.2)⟩
 case rlen=>exact fun u O=>oQ
 case rdis =>
  intro u hu i j hi hj hne
  rw[oQ] at hi hj
  exact vD hw3 hu hi hj hne
 case plen =>
  intro u hu h0 h7
  have hpos:0<u.length:=List.length_pos_iff.mpr h0
  have hfig:=pQ hu
  have e1:(dO n0 (sigN n0 u)).length=((u.map (·+48)).flatMap (iy n0)).length:=by
   rw[← li];exact Array.length_toList.symm
  have e2:(fU n0 (dO n0 (sigN n0 u))).length=(dO n0 (sigN n0 u)).length:=by
   have h:=lI n0 (dO n0 (sigN n0 u))
   have h2:=congrArg List.length h
   rw[pv,fA,fA] at h2
   exact h2
  have h6:=so (enc:=iy n0) (K:=6) (x:=u.map (·+48)) fun d hd=>(wD (hfig d hd)).2
  rw[fZ] at h6
  refine (iPPP ?_ (by rw[e1];exact ln2 [_,_] [] (.le ah dJ) (.X 6 (.le am fs)) (.le ah (.m 6 am)) ae h7 h6) e2)
  rw[e1]
  cases u with
  | nil=>exact absurd rfl h0
  | cons d r =>
   have:=(wD (n0:=n0) (hfig (d+48) (.head _))).1
   rw[dC,lf,ζ17]
   exact b9 this (dG _ _)
 case plain =>
  intro u hu h0 _
  have hpos:0<u.length:=List.length_pos_iff.mpr h0
  have hn:=rf n0 u
  refine gE ?_
  unfold fW
  have hcf:qF (cutE (u.map (·+48))) ((sigN n0 u).map (leafS n0)).length:=by
   rw[hn]
   have:=rG (u.map (·+48))
   rw[fZ] at this
   exact this
  exact (kF (K:=18) hcf (fun s hs=>(jL n0 u s hs).1) (fun s hs=>gE (jL n0 u s hs).2) ((sigN n0 u).map (leafS n0)).length 0 ((sigN n0 u).map (leafS n0)).length (de _ _) (b9 hpos (cG hn.symm)) (dX _)).2
 case ranked =>
  intro u hu h0 _
  exact pr hw3 hu (List.length_pos_iff.mpr h0) (rf n0 u)
 case written=>exact fun u hu h0 O=>rs hu h0
section
section
variable {w:World}{A:Around}{E:Value→Shared→Prop}{s:Shared}
theorem qS {d:Addr}{kvs:List (Int×Value)}{k:Int}{key v:Value}{Q:Unit→Shared→Prop}(hkey:(PySem.intKind prog w).is k key=true)(hm:s.heap.DictOf (PySem.intKind prog w) d kvs)(hQ:∀ h',h'.DictOf (PySem.intKind prog w) d (stored kvs k v)→Heap.SameBut d s.heap h'→Q () { s with heap:=h' })(hsz:kvs.length≤sizeLine) :
  wpAny (model prog w) A (dictPut d ((PySem.intKind prog w).hash k) key v) Q E s:=by
 refine bC hm fun o es ep ho hc q1=>cA q1 fun hd hk hp hn=>?_;clear q1 hm
 have hes:es.size≤sizeLine:=by (have e1:=hp.length;have e2:es.toList.length=es.size:=by simp);lia
 unfold dictPut
 refine wpAny_bind (wpAny_dictFind_of hkey ho hd hk ?_)
 have hidx:(es.findIdx? fun e=>(PySem.intKind prog w).is k e.key)=kvs.findIdx? fun kv=>decide (kv.1=k):=by
  rw[← hp.findIdx k];obtain ⟨l⟩:=es;simp
 cases hi:es.findIdx? fun e=>(PySem.intKind prog w).is k e.key with
 | some i =>
  refine wpAny_updateDict ho hd (hQ _ (bf _ _ ep (Heap.get?_update_self _ ho (Obj.isFreed_of_dict (Obj.data_mapDict hd _))) (hc.mapDict _) (cr (Obj.data_mapDict hd _) (hk.modify _ _) ?_ ?_)) (Heap.SameBut.update ..))
  ·rw[stored,if_pos (any_of_findIdx_some (hidx▸hi))]
   have hl:(es.toList.findIdx? fun e=>(PySem.intKind prog w).is k e.key)=some i:=by rw[← hi];obtain ⟨l⟩:=es;simp
   have:=hp.modify hn hl v
   obtain ⟨l⟩:=es
   simpa using this
  ·rw[stored,if_pos (any_of_findIdx_some (hidx▸hi)),keys_map_store];exact hn
 | none =>
  have hnot:k ∉ kvs.map (·.1):=not_mem_of_findIdx_none (hidx▸hi)
  have hany:¬ (kvs.any fun kv=>decide (kv.1=k))=true:=by
   rw[List.any_eq_true];refine fun q2=>aL q2 fun kv hkv he=>?_;clear q2
   exact hnot (List.mem_map.mpr (aG kv hkv (of_decide_eq_true he)))
  refine wpAny_updateDictKeys (hz:=hes) ho hd (hQ _ (bf _ _ (ep+1) (Heap.get?_update_self _ ho (Obj.isFreed_of_dict (Obj.data_mapDictKeys hd _))) (hc.mapDictKeys _) (cr (Obj.data_mapDictKeys hd _) (hk.push hkey _) ?_ ?_)) (Heap.SameBut.update ..))
  ·rw[stored,if_neg hany]
   have:=hp.append hkey ((PySem.intKind prog w).hash k) v
   obtain ⟨l⟩:=es
   simpa using this
  ·rw[stored,if_neg hany,ζ18,vW]
   refine (iPPP hn (by simp) ?_)
   intro a ha b hb
   simp only[dC,oH,List.mem_singleton] at hb
   subst hb
   exact fun e=>hnot (e▸ha)
theorem se {k:Int}{v:Value}(h:(PySem.intKind prog w).is k v=true):∃ t,v=.int k t:=Value.isInt_shape h
theorem lz {d o:Addr}{kvs more:List (Int×Value)}{Q:Unit→Shared→Prop}(hdo:d≠o)(hoS:(o==sysModules)=false)(hd:s.heap.DictOf (PySem.intKind prog w) d kvs)(ho:s.heap.DictOf (PySem.intKind prog w) o more)(hQ:∀ h',h'.DictOf (PySem.intKind prog w) d (merged kvs more)→Heap.SameBut d s.heap h'→Q () { s with heap:=h' })(hsz:kvs.length+more.length≤1000) :
  wpAny (model prog w) A (mergeMapping d (.ref o) false) Q E s:=by
 refine bC (id hd) fun od esd epd hod hcd q3=>cA q3 fun hdd hkd hpd hnd=>?_;clear q3
 refine bC (id ho) fun oo eso epo hoo hco q4=>cA q4 fun hdo' hko hpo hno=>?_;clear q4
 have hlen:more.length=eso.size:=by rw[← hpo.length];simp
 have hT:s.TypeIs (.ref o) "dict":=(aG _ hoo hco.1)
 have f1:isSubtype (.type "dict") (.type "dict")=pure true:=by rw[isSubtype_type];kernel_rfl
 unfold mergeMapping
 refine wpAny_bind ?_
 refine wpAny_bind (wpAny_typeOf hT (wpAny_of_eq f1 ?_))
 rw[if_pos rfl]
 refine wpAny_bind (wpAny_specialOf hT F.slot_dict_iter.lookup ?_)
 refine wpAny_bind (wpAny_pure ?_)
 have hb:((some (Value.builtin "dict.__iter__")==some (Value.builtin "dict.__iter__")):Bool)=true:=by simp
 rw[hb]
 dsimp only
 rw[if_neg (by rw[hoS];exact jo)]
 refine wpAny_bind (wpAny_dictEntries hod hdd ?_)
 have step:∀ i s',i<eso.size→(∃ h',s'={ s with heap:=h' }∧h'.DictOf (PySem.intKind prog w) d (merged kvs (more.take i))∧h'.get? o=some oo∧Heap.SameBut d s.heap h') →
   ∀ e,eso[i]?=some e→wpAny (model prog w) A (dictPut d e.hash e.key e.val) (fun O s''=>∃ h',s''={ s with heap:=h' }∧h'.DictOf (PySem.intKind prog w) d (merged kvs (more.take (i+1)))∧h'.get? o=some oo∧Heap.SameBut d s.heap h') E s':=by
  refine fun x s' hlt q5 e he=>dY q5 fun h' q6 hd' hoo' hs'=>?_;clear q5;subst q6
  obtain ⟨kv,hkv⟩:∃ kv,more[x]?=some kv:=⟨more[x]'(by rw[hlen];exact hlt),List.getElem?_eq_getElem _⟩
  obtain ⟨k,v⟩:=kv
  obtain rfl:eso[x]=e:=by rw[Array.getElem?_eq_getElem hlt] at he;exact Option.some.inj he
  refine dI (hpo.get? (e:=eso[x]) (by simp[hlt]) hkv) fun hkey hval=>?_
  refine aL (hko eso[x] (Array.getElem_mem hlt)) fun k' hkey' hhash=>?_
  obtain rfl:k'=k:=(PySem.intKind prog w).inj _ _ _ hkey' hkey
  rw[hhash,hval]
  have hmx:(merged kvs (more.take x)).length≤sizeLine:=by
   have e1:=merged_length_le kvs (more.take x)
   have e2:(more.take x).length≤more.length:=by rw[js];exact qO _ _
   exact bw (bw e1 (ln2 [_,_,_] [] (.le (.a ah am) bg) (.le (.a ah ao) bg) (.le am ao) ae hsz e2)) (show (1000:Nat)≤sizeLine by decide)
  refine qS hkey hd' (fun h'' hd'' hs''=>?_) hmx
  exact (eQ h'' rfl (by rw[merged_take_succ kvs more x (_,v) hkv];exact hd'') ((hs''.2 o (Ne.symm hdo)).trans hoo') (hs'.trans hs''))
 have h0:∃ h',s={ s with heap:=h' }∧h'.DictOf (PySem.intKind prog w) d (merged kvs (more.take 0))∧h'.get? o=some oo∧Heap.SameBut d s.heap h' :=
  (eQ s.heap rfl (by simpa [merged] using hd) hoo (Heap.SameBut.refl _ _))
 have hend:∀ s',(∃ h',s'={ s with heap:=h' }∧h'.DictOf (PySem.intKind prog w) d (merged kvs (more.take eso.size))∧h'.get? o=some oo∧Heap.SameBut d s.heap h')→Q () s':=by
  refine fun s' q7=>dY q7 fun h' q8 h1 h2 h3=>?_;clear q7;subst q8
  rw[← hlen,mu] at h1
  exact hQ h' h1 h3
 have hns:∀ e∈eso,∃ k t,e.key=.int k t:=fun e he=>by
  refine aL (hko e he) fun k hk O=>?_
  refine bK (se hk) fun t ht=>?_
  exact (sx k t ht)
 generalize hI:(fun i s'=>∃ h',s'={ s with heap:=h' }∧h'.DictOf (PySem.intKind prog w) d (merged kvs (more.take i))∧h'.get? o=some oo∧Heap.SameBut d s.heap h')=I at *
 have hIget:∀ i s',I i s'→s'.heap.get? o=some oo:=by
  subst hI;refine fun i s' q9=>dY q9 fun h' q10 O h O=>?_;clear q9;subst q10;exact h
 have step':∀ i s',i<eso.size→I i s'→∀ e,eso[i]?=some e→wpAny (model prog w) A (dictPut d e.hash e.key e.val) (fun O s''=>I (i+1) s'') E s':=by
  subst hI;exact step
 have h0':I 0 s:=by subst hI;exact h0
 have hend':∀ s',I eso.size s'→Q () s':=by subst hI;exact hend
 split
 ·refine wpAny_bind (wpAny_dictEntries hoo hdo' ?_)
  refine wpAny_bind (wpAny_of_eq (a:=PUnit.unit) ?_ ?_)
  ·rw[← Array.forIn_toList]
   refine forIn_yield_id _ fun e he c=>?_
   refine vO (hns e (Array.mem_toList_iff.mp he)) fun k t h=>?_
   rw[h]
  refine wpAny_bind (wpAny_dictEntries hoo hdo' ?_)
  refine wpAny_bind (wpAny_dictEpoch hoo hdo' ?_)
  refine wpAny_bind ?_
  refine kB eso.size I _ ?_ h0' (fun s' h=>wpAny_pure (hend' s' h))
  intro i s' hi hI
  refine wpAny_bind (wpAny_dictEntries (hIget i s' hI) hdo' ?_)
  rw[Array.getElem?_eq_getElem hi]
  refine wpAny_bind (wpAny_holding ?_)
  rw[if_neg jo]
  refine wpAny_mono (step' i s' hi hI _ (Array.getElem?_eq_getElem hi)) (fun O s'' h=>?_) fun O O h=>h
  refine wpAny_bind (wpAny_dictEpoch (hIget _ _ h) hdo' ?_)
  rw[if_neg (by simp)]
  exact wpAny_pure ⟨rfl,h⟩
 ·refine wpAny_bind (wpAny_dictEntries hoo hdo' ?_)
  refine wpAny_bind (wpAny_dictEpoch hoo hdo' ?_)
  refine wpAny_bind ?_
  refine kB eso.size I _ ?_ h0' (fun s' h=>wpAny_pure (hend' s' h))
  intro i s' hi hI
  refine wpAny_bind (wpAny_dictEntries (hIget i s' hI) hdo' ?_)
  rw[Array.getElem?_eq_getElem hi]
  refine wpAny_bind (wpAny_holding ?_)
  rw[if_neg jo]
  refine wpAny_mono (step' i s' hi hI _ (Array.getElem?_eq_getElem hi)) (fun O s'' h=>?_) fun O O h=>h
  refine wpAny_bind (wpAny_dictEpoch (hIget _ _ h) hdo' ?_)
  rw[if_neg (by simp)]
  exact wpAny_pure ⟨rfl,h⟩
theorem jT:∀ (more acc:List (Int×Value)),((acc++more).map (·.1)).Nodup→merged acc more=acc++more
 | [],acc,_=>by simp[merged]
 | (k,v)::r,acc,h=>by
  have hn:¬ (acc.any fun kv=>decide (kv.1=k))=true:=by
   intro ha
   refine aL (List.any_eq_true.mp ha) fun kv hkv e=>?_
   rw[ζ18,vW] at h
   exact h.2.2 kv.1 (List.mem_map.mpr (aG kv hkv rfl)) k (List.mem_map.mpr (aG (k,v) (.head _) rfl)) (of_decide_eq_true e)
  have e1:stored acc k v=acc++[(k,v)]:=by rw[stored,if_neg hn]
  have e2:merged acc ((k,v)::r)=merged (stored acc k v) r:=by simp[merged]
  have e3:acc++(k,v)::r=(acc++[(k,v)])++r:=by simp
  rw[e2,e1,e3]
  exact jT r _ (by rw[← e3];exact h)
noncomputable def B2 (w:World)(A:Around)(p:Sem Value×Sem Value)(kx:Int×Str):Prop :=
 (∀ (E:Value→Shared→Prop) s Q,(∀ t n,s.toks≤n→Q (.int kx.1 t) { s with toks:=n })→wpAny (model prog w) A p.1 Q E s) ∧
 (∀ (E:Value→Shared→Prop) s Q,(∀ t n,s.toks≤n→Q (.str kx.2 t) { s with toks:=n })→wpAny (model prog w) A p.2 Q E s)
inductive Lits (w:World) (A:Around):List (Sem Value×Sem Value)→List (Int×Str)→Prop
 | nil:Lits w A [] []
 | cons {p kx ps ks}:B2 w A p kx→Lits w A ps ks→Lits w A (p::ps) (kx::ks)
theorem Lits.length {ps:List (Sem Value×Sem Value)}{ks:List (Int×Str)}(h:Lits w A ps ks):ps.length=ks.length:=by
 induction h with
 | nil=>rfl
 | cons _ _ ih=>rw[eR,eR,ih]
theorem Lits.append {ps ps':List (Sem Value×Sem Value)}{ks ks':List (Int×Str)}(h:Lits w A ps ks)(h':Lits w A ps' ks'):Lits w A (ps++ps') (ks++ks'):=by
 induction h with
 | nil=>exact h'
 | cons a _ ih=>exact .cons a ih
inductive Ents:List (Int×Value)→List (Int×Str)→Prop
 | nil:Ents [] []
 | cons {k x t vs ks}:Ents vs ks→Ents ((k,.str x t)::vs) ((k,x)::ks)
theorem Ents.append {vs vs':List (Int×Value)}{ks ks':List (Int×Str)}(h:Ents vs ks)(h':Ents vs' ks'):Ents (vs++vs') (ks++ks'):=by
 induction h with
 | nil=>exact h'
 | cons _ ih=>exact .cons ih
theorem Ents.keys {vs:List (Int×Value)}{ks:List (Int×Str)}(h:Ents vs ks):vs.map (·.1)=ks.map (·.1):=by
 induction h with
 | nil=>rfl
 | cons _ ih=>rw[dC,dC,ih]
theorem Ents.length {vs:List (Int×Value)}{ks:List (Int×Str)}(h:Ents vs ks):vs.length=ks.length:=by
 have:=congrArg List.length h.keys
 simpa using this
theorem nP {ps:List (Sem Value×Sem Value)}{ks:List (Int×Str)}(h:Lits w A ps ks):∀ {s:Shared}{Q:List (Value×Value)→Shared→Prop},
  (∀ vs kvs n,Carries (PySem.intKind prog w) vs kvs→Ents kvs ks→s.toks≤n→Q vs { s with toks:=n })→wpAny (model prog w) A (evalPairs ps) Q E s:=by
 induction h with
 | nil=>exact fun h=>evalPairs_nil (h [] [] _ trivial .nil (dX _))
 | @cons p kx ps ks hp _ ih =>
  intro s Q h
  obtain ⟨k,v⟩:=p
  obtain ⟨i,x⟩:=kx
  refine evalPairs_cons (hp.1 _ _ _ fun t n hn=>hp.2 _ _ _ fun u m hm=>ih fun vs kvs q hc he hq=>?_)
  exact h _ ((i,.str x u)::kvs) q (iPPP (intKind_is prog w i t) rfl hc) (.cons he) (bw hn (bw hm hq))
theorem vT {d:Addr}{ps:List (Sem Value×Sem Value)}{ks:List (Int×Str)}(h:Lits w A ps ks):∀ {acc:List (Int×Value)}{s:Shared}{Q:PUnit→Shared→Prop},s.heap.DictOf (PySem.intKind prog w) d acc→acc.length+ks.length≤1000 →
  (acc.map (·.1)++ks.map (·.1)).Nodup →
  (∀ h' kvs n,Ents kvs ks→h'.DictOf (PySem.intKind prog w) d (acc++kvs)→Heap.SameBut d s.heap h'→s.toks≤n→Q PUnit.unit { s with heap:=h',toks:=n }) →
  wpAny (model prog w) A (forIn ps PUnit.unit fun (x:Sem Value×Sem Value) (_:PUnit)=>(do
   let kv ← x.1
   let vv ← holding [kv] x.2
   holding [kv,vv] (dictSet d kv vv)
   pure (ForInStep.yield PUnit.unit):Sem (ForInStep PUnit))) Q E s:=by
 induction h with
 | nil =>
  intro acc s Q hd _ _ h
  rw[qy]
  exact wpAny_pure (by simpa using h s.heap [] s.toks .nil (by simpa using hd) (Heap.SameBut.refl _ _) (dX _))
 | @cons p kx ps ks hp _ ih =>
  intro acc s Q hd hsz hnd h
  obtain ⟨k,v⟩:=p
  obtain ⟨i,x⟩:=kx
  rw[nX]
  refine wpAny_bind ?_
  refine wpAny_bind (hp.1 _ _ _ fun t n hn=>?_)
  refine wpAny_bind (wpAny_holding (hp.2 _ _ _ fun u m hm=>?_))
  refine wpAny_bind (wpAny_holding ?_)
  have hl:acc.length≤sizeLine:=bw (Nat.le_of_add_right_le hsz) (show (1000:Nat)≤sizeLine by decide)
  refine wpAny_dictSet_pairs (hsz:=hl) (knd:=intKind prog w) (intKind_is prog w i t) hd fun h₁ hm₁ hs₁=>?_
  refine wpAny_pure ?_
  have hn1:¬ (acc.any fun kv=>decide (kv.1=i))=true:=by
   intro ha
   refine aL (List.any_eq_true.mp ha) fun kv hkv e=>?_
   rw[vW] at hnd
   exact hnd.2.2 kv.1 (List.mem_map.mpr (aG kv hkv rfl)) i (.head _) (of_decide_eq_true e)
  have e1:stored acc i (.str x u)=acc++[(i,.str x u)]:=by rw[stored,if_neg hn1]
  rw[e1] at hm₁
  refine ih hm₁ (by simp only[ζ17,eR,lj] at hsz ⊢;exact aQ [_,_] [] (.le (.a (.a ah (.a b6 av)) am) bg) (.le (.a ah (.a am av)) bg) ae hsz) (by simpa using hnd) fun h' kvs q he hd' hs' hq=>?_
  refine h h' ((i,.str x u)::kvs) q (.cons he) (by simpa using hd') (hs₁.trans hs') ?_
  exact bw hn (bw hm (bw (fB _) hq))
theorem j8 {ps:List (Sem Value×Sem Value)}{ks:List (Int×Str)}(h:Lits w A ps ks){Q:Addr→Shared→Prop}(hsz:ks.length≤1000)(hnd:(ks.map (·.1)).Nodup)(hQ:∀ h' kvs n,Ents kvs ks→h'.DictOf (PySem.intKind prog w) s.heap.objs.size kvs→(∀ b o,s.heap.get? b=some o→h'.get? b=some o)→s.toks≤n→Q s.heap.objs.size { s with heap:=h',toks:=n }) :
  wpAny (model prog w) A (subDict ps) Q E s:=by
 have hd0:(s.heap.push { cls:=.type "dict",data:=.dict #[] }).DictOf (PySem.intKind prog w) s.heap.objs.size []:=Heap.DictOf.new s.heap
 have hkeep:∀ h',Heap.SameBut s.heap.objs.size (s.heap.push { cls:=.type "dict",data:=.dict #[] }) h'→∀ b o,s.heap.get? b=some o→h'.get? b=some o:=fun h' hs b o e =>
  (hs.2 b (eE (Heap.lt_size e))).trans (Heap.get?_push_of_some _ e)
 by_cases hlen:ps.length≤15
 ·refine wpAny_subDict (knd:=intKind prog w) hlen ?_
  refine nP h fun vs kvs n hc he hn=>(bU kvs hc hd0 (fun h' hd hs=>?_))
  have hm:merged [] kvs=kvs:=by
   rw[jT kvs [] (by rw[si,he.keys];exact hnd)];rfl
  rw[hm] at hd
  exact hQ h' kvs _ he hd (hkeep h' hs) (bw hn (dG _ _))
 ·unfold subDict
  refine wpAny_bind (wpAny_alloc ?_)
  refine wpAny_bind (wpAny_holding ?_)
  rw[if_neg hlen]
  refine wpAny_bind (wpAny_rule ?_)
  refine wpAny_bind ?_
  refine vT (acc:=[]) (s:={ s with heap:=s.heap.push { cls:=.type "dict",data:=.dict #[] } }) h hd0 (by simpa using hsz) (by simpa using hnd) fun h' kvs n he hd hs hn=>?_
  refine wpAny_pure (wpAny_pure ?_)
  exact hQ h' kvs n he hd (hkeep h' hs) hn
end
end
section
noncomputable abbrev flushD (run:List (Sem Value×Sem Value))(main:Option Addr):Sem (Option Addr):=do
 if run.isEmpty then return main
 match main with
 | none=>return some (← subDict run)
 | some d =>
  let sub ← holding [.ref d] (subDict run)
  (holding [.ref d,.ref sub] (mergeMapping d (.ref sub) false)).onRaise fun x=>do let _ ← holding [.ref d,x] (runValue (.builtin "proto.let_go" {}))
  return some d
section
variable {w:World}{A:Around}{E:Value→Shared→Prop}{s:Shared}
noncomputable def ym (w:World)(s:Shared)(main:Option Addr)(done:List (Int×Str))(s':Shared):Prop :=
 ∃ h' n,s'={ s with heap:=h',toks:=n }∧s.toks≤n∧(∀ b o,s.heap.get? b=some o→h'.get? b=some o)∧s.heap.objs.size≤h'.objs.size ∧
  match main with
  | none=>done=[]
  | some d=>s.heap.objs.size≤d∧∃ kvs,Ents kvs done∧h'.DictOf (PySem.intKind prog w) d kvs
theorem o7 {h h':Heap}{d:Addr}{kvs:List (Int×Value)}(hd:h'.DictOf (PySem.intKind prog w) d kvs)(he:d=h.objs.size):h.objs.size≤h'.objs.size:=by
 refine dm hd fun o O O ho O=>?_;clear hd
 have:=Heap.lt_size ho
 rw[he] at this
 exact bY this
theorem ni {ps:List (Sem Value×Sem Value)}{kr done:List (Int×Str)}{main:Option Addr}{s':Shared}{Q:Option Addr→Shared→Prop}(hlow:sysModules<s.heap.objs.size)(I:ym w s main done s')(h:Lits w A ps kr)(hne:ps≠[])(hsz:done.length+kr.length≤1000)(hnd:((done++kr).map (·.1)).Nodup)(hQ:∀ d s'',ym w s (some d) (done++kr) s''→Q (some d) s''):wpAny (model prog w) A (flushD ps main) Q E s':=by
 refine bc I fun h' n q1 hn hk q2=>dI q2 fun hz hm=>?_;clear q2 I;subst q1
 unfold flushD
 have h0:¬ ps.isEmpty=true:=by simpa using hne
 rw[if_neg h0]
 have hnd':=hnd
 rw[ζ18,vW] at hnd'
 cases main with
 | none =>
  have hm:done=[]:=hm
  subst hm
  refine wpAny_bind (j8 h (bw (j6 _ _) hsz) hnd'.2.1 fun h₂ kvs q he hd hk₂ hq=>?_)
  refine wpAny_pure (hQ _ _ (cb h₂ q rfl (bw hn hq) (fun b o e=>hk₂ b o (hk b o e)) (sD (bw hz (o7 hd rfl)) hz kvs he hd)))
 | some d =>
  refine d6 hm fun hdz kvs he hd=>?_;clear hm
  refine wpAny_bind (wpAny_holding (j8 h (bw (j6 _ _) hsz) hnd'.2.1 fun h₂ more q he₂ hd₂ hk₂ hq=>?_))
  have hdlt:d<h'.objs.size:=by refine dm hd fun o O O ho O=>?_;clear hd;exact Heap.lt_size ho
  have hd1:h₂.DictOf (PySem.intKind prog w) d kvs:=by
   refine dm hd fun o es ep ho r=>?_;clear hd
   exact (dQ o es ep (hk₂ _ _ ho) r)
  refine wpAny_bind (wpAny_onRaise (wpAny_holding ?_))
  have e1:=he.length
  have e2:=he₂.length
  refine lz (s:={ s with heap:=h₂,toks:=q }) (eE hdlt) (beq_eq_false_iff_ne.mpr (df (b9 hlow hz))) hd1 hd₂ (fun h₃ hd₃ hs₃=>?_) (cZ [_,_,_,_] [] (.le (.a ah am) bg) (.le (.a ao aM) bg) (.eq ah ao) (.eq am aM) ae hsz e1 e2)
  have hm:merged kvs more=kvs++more:=jT more kvs (by rw[ζ18,he.keys,he₂.keys,← ζ18];exact hnd)
  rw[hm] at hd₃
  refine wpAny_pure (hQ _ _ (cb h₃ q rfl (bw hn hq) (fun b o e=>(hs₃.2 b ?_).trans (hk₂ b o (hk b o e))) (sD ?_ hdz _ (he.append he₂) hd₃)))
  ·exact eE (b9 (Heap.lt_size e) hdz)
  ·have:=hs₃.1
   have h2:=o7 hd₂ rfl
   simp only at h2 this
   exact bw hz (bw h2 (cG this.symm))
theorem qU {f:(Option (Sem Value)×Sem Value)→(Option Addr×List (Sem Value×Sem Value))→Sem (ForInStep (Option Addr×List (Sem Value×Sem Value)))}(hlow:sysModules<s.heap.objs.size)(hf1:∀ p main run,run.length+1≠17→f (some p.1,p.2) (main,run)=pure (.yield (main,run++[p])))(hf2:∀ p main run,run.length+1=17→f (some p.1,p.2) (main,run)=(do let m ← flushD (run++[p]) main;pure (.yield (m,[])))){Q:Option Addr×List (Sem Value×Sem Value)→Shared→Prop}{all:List (Int×Str)}(hsz:all.length≤1000)(hnd:(all.map (·.1)).Nodup)(hQ:∀ main done run kr s',ym w s main done s'→Lits w A run kr→done++kr=all→Q (main,run) s') :
  ∀ {prs:List (Sem Value×Sem Value)}{ks:List (Int×Str)},Lits w A prs ks→∀ {main:Option Addr}{done:List (Int×Str)}{run:List (Sem Value×Sem Value)}{kr:List (Int×Str)}{s':Shared},Lits w A run kr→kr.length<17→ym w s main done s'→done++kr++ks=all →
   wpAny (model prog w) A (forIn (prs.map fun p=>(some p.1,p.2)) (main,run) f) Q E s':=by
 intro prs ks h
 induction h with
 | nil =>
  intro main done run kr s' hr _ I e
  rw[oH,qy]
  exact wpAny_pure (hQ _ _ _ _ _ I hr (by simpa using e))
 | @cons p kx ps ks hp hps ih =>
  intro main done run kr s' hr hl I e
  rw[dC,nX]
  have hr':Lits w A (run++[p]) (kr++[kx]):=hr.append (.cons hp .nil)
  have e':done++(kr++[kx])++ks=all:=by rw[← e];simp
  have hrl:=hr.length
  by_cases q:run.length+1=17
  ·rw[hf2 p main run q]
   refine wpAny_bind (wpAny_bind ?_)
   have hnd2:((done++(kr++[kx])).map (·.1)).Nodup:=by
    rw[← e',ζ18,vW] at hnd
    exact hnd.1
   have hsz2:done.length+(kr++[kx]).length≤1000:=by
    rw[← e'] at hsz
    simp only[ζ17] at hsz ⊢
    exact bw (dG _ _) hsz
   refine ni hlow I hr' (by simp) hsz2 hnd2 fun d s'' I'=>wpAny_pure ?_
   exact ih .nil (by decide) I' (by rw[tD];exact e')
  ·rw[hf1 p main run q]
   refine wpAny_bind (wpAny_pure ?_)
   exact ih hr' (by rw[ζ17,s6];exact ln2 [_,_] [] (.lt (.a ah av) (.l 17)) (.Y 1 (.eq am ah)) (.lt (.a am av) (.l 17)) ae hrl (gz (ln2 [_,_] [] (.le (.a ah av) (.l 17)) (.lt am (.l 17)) (.eq ah am) ae hl hrl) q)) I e'
theorem lq {prs:List (Sem Value×Sem Value)}{ks:List (Int×Str)}{Q:Value→Shared→Prop}(hlow:sysModules<s.heap.objs.size)(h:Lits w A prs ks)(h0:ks≠[])(hsz:ks.length≤1000)(hnd:(ks.map (·.1)).Nodup)(hQ:∀ d h' kvs n,s.heap.objs.size≤d→Ents kvs ks→h'.DictOf (PySem.intKind prog w) d kvs→(∀ b o,s.heap.get? b=some o→h'.get? b=some o)→s.toks≤n→Q (.ref d) { s with heap:=h',toks:=n }) :
  wpAny (model prog w) A (dictDisplay (prs.map fun p=>(some p.1,p.2))) Q E s:=by
 unfold dictDisplay
 dsimp only
 refine wpAny_bind ?_
 refine qU (s:=s) hlow ?_ ?_ hsz hnd (fun main done run kr s' I hr e=>?_) h (main:=none) (done:=[]) (run:=[]) (kr:=[]) .nil (by decide) (cb s.heap s.toks rfl (dX _) (fun O O e=>e) (jb (dX _) rfl)) (by simp)
 ·intro p main run q
  have:((run++[(p.1,p.2)]).length==17)=false:=by simpa using q
  dsimp only
  rw[this,if_neg jo]
 ·intro p main run q
  have:((run++[(p.1,p.2)]).length==17)=true:=by simpa using q
  dsimp only
  rw[this,if_pos rfl]
  rfl
 ·dsimp only
  refine wpAny_bind ?_
  cases run with
  | nil =>
   cases hr
   rw[if_pos (show ([]:List (Sem Value×Sem Value)).isEmpty=true from rfl)]
   rw[tD] at e
   subst e
   refine bc I fun h' n q3 hn hk q4=>dI q4 fun hz hm=>?_;clear q4 I;subst q3
   cases main with
   | none=>exact absurd hm h0
   | some d =>
    refine d6 hm fun hdz kvs he hd=>?_;clear hm
    exact wpAny_pure (wpAny_pure (hQ d h' kvs n hdz he hd hk hn))
  | cons p ps =>
   have:=@ni w A E s (p::ps) kr done main s' (fun x s'=>wpAny (model prog w) A (match x with|some d=>pure (Value.ref d)|none=>newDict) Q E s') hlow I hr (by simp) (by rw[← e] at hsz;simpa using hsz) (by rw[e];exact hnd) (fun d s'' I'=>by
    refine bc I' fun h' n q5 hn hk q6=>wU q6 fun hz hdz kvs he hd=>?_;clear q6 I';subst q5
    rw[e] at he
    exact wpAny_pure (hQ d h' kvs n hdz he hd hk hn))
   exact this
end
end
section
noncomputable def cW (i:Nat):Str:=match st i with
 | .FunctionDef n ..=>n
 | .Assign [.Name n _] _ _=>n
 | _=>Str.empty
noncomputable def eT (i:Nat):Bool:=match st i with|.FunctionDef ..=>true|_=>false
noncomputable def bZ (i:Nat):Pos:=match st i with|.FunctionDef _ _ _ _ _ _ _ _ _ pos=>pos|_=>⟨0,0,0,0⟩
noncomputable def xz (h:Heap)(Pl:Addr)(i:Nat)(fd:FuncData)(c:Addr):Prop :=
 (i≠2∧∃ pm,fd=fdOf i pm c)∨(i=2∧∃ pm T o u,fd=wn pm T c∧Pl<T∧h.get? T=some o∧o.cls=.type "tuple"∧o.data=.seq #[u])
noncomputable def FnAt (h:Heap)(mg:Str→Option Value)(Pl:Addr)(tabs:List (Nat×Addr×Addr))(i:Nat):Prop :=
 ∃ a c' P' fd,mg (cW i)=some (.ref a)∧Pl<a∧h.get? a=some { cls:=.type "function",data:=.func fd }∧xz h Pl i fd c'∧Pl<c'∧h.CodeRec (.ref c') (cW i)∧(i,c',P')∈tabs
noncomputable def bG (done:List Nat)(nm:Str):Bool:=done.all fun j=>cW j != nm||cW j==("__name__":Str)
structure TopI (w:World) (h0:Heap) (mg0:Str→Option Value) (c Pl:Addr) (mg:Str→Option Value) (l:List (Pos×Addr)) (tabs:List (Nat×Addr×Addr)) (done:List Nat) (h:Heap):Prop where
 main:h.Main mg c Pl (triples l).toArray
 pl:h0.objs.size≤Pl
 keep:∀ b o,b≠mainGlobals→h0.get? b=some o→h.get? b=some o
 low:∀ x,x ∉ prog.boundNames→mg x=mg0 x
 pos:∀ q∈l,∃ j∈done,q.1.line=(bZ j).line
 fns:∀ j∈done,eT j=true→FnAt h mg Pl tabs j
 nd:(tabs.map (·.2.2)).Nodup
 tab:∀ x∈tabs,Pl<x.2.1∧Pl<x.2.2∧h.IsCode x.2.1 x.2.2 #[]∧h.TableAt x.2.1 x.2.2 #[]
 divl:11∈done→∃ t,mg "_DIV_LIMIT"=some (.int 4000 t)
 b1:19∈done→∃ a,mg "b1_set"=some (.ref a)∧(a≠Pl∧a≠mainGlobals)∧h.SetOf (PySem.intKind prog w) a (fun k=>decide (k∈ju)) 27
 b3:21∈done→∃ a kvs,mg "b3_exceptions"=some (.ref a)∧Pl<a∧Ents kvs zp∧h.DictOf (PySem.intKind prog w) a kvs
structure StepT (c Pl:Addr) (mg:Str→Option Value) (nm:Str) (v:Value) (l':List (Pos×Addr)) (h h':Heap):Prop where
 main:h'.Main (fun x=>if x=nm then some v else mg x) c Pl (triples l').toArray
 keep:∀ b o,b≠Pl→b≠mainGlobals→h.get? b=some o→h'.get? b=some o
section
variable {w:World}{h0 h h':Heap}{mg0 mg:Str→Option Value}{c Pl:Addr}{l l':List (Pos×Addr)}{tabs:List (Nat×Addr×Addr)}{done:List Nat}{nm:Str}{v:Value}
theorem FnAt.step {tabs':List (Nat×Addr×Addr)}(hg:mainGlobals<Pl)(S:StepT c Pl mg nm v l' h h')(ht:∀ x∈tabs,x∈tabs'){j:Nat}(hne:cW j≠nm)(F:FnAt h mg Pl tabs j):FnAt h' (fun x=>if x=nm then some v else mg x) Pl tabs' j:=by
 refine c9 F fun a c' P' fd h1 q1=>cy q1 fun h2 h3 h4 h5 h6 h7=>?_;clear q1 F
 have k:∀ b o,Pl<b→h.get? b=some o→h'.get? b=some o:=fun b o hb e=>S.keep b o (df hb) (df (jw hg hb)) e
 refine (c4 a c' P' fd ?_ (cx h2 (k _ _ h2 h3) ?_ h5 (h6.at fun o=>k _ o h5) (ht _ h7)))
 ·show (if cW j=nm then _ else _)=_
  rw[if_neg hne];exact h1
 ·rcases h4 with h4|⟨rfl,pm,T,o,u,e1,e2,e3,e4⟩
  ·exact .inl h4
  ·exact .inr (qz rfl pm T o u (cr e1 e2 (k _ _ e2 e3) e4))
theorem fr (hf:bG done nm=true){j:Nat}(hj:j∈done)(hn:cW j≠"__name__"):cW j≠nm:=by
 have:=List.all_eq_true.mp hf j hj
 rw[Bool.or_eq_true,bne_iff_ne,beq_iff_eq] at this
 exact this.resolve_right hn
theorem rQ:∀ j,eT j=true→cW j≠"__name__":=by
 have hall:∀ j,j<34→eT j=true→cW j≠"__name__":=by decide +kernel
 intro j hj
 by_cases q:j<34
 ·exact hall j q hj
 ·exfalso
  have h2:∀ (b:List Stmt) (n:Nat),b.length≤n→aI b n=.Pass ⟨0,0,0,0⟩:=by
   intro b
   induction b with
   | nil=>intro n _;cases n<;>rfl
   | cons s r ih =>
    intro n hn
    cases n with
    | zero=>simp at hn
    | succ n=>exact ih n (by simpa using hn)
  have h3:prog.main.body.length=34:=by decide +kernel
  have:st j=.Pass ⟨0,0,0,0⟩:=h2 _ _ (by rw[h3];exact uJ q)
  unfold eT at hj
  rw[this] at hj
  cases hj
theorem TopI.stepA {i:Nat}(T:TopI w h0 mg0 c Pl mg l tabs done h)(S:StepT c Pl mg nm v l h h')(hb:nm∈prog.boundNames)(hf:bG done nm=true)(hi:eT i=false)(h11:i=11→nm="_DIV_LIMIT"∧∃ t,v=.int 4000 t)(h19:i=19→nm="b1_set"∧∃ a,v=.ref a∧(a≠Pl∧a≠mainGlobals)∧h'.SetOf (PySem.intKind prog w) a (fun k=>decide (k∈ju)) 27)(h21:i=21→nm="b3_exceptions"∧∃ a kvs,v=.ref a∧Pl<a∧Ents kvs zp∧h'.DictOf (PySem.intKind prog w) a kvs):TopI w h0 mg0 c Pl (fun x=>if x=nm then some v else mg x) l tabs (i::done) h':=by
 have hg:=T.main.low.2
 have k:∀ b o,Pl<b→h.get? b=some o→h'.get? b=some o:=fun b o hb e=>S.keep b o (df hb) (df (jw hg hb)) e
 have n11:cW 11="_DIV_LIMIT":=by decide +kernel
 have n19:cW 19="b1_set":=by decide +kernel
 have n21:cW 21="b3_exceptions":=by decide +kernel
 refine ⟨S.main,T.pl,fun b o hb e=>S.keep b o ?_ hb (T.keep b o hb e),fun x hx=>?_,fun q hq=>let q2:=T.pos q hq;aL q2 fun j hj e=>(aG j (.tail _ hj) e),fun j hj hd=>?_,T.nd,fun x hx=>?_,fun hj=>?_,fun hj=>?_,fun hj=>?_⟩
 ·exact eE (b9 (Heap.lt_size e) T.pl)
 ·show (if x=nm then _ else _)=_
  rw[if_neg (show ¬ x=nm from fun q=>hx (by rw[q];exact hb))]
  exact T.low x hx
 ·rcases List.mem_cons.mp hj with rfl|hj
  ·rw[hi] at hd;cases hd
  ·exact (T.fns j hj hd).step hg S (fun O h=>h) (fr hf hj (rQ j hd))
 ·refine cA (T.tab x hx) fun a1 a2 a3 a4=>?_
  have kk:∀ b o,b≠Pl→b≠mainGlobals→h.get? b=some o→h'.get? b=some o:=S.keep
  refine aT a3 fun o vs file tf flags q3=>aT q3 fun tg inF text tt op q4=>cy q4 fun b1 r1 r2 r3 r4 q5=>cA q5 fun r5 r6 b2 r=>?_;clear q3 q4 q5 a3
  refine dI a4 fun q6 b5=>bJ q6 fun o' vs' b3 b4=>?_;clear q6 a4
  exact (cr a1 a2 (ba o vs file tf flags (ba tg inF text tt op (cx (k _ _ a1 b1) r1 r2 r3 r4 (cr r5 r6 (k _ _ a2 b2) r)))) ⟨(bV o' vs' (k _ _ a1 b3) b4),k _ _ a2 b5⟩)
 ·rcases List.mem_cons.mp hj with e|hj
  ·refine ew (h11 e.symm) fun q7 t q8=>?_;subst q7;subst q8
   exact ⟨t,if_pos rfl⟩
  ·refine bK (T.divl hj) fun t e=>?_
   refine ⟨t,?_⟩
   show (if _=nm then _ else _)=_
   rw[if_neg (n11▸fr hf hj (by rw[n11];decide))]
   exact e
 ·rcases List.mem_cons.mp hj with e|hj
  ·refine d6 (h19 e.symm) fun q9 a q10 r=>?_;subst q9;subst q10
   exact (aG a (if_pos rfl) r)
  ·refine mB (T.b1 hj) fun a e hl o es q11=>bJ q11 fun ep t ho r=>?_;clear q11
   refine (pO a ?_ hl o es (bV ep t (S.keep _ _ hl.1 hl.2 ho) r))
   show (if _=nm then _ else _)=_
   rw[if_neg (n19▸fr hf hj (by rw[n19];decide))]
   exact e
 ·rcases List.mem_cons.mp hj with e|hj
  ·refine Af (h21 e.symm) fun q12 a kvs q13 r=>?_;subst q12;subst q13
   exact (bV a kvs (if_pos rfl) r)
  ·refine bc (T.b3 hj) fun a kvs e hl he q14=>dm q14 fun o es ep ho r=>?_;clear q14
   refine (cb a kvs ?_ hl he (dQ o es ep (k _ _ hl ho) r))
   show (if _=nm then _ else _)=_
   rw[if_neg (n21▸fr hf hj (by rw[n21];decide))]
   exact e
theorem TopI.stepD {i:Nat}{a c' P':Addr}{fd:FuncData}(T:TopI w h0 mg0 c Pl mg l tabs done h)(S:StepT c Pl mg nm (.ref a) (l++[(bZ i,c')]) h h')(hb:nm∈prog.boundNames)(hf:bG done nm=true)(hi:eT i=true)(hnm:cW i=nm)(ha:h.objs.size≤a)(hfn:h'.get? a=some { cls:=.type "function",data:=.func fd })(hd:xz h' Pl i fd c')(hc:h.objs.size≤c')(hcd:h'.CodeRec (.ref c') nm)(hP:h.objs.size≤P')(hic:h'.IsCode c' P' #[])(hta:h'.TableAt c' P' #[]) :
  TopI w h0 mg0 c Pl (fun x=>if x=nm then some (.ref a) else mg x) (l++[(bZ i,c')]) ((i,c',P')::tabs) (i::done) h':=by
 have hg:=T.main.low.2
 have hPl:Pl<h.objs.size:=T.main.code.lt.2
 have k:∀ b o,Pl<b→h.get? b=some o→h'.get? b=some o:=fun b o hb e=>S.keep b o (df hb) (df (jw hg hb)) e
 have n11:cW 11="_DIV_LIMIT":=by decide +kernel
 have n19:cW 19="b1_set":=by decide +kernel
 have n21:cW 21="b3_exceptions":=by decide +kernel
 have i11:i≠11:=by rintro rfl;revert hi;decide +kernel
 have i19:i≠19:=by rintro rfl;revert hi;decide +kernel
 have i21:i≠21:=by rintro rfl;revert hi;decide +kernel
 refine ⟨S.main,T.pl,fun b o hb e=>S.keep b o ?_ hb (T.keep b o hb e),fun x hx=>?_,fun q hq=>?_,fun j hj hd'=>?_,?_,fun x hx=>?_,fun hj=>?_,fun hj=>?_,fun hj=>?_⟩
 ·exact eE (b9 (Heap.lt_size e) T.pl)
 ·show (if x=nm then _ else _)=_
  rw[if_neg (show ¬ x=nm from fun q=>hx (by rw[q];exact hb))]
  exact T.low x hx
 ·rcases List.mem_append.mp hq with hq|hq
  ·refine aL (T.pos q hq) fun j hj e=>?_
   exact (aG j (.tail _ hj) e)
  ·obtain rfl:=List.mem_singleton.mp hq
   exact (aG i (.head _) rfl)
 ·rcases List.mem_cons.mp hj with rfl|hj
  ·refine (c4 a c' P' fd ?_ (cx (b9 hPl ha) hfn hd (b9 hPl hc) (hnm▸hcd) (.head _)))
   show (if _=nm then _ else _)=_
   rw[if_pos hnm]
  ·exact (T.fns j hj hd').step hg S (fun O h=>.tail _ h) (fr hf hj (rQ j hd'))
 ·rw[dC,qn]
  refine ⟨fun hm=>?_,T.nd⟩
  refine aL (List.mem_map.mp hm) fun x hx e=>?_
  refine cA (T.tab x hx) fun O O a3 O=>?_
  have:=a3.lt.2
  rw[e] at this
  exact absurd this (Nat.not_lt.mpr hP)
 ·rcases List.mem_cons.mp hx with rfl|hx
  ·exact (cr (b9 hPl hc) (b9 hPl hP) hic hta)
  ·refine cA (T.tab x hx) fun a1 a2 a3 a4=>?_
   refine aT a3 fun o vs file tf flags q15=>aT q15 fun tg inF text tt op q16=>cy q16 fun b1 r1 r2 r3 r4 q17=>cA q17 fun r5 r6 b2 r=>?_;clear q15 q16 q17 a3
   refine dI a4 fun q18 b5=>bJ q18 fun o' vs' b3 b4=>?_;clear q18 a4
   exact (cr a1 a2 (ba o vs file tf flags (ba tg inF text tt op (cx (k _ _ a1 b1) r1 r2 r3 r4 (cr r5 r6 (k _ _ a2 b2) r)))) ⟨(bV o' vs' (k _ _ a1 b3) b4),k _ _ a2 b5⟩)
 ·rcases List.mem_cons.mp hj with e|hj
  ·exact absurd e.symm i11
  ·refine bK (T.divl hj) fun t e=>?_
   refine ⟨t,?_⟩
   show (if _=nm then _ else _)=_
   rw[if_neg (n11▸fr hf hj (by rw[n11];decide))]
   exact e
 ·rcases List.mem_cons.mp hj with e|hj
  ·exact absurd e.symm i19
  ·refine mB (T.b1 hj) fun a e hl o es q19=>bJ q19 fun ep t ho r=>?_;clear q19
   refine (pO a ?_ hl o es (bV ep t (S.keep _ _ hl.1 hl.2 ho) r))
   show (if _=nm then _ else _)=_
   rw[if_neg (n19▸fr hf hj (by rw[n19];decide))]
   exact e
 ·rcases List.mem_cons.mp hj with e|hj
  ·exact absurd e.symm i21
  ·refine bc (T.b3 hj) fun a kvs e hl he q20=>dm q20 fun o es ep ho r=>?_;clear q20
   refine (cb a kvs ?_ hl he (dQ o es ep (k _ _ hl ho) r))
   show (if _=nm then _ else _)=_
   rw[if_neg (n21▸fr hf hj (by rw[n21];decide))]
   exact e
theorem TopI.noCode {i:Nat}(T:TopI w h0 mg0 c Pl mg l tabs done h)(hf:(done.all fun j=>(bZ j).line != (bZ i).line)=true):codeAmong (bZ i) (triples l).toArray.toList=none:=by
 refine codeAmong_triples _ _ fun q hq hl=>?_
 refine aL (T.pos q hq) fun j hj e=>?_
 have:=List.all_eq_true.mp hf j hj
 rw[bne_iff_ne] at this
 exact this (e.symm.trans hl.1)
end
end
section
noncomputable def TS (w:World)(os:OsState)(h0:Heap)(mg0:Str→Option Value)(c Pl:Addr)(done:List Nat)(s:Shared):Prop :=
 (∃ mg l tabs,TopI w h0 mg0 c Pl mg l tabs done s.heap)∧s.gens=#[]∧s.os=os
section
variable {w:World}{os:OsState}{h0:Heap}{mg0:Str→Option Value}{c Pl F:Addr}{done:List Nat}{s:Shared}{A:Around}
theorem uZ:prog.main.scope.kind=.module:=by rfl
theorem oB:((mainEnv prog c F).scope.kind==.class||((mainEnv prog c F).scope.kind==.module&&(mainEnv prog c F).locals != (mainEnv prog c F).globals))=false:=by
 show (prog.main.scope.kind==.class||(prog.main.scope.kind==.module&&mainGlobals != mainGlobals))=false
 rw[uZ];rfl
theorem jm {mg:Str→Option Value}{ps:Array Value}{nm:Str}{v:Value}{E:Value→Shared→Prop}{Q:Unit→Shared→Prop}(hm:s.heap.Main mg c Pl ps)(hloc:prog.main.scope.names.lookup nm=some .local)(hnb:nm≠"__builtins__")(h:∀ h',h'.Main (fun x=>if x=nm then some v else mg x) c Pl ps→(∀ b o,b≠mainGlobals→s.heap.get? b=some o→h'.get? b=some o)→Q () { s with heap:=h',toks:=s.toks+1 }) :
  wpAny (model prog w) A (storeName (mainEnv prog c F) nm v) Q E s:=by
 refine wpAny_storeName_local (env:=mainEnv prog c F) hloc hm.g (fun h' hg' hs'=>?_) oB
 refine bc hm.bmod fun bm o hbm hne0 hneG q1=>ch q1 fun hneP hbo hrest=>?_;clear q1
 refine h h' ⟨hg',hm.code.sameBut hs' (df hm.low.1) (df hm.low.2),hm.low,bm,o,?_,hne0,hneG,hneP,(hs'.2 _ hneG).trans hbo,hrest⟩ fun b o' hb e=>(hs'.2 b hb).trans e
 show (if _=nm then _ else _)=_
 rw[if_neg (Ne.symm hnb)]
 exact hbm
theorem lu {x:Str}{value:Expr}{p pos:Pos}{env:Env}{E:Value→Shared→Prop}{Q:Flow→Shared→Prop}(hs:swapsWith value (some (.Name x p)) pos.line env=pure false)(h:wpAny (model prog w) A (eval value env) (fun v s₁=>wpAny (model prog w) A (storeName env x v) (fun O s₂=>Q .next s₂) E s₁) E s):wpAny (model prog w) A (exec (.Assign [.Name x p] value pos) env) Q E s:=by
 rw[exec_Assign_Name _ _ _ _ _ hs]
 exact wpAny_bind (wpAny_standAt (wpAny_bind (wpAny_mono h (fun v s₁ h₁=>wpAny_bind (wpAny_standAt (wpAny_bind (wpAny_bindName (wpAny_mono h₁ (fun O s₂ q=>wpAny_pure q) fun O O x=>x))))) fun O O x=>x)))
theorem ca {i:Nat}(T:TS w os h0 mg0 c Pl done s)(hst:st i=.FunctionDef (ax (st i)) (dD (st i)) (aw (st i)) [] none [] (bB (st i)) none (ax (st i)) (bZ i))(htree:PlainDefTree (ax (st i)) (dD (st i)) (aw (st i)) (bB (st i)) (bZ i))(hfree:((bB (st i)).names.all fun x=>x.2 != .free)=true)(hdoc:docOf (aw (st i))=none)(hloc:prog.main.scope.names.lookup (ax (st i))=some .local)(hq:qualnameIn { scope:=prog.main.scope,locals:=mainGlobals,globals:=mainGlobals,cells:=[] } (ax (st i)) (ax (st i))=ax (st i))(hi:i≠2)(hb:prog.boundNames.contains (ax (st i))=true)(hf:bG done (ax (st i))=true)(hpos:(done.all fun j=>(bZ j).line != (bZ i).line)=true)(hnb:(ax (st i) != ("__builtins__":Str))=true) :
  wpAny (model prog w) A (exec (st i) (mainEnv prog c F)) (fun f s'=>f=.next∧TS w os h0 mg0 c Pl (i::done) s') (fun O O=>False) s:=by
 revert T;refine fun q3=>ch q3 fun q2 hg ho=>jy q2 fun mg l tabs T=>?_;clear q2 q3
 have hd:eT i=true:=by unfold eT;rw[hst]
 have hn:cW i=ax (st i):=by unfold cW;rw[hst];rfl
 generalize hgo:bZ i=pos at *
 have key:wpAny (model prog w) A (exec (.FunctionDef (ax (st i)) (dD (st i)) (aw (st i)) [] none [] (bB (st i)) none (ax (st i)) pos) (mainEnv prog c F)) (fun f s'=>f=.next∧TS w os h0 mg0 c Pl (i::done) s') (fun O O=>False) s:=by
  refine wpAny_plainDefN (prog:=prog) htree (fun x hx=>?_) hdoc hloc hq T.main (fun a c' h' tk ha hm hfn hcd hP hk=>?_) (bne_iff_ne.mp hnb) uZ (hgo▸T.noCode (by rw[hgo];exact hpos))
  ·have:=List.all_eq_true.mp hfree x hx
   exact bne_iff_ne.mp this
  ·refine bT hP fun P' hP' hic hta=>?_;clear hP
   refine (cr rfl (gJ _ _ _ (T.stepD (i:=i) (nm:=ax (st i)) (a:=a) (c':=c') ⟨?_,hk⟩ (List.contains_iff_mem.mp hb) hf hd hn ha hfn (.inl (lx hi _ rfl)) hcd.1 hcd.2 hP' hic hta)) hg ho)
   rw[hgo,triples_append]
   simpa using hm
 rw[← hst] at key
 exact key
theorem gN {i:Nat}{nm:Str}{k:Const}{a:Nat}{p q pos:Pos}(T:TS w os h0 mg0 c Pl done s)(hst:st i=.Assign [.Name nm p] (.Constant k a q) pos)(hk:(∃ x,k=.str x)∨∃ n,k=.int n)(hi:eT i=false)(h19:i≠19)(h21:i≠21)(h11:i=11→nm="_DIV_LIMIT"∧k=.int 4000)(hloc:prog.main.scope.names.lookup nm=some .local)(hb:prog.boundNames.contains nm=true)(hf:bG done nm=true)(hnb:(nm != ("__builtins__":Str))=true)(hs:swapsWith (.Constant k a q) (some (.Name nm p)) pos.line (mainEnv prog c F)=pure false) :
  wpAny (model prog w) A (exec (st i) (mainEnv prog c F)) (fun f s'=>f=.next∧TS w os h0 mg0 c Pl (i::done) s'∧1≤s'.toks) (fun O O=>False) s:=by
 revert T;refine fun q5=>ch q5 fun q4 hg ho=>jy q4 fun mg l tabs T=>?_;clear q4 q5
 rw[hst]
 refine lu hs ?_
 have fin:∀ v n,(∀ m,k=.int m→∃ t,v=.int m t)→wpAny (model prog w) A (storeName (mainEnv prog c F) nm v) (fun O s₂=>Flow.next=.next∧TS w os h0 mg0 c Pl (i::done) s₂∧1≤s₂.toks) (fun O O=>False) { s with toks:=n }:=by
  intro v n hv
  refine jm (s:={ s with toks:=n }) T.main hloc (bne_iff_ne.mp hnb) fun h' hm hkp=>(iPPP rfl (iPPP (gJ _ l tabs (T.stepA (i:=i) (nm:=nm) (v:=v) ⟨hm,fun b o O hb=>hkp b o hb⟩ (List.contains_iff_mem.mp hb) hf hi ?_ (fun e=>absurd e h19) fun e=>absurd e h21)) hg ho) (j6 _ _))
  intro e
  refine dI (h11 e) fun e1 e2=>?_
  exact ⟨e1,hv _ e2⟩
 rcases hk with ⟨x,rfl⟩|⟨n,rfl⟩
 ·exact wpAny_mkText (fin _ _ fun m e=>by cases e)
 ·exact wpAny_mkInt (fin _ _ fun m e=>by cases e;exact ⟨_,rfl⟩)
theorem zF {name qualname:Str}{params:Arguments}{body:List Stmt}{scope:Scope}{env:Env}{dv:Value}{mg:Str→Option Value}{ps:Array Value}{pos:Pos}{firstLine:Nat}{E:Value→Shared→Prop}{Q:Value→Shared→Prop}(hkw:params.kwonlyargs=[])(hdoc:docOf body=none)(hfree:∀ x∈scope.names,x.2≠.free)(hg:s.heap.Ns env.globals mg)(hcode:env.code=.ref c)(hok:s.heap.IsCode c Pl ps)(hnf:codeAmong pos ps.toList=none)(hgP:env.globals≠Pl)(hb:s.heap.BuiltinsAt mg Pl)(h:∀ c' h' tk,Heap.ExtBut Pl (s.heap.push { cls:=.type "tuple",data:=.seq #[dv] }) h'→s.heap.objs.size<c'→c'<h'.objs.size→h'.IsCode c Pl (ps++#[rawInt pos.line,rawInt pos.col,.ref c'])→h'.CodeRec (.ref c') qualname→(∃ P',s.heap.objs.size<P'∧h'.IsCode c' P' #[]∧h'.TableAt c' P' #[]) →
   Q (.ref h'.objs.size) { s with heap:=h'.push { cls:=.type "function",data:=.func (defFd name qualname params body scope env.globals (.ref s.heap.objs.size) .none none ((mg "__name__").getD .none) (.ref c') .none) },toks:=tk }) :
  wpAny (model prog w) A (makeFunction name qualname params (.stmts body) scope env [dv] [] [] pos firstLine) Q E s:=by
 rw[makeFunction_eq,hkw]
 refine wpAny_bind (wpAny_newTextTuple (wpAny_bind (wpAny_pure (wpAny_bind (wpAny_pure ?_)))))
 have hc:closureFor scope env=pure []:=closureFor_none hfree
 simp only[makeTail,ri,if_true,pure_bind,hc]
 refine wpAny_bind (wpAny_functionCodeN (s:={ s with heap:=s.heap.push { cls:=.type "tuple",data:=.seq #[dv] } }) hcode (hok.push _) hnf fun c' h' tk hx hge hlt hok' hrec htb=>?_)
 refine bc hb fun bm o hbm hne0 O q6=>di q6 fun hneP hbo hcls hdict hdata=>?_;clear q6 hb
 have hg':=(hg.push { cls:=.type "tuple",data:=.seq #[dv] }).extBut hx hgP
 refine wpAny_bind (wpAny_builtinsFor hg' hbm hne0 (hx _ _ hneP (Heap.get?_push_of_some _ hbo)) hcls hdict hdata ?_)
 refine wpAny_bind (wpAny_nsGet hg' ?_)
 rw[hdoc]
 have hz:(s.heap.push { cls:=.type "tuple",data:=.seq #[dv] }).objs.size=s.heap.objs.size+1:=Heap.size_push ..
 refine wpAny_bind (wpAny_pure (wpAny_newObj_type (h c' h' tk hx ?_ hlt hok' hrec ?_) (by size_fits)))
 ·have:(s.heap.push { cls:=.type "tuple",data:=.seq #[dv] }).objs.size≤c':=hge
  rw[hz] at this;exact this
 ·refine aL htb fun P' h1 r=>?_;clear htb
  have:(s.heap.push { cls:=.type "tuple",data:=.seq #[dv] }).objs.size≤P':=h1
  rw[hz] at this
  exact (aG P' this r)
theorem yF {dp:Pos}(T:TS w os h0 mg0 c Pl done s)(hst:st 2=.FunctionDef (ax (st 2)) (dD (st 2)) (aw (st 2)) [] none [] (bB (st 2)) none (ax (st 2)) (bZ 2))(hdf:(dD (st 2)).defaults=[.Dict [] [] dp])(hkd:(dD (st 2)).kw_defaults=[])(hkw:(dD (st 2)).kwonlyargs=[])(hann:annTrees (dD (st 2)) none (mainEnv prog c F)=[])(hfree:((bB (st 2)).names.all fun x=>x.2 != .free)=true)(hdoc:docOf (aw (st 2))=none)(hloc:prog.main.scope.names.lookup (ax (st 2))=some .local)(hq:qualnameIn { scope:=prog.main.scope,locals:=mainGlobals,globals:=mainGlobals,cells:=[] } (ax (st 2)) (ax (st 2))=ax (st 2))(hb:prog.boundNames.contains (ax (st 2))=true)(hf:bG done (ax (st 2))=true)(hpos:(done.all fun j=>(bZ j).line != (bZ 2).line)=true)(hnb:(ax (st 2) != ("__builtins__":Str))=true) :
  wpAny (model prog w) A (exec (st 2) (mainEnv prog c F)) (fun f s'=>f=.next∧TS w os h0 mg0 c Pl (2::done) s') (fun O O=>False) s:=by
 revert T;refine fun q8=>ch q8 fun q7 hg ho=>jy q7 fun mg l tabs T=>?_;clear q7 q8
 have hd:eT 2=true:=by unfold eT;rw[hst]
 have hn:cW 2=ax (st 2):=by unfold cW;rw[hst];rfl
 have hnf:=T.noCode hpos
 generalize hgo:bZ 2=pos at *
 have hm:=T.main
 have key:wpAny (model prog w) A (exec (.FunctionDef (ax (st 2)) (dD (st 2)) (aw (st 2)) [] none [] (bB (st 2)) none (ax (st 2)) pos) (mainEnv prog c F)) (fun f s'=>f=.next∧TS w os h0 mg0 c Pl (2::done) s') (fun O O=>False) s:=by
  refine kdv_def (by rw[hdf];rfl) hkd hann ?_
  rw[hdf]
  refine kdv_all1 (wpAny_Dict_empty (kdv_all0 ?_))
  have hq':qualnameIn (mainEnv prog c F) (ax (st 2)) (ax (st 2))=ax (st 2):=hq
  rw[hq']
  have kp:∀ b o,s.heap.get? b=some o→(s.heap.push { cls:=.type "dict",data:=.dict #[] }).get? b=some o:=fun b o e=>Heap.get?_push_of_some _ e
  refine zF (c:=c) (Pl:=Pl) (s:={ s with heap:=s.heap.push { cls:=.type "dict",data:=.dict #[] } }) (env:=mainEnv prog c F) hkw hdoc (fun x hx=>bne_iff_ne.mp (List.all_eq_true.mp hfree x hx)) (hm.g.push _) rfl (hm.code.push _) hnf (eE hm.low.2) (hm.bmod.keeps kp) fun c' h' tk hx hge hlt hok hrec htb=>?_
  have hx':Heap.ExtBut Pl s.heap h':=fun b o hb e=>hx b o hb (Heap.get?_push_of_some _ (Heap.get?_push_of_some _ e))
  have hz:(s.heap.push { cls:=.type "dict",data:=.dict #[] }).objs.size=s.heap.objs.size+1:=Heap.size_push ..
  have hPl:@LT.lt Nat _ Pl s.heap.objs.size:=hm.code.lt.2
  have hlw:@LT.lt Nat _ mainGlobals Pl:=hm.low.2
  refine bT htb fun P' hP hic hta=>?_;clear htb
  simp only[hz] at hge hP
  generalize hfd:(defFd (ax (st 2)) (ax (st 2)) (dD (st 2)) (aw (st 2)) (bB (st 2)) (mainEnv prog c F).globals (.ref (s.heap.push { cls:=.type "dict",data:=.dict #[] }).objs.size) .none none ((mg "__name__").getD .none) (.ref c') .none)=fd
  have hgP:mainGlobals≠Pl:=eE hm.low.2
  have hm₂:(h'.push { cls:=.type "function",data:=.func fd }).Main mg c Pl ((triples l).toArray++#[rawInt pos.line,rawInt pos.col,.ref c']) :=
   ⟨(hm.g.extBut hx' hgP).push _,hok.push _,hm.low,bc hm.bmod fun bm o a1 a2 a3 q9=>ch q9 fun a4 a5 r=>(cb bm o a1 a2 a3 (iPPP a4 (Heap.get?_push_of_some _ (hx' _ _ a4 a5)) r))⟩
  refine jm (s:={ s with heap:=h'.push { cls:=.type "function",data:=.func fd },toks:=tk }) hm₂ hloc (bne_iff_ne.mp hnb) fun h₃ hm₃ hk₃=>?_
  have k3:∀ b o,Pl<b→h'.get? b=some o→h₃.get? b=some o:=fun b o hb e=>hk₃ b o (df (jw hm.low.2 hb)) (Heap.get?_push_of_some _ e)
  have hc1:Pl<c':=show @LT.lt Nat _ Pl c' by exact ln2 [_,_,_] [] (.lt ah am) (.lt ah ao) (.lt (.a ao av) am) ae hPl hge
  have hP1:Pl<P':=show @LT.lt Nat _ Pl P' by exact ln2 [_,_,_] [] (.lt ah am) (.lt ah ao) (.lt (.a ao av) am) ae hPl hP
  have hT1:Pl<s.heap.objs.size+1:=show @LT.lt Nat _ Pl (s.heap.objs.size+1) by exact aQ [_,_] [] (.lt ah (.a am av)) (.lt ah am) ae hPl
  have hic':h₃.IsCode c' P' #[]:=by
   refine aT hic fun o vs file tf flags q10=>aT q10 fun tg inF text tt op q11=>cy q11 fun b1 r1 r2 r3 r4 q12=>cA q12 fun r5 r6 b2 r=>?_;clear q10 q11 q12 hic
   exact (ba o vs file tf flags (ba tg inF text tt op (cx (k3 _ _ hc1 b1) r1 r2 r3 r4 (cr r5 r6 (k3 _ _ hP1 b2) r))))
  have hta':h₃.TableAt c' P' #[]:=by
   refine dI hta fun q13 b5=>bJ q13 fun o' vs' b3 b4=>?_;clear q13 hta
   exact ⟨(bV o' vs' (k3 _ _ hc1 b3) b4),k3 _ _ hP1 b5⟩
  have hlt':s.heap.objs.size<h'.objs.size:=by exact ln2 [_,_,_] [] (.lt ah am) (.lt ao am) (.lt (.a ah av) ao) ae hlt hge
  have hT:h₃.get? (s.heap.objs.size+1)=some { cls:=.type "tuple",data:=.seq #[.ref s.heap.objs.size] }:=by
   refine k3 _ _ hT1 (hx _ _ (df hT1) ?_)
   have:=Heap.get?_push_size (s.heap.push { cls:=.type "dict",data:=.dict #[] }) (o:=({ cls:=.type "tuple",data:=.seq #[.ref s.heap.objs.size] }:Obj)) rfl
   rw[hz] at this
   exact this
  refine (cr rfl (gJ _ _ _ (T.stepD (i:=2) (nm:=ax (st 2)) (a:=h'.objs.size) (c':=c') (fd:=fd) ⟨?_,fun b o hP hG e=>hk₃ b o hG (Heap.get?_push_of_some _ (hx' b o hP e))⟩ (List.contains_iff_mem.mp hb) hf hd hn (bY hlt') (hk₃ _ _ (df (show @LT.lt Nat _ mainGlobals h'.objs.size by exact cZ [_,_,_,_] [] (.lt ah am) (.lt ah ao) (.lt ao (.a aM av)) (.lt aM am) ae hlw hT1 hlt')) (Heap.get?_push_size _ rfl)) (.inr (qz rfl ((mg "__name__").getD .none) (s.heap.objs.size+1) _ _ (gU ?_ hT1 hT rfl rfl))) (aQ [_,_] [] (.le ah am) (.lt (.a ah av) am) ae hge) (hrec.at fun o=>k3 _ o hc1) (aQ [_,_] [] (.le ah am) (.lt (.a ah av) am) ae hP) hic' hta')) hg ho)
  ·rw[hgo,triples_append]
   simpa using hm₃
  ·rw[← hfd,hz]
   rfl
 rw[← hst] at key
 exact key
end
end
section
noncomputable def nt:List (Option Expr)→List Expr→Bool
 | k::ks,v::vs=>(vy k).isSome&&(vw v).isSome&&nt ks vs
 | [],[]=>true
 | _,_=>false
theorem uq {k:Option Expr}(h:(vy k).isSome=true):∃ n a p,k=some (.Constant (.int n) a p):=by
 unfold vy at h
 split at h
 ·exact (gJ _ _ _ rfl)
 ·cases h
theorem xU {v:Expr}(h:(vw v).isSome=true):∃ x a p,v=.Constant (.str x) a p:=by
 unfold vw at h
 split at h
 ·exact (gJ _ _ _ rfl)
 ·cases h
theorem nc:∀ {ks:List (Option Expr)}{vs:List Expr},nt ks vs=true→ks.all Option.isSome=true∧ks.length=vs.length
 | [],[],_=>⟨rfl,rfl⟩
 | k::ks,v::vs,h=>by
  have h:((vy k).isSome&&(vw v).isSome&&nt ks vs)=true:=h
  rw[iO,iO] at h
  have ih:=nc (ks:=ks) (vs:=vs) h.2
  refine jy (uq h.1.1) fun n a p q1=>?_;subst q1
  exact ⟨by rw[List.all_cons,ih.1];rfl,by rw[eR,eR,ih.2]⟩
 | [],_::_,h=>nomatch h
 | _::_,[],h=>nomatch h
theorem oU {w:World}{A:Around}{pos:Pos}{env:Env}:∀ {ks:List (Option Expr)}{vs:List Expr},nt ks vs=true→Lits w A (gv pos env ks vs) (uD ks vs)
 | [],[],_=>.nil
 | k::ks,v::vs,h=>by
  have h:((vy k).isSome&&(vw v).isSome&&nt ks vs)=true:=h
  rw[iO,iO] at h
  have ih:=oU (w:=w) (A:=A) (pos:=pos) (env:=env) (ks:=ks) (vs:=vs) h.2
  refine jy (uq h.1.1) fun n a p q2=>?_;subst q2
  refine jy (xU h.1.2) fun x b q q3=>?_;subst q3
  refine Lits.cons ⟨fun E s Q hq=>?_,fun E s Q hq=>?_⟩ ih
  ·exact wpAny_mkInt (hq _ _ (fB _))
  ·refine wpAny_bind ?_
   refine wpAny_mkText ?_
   exact wpAny_bind (wpAny_standAt (wpAny_pure (hq _ _ (fB _))))
 | [],_::_,h=>nomatch h
 | _::_,[],h=>nomatch h
noncomputable def vF:Int→List Int→Bool
 | _,[]=>true
 | a,b::r=>decide (a<b)&&vF b r
theorem uU:∀ {a:Int}{l:List Int},vF a l=true→∀ x∈l,a<x
 | a,b::r,h,x,hx=>by
  unfold vF at h
  rw[iO,decide_eq_true_eq] at h
  rcases List.mem_cons.mp hx with rfl|hx
  ·exact h.1
  ·exact Int.lt_trans h.1 (uU h.2 x hx)
theorem nj:∀ {a:Int}{l:List Int},vF a l=true→l.Nodup
 | _,[],_=>oY
 | a,b::r,h=>by
  unfold vF at h
  rw[iO] at h
  exact List.nodup_cons.mpr ⟨fun hm=>Int.lt_irrefl _ (uU h.2 b hm),nj h.2⟩
noncomputable def Aa:List (Option Expr):=match st 21 with
 | .Assign _ (.Dict ks _ _) _=>ks
 | _=>[]
noncomputable def zO:List Expr:=match st 21 with
 | .Assign _ (.Dict _ vs _) _=>vs
 | _=>[]
noncomputable def Cu:Pos:=match st 21 with
 | .Assign _ (.Dict _ _ q) _=>q
 | _=>⟨0,0,0,0⟩
noncomputable def Ct:Pos:=match st 21 with
 | .Assign [.Name _ p] _ _=>p
 | _=>⟨0,0,0,0⟩
noncomputable def yQ:Pos:=match st 21 with
 | .Assign _ _ p=>p
 | _=>⟨0,0,0,0⟩
theorem Bz:st 21=.Assign [.Name "b3_exceptions" Ct] (.Dict Aa zO Cu) yQ:=by kernel_rfl
theorem yj:nt Aa zO=true:=by decide +kernel
theorem zC:vF 0 (zp.map (·.1))=true:=by decide +kernel
theorem wA:zp.length=650:=by decide +kernel
section
variable {w:World}{os:OsState}{h0:Heap}{mg0:Str→Option Value}{c Pl F:Addr}{done:List Nat}{s:Shared}{A:Around}
theorem Ai {p q pos:Pos}{ks:List (Option Expr)}{vs:List Expr}(T:TS w os h0 mg0 c Pl done s)(hst:st 21=.Assign [.Name "b3_exceptions" p] (.Dict ks vs q) pos)(hl:nt ks vs=true)(hf:bG done "b3_exceptions"=true) :
  wpAny (model prog w) A (exec (st 21) (mainEnv prog c F)) (fun f s'=>f=.next∧TS w os h0 mg0 c Pl (21::done) s') (fun O O=>False) s:=by
 obtain ⟨⟨mg,l,tabs,T⟩,hg,ho⟩:=T
 obtain ⟨e1,e2⟩:=nc hl
 have hb3:zp=uD ks vs:=by
  unfold zp
  rw[hst]
 have hPl:Pl<s.heap.objs.size:=T.main.code.lt.2
 have hs:swapsWith (.Dict ks vs q) (some (.Name "b3_exceptions" p)) pos.line (mainEnv prog c F)=pure false:=rfl
 have hlow:sysModules<s.heap.objs.size:=jw (jw (show sysModules<mainGlobals by decide) T.main.low.2) hPl
 rw[hst]
 refine lu hs ?_
 rw[arm_eval_Dict,il e1 e2]
 refine wpAny_bind (wpAny_standAt ?_)
 refine lq hlow (oU hl) (by rw[← hb3];intro e;have:=wA;rw[e] at this;cases this) (by rw[← hb3,wA];decide) (by rw[← hb3];exact nj zC) fun d h' kvs n hd he hD hk hn=>?_
 have hm':h'.Main mg c Pl (triples l).toArray:=by
  have hm:=T.main
  exact ⟨hm.g.keeps hk,hm.code.keeps hk,hm.low,hm.bmod.keeps hk⟩
 refine jm (s:={ s with heap:=h',toks:=n }) hm' (by decide +kernel) (by decide) fun h₂ hm₂ hk₂=>?_
 have hPd:Pl<d:=b9 hPl hd
 have hne:d≠mainGlobals:=df (jw T.main.low.2 hPd)
 refine (cr rfl (gJ _ l tabs (T.stepA (i:=21) (nm:="b3_exceptions") (v:=.ref d) ⟨hm₂,fun b o O hb e=>hk₂ b o hb (hk b o e)⟩ (by decide +kernel) hf (by decide +kernel) (fun e=>by cases e) (fun e=>by cases e) fun O=>(kH rfl d kvs rfl hPd (jb ?_ ?_)))) hg ho)
 ·rw[hb3];exact he
 ·refine dm hD fun o es ep ho' r=>?_;clear hD
  exact (dQ o es ep (hk₂ _ _ hne ho') r)
theorem uj {k:Int}:∀ l:List Int,l.any (·==k)=decide (k∈l)
 | []=>by simp
 | a::r=>by
  rw[List.any_cons,uj r]
  by_cases q:a=k
  ·subst q;simp
  ·have:¬ k=a:=fun e=>q e.symm
   simp[q,this]
theorem rx:firstMet (fun i=>ju.getD i 0) 27=ju:=by decide +kernel
theorem Bt {C:Cx}{g:G}{M:be}{l:Addr}{xs:Array Value}{Q:PQ Value}(hA:A.handled=none)(hl:Sees g M l (ai xs))(hi:IntsAre xs.toList ju)(hsz:xs.size=27)(h:∀ a,Q (.ref a) g ((a,qZ C (fun k=>decide (k∈ju)) 27)::M)):W C A (call (.type "set") [.ref l]) g M Q:=f8 fun s S=>by
 have hL:s.heap.IsList l xs:=by
  refine jC (S.sees hl) fun o e n q4=>?_;subst q4
  exact (xG _ e rfl n rfl)
 refine call_set_list hA hL hi (by rw[hsz];decide) fun h' tk hS hk htk=>?_
 rw[hsz] at hS
 have hS:=SetOf_congr hS (S':=fun k=>decide (k∈ju)) (n':=27) (fun k=>by rw[rx,uj]) (by rw[rx];rfl)
 refine c9 hS fun o es ep t ho r=>?_;clear hS
 refine (an g _ .refl (S.newAt (P:=qZ C (fun k=>decide (k∈ju)) 27) (fun b o e=>hk b o (Heap.lt_size e) e) ho ?_ htk) (h _))
 intro h2 a2 e2
 exact (c4 o es ep t e2 r)
theorem qI {C:Cx}{g:G}{M:be}{mg mb:Str→Option Value}{x:Str}{pos:Pos}{v:Value}{Q:PQ Value}(hg:Fz g mainGlobals (ix mg))(hb:Fz g builtinsNs (ix mb))(e:mg x=none)(eb:mb x=some v)(h:Q v g M)(hd:(x==("__debug__":Str))=false:=by decide):W C A (eval (.Name x pos) (mainEnv prog c F)) g M Q:=fun s S =>
 Name_module rfl rfl (loadGlobal_builtin (env:=mainEnv prog c F) (S.ns (.inl hg)) e (S.ns (.inl hb)) eb (an g M .refl S h)) hd
theorem yH {a:Int}:∀ {n:Nat}{l:List Value},l.length=n→(∀ (j:Nat) v,l[j]?=some v→∃ t,v=.int (a+j) t)→IntsAre l ((List.range n).map fun (j:Nat)=>a+(j:Int)):=by
 intro n
 induction n generalizing a with
 | zero =>
  intro l hl _
  obtain rfl:=List.length_eq_zero_iff.mp hl
  exact .nil
 | succ n ih =>
  intro l hl h
  cases l with
  | nil=>simp at hl
  | cons v r =>
   refine bK (h 0 v rfl) fun t q5=>?_;subst q5
   rw[List.range_succ_eq_map,dC,jW]
   have e0:a+((0:Nat):Int)=a:=nf a
   rw[e0]
   refine .cons _ _ ?_
   have:=ih (a:=a+1) (l:=r) (by simpa using hl) fun j v hv=>by
    refine bK (h (j+1) v hv) fun t e=>?_
    exact ⟨t,by rw[e];congr 1;exact eF [_] [_] (.Q (.a dq (.c (.a ah av))) (.a (.a dq av) bA)) ae⟩
   have e2:((fun j:Nat=>a+(j:Int))∘Nat.succ)=fun j:Nat=>a+1+(j:Int):=by
    funext j
    show a+((j+1:Nat):Int)=_
    exact eF [_] [_] (.Q (.a dq (.c (.a ah av))) (.a (.a dq av) bA)) ae
   rw[e2]
   exact this
noncomputable def B1:Expr:=match st 19 with
 | .Assign _ v _=>v
 | _=>.Name Str.empty ⟨0,0,0,0⟩
theorem yD {C:Cx}{g:G}{mg mb:Str→Option Value}(hA:A.handled=none)(hg:Fz g mainGlobals (ix mg))(hb:Fz g builtinsNs (ix mb))(hbb:∀ x:Str,x≠"__name__"→mb x=bootBuiltins x)(h1:mg "set"=none)(h2:mg "list"=none)(h3:mg "range"=none) :
  W C A (eval B1 (mainEnv prog c F)) g [] (fun v g' M'=>∃ a M'',v=.ref a∧M'=(a,qZ C (fun k=>decide (k∈ju)) 27)::M''):=by
 refine az ?_
 refine qI hg hb h1 ((hbb _ (by decide)).trans y9) ?_
 refine aq ?_
 refine au ?_
 refine ab ?_
 refine bh ?_
 refine eJ ?_
 refine ab (bx fun t1 O=>?_)
 refine ab (bx fun t2 O=>?_)
 refine ab (bx fun t3 O=>?_)
 refine ab (bx fun t4 O=>?_)
 refine ab (bx fun t5 O=>?_)
 refine ab (bx fun t6 O=>?_)
 refine ab (bx fun t7 O=>?_)
 refine ab (bx fun t8 O=>?_)
 refine ab (bx fun t9 O=>?_)
 refine ab (bx fun ta O=>?_)
 refine ab (bx fun tb O=>?_)
 refine aj ?_
 refine ⟨by show 11≤sizeLine;decide,fun LA g1 l1 FA=>?_⟩
 refine az ?_
 refine qI (hg.mono l1) (hb.mono l1) h2 ((hbb _ (by decide)).trans mF) ?_
 refine aq ?_
 refine au ?_
 refine ab ?_
 refine az ?_
 refine qI (hg.mono l1) (hb.mono l1) h3 ((hbb _ (by decide)).trans c6) ?_
 refine aq ?_
 refine au ?_
 refine ab (bx fun tc O=>?_)
 refine ab (bx fun td O=>?_)
 refine aj ?_
 refine ⟨br,?_⟩
 show W _ _ (call (.type "range") [.int 65024 tc,.int 65040 td]) _ _ _
 refine iW fun g2 r l2 Fr=>?_
 refine aj ?_
 refine ⟨br,?_⟩
 show W _ _ (call (.type "list") [.ref r]) _ _ _
 refine jA hA Fr (by decide) (by decide) (by decide) fun LB xs hsz hat=>?_
 have hsz:xs.size=16:=hsz
 refine fb (.fz (FA.mono l2)) (.own (.head _)) (by rw[hsz];show 11+16≤sizeLine;decide) fun LC=>?_
 refine aj ?_
 refine ⟨br,?_⟩
 show W _ _ (call (.type "set") [.ref LC]) _ _ _
 refine Bt hA (.own (.head _)) ?_ (by rw[tH,hsz];rfl) fun a=>(bV a _ rfl rfl)
 rw[kf]
 have hi:=yH (a:=65024) (n:=16) (l:=xs.toList) (by rw[fA];exact hsz) fun j v hv=>hat j v (Array.getElem?_toList.symm.trans hv)
 have e:ju=[173,847,6150,6155,6156,6157,8203,8204,8205,8288,65279]++(List.range 16).map fun (j:Nat)=>(65024:Int)+(j:Int):=by decide +kernel
 rw[e]
 refine IntsAre.append ?_ hi
 exact .cons _ _ (.cons _ _ (.cons _ _ (.cons _ _ (.cons _ _ (.cons _ _ (.cons _ _ (.cons _ _ (.cons _ _ (.cons _ _ (.cons _ _ .nil))))))))))
theorem zw {mb:Str→Option Value}{p pos:Pos}(hA:A.handled=none)(T:TS w os h0 mg0 c Pl done s)(htk:1≤s.toks)(hst:st 19=.Assign [.Name "b1_set" p] B1 pos)(hB:h0.Ns builtinsNs mb)(hbb:∀ x:Str,x≠"__name__"→mb x=bootBuiltins x)(hm0:∀ x,x ∉ bootMainNames→mg0 x=none)(hf:bG done "b1_set"=true)(hs:swapsWith B1 (some (.Name "b1_set" p)) pos.line (mainEnv prog c F)=pure false) :
  wpAny (model prog w) A (exec (st 19) (mainEnv prog c F)) (fun f s'=>f=.next∧TS w os h0 mg0 c Pl (19::done) s') (fun O O=>False) s:=by
 revert T;refine fun q7=>ch q7 fun q6 hg ho=>jy q6 fun mg l tabs T=>?_;clear q6 q7
 have hn:∀ x,x ∉ prog.boundNames→x ∉ bootMainNames→mg x=none:=fun x h1 h2=>(T.low x h1).trans (hm0 x h2)
 have S:St ⟨w,s.os,[]⟩ ⟨s.heap.get?,0⟩ [] s:=⟨fun O O e=>e,(fun O h=>nomatch h),(fun O h=>nomatch h),oY,(fun O h=>nomatch h),(fun O h=>nomatch h),(fun O h=>nomatch h),oY,hg,rfl,⟨iE _,htk⟩⟩
 have hG:Fz ⟨s.heap.get?,0⟩ mainGlobals (ix mg):=by
  refine dm T.main.g fun o es ep e r=>?_
  exact (wB o e es ep r)
 have hBs:Fz ⟨s.heap.get?,0⟩ builtinsNs (ix mb):=by
  refine dm hB fun o es ep e r=>?_;clear hB
  exact (wB o (T.keep _ _ (by decide) e) es ep r)
 rw[hst]
 refine lu hs ?_
 refine wpAny_mono (yD (C:=⟨w,s.os,[]⟩) hA hG hBs hbb (hn _ (by decide +kernel) (by decide)) (hn _ (by decide +kernel) (by decide)) (hn _ (by decide +kernel) (by decide)) s S) ?_ fun O O x=>x
 refine fun v s₁ q8=>cm q8 fun g' M' lg S' a q11=>aL q11 fun M'' q9 q10=>?_;clear q8 q11;subst q9;subst q10
 have hk:∀ b o,s.heap.get? b=some o→s₁.heap.get? b=some o:=fun b o e=>S'.sub _ _ (lg.1 b o e)
 have hm':s₁.heap.Main mg c Pl (triples l).toArray:=by
  have hm:=T.main
  exact ⟨hm.g.keeps hk,hm.code.keeps hk,hm.low,hm.bmod.keeps hk⟩
 have hna:s.heap.get? a=none:=by
  cases q:s.heap.get? a with
  | none=>rfl
  | some o =>
   have:=S'.sep _ (.head _)
   rw[lg.1 a o q] at this
   cases this
 have n1:a≠Pl:=by
  rintro rfl
  refine aT T.main.code fun o vs file tf flags q12=>aT q12 fun tg inF text tt op q13=>cy q13 fun b1 r1 r2 r3 r4 q14=>cA q14 fun r5 r6 b2 r=>?_;clear q12 q13 q14
  rw[hna] at b2;cases b2
 have n2:a≠mainGlobals:=by
  rintro rfl
  refine dm T.main.g fun o es ep e r=>?_
  rw[hna] at e;cases e
 refine aL (S'.own _ (.head _)) fun oa hoa hset=>?_
 have e1:s₁={ s₁ with heap:=s₁.heap,toks:=s₁.toks }:=rfl
 refine jm (s:=s₁) hm' (by decide +kernel) (by decide) fun h₂ hm₂ hk₂=>?_
 refine (cr rfl (gJ _ l tabs (T.stepA (i:=19) (nm:="b1_set") (v:=.ref a) ⟨hm₂,fun b o O hb e=>hk₂ b o hb (hk b o e)⟩ (by decide +kernel) hf (by decide +kernel) (fun e=>by cases e) (fun O=>(Ak rfl a rfl ⟨n1,n2⟩ (hset _ _ (hk₂ _ _ n2 hoa)))) fun e=>by cases e)) S'.gens (S'.os.trans ho))
end
end
section
theorem wl:prog.main.body=[st 0,st 1,st 2,st 3,st 4,st 5,st 6,st 7,st 8,st 9,st 10,st 11,st 12,st 13,st 14,st 15,st 16,st 17,st 18,st 19,st 20,st 21,st 22,st 23,st 24,st 25,st 26,st 27,st 28,st 29,st 30,st 31,st 32,st 33]:=by rfl
section
variable {w:World}{os:OsState}{h0:Heap}{mg0:Str→Option Value}{c Pl F:Addr}{done:List Nat}{s:Shared}{A:Around}
theorem aZ {i:Nat}{rest:List Stmt}{Q:Flow→Shared→Prop}(hx:wpAny (model prog w) A (exec (st i) (mainEnv prog c F)) (fun f s'=>f=.next∧TS w os h0 mg0 c Pl (i::done) s') (fun O O=>False) s)(htk:1≤s.toks)(h:∀ s',TS w os h0 mg0 c Pl (i::done) s'→1≤s'.toks→wpAny (model prog w) A (execs rest (mainEnv prog c F)) Q (fun O O=>False) s'):wpAny (model prog w) A (execs (st i::rest) (mainEnv prog c F)) Q (fun O O=>False) s :=
 wpAny_execs_cons (wpAny_with_toks htk (wpAny_mono hx (by refine fun f s' q1 hn=>dI q1 fun q2 T=>?_;clear q1;subst q2;exact h s' T hn) (fun O O x=>x.elim)))
theorem fL {i:Nat}{rest:List Stmt}{Q:Flow→Shared→Prop}(hx:wpAny (model prog w) A (exec (st i) (mainEnv prog c F)) (fun f s'=>f=.next∧TS w os h0 mg0 c Pl (i::done) s'∧1≤s'.toks) (fun O O=>False) s)(h:∀ s',TS w os h0 mg0 c Pl (i::done) s'→1≤s'.toks→wpAny (model prog w) A (execs rest (mainEnv prog c F)) Q (fun O O=>False) s'):wpAny (model prog w) A (execs (st i::rest) (mainEnv prog c F)) Q (fun O O=>False) s :=
 wpAny_execs_cons (wpAny_mono hx (by refine fun f s' q3=>ch q3 fun q4 T hn=>?_;clear q3;subst q4;exact h s' T hn) (fun O O x=>x.elim))
theorem CN (T:TS w os h0 mg0 c Pl done s)(hf:bG done "__name__"=true):wpAny (model prog w) A (exec (st 0) (mainEnv prog c F)) (fun f s'=>f=.next∧TS w os h0 mg0 c Pl (0::done) s'∧1≤s'.toks) (fun O O=>False) s :=
 gN (nm:="__name__") T rfl (.inl ⟨_,rfl⟩) (by decide +kernel) (by decide) (by decide) (fun e=>by cases e) (by decide +kernel) (by decide +kernel) hf (by decide +kernel) (by rfl)
theorem CJ (T:TS w os h0 mg0 c Pl done s)(hf:bG done (ax (st 1))=true)(hp:(done.all fun j=>(bZ j).line != (bZ 1).line)=true):wpAny (model prog w) A (exec (st 1) (mainEnv prog c F)) (fun f s'=>f=.next∧TS w os h0 mg0 c Pl (1::done) s') (fun O O=>False) s :=
 ca T rfl (fun O=>rfl) (by decide +kernel) (by rfl) (by decide +kernel) (by decide +kernel) (by decide) (by decide +kernel) hf hp (by decide +kernel)
theorem CC (T:TS w os h0 mg0 c Pl done s)(hf:bG done (ax (st 2))=true)(hp:(done.all fun j=>(bZ j).line != (bZ 2).line)=true):wpAny (model prog w) A (exec (st 2) (mainEnv prog c F)) (fun f s'=>f=.next∧TS w os h0 mg0 c Pl (2::done) s') (fun O O=>False) s :=
 yF T rfl rfl rfl rfl rfl (by decide +kernel) (by rfl) (by decide +kernel) (by decide +kernel) (by decide +kernel) hf hp (by decide +kernel)
theorem CH (T:TS w os h0 mg0 c Pl done s)(hf:bG done (ax (st 3))=true)(hp:(done.all fun j=>(bZ j).line != (bZ 3).line)=true):wpAny (model prog w) A (exec (st 3) (mainEnv prog c F)) (fun f s'=>f=.next∧TS w os h0 mg0 c Pl (3::done) s') (fun O O=>False) s :=
 ca T rfl (fun O=>rfl) (by decide +kernel) (by rfl) (by decide +kernel) (by decide +kernel) (by decide) (by decide +kernel) hf hp (by decide +kernel)
theorem CA (T:TS w os h0 mg0 c Pl done s)(hf:bG done (ax (st 4))=true)(hp:(done.all fun j=>(bZ j).line != (bZ 4).line)=true):wpAny (model prog w) A (exec (st 4) (mainEnv prog c F)) (fun f s'=>f=.next∧TS w os h0 mg0 c Pl (4::done) s') (fun O O=>False) s :=
 ca T rfl (fun O=>rfl) (by decide +kernel) (by rfl) (by decide +kernel) (by decide +kernel) (by decide) (by decide +kernel) hf hp (by decide +kernel)
theorem CG (T:TS w os h0 mg0 c Pl done s)(hf:bG done (ax (st 5))=true)(hp:(done.all fun j=>(bZ j).line != (bZ 5).line)=true):wpAny (model prog w) A (exec (st 5) (mainEnv prog c F)) (fun f s'=>f=.next∧TS w os h0 mg0 c Pl (5::done) s') (fun O O=>False) s :=
 ca T rfl (fun O=>rfl) (by decide +kernel) (by rfl) (by decide +kernel) (by decide +kernel) (by decide) (by decide +kernel) hf hp (by decide +kernel)
theorem CD (T:TS w os h0 mg0 c Pl done s)(hf:bG done (ax (st 6))=true)(hp:(done.all fun j=>(bZ j).line != (bZ 6).line)=true):wpAny (model prog w) A (exec (st 6) (mainEnv prog c F)) (fun f s'=>f=.next∧TS w os h0 mg0 c Pl (6::done) s') (fun O O=>False) s :=
 ca T rfl (fun O=>rfl) (by decide +kernel) (by rfl) (by decide +kernel) (by decide +kernel) (by decide) (by decide +kernel) hf hp (by decide +kernel)
theorem CO (T:TS w os h0 mg0 c Pl done s)(hf:bG done (ax (st 7))=true)(hp:(done.all fun j=>(bZ j).line != (bZ 7).line)=true):wpAny (model prog w) A (exec (st 7) (mainEnv prog c F)) (fun f s'=>f=.next∧TS w os h0 mg0 c Pl (7::done) s') (fun O O=>False) s :=
 ca T rfl (fun O=>rfl) (by decide +kernel) (by rfl) (by decide +kernel) (by decide +kernel) (by decide) (by decide +kernel) hf hp (by decide +kernel)
theorem CI (T:TS w os h0 mg0 c Pl done s)(hf:bG done (ax (st 8))=true)(hp:(done.all fun j=>(bZ j).line != (bZ 8).line)=true):wpAny (model prog w) A (exec (st 8) (mainEnv prog c F)) (fun f s'=>f=.next∧TS w os h0 mg0 c Pl (8::done) s') (fun O O=>False) s :=
 ca T rfl (fun O=>rfl) (by decide +kernel) (by rfl) (by decide +kernel) (by decide +kernel) (by decide) (by decide +kernel) hf hp (by decide +kernel)
theorem CE (T:TS w os h0 mg0 c Pl done s)(hf:bG done (ax (st 9))=true)(hp:(done.all fun j=>(bZ j).line != (bZ 9).line)=true):wpAny (model prog w) A (exec (st 9) (mainEnv prog c F)) (fun f s'=>f=.next∧TS w os h0 mg0 c Pl (9::done) s') (fun O O=>False) s :=
 ca T rfl (fun O=>rfl) (by decide +kernel) (by rfl) (by decide +kernel) (by decide +kernel) (by decide) (by decide +kernel) hf hp (by decide +kernel)
theorem B5 (T:TS w os h0 mg0 c Pl done s)(hf:bG done "__name__"=true):wpAny (model prog w) A (exec (st 10) (mainEnv prog c F)) (fun f s'=>f=.next∧TS w os h0 mg0 c Pl (10::done) s'∧1≤s'.toks) (fun O O=>False) s :=
 gN (nm:="__name__") T rfl (.inl ⟨_,rfl⟩) (by decide +kernel) (by decide) (by decide) (fun e=>by cases e) (by decide +kernel) (by decide +kernel) hf (by decide +kernel) (by rfl)
theorem B7 (T:TS w os h0 mg0 c Pl done s)(hf:bG done "_DIV_LIMIT"=true):wpAny (model prog w) A (exec (st 11) (mainEnv prog c F)) (fun f s'=>f=.next∧TS w os h0 mg0 c Pl (11::done) s'∧1≤s'.toks) (fun O O=>False) s :=
 gN (nm:="_DIV_LIMIT") T rfl (.inr ⟨_,rfl⟩) (by decide +kernel) (by decide) (by decide) (fun O=>⟨rfl,rfl⟩) (by decide +kernel) (by decide +kernel) hf (by decide +kernel) (by rfl)
theorem BT (T:TS w os h0 mg0 c Pl done s)(hf:bG done (ax (st 12))=true)(hp:(done.all fun j=>(bZ j).line != (bZ 12).line)=true):wpAny (model prog w) A (exec (st 12) (mainEnv prog c F)) (fun f s'=>f=.next∧TS w os h0 mg0 c Pl (12::done) s') (fun O O=>False) s :=
 ca T rfl (fun O=>rfl) (by decide +kernel) (by rfl) (by decide +kernel) (by decide +kernel) (by decide) (by decide +kernel) hf hp (by decide +kernel)
theorem B3 (T:TS w os h0 mg0 c Pl done s)(hf:bG done (ax (st 13))=true)(hp:(done.all fun j=>(bZ j).line != (bZ 13).line)=true):wpAny (model prog w) A (exec (st 13) (mainEnv prog c F)) (fun f s'=>f=.next∧TS w os h0 mg0 c Pl (13::done) s') (fun O O=>False) s :=
 ca T rfl (fun O=>rfl) (by decide +kernel) (by rfl) (by decide +kernel) (by decide +kernel) (by decide) (by decide +kernel) hf hp (by decide +kernel)
theorem Cg (T:TS w os h0 mg0 c Pl done s)(hf:bG done (ax (st 14))=true)(hp:(done.all fun j=>(bZ j).line != (bZ 14).line)=true):wpAny (model prog w) A (exec (st 14) (mainEnv prog c F)) (fun f s'=>f=.next∧TS w os h0 mg0 c Pl (14::done) s') (fun O O=>False) s :=
 ca T rfl (fun O=>rfl) (by decide +kernel) (by rfl) (by decide +kernel) (by decide +kernel) (by decide) (by decide +kernel) hf hp (by decide +kernel)
theorem BY (T:TS w os h0 mg0 c Pl done s)(hf:bG done (ax (st 15))=true)(hp:(done.all fun j=>(bZ j).line != (bZ 15).line)=true):wpAny (model prog w) A (exec (st 15) (mainEnv prog c F)) (fun f s'=>f=.next∧TS w os h0 mg0 c Pl (15::done) s') (fun O O=>False) s :=
 ca T rfl (fun O=>rfl) (by decide +kernel) (by rfl) (by decide +kernel) (by decide +kernel) (by decide) (by decide +kernel) hf hp (by decide +kernel)
theorem Co (T:TS w os h0 mg0 c Pl done s)(hf:bG done (ax (st 16))=true)(hp:(done.all fun j=>(bZ j).line != (bZ 16).line)=true):wpAny (model prog w) A (exec (st 16) (mainEnv prog c F)) (fun f s'=>f=.next∧TS w os h0 mg0 c Pl (16::done) s') (fun O O=>False) s :=
 ca T rfl (fun O=>rfl) (by decide +kernel) (by rfl) (by decide +kernel) (by decide +kernel) (by decide) (by decide +kernel) hf hp (by decide +kernel)
theorem BQ (T:TS w os h0 mg0 c Pl done s)(hf:bG done (ax (st 17))=true)(hp:(done.all fun j=>(bZ j).line != (bZ 17).line)=true):wpAny (model prog w) A (exec (st 17) (mainEnv prog c F)) (fun f s'=>f=.next∧TS w os h0 mg0 c Pl (17::done) s') (fun O O=>False) s :=
 ca T rfl (fun O=>rfl) (by decide +kernel) (by rfl) (by decide +kernel) (by decide +kernel) (by decide) (by decide +kernel) hf hp (by decide +kernel)
theorem Ch (T:TS w os h0 mg0 c Pl done s)(hf:bG done "__name__"=true):wpAny (model prog w) A (exec (st 18) (mainEnv prog c F)) (fun f s'=>f=.next∧TS w os h0 mg0 c Pl (18::done) s'∧1≤s'.toks) (fun O O=>False) s :=
 gN (nm:="__name__") T rfl (.inl ⟨_,rfl⟩) (by decide +kernel) (by decide) (by decide) (fun e=>by cases e) (by decide +kernel) (by decide +kernel) hf (by decide +kernel) (by rfl)
theorem Ck {mb:Str→Option Value}(hA:A.handled=none)(T:TS w os h0 mg0 c Pl done s)(htk:1≤s.toks)(hB:h0.Ns builtinsNs mb)(hbb:∀ x:Str,x≠"__name__"→mb x=bootBuiltins x)(hm0:∀ x,x ∉ bootMainNames→mg0 x=none)(hf:bG done "b1_set"=true):wpAny (model prog w) A (exec (st 19) (mainEnv prog c F)) (fun f s'=>f=.next∧TS w os h0 mg0 c Pl (19::done) s') (fun O O=>False) s :=
 zw hA T htk rfl hB hbb hm0 hf (by rfl)
theorem B6 (T:TS w os h0 mg0 c Pl done s)(hf:bG done (ax (st 20))=true)(hp:(done.all fun j=>(bZ j).line != (bZ 20).line)=true):wpAny (model prog w) A (exec (st 20) (mainEnv prog c F)) (fun f s'=>f=.next∧TS w os h0 mg0 c Pl (20::done) s') (fun O O=>False) s :=
 ca T rfl (fun O=>rfl) (by decide +kernel) (by rfl) (by decide +kernel) (by decide +kernel) (by decide) (by decide +kernel) hf hp (by decide +kernel)
theorem Cn (T:TS w os h0 mg0 c Pl done s)(hf:bG done "b3_exceptions"=true):wpAny (model prog w) A (exec (st 21) (mainEnv prog c F)) (fun f s'=>f=.next∧TS w os h0 mg0 c Pl (21::done) s') (fun O O=>False) s :=
 by
 have:=@Ai w os h0 mg0 c Pl F done s A Ct Cu yQ Aa zO T Bz yj hf
 with_reducible exact this
theorem B9 (T:TS w os h0 mg0 c Pl done s)(hf:bG done (ax (st 22))=true)(hp:(done.all fun j=>(bZ j).line != (bZ 22).line)=true):wpAny (model prog w) A (exec (st 22) (mainEnv prog c F)) (fun f s'=>f=.next∧TS w os h0 mg0 c Pl (22::done) s') (fun O O=>False) s :=
 ca T rfl (fun O=>rfl) (by decide +kernel) (by rfl) (by decide +kernel) (by decide +kernel) (by decide) (by decide +kernel) hf hp (by decide +kernel)
theorem B0 (T:TS w os h0 mg0 c Pl done s)(hf:bG done "__name__"=true):wpAny (model prog w) A (exec (st 23) (mainEnv prog c F)) (fun f s'=>f=.next∧TS w os h0 mg0 c Pl (23::done) s'∧1≤s'.toks) (fun O O=>False) s :=
 gN (nm:="__name__") T rfl (.inl ⟨_,rfl⟩) (by decide +kernel) (by decide) (by decide) (fun e=>by cases e) (by decide +kernel) (by decide +kernel) hf (by decide +kernel) (by rfl)
theorem Cr (T:TS w os h0 mg0 c Pl done s)(hf:bG done (ax (st 24))=true)(hp:(done.all fun j=>(bZ j).line != (bZ 24).line)=true):wpAny (model prog w) A (exec (st 24) (mainEnv prog c F)) (fun f s'=>f=.next∧TS w os h0 mg0 c Pl (24::done) s') (fun O O=>False) s :=
 ca T rfl (fun O=>rfl) (by decide +kernel) (by rfl) (by decide +kernel) (by decide +kernel) (by decide) (by decide +kernel) hf hp (by decide +kernel)
theorem B8 (T:TS w os h0 mg0 c Pl done s)(hf:bG done (ax (st 25))=true)(hp:(done.all fun j=>(bZ j).line != (bZ 25).line)=true):wpAny (model prog w) A (exec (st 25) (mainEnv prog c F)) (fun f s'=>f=.next∧TS w os h0 mg0 c Pl (25::done) s') (fun O O=>False) s :=
 ca T rfl (fun O=>rfl) (by decide +kernel) (by rfl) (by decide +kernel) (by decide +kernel) (by decide) (by decide +kernel) hf hp (by decide +kernel)
theorem B4 (T:TS w os h0 mg0 c Pl done s)(hf:bG done (ax (st 26))=true)(hp:(done.all fun j=>(bZ j).line != (bZ 26).line)=true):wpAny (model prog w) A (exec (st 26) (mainEnv prog c F)) (fun f s'=>f=.next∧TS w os h0 mg0 c Pl (26::done) s') (fun O O=>False) s :=
 ca T rfl (fun O=>rfl) (by decide +kernel) (by rfl) (by decide +kernel) (by decide +kernel) (by decide) (by decide +kernel) hf hp (by decide +kernel)
theorem BP (T:TS w os h0 mg0 c Pl done s)(hf:bG done (ax (st 27))=true)(hp:(done.all fun j=>(bZ j).line != (bZ 27).line)=true):wpAny (model prog w) A (exec (st 27) (mainEnv prog c F)) (fun f s'=>f=.next∧TS w os h0 mg0 c Pl (27::done) s') (fun O O=>False) s :=
 ca T rfl (fun O=>rfl) (by decide +kernel) (by rfl) (by decide +kernel) (by decide +kernel) (by decide) (by decide +kernel) hf hp (by decide +kernel)
theorem Cp (T:TS w os h0 mg0 c Pl done s)(hf:bG done (ax (st 28))=true)(hp:(done.all fun j=>(bZ j).line != (bZ 28).line)=true):wpAny (model prog w) A (exec (st 28) (mainEnv prog c F)) (fun f s'=>f=.next∧TS w os h0 mg0 c Pl (28::done) s') (fun O O=>False) s :=
 ca T rfl (fun O=>rfl) (by decide +kernel) (by rfl) (by decide +kernel) (by decide +kernel) (by decide) (by decide +kernel) hf hp (by decide +kernel)
theorem Cm (T:TS w os h0 mg0 c Pl done s)(hf:bG done (ax (st 29))=true)(hp:(done.all fun j=>(bZ j).line != (bZ 29).line)=true):wpAny (model prog w) A (exec (st 29) (mainEnv prog c F)) (fun f s'=>f=.next∧TS w os h0 mg0 c Pl (29::done) s') (fun O O=>False) s :=
 ca T rfl (fun O=>rfl) (by decide +kernel) (by rfl) (by decide +kernel) (by decide +kernel) (by decide) (by decide +kernel) hf hp (by decide +kernel)
theorem Cc (T:TS w os h0 mg0 c Pl done s)(hf:bG done (ax (st 30))=true)(hp:(done.all fun j=>(bZ j).line != (bZ 30).line)=true):wpAny (model prog w) A (exec (st 30) (mainEnv prog c F)) (fun f s'=>f=.next∧TS w os h0 mg0 c Pl (30::done) s') (fun O O=>False) s :=
 ca T rfl (fun O=>rfl) (by decide +kernel) (by rfl) (by decide +kernel) (by decide +kernel) (by decide) (by decide +kernel) hf hp (by decide +kernel)
theorem BW (T:TS w os h0 mg0 c Pl done s)(hf:bG done (ax (st 31))=true)(hp:(done.all fun j=>(bZ j).line != (bZ 31).line)=true):wpAny (model prog w) A (exec (st 31) (mainEnv prog c F)) (fun f s'=>f=.next∧TS w os h0 mg0 c Pl (31::done) s') (fun O O=>False) s :=
 ca T rfl (fun O=>rfl) (by decide +kernel) (by rfl) (by decide +kernel) (by decide +kernel) (by decide) (by decide +kernel) hf hp (by decide +kernel)
theorem Ce (T:TS w os h0 mg0 c Pl done s)(hf:bG done (ax (st 32))=true)(hp:(done.all fun j=>(bZ j).line != (bZ 32).line)=true):wpAny (model prog w) A (exec (st 32) (mainEnv prog c F)) (fun f s'=>f=.next∧TS w os h0 mg0 c Pl (32::done) s') (fun O O=>False) s :=
 ca T rfl (fun O=>rfl) (by decide +kernel) (by rfl) (by decide +kernel) (by decide +kernel) (by decide) (by decide +kernel) hf hp (by decide +kernel)
theorem Cq (T:TS w os h0 mg0 c Pl done s)(hf:bG done (ax (st 33))=true)(hp:(done.all fun j=>(bZ j).line != (bZ 33).line)=true):wpAny (model prog w) A (exec (st 33) (mainEnv prog c F)) (fun f s'=>f=.next∧TS w os h0 mg0 c Pl (33::done) s') (fun O O=>False) s :=
 ca T rfl (fun O=>rfl) (by decide +kernel) (by rfl) (by decide +kernel) (by decide +kernel) (by decide) (by decide +kernel) hf hp (by decide +kernel)
end
end
section
section
variable {w:World}{os:OsState}{h0:Heap}{mg0:Str→Option Value}{c Pl F:Addr}{done:List Nat}{s:Shared}{A:Around}
theorem xT {mb:Str→Option Value}(hA:A.handled=none)(T:TS w os h0 mg0 c Pl [] s)(hB:h0.Ns builtinsNs mb)(hbb:∀ x:Str,x≠"__name__"→mb x=bootBuiltins x)(hm0:∀ x,x ∉ bootMainNames→mg0 x=none) :
  wpAny (model prog w) A (execs prog.main.body (mainEnv prog c F)) (fun f s'=>f=.next∧TS w os h0 mg0 c Pl [33,32,31,30,29,28,27,26,25,24,23,22,21,20,19,18,17,16,15,14,13,12,11,10,9,8,7,6,5,4,3,2,1,0] s'∧1≤s'.toks) (fun O O=>False) s:=by
 rw[wl]
 refine' fL (CN T (by decide +kernel)) fun s T k=>?_
 refine' aZ (CJ T (by decide +kernel) (by decide +kernel)) k fun s T k=>?_
 refine' aZ (CC T (by decide +kernel) (by decide +kernel)) k fun s T k=>?_
 refine' aZ (CH T (by decide +kernel) (by decide +kernel)) k fun s T k=>?_
 refine' aZ (CA T (by decide +kernel) (by decide +kernel)) k fun s T k=>?_
 refine' aZ (CG T (by decide +kernel) (by decide +kernel)) k fun s T k=>?_
 refine' aZ (CD T (by decide +kernel) (by decide +kernel)) k fun s T k=>?_
 refine' aZ (CO T (by decide +kernel) (by decide +kernel)) k fun s T k=>?_
 refine' aZ (CI T (by decide +kernel) (by decide +kernel)) k fun s T k=>?_
 refine' aZ (CE T (by decide +kernel) (by decide +kernel)) k fun s T k=>?_
 refine' fL (B5 T (by decide +kernel)) fun s T k=>?_
 refine' fL (B7 T (by decide +kernel)) fun s T k=>?_
 refine' aZ (BT T (by decide +kernel) (by decide +kernel)) k fun s T k=>?_
 refine' aZ (B3 T (by decide +kernel) (by decide +kernel)) k fun s T k=>?_
 refine' aZ (Cg T (by decide +kernel) (by decide +kernel)) k fun s T k=>?_
 refine' aZ (BY T (by decide +kernel) (by decide +kernel)) k fun s T k=>?_
 refine' aZ (Co T (by decide +kernel) (by decide +kernel)) k fun s T k=>?_
 refine' aZ (BQ T (by decide +kernel) (by decide +kernel)) k fun s T k=>?_
 refine' fL (Ch T (by decide +kernel)) fun s T k=>?_
 refine' aZ (Ck hA T k hB hbb hm0 (by decide +kernel)) k fun s T k=>?_
 refine' aZ (B6 T (by decide +kernel) (by decide +kernel)) k fun s T k=>?_
 refine' aZ (Cn T (by decide +kernel)) k fun s T k=>?_
 refine' aZ (B9 T (by decide +kernel) (by decide +kernel)) k fun s T k=>?_
 refine' fL (B0 T (by decide +kernel)) fun s T k=>?_
 refine' aZ (Cr T (by decide +kernel) (by decide +kernel)) k fun s T k=>?_
 refine' aZ (B8 T (by decide +kernel) (by decide +kernel)) k fun s T k=>?_
 refine' aZ (B4 T (by decide +kernel) (by decide +kernel)) k fun s T k=>?_
 refine' aZ (BP T (by decide +kernel) (by decide +kernel)) k fun s T k=>?_
 refine' aZ (Cp T (by decide +kernel) (by decide +kernel)) k fun s T k=>?_
 refine' aZ (Cm T (by decide +kernel) (by decide +kernel)) k fun s T k=>?_
 refine' aZ (Cc T (by decide +kernel) (by decide +kernel)) k fun s T k=>?_
 refine' aZ (BW T (by decide +kernel) (by decide +kernel)) k fun s T k=>?_
 refine' aZ (Ce T (by decide +kernel) (by decide +kernel)) k fun s T k=>?_
 refine' aZ (Cq T (by decide +kernel) (by decide +kernel)) k fun s T k=>?_
 exact wpAny_execs_nil (iPPP rfl T k)
end
end
theorem qu {p:Program}{w:World}{s s':Shared}{t:Thread}{f:Flow}(hc:t.calm=true)(h:step (denote table) p w s t=.halt (.done f) s'):through t=true:=by
 have h1:=stepK_forget (denote table) p w s t
 rw[h] at h1
 have h2:∃ s'',stepK (denote table) p w s t=.halt (.done f) s'':=by
  cases q:stepK (denote table) p w s t with
  | go a b=>rw[q] at h1;cases h1
  | halt o a =>
   rw[q] at h1
   injection h1 with h3 _
   exact ⟨a,by rw[h3]⟩
 revert h2;refine fun q1=>bK q1 fun s'' h2=>?_;clear q1
 have hl:t.loud=false:=by
  rw[Thread.calm_eq,iO] at hc
  simpa using hc.1
 obtain ⟨cur,code,pos,stack⟩:=t
 have h4:(model p w).step s ⟨cur,code,pos,stack⟩=.halt (outcomeOf (.ok f)) s'':=(Model.step_quiet (M:=model p w) hl).trans h2
 refine ch (step_halt_result h4) fun h5 h6 O=>?_
 subst h5 h6
 rfl
theorem lN {p:Program}{w:World}{f:Flow}:∀ {n:Nat}{s s':Shared}{t:Thread},runN (denote table) p w n s t=.halted (.done f) s'→(∀ k s₁ t₁,runN (denote table) p w k s t=.running s₁ t₁→t₁.calm=true)→s.asleep →
  ∃ m t₁,schedN (denote table) p w m (.single s t)=.running (.single s' t₁)∧through t₁=true
 | 0,_,_,_,h,_,_=>by cases h
 | n+1,s,s',t,h,hc,hz=>by
  simp only[runN] at h
  cases hs:step (denote table) p w s t with
  | go s1 t1 =>
   simp only[hs] at h
   have hz1:s1.asleep:=Shared.asleep_of_life (step_life (denote table) p w s s1 t t1 hs) hz
   refine bJ (lN h (fun k s₂ t₂ h2=>hc (k+1) s₂ t₂ (by simp only[runN,hs];exact h2)) hz1) fun m t₁ hm ht=>?_
   have e:sstep (denote table) p w (.single s t)=.go (.single s1 t1):=by
    rcases sstep_single (denote table) p w s t (hc 0 s t rfl) hz with e|e
    ·rw[e,hs];rfl
    ·rw[hs] at e;cases e
   exact (bV (m+1) t₁ (by simp only[schedN,e];exact hm) ht)
  | halt o s2 =>
   simp only[hs] at h
   have h2:o=.done f∧s2=s':=by
    injection h with h1 h2
    exact ⟨h1,h2⟩
   refine dI h2 fun q2 q3=>?_;clear h2;subst q2;subst q3
   have:=step_halt_same (denote table) p w s s2 t _ hs
   subst this
   exact (bV 0 t rfl (qu (hc 0 _ t rfl) hs))
theorem sK {p:Program}{w:World}{t:Sem Fin}{s:Shared}{R:Shared→Prop}(hz:s.asleep)(h:wpAny (model p w) callerA t (fun fin s'=>∃ f,fin=.done f∧R s'∧s'.gens=#[]) (fun O O=>False) s) :
  ∃ n t₁ s',schedN (denote table) p w n (.single s ⟨t,.builtin "claim.caller" {},default,[]⟩)=.running (.single s' t₁)∧through t₁=true∧s'.heap.life=s.heap.life∧R s'∧s'.gens=#[]:=by
 have hw:=wp_of_wpAny_done (M:=model p w) (R:=fun r s'=>((∃ f,r=.ok f)∧R s'∧s'.gens=#[])∧leftWithCleanup s'.gens=false) caller_in (t:=t) (s:=s)
  (wpAny_mono h (fun fin s' q4=>bT q4 fun f e h1 h2=>(bU f e (iPPP ⟨f,rfl⟩ h1 h2) (by rw[h2];simp[leftWithCleanup]))) fun O O x=>x.elim) default
 refine bC ((wp_iff_halts (M:=model p w) t (fun r s'=>(∃ f,r=.ok f)∧R s'∧s'.gens=#[]) default s).mp hw) fun n r s' hn q5 q6=>dI q6 fun hR hg=>bK q5 fun f q7=>?_;clear q6 q5;subst q7
 refine bT (runNI_real (denote table) p w hn (outcomeOf_ends (.ok f))) fun s'' hr hf hc=>?_
 obtain rfl:=Shared.eq_of_forget_eq hf hg
 refine bJ (lN hr hc hz) fun m t₁ hm ht=>?_
 exact (bf m t₁ s'' hm ht (iPPP (runN_life _ _ _ hr) hR hg))
noncomputable def P0 (s:Shared):Prop:=∃ mb mg c Pl,BootLeft s.heap mb mg c Pl∧s.gens=#[]
theorem pY:(opening prog).main.body=[]:=by rfl
theorem jH (w:World):(∃ s,AfterImport (opening prog) w s)∧∀ s,AfterImport (opening prog) w s→P0 s:=by
 refine AfterImport.of_body (prog:=opening prog) (w:=w) (P:=P0) (out:=#[]) ?_ (by rfl)
 intro hp tk mb mg c Pl F hB
 rw[pY]
 refine codeAny_body rfl rfl (wpAny_execs_nil ?_)
 exact (cr ⟨_,rfl⟩ (.of hB (fun O O O O e=>e) hB.g) (c4 mb mg c Pl hB rfl) rfl)
theorem ti:behindTheImports prog=prog.main.body:=by rfl
theorem s8:importedModules prog.main.body=[]:=by decide +kernel
theorem xe:prog.main.body.any namesNumpy=false:=by decide +kernel
theorem zI (s:Shared):fenceModules? prog s=some s:=by
 unfold fenceModules?
 rw[s8,xe]
 rfl
noncomputable abbrev qo:List Nat:=[33,32,31,30,29,28,27,26,25,24,23,22,21,20,19,18,17,16,15,14,13,12,11,10,9,8,7,6,5,4,3,2,1,0]
structure TopDone (w:World) (s₀ s₁:Shared) (mg0 mb:Str→Option Value) (c Pl:Addr) (mg:Str→Option Value) (l:List (Pos×Addr)) (tabs:List (Nat×Addr×Addr)):Prop where
 top:TopI w s₀.heap mg0 c Pl mg l tabs qo s₁.heap
 g0:s₀.heap.Ns mainGlobals mg0
 b0:s₀.heap.Ns builtinsNs mb
 blt:∀ x:Str,x≠"__name__"→mb x=bootBuiltins x
 others:∀ x,x ∉ bootMainNames→mg0 x=none
 statics:s₀.heap.Ns cStatics (fun O=>none)
 gens:s₁.gens=#[]
 os:s₁.os=s₀.os
 tk:1≤s₁.toks
theorem zX (w:World){s:Shared}{mb mg0:Str→Option Value}{c₀ Pl₀:Addr}(hB:BootLeft s.heap mb mg0 c₀ Pl₀)(hg:s.gens=#[]) :
  wpAny (model prog w) callerA (topStub prog).cur (fun fin s'=>∃ f,fin=.done f∧(∃ c Pl mg l tabs,TopDone w s s' mg0 mb c Pl mg l tabs)∧s'.gens=#[]) (fun O O=>False) s:=by
 unfold topStub
 dsimp only
 rw[ti]
 refine wpAny_bind (wpAny_moduleCode fun c Pl h' tk hk hc hP hok=>?_)
 refine wpAny_bind ?_
 unfold newBodyFrame
 refine wpAny_bind (wpAny_nsGet (hB.g.keeps hk) (wpAny_alloc ?_))
 have hglt:mainGlobals<s.heap.objs.size:=hB.g.lt
 have hm:(h'.push { cls:=.type "frame",slots:=#[some (.ref c),some (.ref mainNs),some (.ref mainNs),none,some ((mg0 "__name__").getD .none),none,some (.ref builtinsNs)] }).Main mg0 c Pl (triples []).toArray:=by
  refine bc hB.bmod fun bm o a1 a2 a3 q8=>ch q8 fun a4 a5 r=>?_;clear q8
  exact ⟨(hB.g.keeps hk).push _,hok.push _,⟨b9 hglt hc,b9 hglt hP⟩,bm,o,a1,a2,a3,eE (b9 (Heap.lt_size a5) hP),Heap.get?_push_of_some _ (hk _ _ a5),r⟩
 refine wpAny_bind (wpAny_run (h:=none) (codeAny_body (by decide +kernel) (by decide +kernel) ?_))
 refine wpAny_mono (xT (w:=w) (os:=s.os) (h0:=s.heap) (mg0:=mg0) (c:=c) (Pl:=Pl) (mb:=mb) rfl (iPPP ⟨mg0,[],[],hm,hP,fun b o O e=>Heap.get?_push_of_some _ (hk b o e),fun O O=>rfl,(fun O h=>nomatch h),(fun O h=>nomatch h),oY,(fun O h=>nomatch h),(fun h=>nomatch h),(fun h=>nomatch h),fun h=>nomatch h⟩ hg rfl) hB.b hB.builtins hB.others) ?_ fun O O x=>x.elim
 refine fun f s' q9=>ch q9 fun q10 q11 htk=>ch q11 fun q12 hg' ho'=>jy q12 fun mg l tabs T=>?_;clear q9 q11 q12;subst q10
 refine wpAny_pure (bU _ rfl ⟨c,Pl,mg,l,tabs,T,hB.g,hB.b,hB.builtins,hB.others,hB.statics,hg',ho',htk⟩ hg')
theorem yv (w:World){s:Shared}(h:P0 s)(hz:s.asleep):∃ s₁,TopRan prog w s s₁∧s₁.asleep∧∃ mg0 mb c Pl mg l tabs,TopDone w s s₁ mg0 mb c Pl mg l tabs:=by
 refine c9 h fun mb mg0 c₀ Pl₀ hB hg=>?_;clear h
 refine bC (sK (R:=fun s'=>∃ c Pl mg l tabs,TopDone w s s' mg0 mb c Pl mg l tabs) hz (zX w hB hg)) fun n t s₁ hn ht q14=>ch q14 fun hl q13 O=>aT q13 fun c Pl mg l tabs D=>?_;clear q14 q13
 have T:=D.top
 have hst:s₁.heap.get? cStatics=s.heap.get? cStatics:=by
  refine dm D.statics fun o es ep e r=>?_
  rw[e];exact T.keep _ _ (by decide) e
 have hS:s₁.heap.Ns cStatics (fun O=>none):=by
  refine dm D.statics fun o es ep e r=>?_
  exact (dQ o es ep (T.keep _ _ (by decide) e) r)
 have hb1:s₁.heap.Ns builtinsNs mb:=by
  refine dm D.b0 fun o es ep e r=>?_
  exact (dQ o es ep (T.keep _ _ (by decide) e) r)
 refine (pO s₁ (cx (bV n t hn ht) hl (Shared.rest_eq D.os) (fun b o e hn=>T.keep b o (fun q=>hn (.inl q)) e) ?_ (cx ?_ (Pin.keysAreStrs_of_ns T.main.g) ?_ ?_ ?_ (jb ?_ ?_))) (Shared.asleep_of_life hl hz) mg0 mb (ba c Pl mg l tabs D))
 ·intro key v e
  rw[Pin.staticOf_of_ns hS] at e
  cases e
 ·exact fun key=>.inl (OldK.staticOf_congr hst key)
 ·intro x hx
  rw[Pin.builtinOf_of_ns hb1,D.blt x hx]
  rfl
 ·refine bc T.main.bmod fun bm o a1 a2 a3 q15=>di q15 fun a4 a5 a6 a7 a8=>?_;clear q15
  exact (cb bm o ((Claim2Try.globalOf_of_ns T.main.g _).trans a1) a5 a6 a7)
 ·intro g hg
  rw[D.gens] at hg
  simp at hg
 ·intro x v e
  rw[Claim2Try.globalOf_of_ns T.main.g] at e
  by_cases q:x∈prog.boundNames
  ·exact .inr q
  ·rw[T.low x q] at e
   left
   by_cases q2:x∈bootMainNames
   ·exact q2
   ·rw[D.others x q2] at e;cases e
 ·intro x hx
  rw[Claim2Try.globalOf_of_ns T.main.g,Claim2Try.globalOf_of_ns D.g0]
  refine T.low x ?_
  revert x
  decide +kernel
section
theorem wH {i:Nat}(h:eT i=true):i<34:=by
 by_cases q:i<34
 ·exact q
 ·exfalso
  have h2:∀ (b:List Stmt) (n:Nat),b.length≤n→aI b n=.Pass ⟨0,0,0,0⟩:=by
   intro b
   induction b with
   | nil=>intro n _;cases n<;>rfl
   | cons s r ih =>
    intro n hn
    cases n with
    | zero=>simp at hn
    | succ n=>exact ih n (by simpa using hn)
  have h3:prog.main.body.length=34:=by decide +kernel
  have:st i=.Pass ⟨0,0,0,0⟩:=h2 _ _ (by rw[h3];exact uJ q)
  unfold eT at h
  rw[this] at h
  cases h
theorem gO {i:Nat}(h:i<34):i∈qo:=by
 have:∀ i,i<34→i∈qo:=by decide
 exact this i h
theorem mS {i:Nat}(h:eT i=true):cW i=ax (st i):=by
 unfold eT at h
 unfold cW ax
 cases q:st i with
 | FunctionDef=>rfl
 | _=>first|(rw[q] at h;cases h)|(rw[q] at h)|skip
noncomputable def lX (tabs:List (Nat×Addr×Addr)):List Addr:=tabs.map (·.2.2)
noncomputable def kR (tabs:List (Nat×Addr×Addr))(h:Heap):G:=⟨fun b=>if (lX tabs).contains b then none else h.get? b,0⟩
noncomputable def yp (w:World)(os:OsState)(tabs:List (Nat×Addr×Addr)):Cx:=⟨w,os,tabs.map fun x=>⟨x.2.1,x.2.2,qsOf x.1⟩⟩
theorem oW {k:Int}:∀ {kvs:List (Int×Value)}{ks:List (Int×Str)},Ents kvs ks→match (ks.find? fun p=>p.1==k).map (·.2) with|some x=>∃ t,valueAt kvs k=some (.str x t)|none=>valueAt kvs k=none
 | _,_,.nil=>rfl
 | _,_,.cons (k:=j) (x:=x) (t:=t) (vs:=vs) (ks:=ks) h=>by
  have ih:=oW (k:=k) h
  unfold valueAt at ih ⊢
  rw[List.find?_cons,List.find?_cons]
  by_cases q:j=k
  ·subst q
   simp
  ·have e1:(j==k)=false:=by simpa using q
   have e2:decide (j=k)=false:=by simpa using q
   simp only[e1,e2]
   exact ih
section
variable {w:World}{s₀ s₁ s₂:Shared}{mg0 mb mg:Str→Option Value}{c Pl:Addr}{l:List (Pos×Addr)}{tabs:List (Nat×Addr×Addr)}
theorem yL (D:TopDone w s₀ s₁ mg0 mb c Pl mg l tabs)(hk:∀ b o,s₁.heap.get? b=some o→s₂.heap.get? b=some o){P:Addr}(h:P∈lX tabs):∃ o,s₂.heap.get? P=some o∧o.data=.fields #[]:=by
 refine aL (List.mem_map.mp h) fun x hx q1=>?_;subst q1
 refine cA (D.top.tab x hx) fun O O O h4=>?_
 exact (aG _ (hk _ _ h4.2) rfl)
theorem x3 (D:TopDone w s₀ s₁ mg0 mb c Pl mg l tabs)(hk:∀ b o,s₁.heap.get? b=some o→s₂.heap.get? b=some o){b:Addr}{o:Obj}(h:s₂.heap.get? b=some o)(hd:o.data≠.fields #[]):(kR tabs s₂.heap).f b=some o:=by
 show (if (lX tabs).contains b then none else s₂.heap.get? b)=some o
 rw[if_neg]
 ·exact h
 ·intro hc
  refine aL (yL D hk (List.contains_iff_mem.mp hc)) fun o' e d=>?_
  rw[h] at e
  cases e
  exact hd d
theorem AZ {b:Addr}{o:Obj}(h:(kR tabs s₂.heap).f b=some o):s₂.heap.get? b=some o:=by
 have h:(if (lX tabs).contains b then none else s₂.heap.get? b)=some o:=h
 split at h
 ·cases h
 ·exact h
theorem nN (D:TopDone w s₀ s₁ mg0 mb c Pl mg l tabs)(hk:∀ b o,s₁.heap.get? b=some o→s₂.heap.get? b=some o){b:Addr}{o:Obj}{P:OP}(h:s₁.heap.get? b=some o)(hp:P o)(hd:o.data≠.fields #[]):Fz (kR tabs s₂.heap) b P:=(aG o (x3 D hk (hk _ _ h) hd) hp)
theorem wV (D:TopDone w s₀ s₁ mg0 mb c Pl mg l tabs)(hk:∀ b o,s₁.heap.get? b=some o→s₂.heap.get? b=some o){b:Addr}{m:Str→Option Value}(h:s₁.heap.Ns b m):Fz (kR tabs s₂.heap) b (ix m):=by
 refine bC h fun o es ep e d r=>?_;clear h
 exact nN D hk e (bV es ep d r) (by rw[d];intro q;cases q)
theorem uF (D:TopDone w s₀ s₁ mg0 mb c Pl mg l tabs)(hk:∀ b o,s₁.heap.get? b=some o→s₂.heap.get? b=some o){cc:Addr}{q:Str}(h:s₁.heap.CodeRec (.ref cc) q):CodeIn (kR tabs s₂.heap) (.ref cc) q:=by
 refine c9 h fun c₂ o vs t e q2=>ch q2 fun x d r=>?_;clear q2 h
 cases e
 refine (c4 _ o vs t rfl (iPPP (x3 D hk (hk _ _ x) ?_) d r))
 rw[d]
 intro q
 cases q
 cases r
theorem zh (D:TopDone w s₀ s₁ mg0 mb c Pl mg l tabs)(hk:∀ b o,s₁.heap.get? b=some o→s₂.heap.get? b=some o)(hg:s₂.gens=#[])(htk:1≤s₂.toks):St (yp w s₂.os tabs) (kR tabs s₂.heap) [] s₂:=by
 have hcode:∀ x∈tabs,∃ o,(kR tabs s₂.heap).f x.2.1=some o:=by
  intro x hx
  refine cA (D.top.tab x hx) fun O O h3 O=>?_
  refine aT h3 fun o vs file tf flags q3=>aT q3 fun tg inF text tt op q4=>cA q4 fun b1 r1 r2 r3=>?_;clear q3 q4 h3
  refine ⟨o,x3 D hk (hk _ _ b1) ?_⟩
  rw[r1]
  intro q
  cases q
  cases r2
 refine ⟨fun b o e=>AZ e,(fun O h=>nomatch h),(fun O h=>nomatch h),oY,fun t ht=>?_,fun t ht=>?_,fun t ht=>?_,?_,hg,rfl,⟨iE _,htk⟩⟩
 ·refine aL (List.mem_map.mp ht) fun x hx q5=>?_;subst q5
  refine cA (D.top.tab x hx) fun O O h3 h4=>?_
  exact (bU (#[]) (h3.keeps hk) (h4.keeps hk) (fun y hy c' e=>by cases e))
 ·refine aL (List.mem_map.mp ht) fun x hx q6=>?_;subst q6
  exact hcode x hx
 ·refine aL (List.mem_map.mp ht) fun x hx q7=>?_;subst q7
  refine ⟨?_,fun O h=>nomatch h⟩
  show (if (lX tabs).contains x.2.2 then none else _)=none
  have hc:(lX tabs).contains x.2.2=true:=List.contains_iff_mem.mpr (List.mem_map.mpr (aG x hx rfl))
  rw[if_pos hc]
 ·show ((tabs.map fun x=>(⟨x.2.1,x.2.2,qsOf x.1⟩:Tab)).map Tab.P).Nodup
  rw[jW]
  exact D.top.nd
theorem wC (D:TopDone w s₀ s₁ mg0 mb c Pl mg l tabs)(hk:∀ b o,s₁.heap.get? b=some o→s₂.heap.get? b=some o):Base (yp w s₂.os tabs) mg mb (kR tabs s₂.heap):=by
 have T:=D.top
 have up:∀ {b:Addr}{m:Str→Option Value},b≠mainGlobals→s₀.heap.Ns b m→s₁.heap.Ns b m:=fun hb q8=>dm q8 fun o es ep e r=>(dQ o es ep (T.keep _ _ hb e) r)
 have hm:=wV D hk T.main.g
 refine ⟨hm,wV D hk (up (by decide) D.b0),D.blt,(aG _ (wV D hk (up (by decide) D.statics)) rfl),fun x h1 h2=>(T.low x h2).trans (D.others x h1),fun i hi h2=>?_,⟨hm,?_⟩,T.divl (gO (by decide))⟩
 ·have hd:eT i=true:=hi
  refine c9 (T.fns i (gO (wH hd)) hd) fun a c' P' fd h3 q9=>cy q9 fun h4 h5 h6 h7 h8 h9=>?_;clear q9
  rw[mS hd] at h3 h8
  rcases h6 with ⟨_,pm,rfl⟩|⟨rfl,_⟩
  ·refine (an a c' h3 ⟨⟨pm,nN D hk h5 ⟨rfl,rfl⟩ (by intro q;cases q)⟩,uF D hk h8⟩ (fun O=>(bU ⟨c',P',qsOf i⟩ (List.mem_map.mpr (aG (i,c',P') h9 rfl)) rfl rfl)))
  ·exact absurd rfl h2
 ·refine bc T.main.bmod fun bm o a1 a2 a3 q10=>di q10 fun a4 a5 a6 a7 a8=>?_;clear q10
  exact (bU bm a1 a2 (nN D hk a5 (iPPP a6 a7 a8) (by rw[a8];intro q;cases q)))
theorem vZ (D:TopDone w s₀ s₁ mg0 mb c Pl mg l tabs)(hk:∀ b o,s₁.heap.get? b=some o→s₂.heap.get? b=some o):SubAt mg (kR tabs s₂.heap):=by
 have T:=D.top
 have hd:eT 2=true:=by decide +kernel
 refine c9 (T.fns 2 (gO (by decide)) hd) fun a c' P' fd h3 q11=>cy q11 fun h4 h5 h6 h7 h8 h9=>?_;clear q11
 rw[mS hd] at h3 h8
 rcases h6 with ⟨h2,_⟩|⟨_,pm,T',o,u,rfl,e2,e3,e4,e5⟩
 ·exact absurd rfl h2
 ·exact ⟨a,c',pm,T',u,h3,nN D hk h5 ⟨rfl,rfl⟩ (by intro q;cases q),uF D hk h8,nN D hk e3 ⟨e4,e5⟩ (by rw[e5];intro q;cases q)⟩
theorem wT (D:TopDone w s₀ s₁ mg0 mb c Pl mg l tabs)(hk:∀ b o,s₁.heap.get? b=some o→s₂.heap.get? b=some o):Prep (yp w s₂.os tabs) mg (kR tabs s₂.heap):=by
 have T:=D.top
 constructor
 ·refine mB (T.b1 (gO (by decide))) fun a e O o es q12=>bc q12 fun ep t ho hx hd r=>?_;clear q12
  refine (aG a e (nN D hk ho (fun h b e=>(c4 o es ep t e (iPPP hx hd r))) (by rw[hd];intro q;cases q)))
 ·refine bc (T.b3 (gO (by decide))) fun a kvs e hPa he q13=>bC q13 fun o es ep ho hc q14=>dI q14 fun hd r=>?_;clear q13 q14
  have hlow:sysModules<a:=jw (jw (show sysModules<mainGlobals by decide) T.main.low.2) hPa
  refine (cb a (valueAt kvs) e (beq_eq_false_iff_ne.mpr (df hlow)) (nN D hk ho (iPPP (fun h b e=>?_) hc.1 hc.2.1) (by rw[hd];intro q;cases q)) (fun k=>?_))
  ·exact Heap.DictOf.mapOf (bf o es ep e hc (jb hd r))
  ·exact oW he
end
end
noncomputable abbrev Cw:OpenLaw:=PySem.Challenge.rw_wc0031_01
noncomputable abbrev qT:RowW:=Cw.row.toRowW
theorem mQ:∀ {xs:List WData},WShape.hasItems [] xs .int=true→∃ ns:List Int,xs=ns.map .int
 | [],_=>⟨[],rfl⟩
 | x::r,h=>by
  simp only[WShape.hasItems,iO] at h
  refine bK (hasW_int h.1) fun i q1=>?_;subst q1
  refine bK (mQ h.2) fun ns q2=>?_;subst q2
  exact ⟨i::ns,rfl⟩
theorem w6 {args:List WData}(h:qT.claim.pre args=true):∃ ns:List Int,args=[.list (ns.map .int)]∧ns.length≤63:=by
 refine dI (pre_splitW h) fun h1 h2=>?_
 refine aK (hasAllW_cons (R:=[]) (e:=.list .int) (es:=[]) h1) fun d r q3 h3 h4=>?_;subst q3
 obtain rfl:=hasAllW_nil h4
 refine aL (hasW_list h3) fun xs q4 h5=>?_;subst q4
 refine bK (mQ h5) fun ns q5=>?_;subst q5
 refine (aG ns rfl ?_)
 have h2:WTm.holds [] (.and (.not (.lt (.lit (.int 63)) (.len (.arg 0)))) (.lit (.bool true))) { args:=[.list (ns.map .int)] }=true:=h2
 by_cases q:ns.length≤63
 ·exact q
 ·exfalso
  have:WTm.value [] (.lt (.lit (.int 63)) (.len (.arg 0))) { args:=[.list (ns.map .int)] }=some (.bool true):=by
   simp[WTm.value,less?,Num.less?]
   exact aQ [_] [] (.T (.l 63) bA) (.nle ah (.l 63)) ae q
  simp[WTm.holds,WTm.value] at h2
  simp[WTm.value] at this
  simp[this] at h2
theorem rJ {R:WRecords}{cl:Str→Option Addr}{P:Params}{ord:List DictEntry→List DictEntry}:∀ (ns:List Int) (s:Shared) (r:List Value×Shared),layAllW R cl P ord (ns.map .int) s=some r→s.toks≤r.2.toks
 | [],s,r,h=>by
  simp only[oH,layAllW,Option.some.injEq] at h
  subst h
  exact dX _
 | n::ns,s,r,h=>by
  simp only[dC,layAllW,layW] at h
  cases q:layAllW R cl P ord (ns.map .int) { s with toks:=s.toks+1 } with
  | none=>rw[q] at h;cases h
  | some r' =>
   rw[q] at h
   simp only[Option.some.injEq] at h
   subst h
   exact bw (fB _) (rJ ns _ r' q)
theorem xu {R:WRecords}{cl:Str→Option Addr}{P:Params}{ord:List DictEntry→List DictEntry}{ns:List Int}{s:Shared}{r:List Value×Shared}(h:layAllW R cl P ord [.list (ns.map .int)] s=some r):s.toks≤r.2.toks:=by
 simp only[layAllW,layW] at h
 cases q:layAllW R cl P ord (ns.map .int) s with
 | none=>rw[q] at h;cases h
 | some r' =>
  rw[q] at h
  simp only[Option.some.injEq] at h
  subst h
  exact rJ ns s r' q
theorem oR {P:Params}{h:Heap}:∀ {ns:List Int}{vs:List Value},WellAll P h vs (ns.map .int)→IntsAre vs ns
 | [],_,x=>by cases x;exact .nil
 | n::ns,_,x=>by
  refine aK (wellAll_cons_inv x) fun v vs' q6 h1 h2=>?_;subst q6
  cases h1
  exact .cons _ _ (oR h2)
theorem wh {P:Params}{h:Heap}{ns:List Int}{vs:List Value}(x:WellAll P h vs [.list (ns.map .int)]):∃ SL items,vs=[.ref SL]∧h.get? SL=some { cls:=.type "list",data:=.seq items }∧IntsAre items.toList ns:=by
 refine aK (wellAll_cons_inv x) fun v vs' q7 h1 h2=>?_;subst q7
 cases h2
 cases h1 with
 | list h3 h4=>exact (an _ _ rfl h3 (by simpa using oR h4))
section
section
variable {w:World}{s₀ s₁ s₂:Shared}{mg0 mb mg:Str→Option Value}{c Pl:Addr}{l:List (Pos×Addr)}{tabs:List (Nat×Addr×Addr)}
theorem yf (D:TopDone w s₀ s₁ mg0 mb c Pl mg l tabs)(hk:∀ b o,s₁.heap.get? b=some o→s₂.heap.get? b=some o){g':G}{s':Shared}(hg:G.le (kR tabs s₂.heap) g')(S:St (yp w s₂.os tabs) g' [] s'):OldK s₂.heap s'.heap:=by
 have key:∀ b o,s₂.heap.get? b=some o→asItWas s₂.heap s'.heap b o∧∃ o',s'.heap.get? b=some o':=by
  intro b o e
  by_cases q:b∈lX tabs
  ·refine aL (List.mem_map.mp q) fun x hx q1=>?_;subst q1
   refine cA (D.top.tab x hx) fun O O O h4=>?_
   have h5:=h4.keeps hk
   have h6:s₂.heap.get? x.2.2=_:=h5.2
   rw[e] at h6
   cases h6
   refine bT (S.tab ⟨x.2.1,x.2.2,qsOf x.1⟩ (List.mem_map.mpr (aG x hx rfl))) fun ps O ht O=>?_
   have h7:=ht.2
   refine (lx (.inr (.inl (yB h5.isCodeTable rfl (#[]) ps rfl ?_))) _ h7)
   rw[Array.empty_append]
   exact h7
  ·have h1:(kR tabs s₂.heap).f b=some o:=by
    show (if (lX tabs).contains b then none else s₂.heap.get? b)=some o
    rw[if_neg (fun h=>q (List.contains_iff_mem.mp h))]
    exact e
   have h2:=S.sub _ _ (hg.1 _ _ h1)
   exact (lx (.inl h2) o h2)
 exact ⟨fun b o e=>(key b o e).1,fun b o e=>(key b o e).2⟩
theorem wJ:qT.name=ax (st 33):=by rfl
theorem xX:prog.theDef (ax (st 33))=some (dD (st 33),aw (st 33),bB (st 33)):=by kernel_rfl
theorem yw (D:TopDone w s₀ s₁ mg0 mb c Pl mg l tabs):isTheDefsW prog s₁.heap (ax (st 33)):=by
 have hd:eT 33=true:=by decide +kernel
 refine c9 (D.top.fns 33 (gO (by decide)) hd) fun a c' P' fd h3 q2=>cy q2 fun h4 h5 h6 h7 h8 h9=>?_;clear q2
 rw[mS hd] at h3
 rcases h6 with ⟨_,pm,rfl⟩|⟨h2,_⟩
 ·exact (ba a _ _ _ _ (dy _ ((Claim2Try.globalOf_of_ns D.top.main.g _).trans h3) h5 rfl xX (cx rfl rfl rfl rfl rfl (yI rfl rfl rfl (.inl ⟨by rfl,rfl⟩) ([]) (jb (by rfl) (.inl ⟨rfl,rfl⟩))))))
 ·exact absurd h2 (by decide)
theorem vG:Rm callerA 170:=⟨rfl,by decide,by decide⟩
theorem wu (D:TopDone w s₀ s₁ mg0 mb c Pl mg l tabs){cl:Str→Option Addr}{ord:List DictEntry→List DictEntry}{args:List WData}{vs:List Value}{as:List Addr}(hpre:qT.claim.pre args=true)(hlaid:layAllW qT.records cl w.params ord args s₁=some (vs,s₂))(hk:∀ b o,s₁.heap.get? b=some o→s₂.heap.get? b=some o)(hg:s₂.gens=#[])(hwell:WellAll w.params s₂.heap vs args)(mean:ExcName→Option Value) :
  ∃ f,mg (ax (st 33))=some f∧wpAny (model prog w) callerA (call f vs) (fun v s'=>GoodWG qT.claim cl mean args s₂ (.ok (.ret v)) s') (fun e s'=>GoodWG qT.claim cl mean args s₂ (.error e) s') s₂:=by
 refine aL (w6 hpre) fun ns q3 hns=>?_;subst q3
 have htk:1≤s₂.toks:=bw D.tk (xu hlaid)
 refine aK (wh hwell) fun SL items q4 hSL hi=>?_;subst q4
 have S:=zh D hk hg htk
 have B:=wC D hk
 refine bK (B.get 33 (by decide +kernel)) fun a e=>?_
 have FSL:Fz (kR tabs s₂.heap) SL (ai items):=(yX _ (x3 D hk hSL (by intro q;cases q)) _ rfl)
 have hlen:items.size≤63:=by
  have:=hi.length
  rw[fA] at this
  exact bw (cG this) hns
 refine (aG (.ref a) e (wpAny_mono (AD (fun n0 n1 n2 n3 O O O O=>vn n0 n1 n2 n3) B (vZ D hk) (wT D hk) e FSL hi hlen vG s₂ S) ?_ fun O O x=>x.elim))
 refine fun v s' q5=>bc q5 fun g' M' lg S' q6 q7=>?_;clear q5;subst q6;subst q7
 refine (cr (.inl (bf _ (.bool true) ([]) rfl (fun O=>rfl) (iPPP (.bool true) ?_ (fun O=>⟨oY,fun O h=>nomatch h⟩)))) (yf D hk lg S') S'.os (AllBare.of_eq S'.gens))
 show (WShape.has [] (.bool true) .bool&&WTm.holds [] (.eq .res (.lit (.bool true))) { args:=_,res:=some (.bool true),after:=_ })=true
 simp[WShape.has,WShape.arms,WTm.holds,WTm.value,W.same]
theorem law_open:qT.claim.HoldsOpenBy (callStub qT.name) [qT.name] Cw.row.keeps false:=by
 refine (iPPP (iPPP (cx rfl rfl rfl rfl rfl (by decide +kernel)) (by decide +kernel) rfl) (aG ([.list [.int 3,.int 1]]) (by decide +kernel) (by decide +kernel)) (fun w=>⟨(jH w).1,fun s hs=>?_⟩))
 have hP:=(jH w).2 s hs
 refine mB (yv w hP (AfterImport.life hs)) fun s₁ hT hz mg0 mb q8=>aT q8 fun c Pl mg l tabs D=>?_;clear q8
 refine (yy s (zI s) hP.choose_spec.choose_spec.choose_spec.choose_spec.2 s₁ hT (cr (fun n hn=>?_) (fun x hx=>nomatch hx) (fun x hx=>nomatch hx) ?_))
 ·obtain rfl:=List.mem_singleton.mp hn
  exact yw D
 ·refine ClaimW.callFrom_of_specG (c:=qT.claim) hz D.gens fun args hpre hlay ord hord=>?_
  refine bK (Option.isSome_iff_exists.mp (layAllW_isSome (R:=qT.records) (cl:=classAt s₁.heap) (P:=w.params) (ord:=ord) (fun c hc=>nomatch hc) args qT.args s₁ (pre_splitW hpre).1)) fun q9 hlaid=>?_;rcases q9 with ⟨vs,s₂⟩
  have keeps:=layAllW_keeps _ _ _ hlaid
  have hal:=layAllW_rest _ _ _ hlaid
  refine bT (reads_layAllW hord _ _ _ hlaid hlay s₂.heap (fun O O e=>e)) fun as hrd hin hold=>?_
  have L:Laid qT.records w s₁ s₂ args vs as:=⟨(aG ord hord hlaid),hrd,hin,hold,keeps,hal.1.trans D.gens,hal.2.2.1⟩
  refine aL (wu D hpre hlaid keeps L.gens L.well (ExcName.means s₁.heap) (as:=as)) fun f hf h=>?_
  refine (bV vs s₂ hlaid ?_)
  have hi:=ident_freeW (r:=qT) rfl rfl rfl
  show wpAny (model prog w) callerA (do match ← nsGet mainNs qT.name with
   | some f=>do ret (← PySem.call f vs)
   | none=>unsupported "claim.caller:no-such-global") _ _ s₂
  refine wpAny_bind (wpAny_nsGet (D.top.main.g.keeps keeps) ?_)
  rw[wJ,hf]
  refine wpAny_bind (wpAny_mono h (fun v s' g=>?_) fun e s' g=>?_)
  ·have z:=g.laid (c:=qT.claim) rfl rfl hi L
   exact wpAny_pure (dy _ rfl z.1 z.2.1 z.2.2 (fun q=>by cases q))
  ·have z:=g.laid (c:=qT.claim) rfl rfl hi L
   exact (cr z.1 z.2.1 z.2.2 (fun q=>by cases q))
end
theorem tA:readsOut PySem.Challenge.rw_wc0031_01.row.prog PySem.Challenge.rw_wc0031_01.row.prog.main.body "vars"=false:=by decide +kernel
theorem vE:readsOut PySem.Challenge.rw_wc0031_01.row.prog PySem.Challenge.rw_wc0031_01.row.prog.main.body "dir"=false:=by decide +kernel
theorem qr:readsOut PySem.Challenge.rw_wc0031_01.row.prog PySem.Challenge.rw_wc0031_01.row.prog.main.body "locals"=false:=by decide +kernel
theorem wN:List.filter (readsOut PySem.Challenge.rw_wc0031_01.row.prog PySem.Challenge.rw_wc0031_01.row.prog.main.body) ["vars","dir","locals"]=[]:=by
 rw[oS,tA,oS,vE,oS,qr]
 rfl
theorem said_ok:PySem.Challenge.rw_wc0031_01.wellSaid=true:=by
 unfold OpenLaw.wellSaid OpenRow.wellSaid OpenRow.partSaid looksOpen
 repeat' (with_reducible apply look_both)
 all_goals first|(rw[wN];decide +kernel)|decide +kernel
end
end
end Mine
theorem PySem.Challenge.cw_wc0031_01_holds : PySem.Challenge.rw_wc0031_01.Holds := by
  refine PySem.W.holds_law Mine.said_ok fun said => ?_
  exact ⟨said, ⟨[.list [.int 3, .int 1]], by decide +kernel, by decide +kernel⟩, Mine.law_open⟩
