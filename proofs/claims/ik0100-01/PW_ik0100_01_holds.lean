import PyProof.Rows.All
import OpenK.AllK
import Wide.All
import Wide.FinOn
import PyProof.IsiH_dict
import PyProof.IsiH_set
import PyProof.ObjNew
import Open.Line
import Lean
import PySem.Challenge.RW_ik0100_01
set_option Elab.async false
set_option maxRecDepth 100000
set_option maxHeartbeats 0
set_option linter.unusedVariables false
set_option linter.unusedSimpArgs false
set_option linter.unnecessarySimpa false
namespace Mine.Internal
def aT(a:Array Lean.Syntax):Lean.Syntax:=.node .none `Lean.Parser.Tactic.tacticSeq #[.node .none `Lean.Parser.Tactic.tacticSeq1Indented #[.node .none `null a]]
def aR:Lean.Syntax:=.node .none `Lean.Parser.Tactic.tacticRfl #[.atom .none "rfl"]
def aI(n:Nat):Lean.Syntax:=.node .none `Lean.Parser.Tactic.intro #[.atom .none "intro",.node .none `null (Array.replicate n (.node .none `Lean.Parser.Term.hole #[.atom .none "_"]))]
def au0:Lean.Syntax:=aT #[aR]
def au1:Lean.Syntax:=aT #[aI 1,.atom .none ";",aR]
def au2:Lean.Syntax:=aT #[aI 2,.atom .none ";",aR]
def auC(a:Array Lean.Syntax):Lean.Syntax:=aT #[.node .none `Lean.Parser.Tactic.decide #[.atom .none "decide",.node .none `Lean.Parser.Tactic.optConfig #[.node .none `null a]]]
def auD:Lean.Syntax:=auC #[]
def auK:Lean.Syntax:=auC #[.node .none `Lean.Parser.Tactic.configItem #[.node .none `Lean.Parser.Tactic.posConfigItem #[.atom .none "+",.ident .none "kernel".toRawSubstring `kernel []]]]
def auZ:Lean.Syntax:=aT #[.node .none `tacticSize_fits #[.atom .none "size_fits"]]
def auU:Lean.Syntax:=aT #[.node .none `Lean.Parser.Tactic.withUnfoldingAll #[.atom .none "with_unfolding_all",aT #[aR]]]
inductive La where
 | v (i:Nat)
 | n (k:Nat)
 | a (x y:La)
 | m (k:Nat) (x:La)
noncomputable def La.x0:La:=.v 0
noncomputable def La.x1:La:=.v 1
noncomputable def La.x2:La:=.v 2
noncomputable def La.x3:La:=.v 3
noncomputable def La.x4:La:=.v 4
noncomputable def La.x5:La:=.v 5
noncomputable def La.x6:La:=.v 6
noncomputable def La.s(x:La):La:=.a x (.n 1)
noncomputable def rnth:List Nat->Nat->Nat
 | [],_=>0
 | x::_,0=>x
 | _::r,i+1=>rnth r i
noncomputable def La.e(r:List Nat):La->Nat
 | .v i=>rnth r i
 | .n k=>k
 | .a x y=>x.e r+y.e r
 | .m k x=>k*x.e r
noncomputable def rad:List Nat->List Nat->List Nat
 | [],q=>q
 | x::p,[]=>x::p
 | x::p,y::q=>(x+y)::rad p q
noncomputable def rsc(k:Nat):List Nat->List Nat
 | []=>[]
 | x::p=>k*x::rsc k p
noncomputable def run:Nat->List Nat
 | 0=>[1]
 | i+1=>0::run i
noncomputable def La.c:La->List Nat
 | .v i=>0::run i
 | .n k=>[k]
 | .a x y=>rad x.c y.c
 | .m k x=>rsc k x.c
noncomputable def rdt:List Nat->List Nat->Nat
 | [],_=>0
 | _::_,[]=>0
 | x::p,y::q=>x*y+rdt p q
theorem rdt_nil(p:List Nat):rdt p []=0:=by cases p<;>rfl
theorem rdt_ad:∀(p q r:List Nat),rdt (rad p q) r=rdt p r+rdt q r
 | [],q,r=>(Nat.zero_add _).symm
 | x::p,[],r=>rfl
 | x::p,y::q,[]=>rfl
 | x::p,y::q,z::r=>by
  show (x+y)*z+rdt (rad p q) r=(x*z+rdt p r)+(y*z+rdt q r)
  rw [rdt_ad p q r,Nat.add_mul];ac_rfl
theorem rdt_sc(k:Nat):∀(p r:List Nat),rdt (rsc k p) r=k*rdt p r
 | [],r=>rfl
 | x::p,[]=>rfl
 | x::p,z::r=>by
  show k*x*z+rdt (rsc k p) r=k*(x*z+rdt p r)
  rw [rdt_sc k p r,Nat.mul_add,Nat.mul_assoc]
theorem rdt_un:∀(i:Nat) (r:List Nat),rdt (run i) r=rnth r i
 | i,[]=>by rw [rdt_nil];rfl
 | 0,x::r=>by show 1*x+0=x;rw [Nat.one_mul];rfl
 | i+1,x::r=>by show 0*x+rdt (run i) r=rnth r i;rw [rdt_un i r,Nat.zero_mul,Nat.zero_add]
theorem La.e_c(r:List Nat):∀t:La,t.e r=rdt t.c (1::r)
 | .v i=>by show rnth r i=0*1+rdt (run i) r;rw [rdt_un,Nat.zero_mul,Nat.zero_add]
 | .n k=>by show k=k*1+0;rw [Nat.mul_one];rfl
 | .a x y=>by show x.e r+y.e r=rdt (rad x.c y.c) _;rw [rdt_ad,x.e_c,y.e_c]
 | .m k x=>by show k*x.e r=rdt (rsc k x.c) _;rw [rdt_sc,x.e_c]
noncomputable def rlel:List Nat->List Nat->Bool
 | [],_=>true
 | x::p,[]=>Nat.ble x 0&&rlel p []
 | x::p,y::q=>Nat.ble x y&&rlel p q
theorem rlel_dt:∀(p q r:List Nat),rlel p q=true->rdt p r<=rdt q r
 | [],q,r,_=>Nat.zero_le _
 | x::p,[],[],_=>Nat.le_refl _
 | x::p,[],z::r,h=>by
  have h:(Nat.ble x 0&&rlel p [])=true:=h
  rw [Bool.and_eq_true] at h
  have:=rlel_dt p [] r h.2
  have this:rdt p r<=0:=this
  show x*z+rdt p r<=0
  rw [Nat.le_zero.mp (Nat.le_of_ble_eq_true h.1),Nat.zero_mul,Nat.zero_add];exact this
 | x::p,y::q,[],h=>Nat.le_refl _
 | x::p,y::q,z::r,h=>by
  have h:(Nat.ble x y&&rlel p q)=true:=h
  rw [Bool.and_eq_true] at h
  exact Nat.add_le_add (Nat.mul_le_mul_right z (Nat.le_of_ble_eq_true h.1)) (rlel_dt p q r h.2)
noncomputable abbrev rHs:=List (Nat×La×La)
noncomputable def rHs.l:rHs->List Nat
 | []=>[]
 | (k,x,_)::cs=>rad (rsc k x.c) (rHs.l cs)
noncomputable def rHs.r:rHs->List Nat
 | []=>[]
 | (k,_,y)::cs=>rad (rsc k y.c) (rHs.r cs)
noncomputable def rHs.to(r:List Nat)(G:Prop):rHs->Prop
 | []=>G
 | (_,x,y)::cs=>x.e r<=y.e r->rHs.to r G cs
theorem rHs.go(r:List Nat)(G:Prop):∀(cs:rHs),(rdt (rHs.l cs) (1::r)<=rdt (rHs.r cs) (1::r)->G)->rHs.to r G cs
 | [],h=>h (Nat.le_refl _)
 | (k,x,y)::cs,h=>fun hxy=>rHs.go r G cs fun q=>h (by
  show rdt (rad (rsc k x.c) (rHs.l cs)) _<=rdt (rad (rsc k y.c) (rHs.r cs)) _
  rw [rdt_ad,rdt_ad,rdt_sc,rdt_sc,←La.e_c,←La.e_c]
  exact Nat.add_le_add (Nat.mul_le_mul_left k hxy) q)
noncomputable def rlok(d:Nat)(x y:La)(cs:rHs):Bool:=Nat.ble 1 d&&rlel (rad (rsc d x.c) (rHs.r cs)) (rad (rad (rsc d y.c) (rHs.l cs)) [d-1])
theorem lin(r:List Nat)(d:Nat)(x y:La)(cs:rHs)(h:rlok d x y cs=true):rHs.to r (x.e r<=y.e r) cs:=rHs.go r _ cs fun q=>by
 rw [rlok,Bool.and_eq_true] at h
 have hd:=Nat.le_of_ble_eq_true h.1
 have h2:=rlel_dt _ _ (1::r) h.2
 rw [rdt_ad,rdt_ad,rdt_ad,rdt_sc,rdt_sc,←La.e_c,←La.e_c] at h2
 have e:rdt [d-1] (1::r)=d-1:=by show (d-1)*1+0=d-1;rw [Nat.mul_one];rfl
 rw [e] at h2
 have h3:d*x.e r<d*(y.e r+1):=by rw [Nat.mul_add,Nat.mul_one];omega
 exact Nat.le_of_lt_succ (Nat.lt_of_mul_lt_mul_left h3)
theorem sb2(a b:Nat):a<=a-b+b:=Nat.sub_le_iff_le_add.mp (Nat.le_refl _)
theorem sb3{a b:Nat}(h:b<=a):a-b+b<=a:=Nat.le_of_eq (Nat.sub_add_cancel h)
theorem sb5{a b:Nat}(h:a<=b):a-b<=0:=Nat.le_of_eq (Nat.sub_eq_zero_of_le h)
theorem sb4(a b:Nat){G:Prop}(k:b<=a->a-b+b<=a->G)(k':a<=b->a-b<=0->G):G:=Or.elim (Nat.le_total b a) (fun h=>k h (sb3 h)) fun h=>k' h (sb5 h)
theorem dv2(a:Nat){k:Nat}(h:0<k):a+1<=k*(a/k)+k:=Nat.lt_mul_div_succ a h
end Mine.Internal
namespace Mine.Internal
theorem zz0{a:Nat}:¬(((a:Nat):Int)<(0:Int)):=by lia
theorem zz1{a:Nat}(h0:a<=16777216):((a:Nat):Int)<(9223372036854775808:Int):=by lia
theorem zz2{a b:Nat}(h0:a+65<b):a+64<b:=lin [a,b] 1 (.s (.a .x0 (.n 64))) .x1 [(1,.s (.a .x0 (.n 65)),.x1)] rfl h0
theorem zz3{a:Nat}(h0:0<a):((a:Nat):Int)≠(0:Int):=by lia
theorem zz4{a:Nat}:(0:Int)<=((a:Nat):Int):=by lia
theorem zz5{a:Nat}(h0:a<=1000):((a:Nat):Int)<=(1000000:Int):=by lia
theorem zz6{a b:Nat}(h0:a<b):b+1-(a+1)<b+1-a:=lin [((b+1)-(a+1)),((b+1)-a),b,a] 1 (.s .x0) .x1 [(1,.s .x2,.a .x1 .x3),(1,.a .x0 (.s .x3),.s .x2)] rfl (sb2 (b+1) a) (sb3 (lin [a,b] 1 (.s .x0) (.s .x1) [(1,.s .x0,.x1)] rfl h0))
theorem zz7{a b:Nat}(h0:a<=b)(h1:¬(a<b)):a=b:=Nat.le_antisymm (h0) (Nat.le_of_not_lt h1)
theorem zz8{a b:Nat}(h0:a+8*b<900):a<1000:=lin [a,b] 1 (.s .x0) (.n 1000) [(1,.s (.a .x0 (.m 8 .x1)),.n 900)] rfl h0
theorem zz9{a b:Nat}(h0:a+24*b<9800):a+65<9900:=lin [a,b] 1 (.s (.a .x0 (.n 65))) (.n 9900) [(1,.s (.a .x0 (.m 24 .x1)),.n 9800)] rfl h0
theorem zz10{a b:Nat}(h0:a+8*(b+1)<900):a+1+8*b<900:=lin [a,b] 1 (.s (.a (.s .x0) (.m 8 .x1))) (.n 900) [(1,.s (.a .x0 (.m 8 (.s .x1))),.n 900)] rfl h0
theorem zz11{a b:Nat}(h0:a+24*(b+1)<9800):a+3+24*b<9800:=lin [a,b] 1 (.s (.a (.a .x0 (.n 3)) (.m 24 .x1))) (.n 9800) [(1,.s (.a .x0 (.m 24 (.s .x1))),.n 9800)] rfl h0
theorem zz12{a b:Nat}(h0:a+8*(b+1)<900):a+8*b<900:=lin [a,b] 1 (.s (.a .x0 (.m 8 .x1))) (.n 900) [(1,.s (.a .x0 (.m 8 (.s .x1))),.n 900)] rfl h0
theorem zz13{a b:Nat}(h0:a+24*(b+1)<9800):a+1+24*b<9800:=lin [a,b] 1 (.s (.a (.s .x0) (.m 24 .x1))) (.n 9800) [(1,.s (.a .x0 (.m 24 (.s .x1))),.n 9800)] rfl h0
theorem zz14{a b c:Nat}(h0:a<=b)(h1:c+8*b<900):c+8*a<900:=by lia
theorem zz15{a b c:Nat}(h0:a<=b)(h1:c+24*b<9800):c+24*a<9800:=by lia
theorem zz16{a:Nat}(h0:a<=100000):a<=16777216:=lin [a] 1 .x0 (.n 16777216) [(1,.x0,.n 100000)] rfl h0
theorem zz17{a b:Nat}(h0:a<=100000)(h1:b<=a+1):b+1<=16777216:=lin [b,a] 1 (.s .x0) (.n 16777216) [(1,.x1,.n 100000),(1,.x0,.s .x1)] rfl h0 h1
theorem zz18{a b:Nat}(h0:a<=b)(h1:b<=a):b=a:=Nat.le_antisymm (h1) (h0)
theorem zz19{a b c d e:Nat}(h0:a+b<=c/\d+b<=e/\(a+b<c\/d+b<e))(h1:0<b):¬(c=a):=Nat.ne_of_gt (lin [a,c,b] 1 (.s .x0) .x1 [(1,.a .x0 .x2,.x1),(1,.s (.n 0),.x2)] rfl h0.1 h1)
theorem zz20{a b c d e:Nat}(h0:a+b<=c/\d+b<=e/\(a+b<c\/d+b<e)):a<=c:=lin [a,c,b] 1 .x0 .x1 [(1,.a .x0 .x2,.x1)] rfl h0.1
theorem zz21{a b c d:Nat}(h0:a<=b)(h1:c<=d)(h2:d<a):c<=b:=lin [c,b,a,d] 1 .x0 .x1 [(1,.x2,.x1),(1,.x0,.x3),(1,.s .x3,.x2)] rfl h0 h1 h2
theorem zz22{a b c d:Nat}(h0:a<=60)(h1:b+65<c)(h2:d<=a):b+1+d<c:=lin [b,d,c,a] 1 (.s (.a (.s .x0) .x1)) .x2 [(1,.x3,.n 60),(1,.s (.a .x0 (.n 65)),.x2),(1,.x1,.x3)] rfl h0 h1 h2
theorem zz23{a b c:Nat}(h0:a=b)(h1:c<b):c<a:=lin [c,a,b] 1 (.s .x0) .x1 [(1,.x2,.x1),(1,.s .x0,.x2)] rfl (Nat.le_of_eq h0.symm) h1
theorem zz24{a:Nat}(h0:a<=1000):a<=16777216:=lin [a] 1 .x0 (.n 16777216) [(1,.x0,.n 1000)] rfl h0
theorem zz25{a:Nat}(h0:a<=1000):¬(a>16777216):=Nat.not_lt_of_ge (lin [a] 1 .x0 (.n 16777216) [(1,.x0,.n 1000)] rfl h0)
theorem zz26{a b c:Nat}(h0:a<=8)(h1:b+8*(c+1)<900):b+a+8*c<900:=lin [b,a,c] 1 (.s (.a (.a .x0 .x1) (.m 8 .x2))) (.n 900) [(1,.x1,.n 8),(1,.s (.a .x0 (.m 8 (.s .x2))),.n 900)] rfl h0 h1
theorem zz27{a b c:Nat}(h0:a<=24)(h1:b+24*(c+1)<9800):b+a+24*c<9800:=lin [b,a,c] 1 (.s (.a (.a .x0 .x1) (.m 24 .x2))) (.n 9800) [(1,.x1,.n 24),(1,.s (.a .x0 (.m 24 (.s .x2))),.n 9800)] rfl h0 h1
theorem zz28{a:Nat}(h0:a=1):a<=8:=lin [a] 1 .x0 (.n 8) [(1,.x0,.n 1)] rfl (Nat.le_of_eq h0)
theorem zz29{a:Nat}(h0:a=1):a<=24:=lin [a] 1 .x0 (.n 24) [(1,.x0,.n 1)] rfl (Nat.le_of_eq h0)
theorem zz30{a:Nat}:a+1<=a+2:=lin [a] 1 (.s .x0) (.a .x0 (.n 2)) [] rfl
theorem zz31{a:Nat}(h0:a<=1000):((a:Nat):Int)<(9223372036854775808:Int):=by lia
theorem zz32{a:Nat}(h0:a=3):a<=1000:=lin [a] 1 .x0 (.n 1000) [(1,.x0,.n 3)] rfl (Nat.le_of_eq h0)
theorem zz33{a b c:Nat}(h0:a+b=c)(h1:a<c):b=b-1+1:=Nat.le_antisymm (sb2 b 1) (sb3 (lin [b,c,a] 1 (.n 1) .x0 [(1,.x1,.a .x2 .x0),(1,.s .x2,.x1)] rfl (Nat.le_of_eq h0.symm) h1))
theorem zz34{a b c:Nat}(h0:a+(b+1)=c):a+1+b=c:=Nat.le_antisymm (lin [a,b,c] 1 (.a (.s .x0) .x1) .x2 [(1,.a .x0 (.s .x1),.x2)] rfl (Nat.le_of_eq h0)) (lin [c,a,b] 1 .x0 (.a (.s .x1) .x2) [(1,.x0,.a .x1 (.s .x2))] rfl (Nat.le_of_eq h0.symm))
theorem zz35{a b c:Nat}(h0:a+b=c)(h1:c<=a):b=0:=Nat.le_antisymm (lin [b,a,c] 1 .x0 (.n 0) [(1,.a .x1 .x0,.x2),(1,.x2,.x1)] rfl (Nat.le_of_eq h0) h1) (lin [b] 1 (.n 0) .x0 [] rfl)
theorem zz36{a:Nat}:0+a=a:=Nat.le_antisymm (lin [a] 1 (.a (.n 0) .x0) .x0 [] rfl) (lin [a] 1 .x0 (.a (.n 0) .x0) [] rfl)
theorem zz37{a b:Nat}(h0:¬(a=b)):¬(((a:Nat):Int)=((b:Nat):Int)):=by lia
theorem zz38{a b:Nat}(h0:a+30<b):a<b:=lin [a,b] 1 (.s .x0) .x1 [(1,.s (.a .x0 (.n 30)),.x1)] rfl h0
theorem zz39{a:Nat}(h0:a<3):a=0\/a=1\/a=2:=by lia
theorem zz40{a b c:Nat}(h0:a=b)(h1:c<a):c<b:=lin [c,b,a] 1 (.s .x0) .x1 [(1,.x2,.x1),(1,.s .x0,.x2)] rfl (Nat.le_of_eq h0) h1
theorem zz41{a b:Nat}(h0:a<64)(h1:b=a):b<64:=lin [b,a] 1 (.s .x0) (.n 64) [(1,.s .x1,.n 64),(1,.x0,.x1)] rfl h0 (Nat.le_of_eq h1)
theorem zz42{a b:Nat}(h0:a+65<b):a+1+30<b:=lin [a,b] 1 (.s (.a (.s .x0) (.n 30))) .x1 [(1,.s (.a .x0 (.n 65)),.x1)] rfl h0
theorem zz43{a:Nat}:a<=a+1:=lin [a] 1 .x0 (.s .x0) [] rfl
theorem zz44{a:Nat}:a<=a+1+1:=lin [a] 1 .x0 (.s (.s .x0)) [] rfl
theorem zz45{a:Nat}:a+1≠a+1+1:=Nat.ne_of_lt (lin [a] 1 (.s (.s .x0)) (.s (.s .x0)) [] rfl)
theorem zz46 :0<500:=lin [] 1 (.s (.n 0)) (.n 500) [] rfl
theorem zz47 :500<1073741824:=lin [] 1 (.s (.n 500)) (.n 1073741824) [] rfl
theorem zz48 :0<256:=lin [] 1 (.s (.n 0)) (.n 256) [] rfl
theorem zz49 :0<4:=lin [] 1 (.s (.n 0)) (.n 4) [] rfl
theorem zz50{a:Nat}:a%4-0<=16777216:=lin [((a%4)-0),(a%4)] 1 .x0 (.n 16777216) [(1,.x0,.x1),(1,.s .x1,.n 4)] rfl (Nat.sub_le (a%4) 0) (Nat.mod_lt a (Nat.le_of_ble_eq_true rfl))
theorem zz51 :4<1073741824:=lin [] 1 (.s (.n 4)) (.n 1073741824) [] rfl
theorem zz52{a b:Nat}(h0:a<b%4-0):a<=1000:=lin [a,((b%4)-0),(b%4)] 1 .x0 (.n 1000) [(1,.s .x0,.x1),(1,.x1,.x2),(1,.s .x2,.n 4)] rfl h0 (Nat.sub_le (b%4) 0) (Nat.mod_lt b (Nat.le_of_ble_eq_true rfl))
theorem zz53{a b:Nat}(h0:a<b%4-0):a=0\/a=1\/a=2:=by lia
theorem zz54{a:Nat}(h0:0<a/\a<=125):a<1073741824:=lin [a] 1 (.s .x0) (.n 1073741824) [(1,.x0,.n 125)] rfl h0.2
theorem zz55 :0<5:=lin [] 1 (.s (.n 0)) (.n 5) [] rfl
theorem zz56{a b c:Nat}(h0:a=5):b/4/c%5<a:=lin [(((b/4)/c)%5),a] 1 (.s .x0) .x1 [(1,.n 5,.x1),(1,.s .x0,.n 5)] rfl (Nat.le_of_eq h0.symm) (Nat.mod_lt ((b/4)/c) (Nat.le_of_ble_eq_true rfl))
theorem zz57{a:Nat}(h0:a<256):a/16<16:=by lia
theorem zz58{a:Nat}:a%16<16:=Nat.mod_lt a (Nat.le_of_ble_eq_true rfl)
theorem zz59{a b c d:Nat}(h0:a<=b*c)(h1:d<=b):d+a<=b*c+b:=by lia
theorem zz60{a b:Nat}(h0:a<=2*b)(h1:b<=2):a+b*0<=16777216:=by lia
theorem zz61{a b c:Nat}(h0:a<=b+c*0)(h1:b<=2*c)(h2:c<=2):a<=4:=by lia
theorem zz62{a b c:Nat}(h0:a<=9)(h1:b=c)(h2:c<a):b<=16777216:=lin [b,a,c] 1 .x0 (.n 16777216) [(1,.x1,.n 9),(1,.x0,.x2),(1,.s .x2,.x1)] rfl h0 (Nat.le_of_eq h1) h2
theorem zz63{a b:Nat}(h0:a=b)(h1:b<=2):a<=16777216:=lin [a,b] 1 .x0 (.n 16777216) [(1,.x0,.x1),(1,.x1,.n 2)] rfl (Nat.le_of_eq h0) h1
theorem zz64 :0<16:=lin [] 1 (.s (.n 0)) (.n 16) [] rfl
theorem zz65 :16<1073741824:=lin [] 1 (.s (.n 16)) (.n 1073741824) [] rfl
theorem zz69{a b:Nat}(h0:a<=9)(h1:b<=4*a):b+a*1<=16777216:=by lia
theorem zz70{a b c:Nat}(h0:a<=9)(h1:b<=4*a)(h2:c<=b+a*1):1+c<=16777216:=by lia
theorem zz71:(-1:Int)<(0:Int):=by lia
theorem zz72{a:Nat}:(1:Int)<=(((a:Nat):Int)+(1:Int)):=by lia
theorem zz74{a b c:Nat}(h0:a<=b)(h1:b<c)(h2:c<64):a<=16777216:=lin [a,b,c] 1 .x0 (.n 16777216) [(1,.x0,.x1),(1,.s .x1,.x2),(1,.s .x2,.n 64)] rfl h0 h1 h2
theorem zz75{a b:Nat}(h0:a<=b):a<=b:=h0
theorem zz76{a b c:Nat}:a<=a+b+c:=lin [a,b,c] 1 .x0 (.a (.a .x0 .x1) .x2) [] rfl
theorem zz77{a b c d:Nat}(h0:a<=b):a<=c+d+b:=lin [a,c,d,b] 1 .x0 (.a (.a .x1 .x2) .x3) [(1,.x0,.x3)] rfl h0
theorem zz78{a b:Nat}(h0:a<=b+1):a+1<=b+2:=lin [a,b] 1 (.s .x0) (.a .x1 (.n 2)) [(1,.x0,.s .x1)] rfl h0
theorem zz79{a b:Nat}(h0:a+3<b):a<b:=lin [a,b] 1 (.s .x0) .x1 [(1,.s (.a .x0 (.n 3)),.x1)] rfl h0
theorem zz83{a b c:Nat}(h0:a-b=c+1):a-(b+1)=c:=sb4 a b (fun k1 k2=>Nat.le_antisymm (lin [(a-(b+1)),c,(a-b),a,b] 1 .x0 .x1 [(1,.x2,.s .x1),(1,.x3,.a .x2 .x4),(1,.a .x0 (.s .x4),.x3)] rfl (Nat.le_of_eq h0) (sb2 a b) (sb3 (lin [b,a,c,(a-b)] 1 (.s .x0) .x1 [(1,.s .x2,.x3),(1,.a .x3 .x0,.x1)] rfl (Nat.le_of_eq h0.symm) k2))) (lin [c,(a-(b+1)),(a-b),a,b] 1 .x0 .x1 [(1,.s .x0,.x2),(1,.x3,.a .x1 (.s .x4)),(1,.a .x2 .x4,.x3)] rfl (Nat.le_of_eq h0.symm) (sb2 a (b+1)) k2)) (fun k1 k2=>absurd (lin [c,(a-b)] 1 (.n 1) (.n 0) [(1,.s .x0,.x1),(1,.x1,.n 0)] rfl (Nat.le_of_eq h0.symm) k2) (Nat.not_succ_le_zero 0))
theorem zz88{a b c:Nat}(h0:a<b)(h1:b-a=0):a<c:=absurd (lin [a,b,(b-a)] 1 (.n 1) (.n 0) [(1,.s .x0,.x1),(1,.x2,.n 0),(1,.x1,.a .x2 .x0)] rfl h0 (Nat.le_of_eq h1) (sb2 b a)) (Nat.not_succ_le_zero 0)
theorem zz89{a b c:Nat}(h0:a<=1000)(h1:b=c)(h2:c<=a+2):b<=16777216:=lin [b,a,c] 1 .x0 (.n 16777216) [(1,.x1,.n 1000),(1,.x0,.x2),(1,.x2,.a .x1 (.n 2))] rfl h0 (Nat.le_of_eq h1) h2
theorem zz90{a:Nat}(h0:a<=16777216):a<=16777216:=h0
theorem zz91{a b:Nat}(h0:a<=1000)(h1:b<=a):b<=16777216:=lin [b,a] 1 .x0 (.n 16777216) [(1,.x1,.n 1000),(1,.x0,.x1)] rfl h0 h1
theorem zz92{a b:Nat}(h0:a+65<b):a+1+1+3<b:=lin [a,b] 1 (.s (.a (.s (.s .x0)) (.n 3))) .x1 [(1,.s (.a .x0 (.n 65)),.x1)] rfl h0
theorem zz93{a b:Nat}(h0:a<=1000)(h1:b<=a+2):b<=100000:=lin [b,a] 1 .x0 (.n 100000) [(1,.x1,.n 1000),(1,.x0,.a .x1 (.n 2))] rfl h0 h1
theorem zz94{a b:Nat}(h0:a<=100000)(h1:b=a):b<=16777216:=lin [b,a] 1 .x0 (.n 16777216) [(1,.x1,.n 100000),(1,.x0,.x1)] rfl h0 (Nat.le_of_eq h1)
theorem zz95{a:Nat}(h0:a<=100000):1+a<=16777216:=lin [a] 1 (.a (.n 1) .x0) (.n 16777216) [(1,.x0,.n 100000)] rfl h0
theorem zz96{a:Nat}(h0:a<=0):a+1<=1:=lin [a] 1 (.s .x0) (.n 1) [(1,.x0,.n 0)] rfl h0
theorem zz97{a:Nat}(h0:a<=1):a<=64:=lin [a] 1 .x0 (.n 64) [(1,.x0,.n 1)] rfl h0
theorem zz98{a b:Nat}(h0:a<=9):a-b<=1000:=lin [(a-b),a] 1 .x0 (.n 1000) [(1,.x1,.n 9),(1,.x0,.x1)] rfl h0 (Nat.sub_le a b)
theorem zz99{a b:Nat}:a-b<=a-b-0:=lin [(a-b),((a-b)-0)] 1 .x0 .x1 [(1,.x0,.a .x1 (.n 0))] rfl (sb2 (a-b) 0)
theorem zz100{a b c:Nat}(h0:a<b-c)(h1:b-a=0):False:=Nat.not_succ_le_zero 0 (lin [a,(b-c),(b-a),b] 1 (.n 1) (.n 0) [(1,.s .x0,.x1),(1,.x2,.n 0),(1,.x1,.x3),(1,.x3,.a .x2 .x0)] rfl h0 (Nat.le_of_eq h1) (Nat.sub_le b c) (sb2 b a))
theorem zz101{a b c:Nat}(h0:a<b-c):b-(a+1)<b:=lin [(b-(a+1)),b,a] 1 (.s .x0) .x1 [(1,.a .x0 (.s .x2),.x1)] rfl (sb3 (lin [a,b,(b-c)] 1 (.s .x0) .x1 [(1,.s .x0,.x2),(1,.x2,.x1)] rfl h0 (Nat.sub_le b c)))
theorem zz102{a b c:Nat}(h0:a<b-c):b-(a+1)+1=b-a:=Nat.le_antisymm (lin [(b-(a+1)),(b-a),b,a] 1 (.s .x0) .x1 [(1,.x2,.a .x1 .x3),(1,.a .x0 (.s .x3),.x2)] rfl (sb2 b a) (sb3 (lin [a,b,(b-c)] 1 (.s .x0) .x1 [(1,.s .x0,.x2),(1,.x2,.x1)] rfl h0 (Nat.sub_le b c)))) (lin [(b-a),(b-(a+1)),b,a] 1 .x0 (.s .x1) [(1,.x2,.a .x1 (.s .x3)),(1,.a .x0 .x3,.x2)] rfl (sb2 b (a+1)) (sb3 (lin [a,b,(b-c)] 1 .x0 .x1 [(1,.s .x0,.x2),(1,.x2,.x1)] rfl h0 (Nat.sub_le b c))))
theorem zz103{a b:Nat}(h0:a<=b):b-(b-a)=a:=Nat.le_antisymm (lin [(b-(b-a)),a,b,(b-a)] 1 .x0 .x1 [(1,.x2,.a .x3 .x1),(1,.a .x0 .x3,.x2)] rfl (sb2 b a) (sb3 (Nat.sub_le b a))) (lin [a,(b-(b-a)),b,(b-a)] 1 .x0 .x1 [(1,.x2,.a .x1 .x3),(1,.a .x3 .x0,.x2)] rfl (sb2 b (b-a)) (sb3 (h0)))
theorem zz104{a b c:Nat}(h0:a<=b-c)(h1:¬(a=b)):b-(a+1)<b:=Or.elim (Nat.lt_or_gt_of_ne h1) (fun k1=>lin [(b-(a+1)),b,a] 1 (.s .x0) .x1 [(1,.a .x0 (.s .x2),.x1)] rfl (sb3 (k1))) (fun k1=>lin [(b-(a+1)),b,a,(b-c)] 1 (.s .x0) .x1 [(1,.x2,.x3),(1,.x3,.x1),(1,.x0,.x1),(1,.s .x1,.x2)] rfl h0 (Nat.sub_le b c) (Nat.sub_le b (a+1)) k1)
theorem zz105{a b c:Nat}(h0:a<=b-c)(h1:¬(a=b)):b-(a+1)+1=b-a:=Or.elim (Nat.lt_or_gt_of_ne h1) (fun k1=>Nat.le_antisymm (lin [(b-(a+1)),(b-a),b,a] 1 (.s .x0) .x1 [(1,.x2,.a .x1 .x3),(1,.a .x0 (.s .x3),.x2)] rfl (sb2 b a) (sb3 (k1))) (lin [(b-a),(b-(a+1)),b,a] 1 .x0 (.s .x1) [(1,.x2,.a .x1 (.s .x3)),(1,.a .x0 .x3,.x2)] rfl (sb2 b (a+1)) (sb3 (lin [a,b,(b-c)] 1 .x0 .x1 [(1,.x0,.x2),(1,.x2,.x1)] rfl h0 (Nat.sub_le b c))))) (fun k1=>absurd (lin [(b-a),a,b] 1 (.n 1) (.n 0) [(1,.a .x0 .x1,.x2),(1,.s .x2,.x1)] rfl (sb3 (lin [a,b,(b-c)] 1 .x0 .x1 [(1,.x0,.x2),(1,.x2,.x1)] rfl h0 (Nat.sub_le b c))) k1) (Nat.not_succ_le_zero 0))
theorem zz106{a b c:Nat}(h0:a<b-c):c+(b-c-(a+1))<b:=sb4 b c (fun k1 k2=>lin [c,((b-c)-(a+1)),b,a,(b-c)] 1 (.s (.a .x0 .x1)) .x2 [(1,.a .x1 (.s .x3),.x4),(1,.a .x4 .x0,.x2)] rfl (sb3 (h0)) k2) (fun k1 k2=>absurd (lin [a,(b-c)] 1 (.n 1) (.n 0) [(1,.s .x0,.x1),(1,.x1,.n 0)] rfl h0 k2) (Nat.not_succ_le_zero 0))
theorem zz107{a b c:Nat}(h0:a<b-c):b-c-(a+1)+1=b-c-a:=Nat.le_antisymm (lin [((b-c)-(a+1)),((b-c)-a),(b-c),a] 1 (.s .x0) .x1 [(1,.x2,.a .x1 .x3),(1,.a .x0 (.s .x3),.x2)] rfl (sb2 (b-c) a) (sb3 (h0))) (lin [((b-c)-a),((b-c)-(a+1)),(b-c),a] 1 .x0 (.s .x1) [(1,.x2,.a .x1 (.s .x3)),(1,.a .x0 .x3,.x2)] rfl (sb2 (b-c) (a+1)) (sb3 (lin [a,(b-c)] 1 .x0 .x1 [(1,.s .x0,.x1)] rfl h0)))
theorem zz108{a b c:Nat}(h0:a<b-c):c+(b-c-(a+1))=b-(a+1):=sb4 b c (fun k1 k2=>Nat.le_antisymm (lin [c,((b-c)-(a+1)),(b-(a+1)),b,a,(b-c)] 1 (.a .x0 .x1) .x2 [(1,.x3,.a .x2 (.s .x4)),(1,.a .x1 (.s .x4),.x5),(1,.a .x5 .x0,.x3)] rfl (sb2 b (a+1)) (sb3 (h0)) k2) (lin [(b-(a+1)),c,((b-c)-(a+1)),b,(b-c),a] 1 .x0 (.a .x1 .x2) [(1,.x3,.a .x4 .x1),(1,.x4,.a .x2 (.s .x5)),(1,.a .x0 (.s .x5),.x3)] rfl (sb2 b c) (sb2 (b-c) (a+1)) (sb3 (lin [a,b,(b-c)] 1 (.s .x0) .x1 [(1,.s .x0,.x2),(1,.x2,.x1)] rfl h0 (Nat.sub_le b c))))) (fun k1 k2=>absurd (lin [a,(b-c)] 1 (.n 1) (.n 0) [(1,.s .x0,.x1),(1,.x1,.n 0)] rfl h0 k2) (Nat.not_succ_le_zero 0))
theorem zz109{a b c d:Nat}(h0:a<=b-c)(h1:d<a):b-(d+1)<b:=lin [(b-(d+1)),b,d] 1 (.s .x0) .x1 [(1,.a .x0 (.s .x2),.x1)] rfl (sb3 (lin [d,b,a,(b-c)] 1 (.s .x0) .x1 [(1,.x2,.x3),(1,.s .x0,.x2),(1,.x3,.x1)] rfl h0 h1 (Nat.sub_le b c)))
theorem zz110{a b c d:Nat}(h0:a<=b-c)(h1:d<a):b-(d+1)+1=b-d:=Nat.le_antisymm (lin [(b-(d+1)),(b-d),b,d] 1 (.s .x0) .x1 [(1,.x2,.a .x1 .x3),(1,.a .x0 (.s .x3),.x2)] rfl (sb2 b d) (sb3 (lin [d,b,a,(b-c)] 1 (.s .x0) .x1 [(1,.x2,.x3),(1,.s .x0,.x2),(1,.x3,.x1)] rfl h0 h1 (Nat.sub_le b c)))) (lin [(b-d),(b-(d+1)),b,d] 1 .x0 (.s .x1) [(1,.x2,.a .x1 (.s .x3)),(1,.a .x0 .x3,.x2)] rfl (sb2 b (d+1)) (sb3 (lin [d,b,a,(b-c)] 1 .x0 .x1 [(1,.x2,.x3),(1,.s .x0,.x2),(1,.x3,.x1)] rfl h0 h1 (Nat.sub_le b c))))
theorem zz111{a b:Nat}(h0:a≥b)(h1:a-b=0):a=b:=Nat.le_antisymm (lin [a,b,(a-b)] 1 .x0 .x1 [(1,.x2,.n 0),(1,.x0,.a .x2 .x1)] rfl (Nat.le_of_eq h1) (sb2 a b)) (h0)
theorem zz113{a b c:Nat}(h0:a<b)(h1:c<a):c<b:=lin [c,b,a] 1 (.s .x0) .x1 [(1,.s .x2,.x1),(1,.s .x0,.x2)] rfl h0 h1
theorem zz115{a:Nat}(h0:a<200):a<=16777216:=lin [a] 1 .x0 (.n 16777216) [(1,.s .x0,.n 200)] rfl h0
theorem zz117{a:Nat}:a+1<=a+3:=lin [a] 1 (.s .x0) (.a .x0 (.n 3)) [] rfl
theorem zz118{a:Nat}:a+3<=a+3:=lin [a] 1 (.a .x0 (.n 3)) (.a .x0 (.n 3)) [] rfl
theorem zz119{a:Nat}:a+4<=a+4:=lin [a] 1 (.a .x0 (.n 4)) (.a .x0 (.n 4)) [] rfl
theorem zz120{a b:Nat}:a+1+b=a+(b+1):=Nat.le_antisymm (lin [a,b] 1 (.a (.s .x0) .x1) (.a .x0 (.s .x1)) [] rfl) (lin [a,b] 1 (.a .x0 (.s .x1)) (.a (.s .x0) .x1) [] rfl)
theorem zz121{a b c d e:Nat}(h0:a<=b/\a<=c)(h1:c=d/\a+1=e):e<=b+1/\e<=d+1:=⟨lin [e,b,a] 1 .x0 (.s .x1) [(1,.x2,.x1),(1,.x0,.s .x2)] rfl h0.1 (Nat.le_of_eq h1.2.symm),lin [e,d,a,c] 1 .x0 (.s .x1) [(1,.x2,.x3),(1,.x3,.x1),(1,.x0,.s .x2)] rfl h0.2 (Nat.le_of_eq h1.1) (Nat.le_of_eq h1.2.symm)⟩
theorem zz122{a b:Nat}(h0:¬((a+1)=b)):¬(((a:Nat):Int)=(((b:Nat):Int)-(1:Int))):=by lia
theorem zz123{a:Nat}(h0:0<a):(((a:Nat):Int)-(1:Int))=(((a-1):Nat):Int):=by lia
theorem zz124{a b c:Nat}(h0:¬(a<b))(h1:¬(c<=a)):¬(a<b\/c<=a):=by lia
theorem zz125{a b c d:Nat}(h0:a<=b)(h1:c<a-d):d+c<b:=sb4 a d (fun k1 k2=>lin [d,c,b,a,(a-d)] 1 (.s (.a .x0 .x1)) .x2 [(1,.x3,.x2),(1,.s .x1,.x4),(1,.a .x4 .x0,.x3)] rfl h0 h1 k2) (fun k1 k2=>absurd (lin [c,(a-d)] 1 (.n 1) (.n 0) [(1,.s .x0,.x1),(1,.x1,.n 0)] rfl h1 k2) (Nat.not_succ_le_zero 0))
theorem zz126{a b c d:Nat}(h0:(a<=(b+c))/\(a<=d)):(((((b+c):Nat):Int)-(((a+1):Nat):Int))+(1:Int))=(((((b+c)+1)-(a+1)):Nat):Int):=by lia
theorem zz127{a b c d:Nat}(h0:(a<=(b+c))/\(a<=d)):((((d:Nat):Int)-(((a+1):Nat):Int))+(1:Int))=((((d+1)-(a+1)):Nat):Int):=by lia
theorem zz128{a b c d:Nat}(h0:a+b<=c)(h1:d<a):a-1<c:=lin [(a-1),c,a,b] 1 (.s .x0) .x1 [(1,.a .x2 .x3,.x1),(1,.s .x0,.x2)] rfl h0 (sb3 (lin [a,d] 1 (.n 1) .x0 [(1,.s .x1,.x0)] rfl h1))
theorem zz129{a b c d:Nat}(h0:a<=b)(h1:c+d<a):c+d<b:=lin [c,d,b,a] 1 (.s (.a .x0 .x1)) .x2 [(1,.x3,.x2),(1,.s (.a .x0 .x1),.x3)] rfl h0 h1
theorem zz130{a:Nat}(h0:0<a):a=a-1+1:=Nat.le_antisymm (sb2 a 1) (sb3 (lin [a] 1 (.n 1) .x0 [(1,.s (.n 0),.x0)] rfl h0))
theorem zz131{a:Nat}:a+1-1=a:=Nat.le_antisymm (lin [((a+1)-1),a] 1 .x0 .x1 [(1,.s .x0,.s .x1)] rfl (sb3 (lin [a] 1 (.n 1) (.s .x0) [] rfl))) (lin [a,((a+1)-1)] 1 .x0 .x1 [(1,.s .x0,.s .x1)] rfl (sb2 (a+1) 1))
theorem zz132{a b:Nat}(h0:a=b+1):b<a:=Nat.le_of_eq h0.symm
theorem zz133{a:Nat}(h0:0<a):a-1+1=a:=Nat.le_antisymm (sb3 (lin [a] 1 (.n 1) .x0 [(1,.s (.n 0),.x0)] rfl h0)) (sb2 a 1)
theorem zz134{a:Nat}(h0:a<60):2*a<=199:=lin [a] 1 (.m 2 .x0) (.n 199) [(2,.s .x0,.n 60)] rfl h0
theorem zz135{a:Nat}(h0:a<=199):a<=16777216:=lin [a] 1 .x0 (.n 16777216) [(1,.x0,.n 199)] rfl h0
theorem zz136{a b c:Nat}(h0:a=b+(2*c+1)):b<a:=lin [b,a,c] 1 (.s .x0) .x1 [(1,.a .x0 (.s (.m 2 .x2)),.x1)] rfl (Nat.le_of_eq h0.symm)
theorem zz137{a b c:Nat}(h0:a<=200)(h1:a=b+(2*c+1)):b<=200:=lin [b,a,c] 1 .x0 (.n 200) [(1,.x1,.n 200),(1,.a .x0 (.s (.m 2 .x2)),.x1)] rfl h0 (Nat.le_of_eq h1.symm)
theorem zz138{a:Nat}(h0:0<a):¬(a=0):=Nat.ne_of_gt (h0)
theorem zz139{a b c d e f:Nat}(h0:a<60)(h1:b=c)(h2:c+(d+(e+(f+1)))=a):b<=200:=lin [b,a,c,d,e,f] 1 .x0 (.n 200) [(1,.s .x1,.n 60),(1,.x0,.x2),(1,.a .x2 (.a .x3 (.a .x4 (.s .x5))),.x1)] rfl h0 (Nat.le_of_eq h1) (Nat.le_of_eq h2)
theorem zz140{a b:Nat}:a+(b+1)=a+1+b:=Nat.le_antisymm (lin [a,b] 1 (.a .x0 (.s .x1)) (.a (.s .x0) .x1) [] rfl) (lin [a,b] 1 (.a (.s .x0) .x1) (.a .x0 (.s .x1)) [] rfl)
theorem zz141{a b c d e:Nat}(h0:a<=200)(h1:a=b+(2*(c+1+d)+1))(h2:e<=b+(2*c+1)):e<=300:=lin [e,a,b,c,d] 1 .x0 (.n 300) [(1,.x1,.n 200),(1,.a .x2 (.s (.m 2 (.a (.s .x3) .x4))),.x1),(1,.x0,.a .x2 (.s (.m 2 .x3)))] rfl h0 (Nat.le_of_eq h1.symm) h2
theorem zz142{a b c d e f:Nat}(h0:a=b+(2*(c+1+d)+1))(h1:e<=b+(2*c+1))(h2:f<=e+(2*d+1)):f<a:=lin [f,a,b,c,d,e] 1 (.s .x0) .x1 [(1,.a .x2 (.s (.m 2 (.a (.s .x3) .x4))),.x1),(1,.x5,.a .x2 (.s (.m 2 .x3))),(1,.x0,.a .x5 (.s (.m 2 .x4)))] rfl (Nat.le_of_eq h0.symm) h1 h2
theorem zz143{a b c d e f:Nat}(h0:a<=200)(h1:a=b+(2*(c+1+d)+1))(h2:e<=b+(2*c+1))(h3:f<=e+(2*d+1)):f<=200:=lin [f,a,b,c,d,e] 1 .x0 (.n 200) [(1,.x1,.n 200),(1,.a .x2 (.s (.m 2 (.a (.s .x3) .x4))),.x1),(1,.x5,.a .x2 (.s (.m 2 .x3))),(1,.x0,.a .x5 (.s (.m 2 .x4)))] rfl h0 (Nat.le_of_eq h1.symm) h2 h3
theorem zz144{a b:Nat}(h0:a<60)(h1:b=a):b<64:=lin [b,a] 1 (.s .x0) (.n 64) [(1,.s .x1,.n 60),(1,.x0,.x1)] rfl h0 (Nat.le_of_eq h1)
theorem zz145{a b c d e:Nat}(h0:a+b=c/\d+b=e):¬(a+b<=c/\d+b<=e/\(a+b<c\/d+b<e)):=by lia
theorem zz146{a:Nat}(h0:a<60):a<=16777216:=lin [a] 1 .x0 (.n 16777216) [(1,.s .x0,.n 60)] rfl h0
theorem zz147{a b:Nat}(h0:a<60)(h1:b=a+1):b<=1000:=lin [b,a] 1 .x0 (.n 1000) [(1,.s .x1,.n 60),(1,.x0,.s .x1)] rfl h0 (Nat.le_of_eq h1)
theorem zz148{a:Nat}(h0:a<60):a+1<61:=lin [a] 1 (.s (.s .x0)) (.n 61) [(1,.s .x0,.n 60)] rfl h0
theorem zz149{a b:Nat}(h0:a<=16777200)(h1:b<=a+1):b<=16777216:=lin [b,a] 1 .x0 (.n 16777216) [(1,.x1,.n 16777200),(1,.x0,.s .x1)] rfl h0 h1
theorem zz150{a:Nat}(h0:0<a):a-1<a:=sb3 (lin [a] 1 (.n 1) .x0 [(1,.s (.n 0),.x0)] rfl h0)
theorem zz151{a:Nat}(h0:¬(a=0)):(((a:Nat):Int)-(1:Int))=(((a-1):Nat):Int):=by lia
theorem zz152{a b:Nat}:(((a:Nat):Int)=(((b:Nat):Int)-(1:Int)))↔((a+1)=b):=by lia
theorem zz153{a b:Nat}:(((a:Nat):Int)=(((b:Nat):Int)+(1:Int)))↔(a=(b+1)):=by lia
theorem zz154{a b c:Nat}(h0:a<=2)(h1:b<=2*c):a+b<=2*(c+1):=lin [a,b,c] 1 (.a .x0 .x1) (.m 2 (.s .x2)) [(1,.x0,.n 2),(1,.x1,.m 2 .x2)] rfl h0 h1
theorem zz155{a:Nat}(h0:a<64):a<=16777216:=lin [a] 1 .x0 (.n 16777216) [(1,.s .x0,.n 64)] rfl h0
theorem zz156{a b:Nat}(h0:a<64)(h1:b=a):b<=1000:=lin [b,a] 1 .x0 (.n 1000) [(1,.s .x1,.n 64),(1,.x0,.x1)] rfl h0 (Nat.le_of_eq h1)
theorem zz157{a b:Nat}(h0:a<64)(h1:b=a):b<=16777216:=lin [b,a] 1 .x0 (.n 16777216) [(1,.s .x1,.n 64),(1,.x0,.x1)] rfl h0 (Nat.le_of_eq h1)
theorem zz158{a b c d e:Nat}(h0:a=b)(h1:a<=16777216)(h2:c<b)(h3:d=e)(h4:e<=c):d<=16777216:=lin [d,b,a,c,e] 1 .x0 (.n 16777216) [(1,.x1,.x2),(1,.x2,.n 16777216),(1,.s .x3,.x1),(1,.x0,.x4),(1,.x4,.x3)] rfl (Nat.le_of_eq h0.symm) h1 h2 (Nat.le_of_eq h3) h4
theorem zz159{a b:Nat}(h0:a<64)(h1:b=a):b<1000:=lin [b,a] 1 (.s .x0) (.n 1000) [(1,.s .x1,.n 64),(1,.x0,.x1)] rfl h0 (Nat.le_of_eq h1)
theorem zz160{a b:Nat}(h0:a<b):0<b:=lin [b,a] 1 (.s (.n 0)) .x0 [(1,.s .x1,.x0)] rfl h0
theorem zz161{a b:Nat}(h0:(a+1)%b<b):0<b:=lin [b,((a+1)%b)] 1 (.s (.n 0)) .x0 [(1,.s .x1,.x0)] rfl h0
theorem zz162{a:Nat}(h0:a<64):1+a<=16777216:=lin [a] 1 (.a (.n 1) .x0) (.n 16777216) [(1,.s .x0,.n 64)] rfl h0
theorem zz163{a:Nat}(h0:a<64):a<=16777215:=lin [a] 1 .x0 (.n 16777215) [(1,.s .x0,.n 64)] rfl h0
theorem zz164{a b:Nat}(h0:a<64)(h1:b=a+1):b<=16777216:=lin [b,a] 1 .x0 (.n 16777216) [(1,.s .x1,.n 64),(1,.x0,.s .x1)] rfl h0 (Nat.le_of_eq h1)
theorem zz165{a b:Nat}(h0:a<b+1):a<b+1:=h0
theorem zz166{a:Nat}(h0:a<=1000):a<=16777215:=lin [a] 1 .x0 (.n 16777215) [(1,.x0,.n 1000)] rfl h0
theorem zz167{a b:Nat}(h0:a<b+1)(h1:¬(a<b)):a=b:=Nat.le_antisymm (lin [a,b] 1 .x0 .x1 [(1,.s .x0,.s .x1)] rfl h0) (Nat.le_of_not_lt h1)
theorem zz168{a:Nat}(h0:a=0):¬(0<a):=Nat.not_lt_of_ge (Nat.le_of_eq h0)
theorem zz169{a b:Nat}(h0:a<64)(h1:b<=2*(a+1)):b<=1000:=lin [b,a] 1 .x0 (.n 1000) [(2,.s .x1,.n 64),(1,.x0,.m 2 (.s .x1))] rfl h0 h1
theorem zz170{a b:Nat}(h0:a=b)(h1:b<=1000):a<=16777216:=lin [a,b] 1 .x0 (.n 16777216) [(1,.x0,.x1),(1,.x1,.n 1000)] rfl (Nat.le_of_eq h0) h1
theorem zz171{a b:Nat}(h0:a<=1000)(h1:b<=1000):a+b<=16777216:=lin [a,b] 1 (.a .x0 .x1) (.n 16777216) [(1,.x0,.n 1000),(1,.x1,.n 1000)] rfl h0 h1
theorem zz172{a:Nat}(h0:a<=1000):1+a<=16777216:=lin [a] 1 (.a (.n 1) .x0) (.n 16777216) [(1,.x0,.n 1000)] rfl h0
theorem zz173{a b:Nat}(h0:a<=1000)(h1:b<=1000):a+(1+b)<=16777216:=lin [a,b] 1 (.a .x0 (.a (.n 1) .x1)) (.n 16777216) [(1,.x0,.n 1000),(1,.x1,.n 1000)] rfl h0 h1
theorem zz174{a:Nat}(h0:¬(((a:Nat):Int)<(1:Int))):(0:Int)<((a:Nat):Int):=by lia
theorem zz175{b:Nat}{a:Int}(h0:((1:Nat):Int)>((a-(1:Int))/((b:Nat):Int)))(h1:((a-(1:Int))/((b:Nat):Int))≥(1:Int)):False:=by lia
theorem zz176{a b:Nat}(h0:a<=1000)(h1:b<=a):b<=1000:=lin [b,a] 1 .x0 (.n 1000) [(1,.x1,.n 1000),(1,.x0,.x1)] rfl h0 h1
theorem zz177{a:Nat}(h0:a<256):((0:Int)<=((a:Nat):Int))/\(((a:Nat):Int)<(256:Int)):=by lia
theorem zz178{a b:Nat}:a<=b+1+a:=lin [a,b] 1 .x0 (.a (.s .x1) .x0) [] rfl
theorem zz179{a b:Nat}:a+b<=a+1+b:=lin [a,b] 1 (.a .x0 .x1) (.a (.s .x0) .x1) [] rfl
theorem zz180{a b:Nat}:a+(1+b)<=a+1+b:=lin [a,b] 1 (.a .x0 (.a (.n 1) .x1)) (.a (.s .x0) .x1) [] rfl
theorem zz181{a b c d e:Nat}(h0:a<=b+101*c)(h1:d<=100)(h2:b<=e+1+d):a<=e+101*(c+1):=lin [a,e,c,b,d] 1 .x0 (.a .x1 (.m 101 (.s .x2))) [(1,.x0,.a .x3 (.m 101 .x2)),(1,.x4,.n 100),(1,.x3,.a (.s .x1) .x4)] rfl h0 h1 h2
theorem zz182{a b:Nat}(h0:a<=1000)(h1:b=a):b<=16777216:=lin [b,a] 1 .x0 (.n 16777216) [(1,.x1,.n 1000),(1,.x0,.x1)] rfl h0 (Nat.le_of_eq h1)
theorem zz183{a b c d e:Nat}(h0:a<=1000)(h1:b=a)(h2:c<=1000)(h3:d=c):b+(d-e)<=16777216:=lin [b,(d-e),a,c,d] 1 (.a .x0 .x1) (.n 16777216) [(1,.x2,.n 1000),(1,.x0,.x2),(1,.x3,.n 1000),(1,.x4,.x3),(1,.x1,.x4)] rfl h0 (Nat.le_of_eq h1) h2 (Nat.le_of_eq h3) (Nat.sub_le d e)
theorem zz184{a b c:Nat}(h0:a<=1000)(h1:b=c)(h2:c<a):b<=16777216:=lin [b,a,c] 1 .x0 (.n 16777216) [(1,.x1,.n 1000),(1,.x0,.x2),(1,.s .x2,.x1)] rfl h0 (Nat.le_of_eq h1) h2
theorem zz185{a b c:Nat}(h0:a=b-c)(h1:c<b):b-(c+1)<a:=lin [(b-(c+1)),a,(b-c),b,c] 1 (.s .x0) .x1 [(1,.x2,.x1),(1,.x3,.a .x2 .x4),(1,.a .x0 (.s .x4),.x3)] rfl (Nat.le_of_eq h0.symm) (sb2 b c) (sb3 (h1))
theorem zz186{a b c:Nat}(h0:a<=1000)(h1:b+1<=a)(h2:c=b):c<=16777215:=lin [c,a,b] 1 .x0 (.n 16777215) [(1,.x1,.n 1000),(1,.s .x2,.x1),(1,.x0,.x2)] rfl h0 h1 (Nat.le_of_eq h2)
theorem zz187{a b c d e:Nat}(h0:0<=a/\a+b<=c/\0<=d/\d+b<=e/\0<b):a+b<=c/\d+b<=e/\0<b:=⟨h0.2.1,⟨h0.2.2.2.1,h0.2.2.2.2⟩⟩
theorem zz188{a b:Nat}:(((a:Nat):Int)-(((a+b):Nat):Int))=(-((b:Nat):Int)):=by lia
theorem zz189{a:Nat}(h0:a<=8):a<64:=lin [a] 1 (.s .x0) (.n 64) [(1,.x0,.n 8)] rfl h0
theorem zz190{a:Nat}(h0:a<=32):a<64:=lin [a] 1 (.s .x0) (.n 64) [(1,.x0,.n 32)] rfl h0
theorem zz191{a:Nat}(h0:a<60):a<64:=lin [a] 1 (.s .x0) (.n 64) [(1,.s .x0,.n 60)] rfl h0
theorem zz192{a b c:Nat}(h0:a<=2*(b+1))(h1:b<60)(h2:c=a):c<=16777216:=lin [c,a,b] 1 .x0 (.n 16777216) [(1,.x1,.m 2 (.s .x2)),(2,.s .x2,.n 60),(1,.x0,.x1)] rfl h0 h1 (Nat.le_of_eq h2)
theorem zz193{a b:Nat}(h0:a<60)(h1:b=a):1+b<=16777216:=lin [b,a] 1 (.a (.n 1) .x0) (.n 16777216) [(1,.s .x1,.n 60),(1,.x0,.x1)] rfl h0 (Nat.le_of_eq h1)
theorem zz194{a b:Nat}(h0:a+24*(b+9)<9800):a+1+1+2*1+1<9900:=lin [a,b] 1 (.s (.s (.a (.s (.s .x0)) (.m 2 (.n 1))))) (.n 9900) [(1,.s (.a .x0 (.m 24 (.a .x1 (.n 9)))),.n 9800)] rfl h0
theorem zz195 :3+3*2<=9:=lin [] 1 (.a (.n 3) (.m 3 (.n 2))) (.n 9) [] rfl
theorem zz196{a:Nat}(h0:a<=8/\0<a):a<=32:=lin [a] 1 .x0 (.n 32) [(1,.x0,.n 8)] rfl h0.1
theorem zz197:(0:Int)<=(100000:Int):=by lia
theorem zz198:(100000:Int)≠(0:Int):=by lia
theorem zz199:(0:Int)<(100000:Int):=by lia
theorem zz200{a:Nat}:a%4<=3:=lin [(a%4)] 1 .x0 (.n 3) [(1,.s .x0,.n 4)] rfl (Nat.mod_lt a (Nat.le_of_ble_eq_true rfl))
theorem zz201{a:Nat}(h0:a<=3):a<=9:=lin [a] 1 .x0 (.n 9) [(1,.x0,.n 3)] rfl h0
theorem zz202{a b:Nat}(h0:a<=63)(h1:b=a):b<=16777216:=lin [b,a] 1 .x0 (.n 16777216) [(1,.x1,.n 63),(1,.x0,.x1)] rfl h0 (Nat.le_of_eq h1)
theorem zz203{a:Nat}(h0:a<=8):a<=16777216:=lin [a] 1 .x0 (.n 16777216) [(1,.x0,.n 8)] rfl h0
theorem zz204{a b:Nat}(h0:a<=8/\0<a)(h1:b=a):b<=16777216:=lin [b,a] 1 .x0 (.n 16777216) [(1,.x1,.n 8),(1,.x0,.x1)] rfl h0.1 (Nat.le_of_eq h1)
theorem zz205{a b:Nat}(h0:a<=9)(h1:b<=a):b<=9:=lin [b,a] 1 .x0 (.n 9) [(1,.x1,.n 9),(1,.x0,.x1)] rfl h0 h1
theorem zz206{a b c:Nat}(h0:a<=b)(h1:c<=a):c<=b:=lin [c,b,a] 1 .x0 .x1 [(1,.x2,.x1),(1,.x0,.x2)] rfl h0 h1
theorem zz207{a:Nat}:a<=a+3:=lin [a] 1 .x0 (.a .x0 (.n 3)) [] rfl
theorem zz208{a:Nat}:3+3*a<=3+3*(a+1):=lin [a] 1 (.a (.n 3) (.m 3 .x0)) (.a (.n 3) (.m 3 (.s .x0))) [] rfl
theorem zz209 :2>0:=lin [] 1 (.s (.n 0)) (.n 2) [] rfl
theorem zz210{a:Nat}:3+3*a+3<=3+3*(a+1):=lin [a] 1 (.a (.a (.n 3) (.m 3 .x0)) (.n 3)) (.a (.n 3) (.m 3 (.s .x0))) [] rfl
theorem zz211{a b c d:Nat}(h0:a<=2*b)(h1:b<=c*d):a<=c*d*2:=by lia
theorem zz212{a:Nat}(h0:a<2):3+3*a<=6:=lin [a] 1 (.a (.n 3) (.m 3 .x0)) (.n 6) [(3,.s .x0,.n 2)] rfl h0
theorem zz213{a b:Nat}(h0:a<=8)(h1:b=a):b<=16777216:=lin [b,a] 1 .x0 (.n 16777216) [(1,.x1,.n 8),(1,.x0,.x1)] rfl h0 (Nat.le_of_eq h1)
theorem zz214{a b c:Nat}(h0:a=b)(h1:c/3%b<b):c/3%b<a:=lin [((c/3)%b),a,b] 1 (.s .x0) .x1 [(1,.x2,.x1),(1,.s .x0,.x2)] rfl (Nat.le_of_eq h0.symm) h1
theorem zz215{a:Nat}(h0:a<=8):a<1073741824:=lin [a] 1 (.s .x0) (.n 1073741824) [(1,.x0,.n 8)] rfl h0
theorem zz216{a b:Nat}(h0:a=b)(h1:b<=3):a<=16777216:=lin [a,b] 1 .x0 (.n 16777216) [(1,.x0,.x1),(1,.x1,.n 3)] rfl (Nat.le_of_eq h0) h1
theorem zz217 :3<=9:=lin [] 1 (.n 3) (.n 9) [] rfl
theorem zz218{a:Nat}(h0:a<=16):a<=1000:=lin [a] 1 .x0 (.n 1000) [(1,.x0,.n 16)] rfl h0
theorem zz219{a:Nat}(h0:a<=6):a<=1000:=lin [a] 1 .x0 (.n 1000) [(1,.x0,.n 6)] rfl h0
theorem zz220{a:Nat}(h0:a<=3):a<=1000:=lin [a] 1 .x0 (.n 1000) [(1,.x0,.n 3)] rfl h0
theorem zz221 :6<=9:=lin [] 1 (.n 6) (.n 9) [] rfl
theorem zz222 :6+3<=9:=lin [] 1 (.a (.n 6) (.n 3)) (.n 9) [] rfl
theorem zz223{a b c d:Nat}(h0:a<=b+c)(h1:b<=d+1):a<=d+(c+1):=lin [a,d,c,b] 1 .x0 (.a .x1 (.s .x2)) [(1,.x0,.a .x3 .x2),(1,.x3,.s .x1)] rfl h0 h1
theorem zz224{a b:Nat}(h0:a<=32)(h1:b=a):b<=16777216:=lin [b,a] 1 .x0 (.n 16777216) [(1,.x1,.n 32),(1,.x0,.x1)] rfl h0 (Nat.le_of_eq h1)
theorem zz225{a:Nat}(h0:a<=8):a<=32:=lin [a] 1 .x0 (.n 32) [(1,.x0,.n 8)] rfl h0
theorem zz226{a b:Nat}(h0:a<=8)(h1:b=a):b<200:=lin [b,a] 1 (.s .x0) (.n 200) [(1,.x1,.n 8),(1,.x0,.x1)] rfl h0 (Nat.le_of_eq h1)
theorem zz227{a b:Nat}(h0:a<=32)(h1:b=a):b<200:=lin [b,a] 1 (.s .x0) (.n 200) [(1,.x1,.n 32),(1,.x0,.x1)] rfl h0 (Nat.le_of_eq h1)
theorem zz228{a:Nat}(h0:a<200):a<200:=h0
theorem zz229{a b:Nat}(h0:¬(a=b)):¬((-((b:Nat):Int))=(-((a:Nat):Int))):=by lia
theorem zz230{a b:Nat}:((-((a:Nat):Int))<(-((b:Nat):Int)))↔(b<a):=by lia
theorem zz231{a b:Nat}(h0:a+1<=b):a<=b:=lin [a,b] 1 .x0 .x1 [(1,.s .x0,.x1)] rfl h0
theorem zz232{a b:Nat}(h0:a+1<=b):a<b:=h0
theorem zz233{a b c d e:Nat}(h0:a<b\/a=b/\c<d)(h1:b+e<=a/\d+e<=c/\(b+e<a\/d+e<c)):False:=Or.elim h0 (fun k1=>Nat.not_succ_le_zero 0 (lin [b,e,a] 1 (.n 1) (.n 0) [(1,.a .x0 .x1,.x2),(1,.s .x2,.x0)] rfl h1.1 k1)) (fun k1=>Nat.not_succ_le_zero 0 (lin [d,e,c] 1 (.n 1) (.n 0) [(1,.a .x0 .x1,.x2),(1,.s .x2,.x0)] rfl h1.2.1 k1.2))
theorem zz234{a:Nat}:a<a+1:=lin [a] 1 (.s .x0) (.s .x0) [] rfl
theorem zz235{a b:Nat}(h0:a<b):a<b+1:=lin [a,b] 1 (.s .x0) (.s .x1) [(1,.s .x0,.x1)] rfl h0
theorem zz236{a:Nat}(h0:a<=3):a<=64:=lin [a] 1 .x0 (.n 64) [(1,.x0,.n 3)] rfl h0
theorem zz237{a:Nat}:1<=a+1:=lin [a] 1 (.n 1) (.s .x0) [] rfl
theorem zz238{a b:Nat}(h0:a<=b)(h1:¬(a=b)):a<=b-1:=Or.elim (Nat.lt_or_gt_of_ne h1) (fun k1=>lin [a,(b-1),b] 1 .x0 .x1 [(1,.x2,.s .x1),(1,.s .x0,.x2)] rfl (sb2 b 1) k1) (fun k1=>lin [a,(b-1),b] 1 .x0 .x1 [(2,.x0,.x2),(1,.x2,.s .x1),(1,.s .x2,.x0)] rfl h0 (sb2 b 1) k1)
theorem zz239{a:Nat}(h0:1<=a):a-1<a:=sb3 (h0)
theorem zz240{a b c:Nat}(h0:a<=b+1+c):a<=b+(c+1):=lin [a,b,c] 1 .x0 (.a .x1 (.s .x2)) [(1,.x0,.a (.s .x1) .x2)] rfl h0
theorem zz241{a b c:Nat}(h0:a=b+1+c):a=b+(c+1):=Nat.le_antisymm (lin [a,b,c] 1 .x0 (.a .x1 (.s .x2)) [(1,.x0,.a (.s .x1) .x2)] rfl (Nat.le_of_eq h0)) (lin [b,c,a] 1 (.a .x0 (.s .x1)) .x2 [(1,.a (.s .x0) .x1,.x2)] rfl (Nat.le_of_eq h0.symm))
theorem zz242{a b c:Nat}(h0:a<=b)(h1:b<c):a<c:=lin [a,c,b] 1 (.s .x0) .x1 [(1,.x0,.x2),(1,.s .x2,.x1)] rfl h0 h1
theorem zz243{a b c d:Nat}(h0:a<=b)(h1:c-(d+1)<=a):c-(d+1)<=b:=lin [(c-(d+1)),b,a] 1 .x0 .x1 [(1,.x2,.x1),(1,.x0,.x2)] rfl h0 h1
theorem zz244{a b c d:Nat}(h0:a<=b)(h1:b<c):c-(d+1)<=c-(d+1)+c-1-a:=lin [(c-(d+1)),((((c-(d+1))+c)-1)-a),a,b,c,(((c-(d+1))+c)-1)] 1 .x0 .x1 [(1,.x2,.x3),(1,.s .x3,.x4),(1,.a .x0 .x4,.s .x5),(1,.x5,.a .x1 .x2)] rfl h0 h1 (sb2 ((c-(d+1))+c) 1) (sb2 (((c-(d+1))+c)-1) a)
theorem zz245{a b c:Nat}(h0:a+1<=b)(h1:b-(a+1)<=c):b-(a+1)+b-1-c<b:=sb4 (((b-(a+1))+b)-1) c (fun k1 k2=>lin [((((b-(a+1))+b)-1)-c),b,(b-(a+1)),c,(((b-(a+1))+b)-1)] 1 (.s .x0) .x1 [(1,.x2,.x3),(1,.s .x4,.a .x2 .x1),(1,.a .x0 .x3,.x4)] rfl h1 (sb3 (lin [(b-(a+1)),b,a] 1 (.n 1) (.a .x0 .x1) [(1,.s .x2,.x1)] rfl h0)) k2) (fun k1 k2=>lin [((((b-(a+1))+b)-1)-c),b,a] 1 (.s .x0) .x1 [(1,.s .x2,.x1),(1,.x0,.n 0)] rfl h0 k2)
theorem zz246{a b c:Nat}(h0:a<b):b-(c+1)<=b-(c+1)+b-1-a:=lin [(b-(c+1)),((((b-(c+1))+b)-1)-a),a,b,(((b-(c+1))+b)-1)] 1 .x0 .x1 [(1,.s .x2,.x3),(1,.a .x0 .x3,.s .x4),(1,.x4,.a .x1 .x2)] rfl h0 (sb2 ((b-(c+1))+b) 1) (sb2 (((b-(c+1))+b)-1) a)
theorem zz247{a b c d:Nat}(h0:a<=b)(h1:c+1<=d)(h2:d-(c+1)<=a):d-(c+1)+d-1-b<d:=sb4 (((d-(c+1))+d)-1) b (fun k1 k2=>lin [((((d-(c+1))+d)-1)-b),d,a,b,(d-(c+1)),(((d-(c+1))+d)-1)] 1 (.s .x0) .x1 [(1,.x2,.x3),(1,.x4,.x2),(1,.s .x5,.a .x4 .x1),(1,.a .x0 .x3,.x5)] rfl h0 h2 (sb3 (lin [(d-(c+1)),d,c] 1 (.n 1) (.a .x0 .x1) [(1,.s .x2,.x1)] rfl h1)) k2) (fun k1 k2=>lin [((((d-(c+1))+d)-1)-b),d,c] 1 (.s .x0) .x1 [(1,.s .x2,.x1),(1,.x0,.n 0)] rfl h1 k2)
theorem zz248{a b c:Nat}(h0:¬(a-(b+1)<=c)):¬(a-(b+1)<=c/\c<a):=by lia
theorem zz249{a b c d:Nat}(h0:a<b)(h1:¬(b-(c+1)<=d)):d<=b-(c+1)+b-1-a:=lin [d,((((b-(c+1))+b)-1)-a),a,b,(b-(c+1)),(((b-(c+1))+b)-1)] 1 .x0 .x1 [(1,.s .x2,.x3),(1,.s .x0,.x4),(1,.a .x4 .x3,.s .x5),(1,.x5,.a .x1 .x2)] rfl h0 (Nat.lt_of_not_le h1) (sb2 ((b-(c+1))+b) 1) (sb2 (((b-(c+1))+b)-1) a)
theorem zz250{a b c d:Nat}(h0:¬(a-(b+1)<=c))(h1:a-(b+1)<=d):a-(b+1)+a-1-d<a:=sb4 a (b+1) (fun k1 k2=>sb4 (((a-(b+1))+a)-1) d (fun k3 k4=>lin [((((a-(b+1))+a)-1)-d),a,(a-(b+1)),d,(((a-(b+1))+a)-1)] 1 (.s .x0) .x1 [(1,.x2,.x3),(1,.s .x4,.a .x2 .x1),(1,.a .x0 .x3,.x4)] rfl h1 (sb3 (lin [(a-(b+1)),a,c] 1 (.n 1) (.a .x0 .x1) [(1,.s .x2,.x0)] rfl (Nat.lt_of_not_le h0))) k4) (fun k3 k4=>lin [((((a-(b+1))+a)-1)-d),a,b] 1 (.s .x0) .x1 [(1,.s .x2,.x1),(1,.x0,.n 0)] rfl k1 k4)) (fun k1 k2=>lin [((((a-(b+1))+a)-1)-d),a,(((a-(b+1))+a)-1),(a-(b+1))] 1 (.s .x0) .x1 [(1,.x0,.x2),(1,.s .x2,.a .x3 .x1),(1,.x3,.n 0)] rfl (Nat.sub_le (((a-(b+1))+a)-1) d) (sb3 (lin [(a-(b+1)),a,c] 1 (.n 1) (.a .x0 .x1) [(1,.s .x2,.x0)] rfl (Nat.lt_of_not_le h0))) k2)
theorem zz251{a b c:Nat}(h0:a+(b+1)<=c):a<=c:=lin [a,c,b] 1 .x0 .x1 [(1,.a .x0 (.s .x2),.x1)] rfl h0
theorem zz252{a:Nat}:0+1<=a+1:=lin [a] 1 (.s (.n 0)) (.s .x0) [] rfl
theorem zz253{a b:Nat}(h0:a+1<=b):b-1<b:=sb3 (lin [b,a] 1 (.n 1) .x0 [(1,.s .x1,.x0)] rfl h0)
theorem zz254{a b:Nat}:a-(b+1)<=a-(b+1):=lin [(a-(b+1))] 1 .x0 .x0 [] rfl
theorem zz255{a b:Nat}(h0:a+1<=b):b-(a+1)<b:=lin [(b-(a+1)),b,a] 1 (.s .x0) .x1 [(1,.a .x0 (.s .x2),.x1)] rfl (sb3 (h0))
theorem zz256{a b:Nat}(h0:a+1<=b):b-(a+1)<=b-1/\b-1<b:=⟨lin [(b-(a+1)),(b-1),b,a] 1 .x0 .x1 [(1,.x2,.s .x1),(1,.a .x0 (.s .x3),.x2)] rfl (sb2 b 1) (sb3 (h0)),sb3 (lin [b,a] 1 (.n 1) .x0 [(1,.s .x1,.x0)] rfl h0)⟩
theorem zz257{a b:Nat}:¬(a-(b+1)<=a/\a<a):=by lia
theorem zz258{a b:Nat}:a-(b+1)+a-1-(a-1)=a-(b+1):=sb4 a 1 (fun k1 k2=>Nat.le_antisymm (lin [((((a-(b+1))+a)-1)-(a-1)),(a-(b+1)),a,(a-1),(((a-(b+1))+a)-1)] 1 .x0 .x1 [(1,.x2,.s .x3),(1,.s .x4,.a .x1 .x2),(1,.a .x0 .x3,.x4)] rfl (sb2 a 1) (sb3 (lin [(a-(b+1)),a] 1 (.n 1) (.a .x0 .x1) [(1,.n 1,.x1)] rfl k1)) (sb3 (lin [(a-1),(((a-(b+1))+a)-1),(a-(b+1)),a] 1 .x0 .x1 [(1,.a .x2 .x3,.s .x1),(1,.s .x0,.x3)] rfl (sb2 ((a-(b+1))+a) 1) k2))) (lin [(a-(b+1)),((((a-(b+1))+a)-1)-(a-1)),a,(((a-(b+1))+a)-1),(a-1)] 1 .x0 .x1 [(1,.a .x0 .x2,.s .x3),(1,.x3,.a .x1 .x4),(1,.s .x4,.x2)] rfl (sb2 ((a-(b+1))+a) 1) (sb2 (((a-(b+1))+a)-1) (a-1)) k2)) (fun k1 k2=>Nat.le_antisymm (lin [((((a-(b+1))+a)-1)-(a-1)),(a-(b+1)),(((a-(b+1))+a)-1)] 1 .x0 .x1 [(1,.x0,.x2),(1,.x2,.n 0)] rfl (Nat.sub_le (((a-(b+1))+a)-1) (a-1)) (sb5 (lin [(a-(b+1)),a] 1 (.a .x0 .x1) (.n 1) [(1,.x1,.n 1),(1,.x0,.n 0)] rfl k1 (sb5 (lin [a,b] 1 .x0 (.s .x1) [(1,.x0,.n 1)] rfl k1))))) (lin [(a-(b+1)),((((a-(b+1))+a)-1)-(a-1))] 1 .x0 .x1 [(1,.x0,.n 0)] rfl (sb5 (lin [a,b] 1 .x0 (.s .x1) [(1,.x0,.n 1)] rfl k1))))
theorem zz259{a b:Nat}(h0:a+1-(0+1)<=b)(h1:b<a+1):b=a:=Nat.le_antisymm (lin [b,a] 1 .x0 .x1 [(1,.s .x0,.s .x1)] rfl h1) (lin [a,b,((a+1)-(0+1))] 1 .x0 .x1 [(1,.x2,.x1),(1,.s .x0,.a .x2 (.s (.n 0)))] rfl h0 (sb2 (a+1) (0+1)))
theorem zz260{a b c:Nat}(h0:a+(b+1)<=c):a+1+b<=c:=lin [a,b,c] 1 (.a (.s .x0) .x1) .x2 [(1,.a .x0 (.s .x1),.x2)] rfl h0
theorem zz261{a b:Nat}:a<=a+(b+1):=lin [a,b] 1 .x0 (.a .x0 (.s .x1)) [] rfl
theorem zz262{a b:Nat}(h0:a+1<=b):a+1+1<=b+1:=lin [a,b] 1 (.s (.s .x0)) (.s .x1) [(1,.s .x0,.x1)] rfl h0
theorem zz263{a b c:Nat}(h0:a+1-(b+1+1)<=c):a-(b+1)<=c:=sb4 a (b+1) (fun k1 k2=>lin [(a-(b+1)),c,((a+1)-((b+1)+1)),a,b] 1 .x0 .x1 [(1,.x2,.x1),(1,.s .x3,.a .x2 (.s (.s .x4))),(1,.a .x0 (.s .x4),.x3)] rfl h0 (sb2 (a+1) ((b+1)+1)) k2) (fun k1 k2=>lin [(a-(b+1)),c] 1 .x0 .x1 [(1,.x0,.n 0)] rfl k2)
theorem zz264{a b:Nat}(h0:a<b+1)(h1:¬(a=b)):a<b:=Or.elim (Nat.lt_or_gt_of_ne h1) (fun k1=>k1) (fun k1=>lin [a,b] 1 (.s .x0) .x1 [(2,.s .x0,.s .x1),(1,.s .x1,.x0)] rfl h0 k1)
theorem zz265{a b c:Nat}(h0:a<=b)(h1:b<=c):a<=c:=lin [a,c,b] 1 .x0 .x1 [(1,.x0,.x2),(1,.x2,.x1)] rfl h0 h1
theorem zz266{a b:Nat}(h0:a<b):0<=a/\a<b:=⟨lin [a] 1 (.n 0) .x0 [] rfl,h0⟩
theorem zz267{a b c:Nat}(h0:a<=b)(h1:b<c):0<=a/\a<c:=⟨lin [a] 1 (.n 0) .x0 [] rfl,lin [a,c,b] 1 (.s .x0) .x1 [(1,.x0,.x2),(1,.s .x2,.x1)] rfl h0 h1⟩
theorem zz268{a b c:Nat}(h0:a<=b):0+c-1-b<=0+c-1-a:=sb4 (0+c) 1 (fun k1 k2=>sb4 ((0+c)-1) b (fun k3 k4=>lin [(((0+c)-1)-b),(((0+c)-1)-a),a,b,((0+c)-1)] 1 .x0 .x1 [(1,.x2,.x3),(1,.x4,.a .x1 .x2),(1,.a .x0 .x3,.x4)] rfl h0 (sb2 ((0+c)-1) a) k4) (fun k3 k4=>lin [(((0+c)-1)-b),(((0+c)-1)-a)] 1 .x0 .x1 [(1,.x0,.n 0)] rfl k4)) (fun k1 k2=>lin [(((0+c)-1)-b),(((0+c)-1)-a),((0+c)-1)] 1 .x0 .x1 [(1,.x0,.x2),(1,.x2,.n 0)] rfl (Nat.sub_le ((0+c)-1) b) k2)
theorem zz269{a b c:Nat}(h0:a<b):0+b-1-c<b:=lin [(((0+b)-1)-c),b,((0+b)-1)] 1 (.s .x0) .x1 [(1,.x0,.x2),(1,.s .x2,.a (.n 0) .x1)] rfl (Nat.sub_le ((0+b)-1) c) (sb3 (lin [b,a] 1 (.n 1) (.a (.n 0) .x0) [(1,.s .x1,.x0)] rfl h0))
theorem zz270{a b:Nat}(h0:1<=a)(h1:a<=b):1<=b:=lin [b,a] 1 (.n 1) .x0 [(1,.n 1,.x1),(1,.x1,.x0)] rfl h0 h1
theorem zz271{a b c:Nat}(h0:a<=b)(h1:c<=a+(b-a)):c<=b:=lin [c,b,a,(b-a)] 1 .x0 .x1 [(1,.x0,.a .x2 .x3),(1,.a .x3 .x2,.x1)] rfl h1 (sb3 (h0))
theorem zz272{a b c:Nat}(h0:a+1<=b)(h1:b<=c):a+1+(b-(a+1))<=c:=lin [a,(b-(a+1)),c,b] 1 (.a (.s .x0) .x1) .x2 [(1,.x3,.x2),(1,.a .x1 (.s .x0),.x3)] rfl h1 (sb3 (h0))
theorem zz273{a b:Nat}(h0:a+1<=b):1<=b:=lin [b,a] 1 (.n 1) .x0 [(1,.s .x1,.x0)] rfl h0
theorem zz274{a b c:Nat}(h0:a+1<=b)(h1:c<=a+1+(b-(a+1))):c<=b:=lin [c,b,a,(b-(a+1))] 1 .x0 .x1 [(1,.x0,.a (.s .x2) .x3),(1,.a .x3 (.s .x2),.x1)] rfl h1 (sb3 (h0))
theorem zz275{a b c d e:Nat}(h0:a+1<=b)(h1:b<=c)(h2:d<=a+1+(b-(a+1)))(h3:e=c):d<=e:=lin [d,e,b,c,a,(b-(a+1))] 1 .x0 .x1 [(1,.x2,.x3),(1,.x0,.a (.s .x4) .x5),(1,.x3,.x1),(1,.a .x5 (.s .x4),.x2)] rfl h1 h2 (Nat.le_of_eq h3.symm) (sb3 (h0))
theorem zz276{a b:Nat}(h0:a<=b)(h1:b<1):a=b:=Nat.le_antisymm (h0) (lin [b,a] 1 .x0 .x1 [(1,.s .x0,.n 1)] rfl h1)
theorem zz277{a b:Nat}(h0:1<=a)(h1:b<=1+(a-1)):b<=a:=lin [b,a,(a-1)] 1 .x0 .x1 [(1,.x0,.a (.n 1) .x2),(1,.s .x2,.x1)] rfl h1 (sb3 (h0))
theorem zz278{a b:Nat}(h0:1<=a)(h1:b≠a):¬(b=1+(a-1)):=fun k1=>Or.elim (Nat.lt_or_gt_of_ne h1) (fun k2=>Nat.not_succ_le_zero 0 (lin [a,(a-1),b] 1 (.n 1) (.n 0) [(1,.x0,.s .x1),(1,.a (.n 1) .x1,.x2),(1,.s .x2,.x0)] rfl (sb2 a 1) (Nat.le_of_eq k1.symm) k2)) (fun k2=>Nat.not_succ_le_zero 0 (lin [(a-1),a,b] 1 (.n 1) (.n 0) [(1,.s .x0,.x1),(1,.x2,.a (.n 1) .x0),(1,.s .x1,.x2)] rfl (sb3 (h0)) (Nat.le_of_eq k1) k2))
theorem zz279{a b:Nat}(h0:a<=1+(b-1))(h1:a>1):a<=b:=lin [a,b,(b-1)] 1 .x0 .x1 [(1,.x0,.a (.n 1) .x2),(1,.s .x2,.x1)] rfl h0 (sb3 (lin [b,a,(b-1)] 1 (.n 1) .x0 [(1,.x1,.a (.n 1) .x2),(1,.s (.n 1),.x1),(1,.x2,.x0)] rfl h0 h1 (Nat.sub_le b 1)))
theorem zz280{a:Nat}:0<=a:=lin [a] 1 (.n 0) .x0 [] rfl
theorem zz281{a b:Nat}(h0:a<b):a<=b-1:=lin [a,(b-1),b] 1 .x0 .x1 [(1,.s .x0,.x2),(1,.x2,.s .x1)] rfl h0 (sb2 b 1)
theorem zz282{a b:Nat}(h0:a<b):b-1<b:=sb3 (lin [b,a] 1 (.n 1) .x0 [(1,.s .x1,.x0)] rfl h0)
theorem zz283{a:Nat}(h0:a>1):1<=a:=lin [a] 1 (.n 1) .x0 [(1,.s (.n 1),.x0)] rfl h0
theorem zz284{a b:Nat}(h0:a<=1+(b-1))(h1:a≠b)(h2:a>1):a+1<=b:=Or.elim (Nat.lt_or_gt_of_ne h1) (fun k1=>k1) (fun k1=>lin [a,b,(b-1)] 1 (.s .x0) .x1 [(2,.x0,.a (.n 1) .x2),(2,.s .x2,.x1),(1,.s .x1,.x0)] rfl h0 (sb3 (lin [b,a,(b-1)] 1 (.n 1) .x0 [(1,.x1,.a (.n 1) .x2),(1,.s (.n 1),.x1),(1,.x2,.x0)] rfl h0 h2 (Nat.sub_le b 1))) k1)
theorem zz285{a b c:Nat}(h0:a<=b)(h1:c<=1+(a-1))(h2:c>1):c<=b:=lin [c,b,a,(a-1)] 1 .x0 .x1 [(1,.x2,.x1),(1,.x0,.a (.n 1) .x3),(1,.s .x3,.x2)] rfl h0 h1 (sb3 (lin [a,c,(a-1)] 1 (.n 1) .x0 [(1,.x1,.a (.n 1) .x2),(1,.s (.n 1),.x1),(1,.x2,.x0)] rfl h1 h2 (Nat.sub_le a 1)))
theorem zz286{a:Nat}:¬(0<=a/\a<a):=by lia
theorem zz287{a b:Nat}(h0:a<b):0+b-1-a<b:=lin [(((0+b)-1)-a),b,((0+b)-1)] 1 (.s .x0) .x1 [(1,.x0,.x2),(1,.s .x2,.a (.n 0) .x1)] rfl (Nat.sub_le ((0+b)-1) a) (sb3 (lin [b,a] 1 (.n 1) (.a (.n 0) .x0) [(1,.s .x1,.x0)] rfl h0))
theorem zz288{a:Nat}(h0:1<=a)(h1:¬(a>1)):a=1:=Nat.le_antisymm (Nat.le_of_not_lt h1) (h0)
theorem zz289 :1<=1:=lin [] 1 (.n 1) (.n 1) [] rfl
theorem zz290{a:Nat}(h0:1<=a)(h1:1≠a):1+1<=a:=Or.elim (Nat.lt_or_gt_of_ne h1) (fun k1=>k1) (fun k1=>lin [a] 1 (.s (.n 1)) .x0 [(2,.n 1,.x0),(1,.s .x0,.n 1)] rfl h0 k1)
theorem zz291{a b:Nat}(h0:a<=b)(h1:b<1+1):a=b\/a=0/\b=1:=by lia
theorem zz292 :0+1<=1+1:=lin [] 1 (.s (.n 0)) (.s (.n 1)) [] rfl
theorem zz293{a:Nat}(h0:1+1-(0+1)<=a)(h1:a<1+1):a=1:=Nat.le_antisymm (lin [a] 1 .x0 (.n 1) [(1,.s .x0,.s (.n 1))] rfl h1) (lin [a,((1+1)-(0+1))] 1 (.n 1) .x0 [(1,.x1,.x0),(1,.s (.n 1),.a .x1 (.s (.n 0)))] rfl h0 (sb2 (1+1) (0+1)))
theorem zz294{a b:Nat}(h0:a<=b)(h1:b-a<=0):a=b:=Nat.le_antisymm (h0) (lin [b,a,(b-a)] 1 .x0 .x1 [(1,.x2,.n 0),(1,.x0,.a .x2 .x1)] rfl h1 (sb2 b a))
theorem zz295{a b:Nat}(h0:a<=b)(h1:a≥b):a=b:=Nat.le_antisymm (h0) (h1)
theorem zz296{a b:Nat}(h0:¬(a≥b)):a<=(a+b)/2:=lin [a,((a+b)/2),b] 2 .x0 .x1 [(1,.s .x0,.x2),(1,.s (.a .x0 .x2),.a (.m 2 .x1) (.n 2))] rfl (Nat.lt_of_not_le h0) (dv2 (a+b) (Nat.le_of_ble_eq_true rfl))
theorem zz297{a b c:Nat}(h0:a<=b)(h1:¬(c≥a)):(c+a)/2<=b:=lin [((c+a)/2),b,a,c] 2 .x0 .x1 [(2,.x2,.x1),(1,.s .x3,.x2),(1,.m 2 .x0,.a .x3 .x2)] rfl h0 (Nat.lt_of_not_le h1) (Nat.mul_div_le (c+a) 2)
theorem zz298{a b c:Nat}(h0:a-b<=c+1):(b+a)/2-b<=c:=by lia
theorem zz299{a b:Nat}(h0:¬(a≥b)):(a+b)/2+1<=b:=lin [((a+b)/2),b,a] 2 (.s .x0) .x1 [(1,.s .x2,.x1),(1,.m 2 .x0,.a .x2 .x1)] rfl (Nat.lt_of_not_le h0) (Nat.mul_div_le (a+b) 2)
theorem zz300{a b c:Nat}(h0:a-b<=c+1):a-((b+a)/2+1)<=c:=(Nat.le_total a b).elim (fun h=>Nat.le_trans (Nat.le_of_eq (Nat.sub_eq_zero_of_le (Nat.le_succ_of_le ((Nat.le_div_iff_mul_le (by decide)).mpr (Nat.mul_two a▸Nat.add_le_add_right h a))))) (Nat.zero_le _)) fun h=>Nat.le_trans (Nat.sub_le_sub_left (Nat.succ_le_succ ((Nat.le_div_iff_mul_le (by decide)).mpr (Nat.mul_two b▸Nat.add_le_add_left h b))) a) (show a-b-1<=c from Nat.sub_le_of_le_add h0)
theorem zz301{a b c:Nat}(h0:a<(b+c)/2+1):a<=(b+c)/2:=lin [a,((b+c)/2)] 1 .x0 .x1 [(1,.s .x0,.s .x1)] rfl h0
theorem zz302{a b c:Nat}(h0:a<=b)(h1:¬(c≥a)):(c+a)/2<b:=lin [((c+a)/2),b,a,c] 2 (.s .x0) .x1 [(2,.x2,.x1),(1,.s .x3,.x2),(1,.m 2 .x0,.a .x3 .x2)] rfl h0 (Nat.lt_of_not_le h1) (Nat.mul_div_le (c+a) 2)
theorem zz303{a:Nat}:a-0<=a:=Nat.sub_le a 0
theorem zz304{a b:Nat}(h0:a<=b):¬(b<a):=Nat.not_lt_of_ge (h0)
theorem zz305{a b c:Nat}(h0:a+(b+1)<=c):a<c:=lin [a,c,b] 1 (.s .x0) .x1 [(1,.a .x0 (.s .x2),.x1)] rfl h0
theorem zz306{a b:Nat}:a-b<=a:=Nat.sub_le a b
theorem zz307{a b c:Nat}(h0:a=b)(h1:c<b):c+(b-c)<=a:=lin [c,(b-c),a,b] 1 (.a .x0 .x1) .x2 [(1,.x3,.x2),(1,.a .x1 .x0,.x3)] rfl (Nat.le_of_eq h0.symm) (sb3 (lin [c,b] 1 .x0 .x1 [(1,.s .x0,.x1)] rfl h1))
theorem zz308{a b:Nat}(h0:a<b):a+(b-a)=b:=Nat.le_antisymm (lin [a,(b-a),b] 1 (.a .x0 .x1) .x2 [(1,.a .x1 .x0,.x2)] rfl (sb3 (lin [a,b] 1 .x0 .x1 [(1,.s .x0,.x1)] rfl h0))) (lin [b,a,(b-a)] 1 .x0 (.a .x1 .x2) [(1,.x0,.a .x2 .x1)] rfl (sb2 b a))
theorem zz309{a b c:Nat}(h0:a+2*(b+1)+1<c):a<c:=lin [a,c,b] 1 (.s .x0) .x1 [(1,.s (.s (.a .x0 (.m 2 (.s .x2)))),.x1)] rfl h0
theorem zz310{a b:Nat}(h0:a+1<=b+1):a<=b:=lin [a,b] 1 .x0 .x1 [(1,.s .x0,.s .x1)] rfl h0
theorem zz311{a b c:Nat}(h0:a+2*(b+1)+1<c):a+1+2*b+1<c:=lin [a,b,c] 1 (.s (.s (.a (.s .x0) (.m 2 .x1)))) .x2 [(1,.s (.s (.a .x0 (.m 2 (.s .x1)))),.x2)] rfl h0
theorem zz312{a b:Nat}(h0:a=b)(h1:a<2):b<=16777216+1:=lin [b,a] 1 .x0 (.s (.n 16777216)) [(1,.x0,.x1),(1,.s .x1,.n 2)] rfl (Nat.le_of_eq h0.symm) h1
theorem zz313{a b c d:Nat}(h0:a=b)(h1:a<2)(h2:c<=d)(h3:d<b):c=d:=Nat.le_antisymm (h2) (lin [d,c,b,a] 1 .x0 .x1 [(1,.x2,.x3),(1,.s .x3,.n 2),(1,.s .x0,.x2)] rfl (Nat.le_of_eq h0.symm) h1 h3)
theorem zz314{a b:Nat}(h0:a=b)(h1:¬(a<2)):2<=b:=lin [b,a] 1 (.n 2) .x0 [(1,.x1,.x0),(1,.n 2,.x1)] rfl (Nat.le_of_eq h0) (Nat.le_of_not_lt h1)
theorem zz315{a b:Nat}(h0:a=b)(h1:¬(a<2)):1<=b:=lin [b,a] 1 (.n 1) .x0 [(1,.x1,.x0),(1,.n 2,.x1)] rfl (Nat.le_of_eq h0) (Nat.le_of_not_lt h1)
theorem zz316{a b:Nat}(h0:a=b)(h1:¬(a<2)):0<b:=lin [b,a] 1 (.s (.n 0)) .x0 [(1,.x1,.x0),(1,.n 2,.x1)] rfl (Nat.le_of_eq h0) (Nat.le_of_not_lt h1)
theorem zz317{a:Nat}(h0:a<64):a<=16777216+1:=lin [a] 1 .x0 (.s (.n 16777216)) [(1,.s .x0,.n 64)] rfl h0
theorem zz318{a b:Nat}(h0:a+30<b):a+1+18+1<b:=lin [a,b] 1 (.s (.s (.a (.s .x0) (.n 18)))) .x1 [(1,.s (.a .x0 (.n 30)),.x1)] rfl h0
theorem zz319{a b:Nat}(h0:a+65<b):a+1+1+40<b:=lin [a,b] 1 (.s (.a (.s (.s .x0)) (.n 40))) .x1 [(1,.s (.a .x0 (.n 65)),.x1)] rfl h0
theorem zz320{a b c:Nat}(h0:a<b):a<c\/c<b:=by lia
theorem zz321{a b:Nat}(h0:¬(a<b))(h1:¬(b<a)):a=b:=Nat.le_antisymm (Nat.le_of_not_lt h1) (Nat.le_of_not_lt h0)
theorem zz322{a b:Nat}(h0:a+40<b):a+30<b:=lin [a,b] 1 (.s (.a .x0 (.n 30))) .x1 [(1,.s (.a .x0 (.n 40)),.x1)] rfl h0
theorem zz323{a:Nat}(h0:a+1<=2):a<=9:=lin [a] 1 .x0 (.n 9) [(1,.s .x0,.n 2)] rfl h0
theorem zz324{a b:Nat}(h0:a-(b+1)=0)(h1:b+1<=a):b+1=a:=Nat.le_antisymm (h1) (lin [a,b,(a-(b+1))] 1 .x0 (.s .x1) [(1,.x2,.n 0),(1,.x0,.a .x2 (.s .x1))] rfl (Nat.le_of_eq h0) (sb2 a (b+1)))
theorem zz325{a b:Nat}(h0:a+1=b):b<=a+1:=Nat.le_of_eq h0.symm
theorem zz326{a b:Nat}(h0:a+1=b):b-1=a:=Nat.le_antisymm (lin [(b-1),a,b] 1 .x0 .x1 [(1,.x2,.s .x1),(1,.s .x0,.x2)] rfl (Nat.le_of_eq h0.symm) (sb3 (lin [b,a] 1 (.n 1) .x0 [(1,.s .x1,.x0)] rfl (Nat.le_of_eq h0)))) (lin [a,(b-1),b] 1 .x0 .x1 [(1,.s .x0,.x2),(1,.x2,.s .x1)] rfl (Nat.le_of_eq h0) (sb2 b 1))
theorem zz327{a b c:Nat}(h0:a-(b+1)=c+1):b+1<a:=sb4 a (b+1) (fun k1 k2=>lin [b,a,c,(a-(b+1))] 1 (.s (.s .x0)) .x1 [(1,.s .x2,.x3),(1,.a .x3 (.s .x0),.x1)] rfl (Nat.le_of_eq h0.symm) k2) (fun k1 k2=>absurd (lin [c,(a-(b+1))] 1 (.n 1) (.n 0) [(1,.s .x0,.x1),(1,.x1,.n 0)] rfl (Nat.le_of_eq h0.symm) k2) (Nat.not_succ_le_zero 0))
theorem zz328{a b c:Nat}(h0:a-(b+1)=c+1):a-(b+1+1)=c:=sb4 a (b+1) (fun k1 k2=>Nat.le_antisymm (lin [(a-((b+1)+1)),c,(a-(b+1)),a,b] 1 .x0 .x1 [(1,.x2,.s .x1),(1,.x3,.a .x2 (.s .x4)),(1,.a .x0 (.s (.s .x4)),.x3)] rfl (Nat.le_of_eq h0) (sb2 a (b+1)) (sb3 (lin [b,a,c,(a-(b+1))] 1 (.s (.s .x0)) .x1 [(1,.s .x2,.x3),(1,.a .x3 (.s .x0),.x1)] rfl (Nat.le_of_eq h0.symm) k2))) (lin [c,(a-((b+1)+1)),(a-(b+1)),a,b] 1 .x0 .x1 [(1,.s .x0,.x2),(1,.x3,.a .x1 (.s (.s .x4))),(1,.a .x2 (.s .x4),.x3)] rfl (Nat.le_of_eq h0.symm) (sb2 a ((b+1)+1)) k2)) (fun k1 k2=>absurd (lin [c,(a-(b+1))] 1 (.n 1) (.n 0) [(1,.s .x0,.x1),(1,.x1,.n 0)] rfl (Nat.le_of_eq h0.symm) k2) (Nat.not_succ_le_zero 0))
theorem zz329{a:Nat}(h0:a<=1):a+1<=2:=lin [a] 1 (.s .x0) (.n 2) [(1,.x0,.n 1)] rfl h0
theorem zz330{a:Nat}(h0:a<=2):a<=64:=lin [a] 1 .x0 (.n 64) [(1,.x0,.n 2)] rfl h0
theorem zz331{a:Nat}(h0:a<=2):a+1<=3:=lin [a] 1 (.s .x0) (.n 3) [(1,.x0,.n 2)] rfl h0
theorem zz332{a:Nat}(h0:a<=8):a<=9:=lin [a] 1 .x0 (.n 9) [(1,.x0,.n 8)] rfl h0
theorem zz333{a b:Nat}(h0:a<256)(h1:b=160\/b=a):b<256:=Or.elim h1 (fun k1=>lin [b] 1 (.s .x0) (.n 256) [(1,.x0,.n 160)] rfl (Nat.le_of_eq k1)) (fun k1=>lin [b,a] 1 (.s .x0) (.n 256) [(1,.s .x1,.n 256),(1,.x0,.x1)] rfl h0 (Nat.le_of_eq k1))
theorem zz334{a:Nat}:2+2*a=2*(a+1):=Nat.le_antisymm (lin [a] 1 (.a (.n 2) (.m 2 .x0)) (.m 2 (.s .x0)) [] rfl) (lin [a] 1 (.m 2 (.s .x0)) (.a (.n 2) (.m 2 .x0)) [] rfl)
theorem zz335{a b c:Nat}(h0:a<=5*b)(h1:c<=2):2*c+1+a<=5*(b+1):=lin [c,a,b] 1 (.a (.s (.m 2 .x0)) .x1) (.m 5 (.s .x2)) [(1,.x1,.m 5 .x2),(2,.x0,.n 2)] rfl h0 h1
theorem zz336{a b:Nat}(h0:a<=1114112)(h1:b<a):b<1114112:=lin [b,a] 1 (.s .x0) (.n 1114112) [(1,.x1,.n 1114112),(1,.s .x0,.x1)] rfl h0 h1
theorem zz337 :47<=47/\47<71:=⟨lin [] 1 (.n 47) (.n 47) [] rfl,lin [] 1 (.s (.n 47)) (.n 71) [] rfl⟩
theorem zz338{a:Nat}(h0:48<=a/\a<71):47<=a/\a<71:=⟨lin [a] 1 (.n 47) .x0 [(1,.n 48,.x0)] rfl h0.1,h0.2⟩
theorem zz339{a:Nat}(h0:a=47):a<71:=lin [a] 1 (.s .x0) (.n 71) [(1,.x0,.n 47)] rfl (Nat.le_of_eq h0)
theorem zz340{a b:Nat}(h0:a/16<b/16):a<b:=by lia
theorem zz341{a b:Nat}(h0:a/16=b/16)(h1:a%16<b%16):a<b:=by lia
theorem zz342{a b:Nat}(h0:a/16=b/16)(h1:a%16=b%16):a=b:=by lia
theorem zz343{a b:Nat}(h0:a<b)(h1:a/16≥b/16):a/16=b/16:=by lia
theorem zz344{a b:Nat}(h0:a<b)(h1:a/16≥b/16):a%16<b%16:=by lia
theorem zz345{a:Nat}(h0:48<=a/\a<71):47<a:=lin [a] 1 (.s (.n 47)) .x0 [(1,.n 48,.x0)] rfl h0.1
theorem zz346(h0:48<=47/\47<71):False:=Nat.not_succ_le_zero 0 (lin [] 1 (.n 1) (.n 0) [(1,.n 48,.n 47)] rfl h0.1)
theorem zz347{a:Nat}(h0:2*a=1):False:=by lia
theorem zz348{a:Nat}(h0:a<=9):a*4+a*1<=16777216:=by lia
theorem zz349{a:Nat}(h0:1+a<=60):a<=60:=lin [a] 1 .x0 (.n 60) [(1,.a (.n 1) .x0,.n 60)] rfl h0
theorem zz350{a b:Nat}(h0:a<b):a<=b:=lin [a,b] 1 .x0 .x1 [(1,.s .x0,.x1)] rfl h0
theorem zz351{a b:Nat}(h0:a<b):b-a=b-a-1+1:=Nat.le_antisymm (sb2 (b-a) 1) (sb3 (lin [(b-a),a,b] 1 (.n 1) .x0 [(1,.s .x1,.x2),(1,.x2,.a .x0 .x1)] rfl h0 (sb2 b a)))
theorem zz352{a b:Nat}(h0:¬(a<b))(h1:¬(b<a)):((a:Nat):Int)=((b:Nat):Int):=by lia
theorem zz353{a:Nat}:(0:Int)<=(((a:Nat):Int)+(1:Int)):=by lia
theorem zz354{a b:Nat}:(((a:Nat):Int)+(1:Int))<=((((a+1)+b):Nat):Int):=by lia
theorem zz355{a:Nat}(h0:((a:Nat):Int)<(1:Int)):a=0:=by lia
theorem zz356{a:Nat}(h0:¬(a=1)):¬(((a:Nat):Int)=(1:Int)):=by lia
theorem zz357{a:Nat}:a<=a+1-0:=lin [a,((a+1)-0)] 1 .x0 .x1 [(1,.s .x0,.a .x1 (.n 0))] rfl (sb2 (a+1) 0)
theorem zz358{a:Nat}(h0:48<=a/\a<71):a≠47:=Nat.ne_of_gt (lin [a] 1 (.s (.n 47)) .x0 [(1,.n 48,.x0)] rfl h0.1)
theorem zz359{a:Nat}(h0:48<=a/\a<71)(h1:a=47):False:=Nat.not_succ_le_zero 0 (lin [a] 1 (.n 1) (.n 0) [(1,.n 48,.x0),(1,.x0,.n 47)] rfl h0.1 (Nat.le_of_eq h1))
theorem zz360{a:Nat}(h0:48<=a/\a<71):¬(a=47):=Nat.ne_of_gt (lin [a] 1 (.s (.n 47)) .x0 [(1,.n 48,.x0)] rfl h0.1)
theorem zz361{a b:Nat}(h0:a-b=0)(h1:b<=a):b=a:=Nat.le_antisymm (h1) (lin [a,b,(a-b)] 1 .x0 .x1 [(1,.x2,.n 0),(1,.x0,.a .x2 .x1)] rfl (Nat.le_of_eq h0) (sb2 a b))
theorem zz362{a b c:Nat}(h0:a-b=c+1):b<a:=sb4 a b (fun k1 k2=>lin [b,a,c,(a-b)] 1 (.s .x0) .x1 [(1,.s .x2,.x3),(1,.a .x3 .x0,.x1)] rfl (Nat.le_of_eq h0.symm) k2) (fun k1 k2=>absurd (lin [c,(a-b)] 1 (.n 1) (.n 0) [(1,.s .x0,.x1),(1,.x1,.n 0)] rfl (Nat.le_of_eq h0.symm) k2) (Nat.not_succ_le_zero 0))
theorem zz363{a:Nat}(h0:1<=a):¬(a=0):=Nat.ne_of_gt (lin [a] 1 (.s (.n 0)) .x0 [(1,.n 1,.x0)] rfl h0)
theorem zz364{a b:Nat}:(((a:Nat):Int)=((b:Nat):Int))↔(a=b):=by lia
theorem zz365{a:Nat}:(¬(a=0))↔(0<a):=by lia
theorem zz366{a b:Nat}:a+1+b=a+b+1:=Nat.le_antisymm (lin [a,b] 1 (.a (.s .x0) .x1) (.s (.a .x0 .x1)) [] rfl) (lin [a,b] 1 (.s (.a .x0 .x1)) (.a (.s .x0) .x1) [] rfl)
theorem zz367 :¬(0<0):=Nat.not_lt_of_ge (lin [] 1 (.n 0) (.n 0) [] rfl)
theorem zz368{a:Nat}:0<a+1:=lin [a] 1 (.s (.n 0)) (.s .x0) [] rfl
theorem zz369{a b:Nat}(h0:a<b):a+1<b+1:=lin [a,b] 1 (.s (.s .x0)) (.s .x1) [(1,.s .x0,.x1)] rfl h0
theorem zz370{a b c d e:Nat}(h0:a+b<=c)(h1:c<=d)(h2:e+1<=b):a+e<d:=lin [a,e,d,b,c] 1 (.s (.a .x0 .x1)) .x2 [(1,.a .x0 .x3,.x4),(1,.x4,.x2),(1,.s .x1,.x3)] rfl h0 h1 h2
theorem zz371{a b:Nat}(h0:¬(a=0)):b+a-1+1=b+a:=Or.elim (Nat.lt_or_gt_of_ne h0) (fun k1=>Nat.le_antisymm (lin [((b+a)-1),b,a] 1 (.s .x0) (.a .x1 .x2) [(1,.x0,.a .x1 .x2),(1,.s .x2,.n 0)] rfl (Nat.sub_le (b+a) 1) k1) (sb2 (b+a) 1)) (fun k1=>Nat.le_antisymm (sb3 (lin [b,a] 1 (.n 1) (.a .x0 .x1) [(1,.s (.n 0),.x1)] rfl k1)) (sb2 (b+a) 1))
theorem zz372{a b c d e:Nat}(h0:a<=b)(h1:b+c<=d)(h2:e+1<=c):¬(b+e<a\/d<=b+e):=by lia
theorem zz373{a b:Nat}:a+b+1-(b+1)=a:=Nat.le_antisymm (lin [(((a+b)+1)-(b+1)),a,b] 1 .x0 .x1 [(1,.a .x0 (.s .x2),.s (.a .x1 .x2))] rfl (sb3 (lin [b,a] 1 (.s .x0) (.s (.a .x1 .x0)) [] rfl))) (lin [a,(((a+b)+1)-(b+1)),b] 1 .x0 .x1 [(1,.s (.a .x0 .x2),.a .x1 (.s .x2))] rfl (sb2 ((a+b)+1) (b+1)))
theorem zz374{a b:Nat}:a<=a+b:=lin [a,b] 1 .x0 (.a .x0 .x1) [] rfl
theorem zz375{a b c:Nat}(h0:a<b-c):c+a<b:=sb4 b c (fun k1 k2=>lin [c,a,b,(b-c)] 1 (.s (.a .x0 .x1)) .x2 [(1,.s .x1,.x3),(1,.a .x3 .x0,.x2)] rfl h0 k2) (fun k1 k2=>absurd (lin [a,(b-c)] 1 (.n 1) (.n 0) [(1,.s .x0,.x1),(1,.x1,.n 0)] rfl h0 k2) (Nat.not_succ_le_zero 0))
theorem zz376{a b c d:Nat}(h0:a<=b)(h1:b+c<=d):d-a=b-a+(c+(d-(b+c))):=Nat.le_antisymm (lin [(d-a),(b-a),c,(d-(b+c)),b,a,d] 1 .x0 (.a .x1 (.a .x2 .x3)) [(1,.x4,.a .x1 .x5),(1,.x6,.a .x3 (.a .x4 .x2)),(1,.a .x0 .x5,.x6)] rfl (sb2 b a) (sb2 d (b+c)) (sb3 (lin [a,d,b,c] 1 .x0 .x1 [(1,.x0,.x2),(1,.a .x2 .x3,.x1)] rfl h0 h1))) (lin [(b-a),c,(d-(b+c)),(d-a),d,a,b] 1 (.a .x0 (.a .x1 .x2)) .x3 [(1,.x4,.a .x3 .x5),(1,.a .x0 .x5,.x6),(1,.a .x2 (.a .x6 .x1),.x4)] rfl (sb2 d a) (sb3 (h0)) (sb3 (h1)))
theorem zz377{a b c d:Nat}(h0:0<a)(h1:b-c=d-c+(a+(b-(d+a)))):c+(d-c)=d:=sb4 b c (fun k1 k2=>Nat.le_antisymm (lin [c,(d-c),d,a,(b-(d+a)),(b-c),b] 1 (.a .x0 .x1) .x2 [(1,.a .x1 (.a .x3 .x4),.x5),(1,.x6,.a .x4 (.a .x2 .x3)),(1,.a .x5 .x0,.x6)] rfl (Nat.le_of_eq h1.symm) (sb2 b (d+a)) k2) (lin [d,c,(d-c)] 1 .x0 (.a .x1 .x2) [(1,.x0,.a .x2 .x1)] rfl (sb2 d c))) (fun k1 k2=>absurd (lin [a,(d-c),(b-(d+a)),(b-c)] 1 (.n 1) (.n 0) [(1,.s (.n 0),.x0),(1,.a .x1 (.a .x0 .x2),.x3),(1,.x3,.n 0)] rfl h0 (Nat.le_of_eq h1.symm) k2) (Nat.not_succ_le_zero 0))
theorem zz378{a b c d e:Nat}(h0:a-b=c-b+(d+(a-(c+d))))(h1:e<c-b):b+e<a:=sb4 a b (fun k1 k2=>lin [b,e,a,(c-b),d,(a-(c+d)),(a-b)] 1 (.s (.a .x0 .x1)) .x2 [(1,.a .x3 (.a .x4 .x5),.x6),(1,.s .x1,.x3),(1,.a .x6 .x0,.x2)] rfl (Nat.le_of_eq h0.symm) h1 k2) (fun k1 k2=>absurd (lin [(c-b),d,(a-(c+d)),(a-b),e] 1 (.n 1) (.n 0) [(1,.a .x0 (.a .x1 .x2),.x3),(1,.s .x4,.x0),(1,.x3,.n 0)] rfl (Nat.le_of_eq h0.symm) h1 k2) (Nat.not_succ_le_zero 0))
theorem zz379{a b c d:Nat}(h0:a+b=c+d)(h1:b<c-a):False:=sb4 c a (fun k1 k2=>Nat.not_succ_le_zero 0 (lin [c,d,a,b,(c-a)] 1 (.n 1) (.n 0) [(1,.a .x0 .x1,.a .x2 .x3),(1,.s .x3,.x4),(1,.a .x4 .x2,.x0)] rfl (Nat.le_of_eq h0.symm) h1 k2)) (fun k1 k2=>Nat.not_succ_le_zero 0 (lin [b,(c-a)] 1 (.n 1) (.n 0) [(1,.s .x0,.x1),(1,.x1,.n 0)] rfl h1 k2))
theorem zz380{a b c d e f:Nat}(h0:a<b-c)(h1:c+a=d+e)(h2:b+f<=d):False:=sb4 b c (fun k1 k2=>Nat.not_succ_le_zero 0 (lin [a,(b-c),d,e,c,b,f] 1 (.n 1) (.n 0) [(1,.s .x0,.x1),(1,.a .x2 .x3,.a .x4 .x0),(1,.a .x5 .x6,.x2),(1,.a .x1 .x4,.x5)] rfl h0 (Nat.le_of_eq h1.symm) h2 k2)) (fun k1 k2=>Nat.not_succ_le_zero 0 (lin [a,(b-c)] 1 (.n 1) (.n 0) [(1,.s .x0,.x1),(1,.x1,.n 0)] rfl h0 k2))
theorem zz381{a b:Nat}(h0:a=b):a-b=0:=Nat.le_antisymm (lin [(a-b),a,b] 1 .x0 (.n 0) [(1,.x1,.x2),(1,.a .x0 .x2,.x1)] rfl (Nat.le_of_eq h0) (sb3 (Nat.le_of_eq h0.symm))) (lin [(a-b)] 1 (.n 0) .x0 [] rfl)
theorem zz382{a b c d:Nat}(h0:0<a)(h1:b-c=d-c+(a+(b-(d+a))))(h2:¬(d=c)):0<d-c:=Or.elim (Nat.lt_or_gt_of_ne h2) (fun k1=>sb4 b c (fun k2 k3=>lin [(d-c),a,(b-(d+a)),(b-c),b,d,c] 1 (.s (.n 0)) .x0 [(1,.a .x0 (.a .x1 .x2),.x3),(1,.x4,.a .x2 (.a .x5 .x1)),(1,.s .x5,.x6),(1,.a .x3 .x6,.x4)] rfl (Nat.le_of_eq h1.symm) (sb2 b (d+a)) k1 k3) (fun k2 k3=>lin [(d-c),a,(b-(d+a)),(b-c)] 1 (.s (.n 0)) .x0 [(1,.s (.n 0),.x1),(1,.a .x0 (.a .x1 .x2),.x3),(1,.x3,.n 0)] rfl h0 (Nat.le_of_eq h1.symm) k3)) (fun k1=>lin [(d-c),d,c] 1 (.s (.n 0)) .x0 [(1,.x1,.a .x0 .x2),(1,.s .x2,.x1)] rfl (sb2 d c) k1)
theorem zz383{a b c d e:Nat}(h0:a-b=c-b+(d+(a-(c+d))))(h1:c+d<=e)(h2:e<a):b<=e:=Nat.not_lt.mp fun q=>absurd (Nat.sub_lt_sub_left (Nat.lt_of_le_of_lt h1 h2) (Nat.lt_of_le_of_lt h1 q)) (Nat.not_lt.mpr (Nat.le_trans (Nat.le_trans (Nat.le_add_left _ d) (Nat.le_add_left _ _)) (Nat.le_of_eq h0.symm)))
theorem zz384{a b c d e:Nat}(h0:0<a)(h1:b=c+a)(h2:c+a<=b/\d+a<=e/\(c+a<b\/d+a<e)):¬(d+a-1+1=e):=fun k1=>Or.elim h2.2.2 (fun k2=>Nat.not_succ_le_zero 0 (lin [b,c,a] 1 (.n 1) (.n 0) [(1,.x0,.a .x1 .x2),(1,.s (.a .x1 .x2),.x0)] rfl (Nat.le_of_eq h1) k2)) (fun k2=>Nat.not_succ_le_zero 0 (lin [((d+a)-1),d,a,e] 1 (.n 1) (.n 0) [(1,.s .x0,.a .x1 .x2),(1,.x3,.s .x0),(1,.s (.a .x1 .x2),.x3)] rfl (sb3 (lin [d,a] 1 (.n 1) (.a .x0 .x1) [(1,.s (.n 0),.x1)] rfl h0)) (Nat.le_of_eq k1.symm) k2))
theorem zz385{a b c d e:Nat}(h0:a<=b)(h1:c<=a)(h2:d=c)(h3:e=0):d+e<=b:=lin [d,e,b,a,c] 1 (.a .x0 .x1) .x2 [(1,.x3,.x2),(1,.x4,.x3),(1,.x0,.x4),(1,.x1,.n 0)] rfl h0 h1 (Nat.le_of_eq h2) (Nat.le_of_eq h3)
theorem zz386{a b c:Nat}(h0:a=b):b<=a+c:=lin [b,a,c] 1 .x0 (.a .x1 .x2) [(1,.x0,.x1)] rfl (Nat.le_of_eq h0.symm)
theorem zz387{a b c d e f:Nat}(h0:a<=b)(h1:c=d)(h2:e=f)(h3:d+f<=a):c+e<=b:=lin [c,e,b,a,d,f] 1 (.a .x0 .x1) .x2 [(1,.x3,.x2),(1,.x0,.x4),(1,.x1,.x5),(1,.a .x4 .x5,.x3)] rfl h0 (Nat.le_of_eq h1) (Nat.le_of_eq h2) h3
theorem zz388{a b c d e:Nat}(h0:a=b)(h1:b+c<=d)(h2:e<a):a-1<d:=lin [(a-1),d,a,b,c] 1 (.s .x0) .x1 [(1,.x2,.x3),(1,.a .x3 .x4,.x1),(1,.s .x0,.x2)] rfl (Nat.le_of_eq h0) h1 (sb3 (lin [a,e] 1 (.n 1) .x0 [(1,.s .x1,.x0)] rfl h2))
theorem zz389{a b c d:Nat}(h0:a<b)(h1:b-1=c+d)(h2:b=c):False:=Nat.not_succ_le_zero 0 (lin [c,d,(b-1),b] 1 (.n 1) (.n 0) [(1,.a .x0 .x1,.x2),(1,.x3,.x0),(1,.s .x2,.x3)] rfl (Nat.le_of_eq h1.symm) (Nat.le_of_eq h2) (sb3 (lin [b,a] 1 (.n 1) .x0 [(1,.s .x1,.x0)] rfl h0)))
theorem zz390k{b g e f:Nat}(h:b-1=g+e)(h2:e<f):¬g+f<b:=Nat.not_lt.mpr (Nat.le_trans (Nat.le_add_of_sub_le (Nat.le_of_eq h)) (Nat.add_le_add_left h2 g))
theorem zz390{a b c d e f g h:Nat}(h0:a=b)(h1:c=d)(h2:e<f)(h3:a-1=g+e)(h4:c-1=h+e)(h5:g+f<=b/\h+f<=d/\(g+f<b\/h+f<d)):False:=h5.2.2.elim (zz390k (h0▸h3) h2) (zz390k (h1▸h4) h2)
theorem zz391{a b c d e f g h:Nat}(h0:a=b)(h1:c<a)(h2:a-1=d+e)(h3:f+g<=h/\b+g<=d/\(f+g<h\/b+g<d)):False:=Nat.not_succ_le_zero 0 (lin [a,b,d,e,(a-1),g] 1 (.n 1) (.n 0) [(1,.x0,.x1),(1,.a .x2 .x3,.x4),(1,.a .x1 .x5,.x2),(1,.s .x4,.x0)] rfl (Nat.le_of_eq h0) (Nat.le_of_eq h2.symm) h3.2.1 (sb3 (lin [a,c] 1 (.n 1) .x0 [(1,.s .x1,.x0)] rfl h1)))
theorem zz392{a b c d:Nat}(h0:a=b)(h1:c<=b):c<=a+d:=lin [c,a,d,b] 1 .x0 (.a .x1 .x2) [(1,.x3,.x1),(1,.x0,.x3)] rfl (Nat.le_of_eq h0.symm) h1
theorem zz393{a b c d e:Nat}(h0:a<b)(h1:c+d=e+a)(h2:c=e)(h3:d=b):False:=Nat.not_succ_le_zero 0 (lin [a,b,c,d,e] 1 (.n 1) (.n 0) [(1,.s .x0,.x1),(1,.a .x2 .x3,.a .x4 .x0),(1,.x4,.x2),(1,.x1,.x3)] rfl h0 (Nat.le_of_eq h1) (Nat.le_of_eq h2.symm) (Nat.le_of_eq h3.symm))
theorem zz394{a b c d e f g h:Nat}(h0:a=b)(h1:c<d)(h2:a+e=f+c)(h3:g+d<=h/\f+d<=b/\(g+d<h\/f+d<b)):False:=Nat.not_succ_le_zero 0 (lin [b,a,c,d,e,f] 1 (.n 1) (.n 0) [(1,.x0,.x1),(1,.s .x2,.x3),(1,.a .x1 .x4,.a .x5 .x2),(1,.a .x5 .x3,.x0)] rfl (Nat.le_of_eq h0.symm) h1 (Nat.le_of_eq h2) h3.2.1)
theorem zz395{a b c d e f g h i:Nat}(h0:a=b)(h1:c=d)(h2:e=f)(h3:a+e=g+h)(h4:c+e=i+h)(h5:b+f<=g/\d+f<=i/\(b+f<g\/d+f<i)):False:=Or.elim h5.2.2 (fun k1=>Nat.not_succ_le_zero 0 (lin [a,b,e,f,g,h] 1 (.n 1) (.n 0) [(1,.x0,.x1),(1,.x2,.x3),(1,.a .x4 .x5,.a .x0 .x2),(1,.s (.a .x1 .x3),.x4)] rfl (Nat.le_of_eq h0) (Nat.le_of_eq h2) (Nat.le_of_eq h3.symm) k1)) (fun k1=>Nat.not_succ_le_zero 0 (lin [c,d,e,f,i,h] 1 (.n 1) (.n 0) [(1,.x0,.x1),(1,.x2,.x3),(1,.a .x4 .x5,.a .x0 .x2),(1,.s (.a .x1 .x3),.x4)] rfl (Nat.le_of_eq h1) (Nat.le_of_eq h2) (Nat.le_of_eq h4.symm) k1))
theorem zz396{a b c d:Nat}(h0:a+b<=c)(h1:c<=d):a<=d:=lin [a,d,b,c] 1 .x0 .x1 [(1,.a .x0 .x2,.x3),(1,.x3,.x1)] rfl h0 h1
theorem zz397{a b c d:Nat}(h0:a+b<=c)(h1:d<a):d<c:=lin [d,c,a,b] 1 (.s .x0) .x1 [(1,.a .x2 .x3,.x1),(1,.s .x0,.x2)] rfl h0 h1
theorem zz398{a b c:Nat}(h0:a+b<=c):a+b<=c:=h0
theorem zz399{a b c d:Nat}(h0:a<=b)(h1:b+c<=d):a<=d:=lin [a,d,b,c] 1 .x0 .x1 [(1,.x0,.x2),(1,.a .x2 .x3,.x1)] rfl h0 h1
theorem zz400{a b:Nat}(h0:a-b=0):a-b=0:=Nat.le_antisymm (Nat.le_of_eq h0) (lin [(a-b)] 1 (.n 0) .x0 [] rfl)
theorem zz401{a b c:Nat}(h0:a<=b):a+1<=2*c+1+b:=lin [a,c,b] 1 (.s .x0) (.a (.s (.m 2 .x1)) .x2) [(1,.x0,.x2)] rfl h0
theorem zz402{a b:Nat}(h0:a<b):a<b:=h0
theorem zz403{a b:Nat}(h0:a<b):a+1-b=0:=Nat.le_antisymm (sb5 (h0)) (lin [((a+1)-b)] 1 (.n 0) .x0 [] rfl)
theorem zz404{a:Nat}(h0:a<1):a=0:=Nat.le_antisymm (lin [a] 1 .x0 (.n 0) [(1,.s .x0,.n 1)] rfl h0) (lin [a] 1 (.n 0) .x0 [] rfl)
theorem zz405{a b:Nat}(h0:a+1<b+1):a<b:=lin [a,b] 1 (.s .x0) .x1 [(1,.s (.s .x0),.s .x1)] rfl h0
theorem zz406{a b c d e:Nat}(h0:a+1=b/\c+1=d):a+(e+1)=b+e:=Nat.le_antisymm (lin [a,e,b] 1 (.a .x0 (.s .x1)) (.a .x2 .x1) [(1,.s .x0,.x2)] rfl (Nat.le_of_eq h0.1)) (lin [b,e,a] 1 (.a .x0 .x1) (.a .x2 (.s .x1)) [(1,.x0,.s .x2)] rfl (Nat.le_of_eq h0.1.symm))
theorem zz407{a b c d e:Nat}(h0:a+1=b/\c+1=d):c+(e+1)=d+e:=Nat.le_antisymm (lin [c,e,d] 1 (.a .x0 (.s .x1)) (.a .x2 .x1) [(1,.s .x0,.x2)] rfl (Nat.le_of_eq h0.2)) (lin [d,e,c] 1 (.a .x0 .x1) (.a .x2 (.s .x1)) [(1,.x0,.s .x2)] rfl (Nat.le_of_eq h0.2.symm))
theorem zz408{a b c d e f g:Nat}(h0:a+1=b/\c+1=d)(h1:b+e<=f/\d+e<=g/\(b+e<f\/d+e<g)):a+(e+1)<=f/\c+(e+1)<=g/\(a+(e+1)<f\/c+(e+1)<g):=⟨lin [a,e,f,b] 1 (.a .x0 (.s .x1)) .x2 [(1,.s .x0,.x3),(1,.a .x3 .x1,.x2)] rfl (Nat.le_of_eq h0.1) h1.1,⟨lin [c,e,g,d] 1 (.a .x0 (.s .x1)) .x2 [(1,.s .x0,.x3),(1,.a .x3 .x1,.x2)] rfl (Nat.le_of_eq h0.2) h1.2.1,Or.elim h1.2.2 (fun k1=>.inl (lin [a,e,f,b] 1 (.s (.a .x0 (.s .x1))) .x2 [(1,.s .x0,.x3),(1,.s (.a .x3 .x1),.x2)] rfl (Nat.le_of_eq h0.1) k1)) (fun k1=>.inr (lin [c,e,g,d] 1 (.s (.a .x0 (.s .x1))) .x2 [(1,.s .x0,.x3),(1,.s (.a .x3 .x1),.x2)] rfl (Nat.le_of_eq h0.2) k1))⟩⟩
theorem zz409{a b c d:Nat}(h0:a<b+0/\c<d+0)(h1:¬(a+1=b/\c+1=d)):a+1<=b/\c+1<=d/\(a+1<b\/c+1<d):=by lia
theorem zz410{a b c d:Nat}(h0:a<b/\c<d):a<=b:=lin [a,b] 1 .x0 .x1 [(1,.s .x0,.x1)] rfl h0.1
theorem zz411{a:Nat}:0<=a-1:=lin [(a-1)] 1 (.n 0) .x0 [] rfl
theorem zz412{a b:Nat}(h0:a<=b):¬(b+1=a):=Nat.ne_of_gt (lin [a,b] 1 (.s .x0) (.s .x1) [(1,.x0,.x1)] rfl h0)
theorem zz413{a b:Nat}(h0:a<=b):¬(a=b+1):=Nat.ne_of_lt (lin [a,b] 1 (.s .x0) (.s .x1) [(1,.x0,.x1)] rfl h0)
theorem zz414{a b c d e:Nat}(h0:0<a)(h1:b+(a-1)<c)(h2:d+(a-1)<e):0<=b/\b+a<=c/\0<=d/\d+a<=e/\0<a:=⟨lin [b] 1 (.n 0) .x0 [] rfl,⟨lin [b,a,c,(a-1)] 1 (.a .x0 .x1) .x2 [(1,.s (.a .x0 .x3),.x2),(1,.x1,.s .x3)] rfl h1 (sb2 a 1),⟨lin [d] 1 (.n 0) .x0 [] rfl,⟨lin [d,a,e,(a-1)] 1 (.a .x0 .x1) .x2 [(1,.s (.a .x0 .x3),.x2),(1,.x1,.s .x3)] rfl h2 (sb2 a 1),h0⟩⟩⟩⟩
theorem zz415{a b c:Nat}(h0:a<=32)(h1:b<=a)(h2:c<=b):c<60:=lin [c,a,b] 1 (.s .x0) (.n 60) [(1,.x1,.n 32),(1,.x2,.x1),(1,.x0,.x2)] rfl h0 h1 h2
theorem zz416{a b:Nat}(h0:¬(a=b))(h1:¬(a<b)):b+1<=a:=Or.elim (Nat.lt_or_gt_of_ne h0) (fun k1=>lin [b,a] 1 (.s .x0) .x1 [(2,.x0,.x1),(1,.s .x1,.x0)] rfl (Nat.le_of_not_lt h1) k1) (fun k1=>k1)
theorem zz417{a b:Nat}(h0:¬(a<b)):b<=a:=Nat.le_of_not_lt h0
theorem zz418{a:Nat}(h0:¬((63:Int)<((a:Nat):Int))):a<=63:=by lia
end Mine.Internal
namespace Mine.Internal
open PySem PySem.W PyProof.Rows PySem.Calls PySem.Spec
noncomputable abbrev Le(g h:Heap):Prop:=∀b o,g.get? b=some o->h.get? b=some o
theorem Le.rfl'{g:Heap}:Le g g:=fun _ _ e=>e
theorem Le.tr{a b c:Heap}(x:Le a b)(y:Le b c):Le a c:=fun d o e=>y d o (x d o e)
structure St(h₀:Heap)(xt:List Addr)(g₀ g:Heap)(L:Addr)(N:List Str)(vs:List (Option Value))(mu:List (Addr×Obj))(h:Heap):Prop where
 len:vs.length=N.length
 ns:∃m,h.Ns L m/\∀(i:Nat) (x:Str),N[i]?=some x->m x=(vs[i]?).join
 base:∀b o,b∉xt->h₀.get? b=some o->h.get? b=some o
 keep:Le g h
 low:h₀.objs.size<=L
 outg:g.get? L=none
 mt:∀p∈mu,h.get? p.1=some p.2/\p.1≠L/\g.get? p.1=none/\(p.1∈xt\/h₀.objs.size<=p.1)
 nd:(mu.map (·.1)).Nodup
 mono:Le g₀ g
 fresh:∀b o,g.get? b=some o->g₀.get? b=none->h₀.objs.size<=b
structure Out(h₀:Heap)(xt:List Addr)(g₀ g' h':Heap):Prop where
 mono:Le g₀ g'
 keep:Le g' h'
 base:∀b o,b∉xt->h₀.get? b=some o->h'.get? b=some o
 fresh:∀b o,g'.get? b=some o->g₀.get? b=none->h₀.objs.size<=b
 size:h₀.objs.size<=h'.objs.size
section
variable{h₀ g₀ g h h':Heap}{xt:List Addr}{L:Addr}{N:List Str}{vs:List (Option Value)}{mu:List (Addr×Obj)}
theorem St.lt(F:St h₀ xt g₀ g L N vs mu h):L<h.objs.size:=let ⟨_,a,_⟩:=F.ns;a.lt
theorem St.out(F:St h₀ xt g₀ g L N vs mu h):Out h₀ xt g₀ g h:=⟨F.mono,F.keep,F.base,F.fresh,Nat.le_trans F.low (Nat.le_of_lt F.lt)⟩
theorem St.none_size(F:St h₀ xt g₀ g L N vs mu h):g.get? h.objs.size=none:=by
 cases q:g.get? h.objs.size with
 | none=>rfl
 | some o=>exact absurd (Heap.lt_size (F.keep _ _ q)) (Nat.lt_irrefl _)
theorem St.lowSz(F:St h₀ xt g₀ g L N vs mu h):h₀.objs.size<=h.objs.size:=F.out.size
theorem St.more(F:St h₀ xt g₀ g L N vs mu h)(k:Le h h'):St h₀ xt g₀ g L N vs mu h' where
 len:=F.len
 ns:=let ⟨m,a,b⟩:=F.ns;⟨m,a.keeps k,b⟩
 base:=fun b o hb e=>k b o (F.base b o hb e)
 keep:=F.keep.tr k
 low:=F.low
 outg:=F.outg
 mt:=fun p hp=>⟨k _ _ (F.mt p hp).1,(F.mt p hp).2⟩
 nd:=F.nd
 mono:=F.mono
 fresh:=F.fresh
noncomputable def only(h:Heap)(p:Addr->Bool):Heap:=⟨h.objs.mapIdx fun i o=>if p i then o else {o with data:=.freed},h.life⟩
theorem only_get(h:Heap)(p:Addr->Bool)(b:Addr):(only h p).get? b=if p b then h.get? b else none:=by
 unfold only Heap.get?
 simp only [Array.getElem?_mapIdx]
 cases q:h.objs[b]? with
 | none=>simp
 | some o =>
  simp only [Option.map_some]
  cases e:p b with
  | true=>simp
  | false=>simp
theorem only_le(h:Heap)(p:Addr->Bool):Le (only h p) h:=fun b o e=>by
 rw [only_get] at e
 split at e
 · exact e
 · cases e
theorem St.call(F:St h₀ xt g₀ g L N vs mu h){g':Heap}(o:Out h [] g g' h'):St h₀ xt g₀ g' L N vs mu h' where
 len:=F.len
 ns:=let ⟨m,a,b⟩:=F.ns;⟨m,a.keeps fun c x=>o.base c x (by simp),b⟩
 base:=fun b x hb e=>o.base b x (by simp) (F.base b x hb e)
 keep:=o.keep
 low:=F.low
 outg:=by
  cases q:g'.get? L with
  | none=>rfl
  | some x=>exact absurd (o.fresh L x q F.outg) (Nat.not_le.mpr F.lt)
 mt:=fun p hp=>⟨o.base _ _ (by simp) (F.mt p hp).1,(F.mt p hp).2.1,by
  cases q:g'.get? p.1 with
  | none=>rfl
  | some x=>exact absurd (o.fresh _ x q (F.mt p hp).2.2.1) (Nat.not_le.mpr (Heap.lt_size (F.mt p hp).1)),(F.mt p hp).2.2.2⟩
 nd:=F.nd
 mono:=F.mono.tr o.mono
 fresh:=fun b x e e0=>by
  cases q:g.get? b with
  | some y=>exact F.fresh b y q e0
  | none=>exact Nat.le_trans F.lowSz (o.fresh b x e q)
theorem out_of(kg:Le g h)(k:Le h h')(hs:h.objs.size<=h'.objs.size):Out h [] g (only h' fun b=>(g.get? b).isSome||decide (h.objs.size<=b)) h' where
 mono:=fun b o e=>by rw [only_get,e];simpa using k b o (kg b o e)
 keep:=only_le _ _
 base:=fun b o _ e=>k b o e
 fresh:=fun b o e e0=>by
  rw [only_get,e0] at e
  by_cases q:h.objs.size<=b
  · exact q
  · simp [q] at e
 size:=hs
theorem St.made(F:St h₀ xt g₀ g L N vs mu h)(o:Obj)(hf:autoParam (o.isFreed=false) au0) :
 ∃g',Le g g'/\g'.get? h.objs.size=some o/\St h₀ xt g₀ g' L N vs mu (h.push o):=by
 have k:Le h (h.push o):=fun b x e=>Heap.get?_push_of_some _ e
 have O:=out_of F.keep k (by rw [Heap.size_push];exact Nat.le_succ _)
 refine ⟨_,O.mono,?_,F.call O⟩
 rw [only_get]
 simp [Heap.get?_push_size h hf]
theorem St.own(F:St h₀ xt g₀ g L N vs mu h)(o:Obj)(hf:autoParam (o.isFreed=false) au0):St h₀ xt g₀ g L N vs ((h.objs.size,o)::mu) (h.push o) where
 len:=F.len
 ns:=(F.more (h':=h.push o) fun b x e=>Heap.get?_push_of_some _ e).ns
 base:=(F.more (h':=h.push o) fun b x e=>Heap.get?_push_of_some _ e).base
 keep:=(F.more (h':=h.push o) fun b x e=>Heap.get?_push_of_some _ e).keep
 low:=F.low
 outg:=F.outg
 mt:=fun p hp=>by
  rcases List.mem_cons.mp hp with rfl|hp
  · exact ⟨Heap.get?_push_size _ hf,Nat.ne_of_gt F.lt,F.none_size,.inr F.lowSz⟩
  · exact (F.more (h':=h.push o) fun b x e=>Heap.get?_push_of_some _ e).mt p hp
 nd:=by
  refine List.nodup_cons.mpr ⟨fun hm=>?_,F.nd⟩
  obtain ⟨p,hp,e⟩:=List.mem_map.mp hm
  have:=Heap.lt_size (F.mt p hp).1
  rw [e] at this
  exact Nat.lt_irrefl _ this
 mono:=F.mono
 fresh:=F.fresh
theorem St.turn(F:St h₀ xt g₀ g L N vs mu h){a:Addr}{o o':Obj}{pre post:List (Addr×Obj)}(e:mu=pre++(a,o)::post)(hs:Heap.SameBut a h h')(ha:h'.get? a=some o') :
 St h₀ xt g₀ g L N vs (pre++(a,o')::post) h':=by
 subst e
 have ma:=F.mt (a,o) (by simp)
 have nd:=F.nd
 rw [List.map_append,List.map_cons] at nd
 have n1:∀p∈pre,p.1≠a:=fun p hp q=>(List.nodup_append.mp nd).2.2 p.1 (List.mem_map_of_mem hp) a (.head _) q
 have n2:∀p∈post,p.1≠a:=fun p hp q=>(List.nodup_cons.mp (List.nodup_append.mp nd).2.1).1 (by have z:p.1∈post.map (·.1):=List.mem_map_of_mem hp;rwa [q] at z)
 exact {
  len:=F.len
  ns:=let ⟨m,x,y⟩:=F.ns;⟨m,x.sameBut hs (Ne.symm ma.2.1),y⟩
  base:=fun b o hb e=>by
   have ne:b≠a:=fun q=>by
    subst q
    rcases ma.2.2.2 with z|z
    · exact hb z
    · exact absurd (Heap.lt_size e) (Nat.not_lt.mpr z)
   exact (hs.2 b ne).trans (F.base b o hb e)
  keep:=fun b o e=>by
   have ne:b≠a:=fun q=>by subst q;rw [ma.2.2.1] at e;cases e
   exact (hs.2 b ne).trans (F.keep b o e)
  low:=F.low
  outg:=F.outg
  mt:=fun p hp=>by
   rcases List.mem_append.mp hp with q|q
   · have P:=F.mt p (List.mem_append_left _ q)
     exact ⟨(hs.2 _ (n1 p q)).trans P.1,P.2⟩
   · rcases List.mem_cons.mp q with rfl|q
     · exact ⟨ha,ma.2⟩
     · have P:=F.mt p (List.mem_append_right _ (.tail _ q))
       exact ⟨(hs.2 _ (n2 p q)).trans P.1,P.2⟩
  nd:=by rw [List.map_append,List.map_cons];exact nd
  mono:=F.mono
  fresh:=F.fresh}
theorem St.freeze(F:St h₀ xt g₀ g L N vs mu h){a:Addr}{o:Obj}{pre post:List (Addr×Obj)}(e:mu=pre++(a,o)::post)(ha:h₀.objs.size<=a) :
 ∃g',Le g g'/\g'.get? a=some o/\St h₀ xt g₀ g' L N vs (pre++post) h:=by
 subst e
 have ma:=F.mt (a,o) (by simp)
 have nd:=F.nd
 rw [List.map_append,List.map_cons] at nd
 have n1:∀p∈pre,p.1≠a:=fun p hp q=>(List.nodup_append.mp nd).2.2 p.1 (List.mem_map_of_mem hp) a (.head _) q
 have n2:∀p∈post,p.1≠a:=fun p hp q=>(List.nodup_cons.mp (List.nodup_append.mp nd).2.1).1 (by have z:p.1∈post.map (·.1):=List.mem_map_of_mem hp;rwa [q] at z)
 let g':=only h fun b=>(g.get? b).isSome||decide (b=a)
 have get (b:Addr) (hb:b≠a):g'.get? b=g.get? b:=by
  show (only _ _).get? b=_
  rw [only_get]
  cases q:g.get? b with
  | none=>simp [hb]
  | some x=>simp [F.keep b x q]
 refine ⟨g',fun b x q=>?_,?_,?_⟩
 · show (only _ _).get? b=_
   rw [only_get,q]
   simpa using F.keep b x q
 · show (only _ _).get? a=_
   rw [only_get]
   simp [ma.1]
 · exact {
    len:=F.len
    ns:=F.ns
    base:=F.base
    keep:=only_le _ _
    low:=F.low
    outg:=by rw [get L (Ne.symm ma.2.1)];exact F.outg
    mt:=fun p hp=>by
     have q:p∈pre++(a,o)::post:=(List.mem_append.mp hp).elim (fun x=>List.mem_append_left _ x) fun x=>List.mem_append_right _ (.tail _ x)
     have P:=F.mt p q
     have ne:p.1≠a:=(List.mem_append.mp hp).elim (n1 p) (n2 p)
     exact ⟨P.1,P.2.1,by rw [get _ ne];exact P.2.2.1,P.2.2.2⟩
    nd:=by
     rw [List.map_append]
     have:=List.nodup_append.mp nd
     exact List.nodup_append.mpr ⟨this.1,(List.nodup_cons.mp this.2.1).2,fun x hx y hy=>this.2.2 x hx y (.tail _ hy)⟩
    mono:=fun b x q=>by
     show (only _ _).get? b=_
     rw [only_get,F.mono b x q]
     simpa using F.keep b x (F.mono b x q)
    fresh:=fun b x q q0=>by
     by_cases e:b=a
     · subst e;exact ha
     · rw [get b e] at q;exact F.fresh b x q q0}
theorem St.set(F:St h₀ xt g₀ g L N vs mu h){m m':Str->Option Value}{x:Str}{v:Value}{i:Nat}(hx:N[i]?=some x)(hN:N.Nodup)
 (hm:h.Ns L m) (hn:h'.Ns L m') (hs:Heap.SameBut L h h') (e:m'=fun y=>if y=x then some v else m y):St h₀ xt g₀ g L N (vs.set i (some v)) mu h' where
 len:=by rw [List.length_set];exact F.len
 ns:=⟨m',hn,fun j y hy=>by
  subst e
  obtain ⟨m₀,hm₀,hv⟩:=F.ns
  have em:m₀=m:=by
   obtain ⟨o,es,ep,a1,a2,a3,a4⟩:=hm₀
   obtain ⟨o',es',ep',b1,b2,b3,b4⟩:=hm
   rw [a1] at b1;cases b1
   rw [a2] at b2;cases b2
   funext z;rw [←a4 z,←b4 z]
  subst em
  obtain ⟨li,ei⟩:=List.getElem?_eq_some_iff.mp hx
  obtain ⟨lj,ej⟩:=List.getElem?_eq_some_iff.mp hy
  by_cases q:j=i
  · subst q
    have:y=x:=by rw [←ei,←ej]
    subst this
    simp [F.len,li]
  · have ne:y≠x:=fun z=>q ((List.getElem_inj hN).mp (ej.trans (z.trans ei.symm)))
    simp only [if_neg ne]
    rw [hv j y hy,List.getElem?_set_ne (Ne.symm q)]⟩
 base:=fun b o hb e'=>(hs.2 b (fun q=>absurd (Heap.lt_size e') (Nat.not_lt.mpr (q▸F.low)))).trans (F.base b o hb e')
 keep:=fun b o e'=>(hs.2 b (fun q=>by subst q;rw [F.outg] at e';cases e')).trans (F.keep b o e')
 low:=F.low
 outg:=F.outg
 mt:=fun p hp=>⟨(hs.2 _ (F.mt p hp).2.1).trans (F.mt p hp).1,(F.mt p hp).2⟩
 nd:=F.nd
 mono:=F.mono
 fresh:=F.fresh
end
structure Cx(env:Env)(N Gl:List Str):Prop where
 kind:env.scope.kind=.function
 nodup:N.Nodup
 loc:∀(i:Nat) (x:Str),N[i]?=some x->env.kindOf x=some .local/\(x==("__debug__":Str))=false
 glob:∀x∈Gl,env.kindOf x=some .globalImplicit/\(x==("__debug__":Str))=false
 globals:env.globals=mainGlobals
 builtins:env.builtins=builtinsNs
noncomputable def named(sc:Scope)(k:NameKind)(x:Str):Bool:=decide (sc.names.lookup x=some k)&&!(x==("__debug__":Str))
noncomputable def chk(fd:FuncData)(ps rest Gl:List Str):Bool :=
 decide (fd.scope.kind=.function)&&!fd.scope.isCoroutine&&!fd.scope.isGenerator&&decide (ps++rest).Nodup&&(ps++rest).all (named fd.scope .local)&&Gl.all (named fd.scope .globalImplicit) &&
 fd.scope.names.all (fun x=>decide (x.2≠.cell))&&decide (fd.globals=mainGlobals)&&decide (fd.builtins=builtinsNs)
structure Ok(A:Around)(n:Nat):Prop where
 handled:A.handled=none
 depth:A.depth+8*n<900
 units:A.units+24*n<9800
theorem Ok.room{A:Around}{n:Nat}(h:Ok A n):A.depth<recursionLimit:=by have:=h.depth;unfold recursionLimit;exact zz8 this
theorem Ok.c{A:Around}{n:Nat}(h:Ok A n):A.units+65<cLine:=by have:=h.units;unfold cLine;exact zz9 this
theorem Ok.deeper{A:Around}{n:Nat}{env:Env}(h:Ok A (n+1)):Ok (A.deeper env) n:=⟨h.handled,by have:=h.depth;show A.depth+1+8*n<900;exact zz10 this,by have:=h.units;show A.units+3+24*n<9800;exact zz11 this⟩
theorem Ok.in1{A:Around}{n:Nat}(h:Ok A (n+1)):Ok A.in1 n:=⟨h.handled,by have:=h.depth;show A.depth+8*n<900;exact zz12 this,by have:=h.units;show A.units+1+24*n<9800;exact zz13 this⟩
theorem Ok.le{A:Around}{n m:Nat}(h:Ok A n)(q:m<=n):Ok A m:=⟨h.handled,by have:=h.depth;exact zz14 q this,by have:=h.units;exact zz15 q this⟩
section
variable{prog:Program}{w:World}{A:Around}{E:Value->Shared->Prop}{s:Shared}{env:Env}
variable{h₀ g₀ g:Heap}{xt:List Addr}{N Gl:List Str}{vs:List (Option Value)}{mu:List (Addr×Obj)}
theorem ldI(C:Cx env N Gl)(F:St h₀ xt g₀ g env.locals N vs mu s.heap)(i:Nat){x:Str}{pos:Pos}{v:Value}{Q:Value->Shared->Prop}(hx:N[i]?=some x)(hv:vs[i]?=some (some v))(h:Q v s) :
 wpAny (model prog w) A (eval (.Name x pos) env) Q E s:=by
 obtain ⟨m,hm,hl⟩:=F.ns
 exact wpAny_Name (wpAny_loadName_local C.kind (C.loc i x hx).1 hm (by rw [hl i x hx,hv];rfl) h) (C.loc i x hx).2
theorem ldnI(C:Cx env N Gl)(F:St h₀ xt g₀ g env.locals N vs mu s.heap)(i:Nat){x:Str}{v:Value}{Q:Value->Shared->Prop}(hx:N[i]?=some x)(hv:vs[i]?=some (some v))(h:Q v s) :
 wpAny (model prog w) A (loadName env x) Q E s:=by
 obtain ⟨m,hm,hl⟩:=F.ns
 exact wpAny_loadName_local C.kind (C.loc i x hx).1 hm (by rw [hl i x hx,hv];rfl) h
theorem stI(C:Cx env N Gl)(F:St h₀ xt g₀ g env.locals N vs mu s.heap)(i:Nat){x:Str}{v:Value}{Q:Unit->Shared->Prop}(hx:N[i]?=some x)
 (h:∀h',St h₀ xt g₀ g env.locals N (vs.set i (some v)) mu h'->Q () {s with heap:=h',toks:=s.toks+1}):wpAny (model prog w) A (storeName env x v) Q E s:=by
 obtain ⟨m,hm,hl⟩:=F.ns
 exact wpAny_storeName_local (C.loc i x hx).1 hm (fun h' hn hs=>h h' (F.set hx C.nodup hm hn hs rfl)) (by rw [C.kind];rfl)
end
section
variable{prog:Program}{w:World}{A:Around}{E:Value->Shared->Prop}{s:Shared}{env:Env}
variable{h₀ g₀ g:Heap}{xt:List Addr}{nr Gl:List Str}{vr:List (Option Value)}{mu:List (Addr×Obj)}{x:Str}{pos:Pos}{v:Value}{u:Option Value}
theorem ld0{Q:Value->Shared->Prop}(C:Cx env (x::nr) Gl)(F:St h₀ xt g₀ g env.locals (x::nr) (some v::vr) mu s.heap)(h:Q v s):wpAny (model prog w) A (eval (.Name x pos) env) Q E s:=ldI C F 0 rfl rfl h
theorem st0{Q:Unit->Shared->Prop}(C:Cx env (x::nr) Gl)(F:St h₀ xt g₀ g env.locals (x::nr) (u::vr) mu s.heap)(h:∀h',St h₀ xt g₀ g env.locals (x::nr) (some v::vr) mu h'->Q () {s with heap:=h',toks:=s.toks+1}):wpAny (model prog w) A (storeName env x v) Q E s:=stI C F 0 rfl h
theorem ld1{n0:Str}{v0:Option Value}{Q:Value->Shared->Prop}(C:Cx env (n0::x::nr) Gl)(F:St h₀ xt g₀ g env.locals (n0::x::nr) (v0::some v::vr) mu s.heap)(h:Q v s):wpAny (model prog w) A (eval (.Name x pos) env) Q E s:=ldI C F 1 rfl rfl h
theorem st1{n0:Str}{v0:Option Value}{Q:Unit->Shared->Prop}(C:Cx env (n0::x::nr) Gl)(F:St h₀ xt g₀ g env.locals (n0::x::nr) (v0::u::vr) mu s.heap)(h:∀h',St h₀ xt g₀ g env.locals (n0::x::nr) (v0::some v::vr) mu h'->Q () {s with heap:=h',toks:=s.toks+1}):wpAny (model prog w) A (storeName env x v) Q E s:=stI C F 1 rfl h
theorem ld2{n0 n1:Str}{v0 v1:Option Value}{Q:Value->Shared->Prop}(C:Cx env (n0::n1::x::nr) Gl)(F:St h₀ xt g₀ g env.locals (n0::n1::x::nr) (v0::v1::some v::vr) mu s.heap)(h:Q v s):wpAny (model prog w) A (eval (.Name x pos) env) Q E s:=ldI C F 2 rfl rfl h
theorem st2{n0 n1:Str}{v0 v1:Option Value}{Q:Unit->Shared->Prop}(C:Cx env (n0::n1::x::nr) Gl)(F:St h₀ xt g₀ g env.locals (n0::n1::x::nr) (v0::v1::u::vr) mu s.heap)(h:∀h',St h₀ xt g₀ g env.locals (n0::n1::x::nr) (v0::v1::some v::vr) mu h'->Q () {s with heap:=h',toks:=s.toks+1}):wpAny (model prog w) A (storeName env x v) Q E s:=stI C F 2 rfl h
theorem ld3{n0 n1 n2:Str}{v0 v1 v2:Option Value}{Q:Value->Shared->Prop}(C:Cx env (n0::n1::n2::x::nr) Gl)(F:St h₀ xt g₀ g env.locals (n0::n1::n2::x::nr) (v0::v1::v2::some v::vr) mu s.heap)(h:Q v s):wpAny (model prog w) A (eval (.Name x pos) env) Q E s:=ldI C F 3 rfl rfl h
end
noncomputable def Gives(prog:Program)(w:World)(A:Around)(c:Code)(s:Shared)(xt:List Addr)(g:Heap)(P:Heap->Heap->Value->Prop):Prop :=
 ∀R:Result->Shared->Prop,(∀g' h' t' v,Out s.heap xt g g' h'->P g' h' v->R (.ok (.ret v)) {s with heap:=h',toks:=t'})->codeAny (model prog w) A c R s
noncomputable def Ends(s:Shared)(xt:List Addr)(g:Heap)(P:Heap->Heap->Value->Prop)(fl:Flow)(s':Shared):Prop :=
 ∃g' h' t',s'={s with heap:=h',toks:=t'}/\Out s.heap xt g g' h'/\P g' h' (match fl with|.ret v=>v|_=>.none)
theorem Gives.mono{prog:Program}{w:World}{A:Around}{c:Code}{s:Shared}{xt:List Addr}{g:Heap}{P P':Heap->Heap->Value->Prop}(x:Gives prog w A c s xt g P)(h:∀g' h' v,P g' h' v->P' g' h' v):Gives prog w A c s xt g P' :=
 fun R hR=>x R fun g' h' t' v o p=>hR g' h' t' v o (h g' h' v p)
theorem lookup_binds:∀{ps:List Str} {as:List Value} (rest:List Str),(ps++rest).Nodup->ps.length=as.length->∀(i:Nat) (x:Str),(ps++rest)[i]?=some x ->
 (ps.zip as).reverse.lookup x=((as.map some++rest.map fun _=>(none:Option Value))[i]?).join:=by
 intro ps as rest hn hl i x hx
 have key:∀(l:List (Str×Value)) (y:Str) (v:Value),(l.map (·.1)).Nodup->(y,v)∈l->l.lookup y=some v:=by
  intro l
  induction l with
  | nil=>intro y v _ h;cases h
  | cons p l ih =>
   intro y v hn hm
   obtain ⟨a,b⟩:=p
   rw [List.map_cons,List.nodup_cons] at hn
   rcases List.mem_cons.mp hm with e|hm
   · cases e;simp [List.lookup]
   · have ne:(y==a)=false:=beq_eq_false_iff_ne.mpr fun q=>hn.1 (q▸List.mem_map_of_mem (f:=(·.1)) hm)
     rw [List.lookup_cons,ne]
     exact ih y v hn.2 hm
 have keyN:∀(l:List (Str×Value)) (y:Str),y∉l.map (·.1)->l.lookup y=none:=by
  intro l
  induction l with
  | nil=>intro y _;rfl
  | cons p l ih =>
   intro y hy
   obtain ⟨a,b⟩:=p
   rw [List.map_cons,List.mem_cons,not_or] at hy
   have ne:(y==a)=false:=beq_eq_false_iff_ne.mpr hy.1
   rw [List.lookup_cons,ne]
   exact ih y hy.2
 have fst:(ps.zip as).map (·.1)=ps:=List.map_fst_zip (Nat.le_of_eq hl)
 have hnp:=(List.nodup_append.mp hn).1
 by_cases q:i<ps.length
 · have qa:i<as.length:=hl▸q
   rw [List.getElem?_append_left q] at hx
   rw [List.getElem?_append_left (by simpa using qa),List.getElem?_map,List.getElem?_eq_getElem qa]
   refine key _ x as[i] ?_ ?_
   · rw [List.map_reverse,fst];exact List.pairwise_reverse.mpr (hnp.imp Ne.symm)
   · rw [List.mem_reverse]
     obtain ⟨li,e⟩:=List.getElem?_eq_some_iff.mp hx
     rw [←e]
     exact List.mem_iff_getElem.mpr ⟨i,by rw [List.length_zip];lia,by simp⟩
 · have q':ps.length<=i:=Nat.le_of_not_lt q
   rw [List.getElem?_append_right q'] at hx
   have e0:((as.map some++rest.map fun _=>(none:Option Value))[i]?).join=none:=by
    rw [List.getElem?_append_right (by simpa [←hl] using q'),List.getElem?_map]
    cases (rest[i-(as.map some).length]?)<;>rfl
   rw [e0]
   refine keyN _ x ?_
   rw [List.map_reverse,fst,List.mem_reverse]
   intro hm
   exact (List.nodup_append.mp hn).2.2 x hm x (List.mem_of_getElem? hx) rfl
theorem chk_cx{fd:FuncData}{ps rest Gl:List Str}(h:chk fd ps rest Gl=true)(L a:Addr):Cx (callEnv fd L a) (ps++rest) Gl:=by
 simp only [chk,Bool.and_eq_true,decide_eq_true_eq,List.all_eq_true,named,Bool.not_eq_true'] at h
 obtain ⟨⟨⟨⟨⟨⟨⟨⟨h1,h2⟩,h3⟩,h4⟩,h5⟩,h6⟩,h7⟩,h8⟩,h9⟩:=h
 exact ⟨h1,h4,fun i x hx=>h5 x (List.mem_of_getElem? hx),fun x hx=>h6 x hx,h8,h9⟩
theorem Gives.enter{prog:Program}{w:World}{A:Around}{s:Shared}{xt:List Addr}{g:Heap}{P:Heap->Heap->Value->Prop}{fa:Addr}{fd:FuncData}{body:List Stmt}{args:Args}{n:Nat}
 (as:List Value) (ps rest Gl:List Str) (mu:List (Addr×Obj)) {o:Obj}
 (ho:s.heap.get? fa=some o) (hdata:o.data=.func fd) (hlim:s.heap.NoLimit) (hcd:s.heap.CodeRec fd.code fd.qualname) (hA:Ok A (n+1))
 (hbody:fd.body=.stmts body) (hbind:BindsTo s fd args (ps.zip as)) (hl:ps.length=as.length) (hc:chk fd ps rest Gl=true)
 (kg:Le g s.heap) (hmu:∀p∈mu,s.heap.get? p.1=some p.2/\g.get? p.1=none/\p.1∈xt) (hnd:(mu.map (·.1)).Nodup)
 (h:∀h₁ env A' t',Ok A' n->Cx env (ps++rest) Gl->St s.heap xt g g env.locals (ps++rest) (as.map some++rest.map fun _=>none) mu h₁ ->
  wpAny (model prog w) A' (execs body env) (Ends s xt g P) (fun _ _=>False) {s with heap:=h₁,toks:=t'}) :
 Gives prog w A (.call (.ref fa) args) s xt g P:=by
 have C:=chk_cx hc s.heap.objs.size fa
 simp only [chk,Bool.and_eq_true,decide_eq_true_eq,List.all_eq_true,named,Bool.not_eq_true'] at hc
 obtain ⟨⟨⟨⟨⟨⟨⟨⟨c1,c2⟩,c3⟩,c4⟩,c5⟩,c6⟩,c7⟩,c8⟩,c9⟩:=hc
 intro R hR
 refine codeAny_call_def hA.room ho hdata hlim hcd hbody hbind c7 (fun x hx=>(c5 _ (List.mem_append_left _ (List.of_mem_zip hx).1)).1) (fun h₁ hns k=>?_) c2 c3 c1
 have hlt:∀b o,s.heap.get? b=some o->b≠s.heap.objs.size:=fun b o e=>Nat.ne_of_lt (Heap.lt_size e)
 refine wpAny_mono (h h₁ (callEnv fd s.heap.objs.size fa) _ _ hA.deeper C ⟨?_,⟨_,hns,lookup_binds rest c4 hl⟩,fun b o _ e=>k b o e,kg.tr k,Nat.le_refl _,?_,?_,hnd,Le.rfl',?_⟩) (fun fl s' e=>?_) fun _ _ e=>e.elim
 · simp [hl]
 · show g.get? s.heap.objs.size=none
   cases q:g.get? s.heap.objs.size with
   | none=>rfl
   | some o=>exact absurd (Heap.lt_size (kg _ _ q)) (Nat.lt_irrefl _)
 · exact fun p hp=>⟨k _ _ (hmu p hp).1,hlt _ _ (hmu p hp).1,(hmu p hp).2.1,.inl (hmu p hp).2.2⟩
 · intro b o e e0
   rw [e] at e0;cases e0
 · obtain ⟨g',h',t',rfl,o,p⟩:=e
   exact hR g' h' t' _ o p
section
variable{prog:Program}{w:World}{A:Around}{E:Value->Shared->Prop}{s:Shared}{env:Env}
variable{h₀ g₀ g:Heap}{xt:List Addr}{L:Addr}{N Gl:List Str}{vs:List (Option Value)}{mu:List (Addr×Obj)}
theorem call_c{f:Value}{args:List Value}{kw:List (Str×Value)}{P:Heap->Heap->Value->Prop}{Q:Value->Shared->Prop}(F:St h₀ xt g₀ g L N vs mu s.heap)(G:Gives prog w A (.call f ⟨args,kw⟩) s [] g P)
 (h:∀g' h' t' v,Le g g'->St h₀ xt g₀ g' L N vs mu h'->P g' h' v->Q v {s with heap:=h',toks:=t'}):wpAny (model prog w) A (call f args kw) Q E s :=
 wpAny_call (G _ fun g' h' t' v o p=>h g' h' t' v o.mono (F.call o) p)
theorem ends{g' h':Heap}{t':Nat}{P:Heap->Heap->Value->Prop}{v:Value}(F:St s.heap xt g g' L N vs mu h')(p:P g' h' v):Ends s xt g P (.ret v) {s with heap:=h',toks:=t'}:=⟨g',h',t',rfl,F.out,p⟩
theorem gname{mg:Str->Option Value}{x:Str}{pos:Pos}{v:Value}{Q:Value->Shared->Prop}(C:Cx env N Gl)(hx:x∈Gl)(hg:s.heap.Ns mainGlobals mg)(hv:mg x=some v)(h:Q v s) :
 wpAny (model prog w) A (eval (.Name x pos) env) Q E s :=
 Name_function_global C.kind (C.glob x hx).1 (loadGlobal_global (by rw [C.globals];exact hg) hv h) (C.glob x hx).2
theorem bname{mg mb:Str->Option Value}{x:Str}{pos:Pos}{v:Value}{Q:Value->Shared->Prop}(C:Cx env N Gl)(hx:x∈Gl)(hg:s.heap.Ns mainGlobals mg)(hm:mg x=none)
 (hb:s.heap.Ns builtinsNs mb) (hv:mb x=some v) (h:Q v s):wpAny (model prog w) A (eval (.Name x pos) env) Q E s :=
 Name_function_global C.kind (C.glob x hx).1 (loadGlobal_builtin (by rw [C.globals];exact hg) hm (by rw [C.builtins];exact hb) hv h) (C.glob x hx).2
end
noncomputable abbrev pw:Program:=PySem.Challenge.pw_ik0100_01
noncomputable def nth:List Stmt->Nat->Stmt
 | [],_=>.Pass default
 | s::_,0=>s
 | _::r,n+1=>nth r n
noncomputable def inside:Stmt->List Stmt
 | .ClassDef _ _ _ b _ _ _ _ _ _ _=>b
 | _=>[]
noncomputable def parOf:Stmt->Arguments
 | .FunctionDef _ a _ _ _ _ _ _ _ _=>a
 | _=>⟨[],[],none,[],[],none,[]⟩
noncomputable def bodyOf:Stmt->List Stmt
 | .FunctionDef _ _ b _ _ _ _ _ _ _=>b
 | _=>[]
noncomputable def scopeOf:Stmt->Scope
 | .FunctionDef _ _ _ _ _ _ sc _ _ _=>sc
 | _=>default
noncomputable def docIn:List Stmt->Str
 | .Expr (.Constant (.str s) _ _) _::_=>s
 | _=>Str.empty
noncomputable def docV(st:Stmt)(t:Tok):Value:=.str (docIn (bodyOf st)) t
noncomputable def fdMk(st:Stmt)(name qual:Str)(dflt doc:Value)(mod:Str)(mt:Tok)(code:Addr):FuncData:={name:=name,qualname:=qual,params:=parOf st,body:=.stmts (bodyOf st),scope:=scopeOf st,globals:=3,closure:=[],defaults:=dflt,kwdefaults:=.none,doc:=doc,pyModule:=.str mod mt,annotations:=none,code:=.ref code,closureTuple:=.none,builtins:=0}
noncomputable def stmInit:Stmt:=nth (inside (nth pw.main.body 5)) 1
noncomputable def fdInit:FuncData:=fdMk stmInit "__init__" "SequenceMatcher.__init__" (.ref 153) (docV stmInit 416) "cpy313.difflib" 194 159
noncomputable def stmSetSeqs:Stmt:=nth (inside (nth pw.main.body 5)) 2
noncomputable def fdSetSeqs:FuncData:=fdMk stmSetSeqs "set_seqs" "SequenceMatcher.set_seqs" .none (docV stmSetSeqs 426) "cpy313.difflib" 194 166
noncomputable def stmSetSeq1:Stmt:=nth (inside (nth pw.main.body 5)) 3
noncomputable def fdSetSeq1:FuncData:=fdMk stmSetSeq1 "set_seq1" "SequenceMatcher.set_seq1" .none (docV stmSetSeq1 435) "cpy313.difflib" 194 173
noncomputable def stmSetSeq2:Stmt:=nth (inside (nth pw.main.body 5)) 4
noncomputable def fdSetSeq2:FuncData:=fdMk stmSetSeq2 "set_seq2" "SequenceMatcher.set_seq2" .none (docV stmSetSeq2 444) "cpy313.difflib" 194 180
noncomputable def stmChainB:Stmt:=nth (inside (nth pw.main.body 5)) 5
noncomputable def fdChainB:FuncData:=fdMk stmChainB "__chain_b" "SequenceMatcher.__chain_b" .none .none "cpy313.difflib" 194 187
noncomputable def stmFind:Stmt:=nth (inside (nth pw.main.body 5)) 6
noncomputable def fdFind:FuncData:=fdMk stmFind "find_longest_match" "SequenceMatcher.find_longest_match" (.ref 189) (docV stmFind 490) "cpy313.difflib" 194 195
noncomputable def stmBlocks:Stmt:=nth (inside (nth pw.main.body 5)) 7
noncomputable def fdBlocks:FuncData:=fdMk stmBlocks "get_matching_blocks" "SequenceMatcher.get_matching_blocks" .none (docV stmBlocks 517) "cpy313.difflib" 194 202
noncomputable def stmCodes:Stmt:=nth (inside (nth pw.main.body 5)) 8
noncomputable def fdCodes:FuncData:=fdMk stmCodes "get_opcodes" "SequenceMatcher.get_opcodes" .none (docV stmCodes 532) "cpy313.difflib" 194 209
noncomputable def stmMNew:Stmt:=nth (inside (nth pw.main.body 3)) 4
noncomputable def fdMNew:FuncData:=fdMk stmMNew "__new__" "Match.__new__" .none (docV stmMNew 283) "cpy313.difflib" 194 81
noncomputable def stmBuffer:Stmt:=nth pw.main.body 7
noncomputable def fdBuffer:FuncData:=fdMk stmBuffer "_buffer" "_buffer" .none .none "binascii" 583 252
noncomputable def stmHex:Stmt:=nth pw.main.body 9
noncomputable def fdHex:FuncData:=fdMk stmHex "b2a_hex" "b2a_hex" (.ref 255) .none "binascii" 583 261
noncomputable def stmB16:Stmt:=nth pw.main.body 12
noncomputable def fdB16:FuncData:=fdMk stmB16 "b16encode" "b16encode" .none (docV stmB16 614) "cpy313.base64" 606 268
noncomputable def stmFspath:Stmt:=nth pw.main.body 21
noncomputable def fdFspath:FuncData:=fdMk stmFspath "fspath" "fspath" .none .none "os" 703 341
noncomputable def stmGetSep:Stmt:=nth pw.main.body 25
noncomputable def fdGetSep:FuncData:=fdMk stmGetSep "_get_sep" "_get_sep" .none .none "cpy313.posixpath" 728 355
noncomputable def stmJoin:Stmt:=nth pw.main.body 26
noncomputable def fdJoin:FuncData:=fdMk stmJoin "join" "join" .none (docV stmJoin 747) "cpy313.posixpath" 728 362
noncomputable def stmSplit:Stmt:=nth pw.main.body 27
noncomputable def fdSplit:FuncData:=fdMk stmSplit "split" "split" .none (docV stmSplit 759) "cpy313.posixpath" 728 369
noncomputable def stmCommon:Stmt:=nth pw.main.body 28
noncomputable def fdCommon:FuncData:=fdMk stmCommon "commonpath" "commonpath" .none (docV stmCommon 766) "cpy313.posixpath" 728 374
noncomputable def stmPlace:Stmt:=nth pw.main.body 30
noncomputable def fdPlace:FuncData:=fdMk stmPlace "_law_place" "_law_place" .none .none "law_ik0100_01" 768 379
noncomputable def stmPath:Stmt:=nth pw.main.body 31
noncomputable def fdPath:FuncData:=fdMk stmPath "_law_path" "_law_path" .none .none "law_ik0100_01" 768 384
noncomputable def stmWritten:Stmt:=nth pw.main.body 32
noncomputable def fdWritten:FuncData:=fdMk stmWritten "_law_written" "_law_written" .none .none "law_ik0100_01" 768 389
noncomputable def stmDone:Stmt:=nth pw.main.body 33
noncomputable def fdDone:FuncData:=fdMk stmDone "_law_done" "_law_done" .none .none "law_ik0100_01" 768 396
noncomputable def stmHung:Stmt:=nth pw.main.body 34
noncomputable def fdHung:FuncData:=fdMk stmHung "_law_hung" "_law_hung" .none .none "law_ik0100_01" 768 403
noncomputable def stmCarried:Stmt:=nth pw.main.body 35
noncomputable def fdCarried:FuncData:=fdMk stmCarried "_law_carried" "_law_carried" .none .none "law_ik0100_01" 768 410
noncomputable def stmListing:Stmt:=nth pw.main.body 36
noncomputable def fdListing:FuncData:=fdMk stmListing "_law_listing" "_law_listing" .none .none "law_ik0100_01" 768 417
noncomputable def stmLCodes:Stmt:=nth pw.main.body 37
noncomputable def fdLCodes:FuncData:=fdMk stmLCodes "_law_codes" "_law_codes" .none .none "law_ik0100_01" 768 422
noncomputable def stmLaw:Stmt:=nth pw.main.body 38
noncomputable def bodyLaw:List Stmt:=bodyOf stmLaw
noncomputable def scopeLaw:Scope:=scopeOf stmLaw
noncomputable def fdLaw:FuncData:=fdMk stmLaw "law" "law" .none .none "law_ik0100_01" 768 427
noncomputable abbrev fnObj(fd:FuncData):Obj:=⟨.type "function",none,.func fd,#[]⟩
noncomputable def fnList:List (Addr×FuncData):=[(160,fdInit),(167,fdSetSeqs),(174,fdSetSeq1),(181,fdSetSeq2),(188,fdChainB),(196,fdFind),(203,fdBlocks),(210,fdCodes),(82,fdMNew),(253,fdBuffer),(262,fdHex),(269,fdB16),(342,fdFspath),(356,fdGetSep),(363,fdJoin),(370,fdSplit),(375,fdCommon),(380,fdPlace),(385,fdPath),(390,fdWritten),(397,fdDone),(404,fdHung),(411,fdCarried),(418,fdListing),(423,fdLCodes),(428,fdLaw)]
noncomputable def globList:List (Str×Value):=[("Match",.ref 135),("SequenceMatcher",.ref 242),("_buffer",.ref 253),("_NO_SEP",.ref 254),("b2a_hex",.ref 262),("hexlify",.ref 262),("b16encode",.ref 269),("fspath",.ref 342),("_get_sep",.ref 356),("join",.ref 363),("split",.ref 370),("commonpath",.ref 375),("_law_place",.ref 380),("_law_path",.ref 385),("_law_written",.ref 390),("_law_done",.ref 397),("_law_hung",.ref 404),("_law_carried",.ref 411),("_law_listing",.ref 418),("_law_codes",.ref 423)]
noncomputable def bltList:List (Str×Value):=[("isinstance",.builtin "isinstance"),("issubclass",.builtin "issubclass"),("len",.builtin "len"),("min",.builtin "min"),("max",.builtin "max"),("chr",.builtin "chr"),("sorted",.builtin "sorted"),("type",.type "type"),("bytes",.type "bytes"),("bytearray",.type "bytearray"),("str",.type "str"),("tuple",.type "tuple"),("map",.type "map"),("enumerate",.type "enumerate"),("range",.type "range"),("list",.type "list"),("set",.type "set"),("ValueError",.type "ValueError"),("TypeError",.type "TypeError"),("AttributeError",.type "AttributeError"),("BytesWarning",.type "BytesWarning"),("int",.type "int")]
noncomputable def obList:List (Addr×Obj):=[(255,{cls:=.type "tuple",data:=.seq #[.ref 254,.int 1 594]}),(189,{cls:=.type "tuple",data:=.seq #[.int 0 464,.none,.int 0 465,.none]}),(153,{cls:=.type "tuple",data:=.seq #[.none,.str "" 404,.str "" 405,.bool true]}),(254,{cls:=.type "object",data:=.plain})]
structure Stat(g:Heap):Prop where
 fn:∀p∈fnList,g.get? p.1=some (fnObj p.2)/\g.CodeRec p.2.code p.2.qualname
 lim:g.NoLimit
 glob:∃mg,g.Ns mainGlobals mg/\(∀p∈globList,mg p.1=some p.2)/\∀p∈bltList,mg p.1=none
 blt:∃mb,g.Ns builtinsNs mb/\∀p∈bltList,mb p.1=some p.2
 ob:∀p∈obList,g.get? p.1=some p.2
theorem Stat.up{g g':Heap}(X:Stat g)(k:Le g g'):Stat g' :=
 ⟨fun p hp=>⟨k _ _ (X.fn p hp).1,(X.fn p hp).2.keeps k⟩,X.lim.keeps k,let ⟨m,a,b⟩:=X.glob;⟨m,a.keeps k,b⟩,let ⟨m,a,b⟩:=X.blt;⟨m,a.keeps k,b⟩,fun p hp=>k _ _ (X.ob p hp)⟩
theorem Stat.obAt{g:Heap}(X:Stat g)(i:Nat){a:Addr}{o:Obj}(h:obList[i]?=some (a,o)):g.get? a=some o:=X.ob (a,o) (List.mem_of_getElem? h)
theorem Stat.fnAt{g:Heap}(X:Stat g)(i:Nat){a:Addr}{fd:FuncData}(h:fnList[i]?=some (a,fd)):g.get? a=some (fnObj fd):=(X.fn (a,fd) (List.mem_of_getElem? h)).1
theorem Stat.cdAt{g:Heap}(X:Stat g)(i:Nat){a:Addr}{fd:FuncData}(h:fnList[i]?=some (a,fd)):g.CodeRec fd.code fd.qualname:=(X.fn (a,fd) (List.mem_of_getElem? h)).2
theorem Gives.go{w:World}{A:Around}{s:Shared}{g:Heap}{P:Heap->Heap->Value->Prop}{fa:Addr}{fd:FuncData}{body:List Stmt}{args:Args}{n:Nat}
 (i:Nat) (as:List Value) (ps rest Gl:List Str) (hi:fnList[i]?=some (fa,fd)) (X:Stat g) (kg:Le g s.heap) (hA:Ok A (n+1))
 (hbody:fd.body=.stmts body) (hbind:BindsTo s fd args (ps.zip as)) (hl:ps.length=as.length) (hc:chk fd ps rest Gl=true)
 (h:∀h₁ env A' t',Ok A' n->Cx env (ps++rest) Gl->St s.heap [] g g env.locals (ps++rest) (as.map some++rest.map fun _=>none) [] h₁ ->
  wpAny (model pw w) A' (execs body env) (Ends s [] g P) (fun _ _=>False) {s with heap:=h₁,toks:=t'}) :
 Gives pw w A (.call (.ref fa) args) s [] g P :=
 Gives.enter as ps rest Gl [] (kg _ _ (X.fnAt i hi)) rfl (X.lim.keeps kg) ((X.cdAt i hi).keeps kg) hA hbody hbind hl hc kg (fun _ hp=>nomatch hp) .nil h
section
variable{w:World}{A:Around}{E:Value->Shared->Prop}{s:Shared}{env:Env}{N Gl:List Str}{g:Heap}{pos:Pos}{Q:Value->Shared->Prop}
theorem gl_(i:Nat){x:Str}{v:Value}(hi:globList[i]?=some (x,v))(C:Cx env N Gl)(X:Stat g)(k:Le g s.heap)(hx:x∈Gl)(h:Q v s):wpAny (model pw w) A (eval (.Name x pos) env) Q E s:=by
 obtain ⟨m,a,b,_⟩:=X.glob
 exact gname C hx (a.keeps k) (b (x,v) (List.mem_of_getElem? hi)) h
theorem bl_(i:Nat){x:Str}{v:Value}(hi:bltList[i]?=some (x,v))(C:Cx env N Gl)(X:Stat g)(k:Le g s.heap)(hx:x∈Gl)(h:Q v s):wpAny (model pw w) A (eval (.Name x pos) env) Q E s:=by
 obtain ⟨m,a,_,c⟩:=X.glob
 obtain ⟨mb,d,e⟩:=X.blt
 exact bname C hx (a.keeps k) (c (x,v) (List.mem_of_getElem? hi)) (d.keeps k) (e (x,v) (List.mem_of_getElem? hi)) h
theorem N_Match(C:Cx env N Gl)(X:Stat g)(k:Le g s.heap)(hx:("Match":Str)∈Gl)(h:Q (.ref 135) s):wpAny (model pw w) A (eval (.Name "Match" pos) env) Q E s:=gl_ 0 rfl C X k hx h
theorem N_SequenceMatcher(C:Cx env N Gl)(X:Stat g)(k:Le g s.heap)(hx:("SequenceMatcher":Str)∈Gl)(h:Q (.ref 242) s):wpAny (model pw w) A (eval (.Name "SequenceMatcher" pos) env) Q E s:=gl_ 1 rfl C X k hx h
theorem N_buffer(C:Cx env N Gl)(X:Stat g)(k:Le g s.heap)(hx:("_buffer":Str)∈Gl)(h:Q (.ref 253) s):wpAny (model pw w) A (eval (.Name "_buffer" pos) env) Q E s:=gl_ 2 rfl C X k hx h
theorem N_NO_SEP(C:Cx env N Gl)(X:Stat g)(k:Le g s.heap)(hx:("_NO_SEP":Str)∈Gl)(h:Q (.ref 254) s):wpAny (model pw w) A (eval (.Name "_NO_SEP" pos) env) Q E s:=gl_ 3 rfl C X k hx h
theorem N_hexlify(C:Cx env N Gl)(X:Stat g)(k:Le g s.heap)(hx:("hexlify":Str)∈Gl)(h:Q (.ref 262) s):wpAny (model pw w) A (eval (.Name "hexlify" pos) env) Q E s:=gl_ 5 rfl C X k hx h
theorem N_b16encode(C:Cx env N Gl)(X:Stat g)(k:Le g s.heap)(hx:("b16encode":Str)∈Gl)(h:Q (.ref 269) s):wpAny (model pw w) A (eval (.Name "b16encode" pos) env) Q E s:=gl_ 6 rfl C X k hx h
theorem N_fspath(C:Cx env N Gl)(X:Stat g)(k:Le g s.heap)(hx:("fspath":Str)∈Gl)(h:Q (.ref 342) s):wpAny (model pw w) A (eval (.Name "fspath" pos) env) Q E s:=gl_ 7 rfl C X k hx h
theorem N_get_sep(C:Cx env N Gl)(X:Stat g)(k:Le g s.heap)(hx:("_get_sep":Str)∈Gl)(h:Q (.ref 356) s):wpAny (model pw w) A (eval (.Name "_get_sep" pos) env) Q E s:=gl_ 8 rfl C X k hx h
theorem N_join(C:Cx env N Gl)(X:Stat g)(k:Le g s.heap)(hx:("join":Str)∈Gl)(h:Q (.ref 363) s):wpAny (model pw w) A (eval (.Name "join" pos) env) Q E s:=gl_ 9 rfl C X k hx h
theorem N_split(C:Cx env N Gl)(X:Stat g)(k:Le g s.heap)(hx:("split":Str)∈Gl)(h:Q (.ref 370) s):wpAny (model pw w) A (eval (.Name "split" pos) env) Q E s:=gl_ 10 rfl C X k hx h
theorem N_commonpath(C:Cx env N Gl)(X:Stat g)(k:Le g s.heap)(hx:("commonpath":Str)∈Gl)(h:Q (.ref 375) s):wpAny (model pw w) A (eval (.Name "commonpath" pos) env) Q E s:=gl_ 11 rfl C X k hx h
theorem N_law_place(C:Cx env N Gl)(X:Stat g)(k:Le g s.heap)(hx:("_law_place":Str)∈Gl)(h:Q (.ref 380) s):wpAny (model pw w) A (eval (.Name "_law_place" pos) env) Q E s:=gl_ 12 rfl C X k hx h
theorem N_law_path(C:Cx env N Gl)(X:Stat g)(k:Le g s.heap)(hx:("_law_path":Str)∈Gl)(h:Q (.ref 385) s):wpAny (model pw w) A (eval (.Name "_law_path" pos) env) Q E s:=gl_ 13 rfl C X k hx h
theorem N_law_written(C:Cx env N Gl)(X:Stat g)(k:Le g s.heap)(hx:("_law_written":Str)∈Gl)(h:Q (.ref 390) s):wpAny (model pw w) A (eval (.Name "_law_written" pos) env) Q E s:=gl_ 14 rfl C X k hx h
theorem N_law_done(C:Cx env N Gl)(X:Stat g)(k:Le g s.heap)(hx:("_law_done":Str)∈Gl)(h:Q (.ref 397) s):wpAny (model pw w) A (eval (.Name "_law_done" pos) env) Q E s:=gl_ 15 rfl C X k hx h
theorem N_law_hung(C:Cx env N Gl)(X:Stat g)(k:Le g s.heap)(hx:("_law_hung":Str)∈Gl)(h:Q (.ref 404) s):wpAny (model pw w) A (eval (.Name "_law_hung" pos) env) Q E s:=gl_ 16 rfl C X k hx h
theorem N_law_carried(C:Cx env N Gl)(X:Stat g)(k:Le g s.heap)(hx:("_law_carried":Str)∈Gl)(h:Q (.ref 411) s):wpAny (model pw w) A (eval (.Name "_law_carried" pos) env) Q E s:=gl_ 17 rfl C X k hx h
theorem N_law_listing(C:Cx env N Gl)(X:Stat g)(k:Le g s.heap)(hx:("_law_listing":Str)∈Gl)(h:Q (.ref 418) s):wpAny (model pw w) A (eval (.Name "_law_listing" pos) env) Q E s:=gl_ 18 rfl C X k hx h
theorem N_law_codes(C:Cx env N Gl)(X:Stat g)(k:Le g s.heap)(hx:("_law_codes":Str)∈Gl)(h:Q (.ref 423) s):wpAny (model pw w) A (eval (.Name "_law_codes" pos) env) Q E s:=gl_ 19 rfl C X k hx h
theorem N_isinstance(C:Cx env N Gl)(X:Stat g)(k:Le g s.heap)(hx:("isinstance":Str)∈Gl)(h:Q (.builtin "isinstance") s):wpAny (model pw w) A (eval (.Name "isinstance" pos) env) Q E s:=bl_ 0 rfl C X k hx h
theorem N_issubclass(C:Cx env N Gl)(X:Stat g)(k:Le g s.heap)(hx:("issubclass":Str)∈Gl)(h:Q (.builtin "issubclass") s):wpAny (model pw w) A (eval (.Name "issubclass" pos) env) Q E s:=bl_ 1 rfl C X k hx h
theorem N_len(C:Cx env N Gl)(X:Stat g)(k:Le g s.heap)(hx:("len":Str)∈Gl)(h:Q (.builtin "len") s):wpAny (model pw w) A (eval (.Name "len" pos) env) Q E s:=bl_ 2 rfl C X k hx h
theorem N_min(C:Cx env N Gl)(X:Stat g)(k:Le g s.heap)(hx:("min":Str)∈Gl)(h:Q (.builtin "min") s):wpAny (model pw w) A (eval (.Name "min" pos) env) Q E s:=bl_ 3 rfl C X k hx h
theorem N_max(C:Cx env N Gl)(X:Stat g)(k:Le g s.heap)(hx:("max":Str)∈Gl)(h:Q (.builtin "max") s):wpAny (model pw w) A (eval (.Name "max" pos) env) Q E s:=bl_ 4 rfl C X k hx h
theorem N_chr(C:Cx env N Gl)(X:Stat g)(k:Le g s.heap)(hx:("chr":Str)∈Gl)(h:Q (.builtin "chr") s):wpAny (model pw w) A (eval (.Name "chr" pos) env) Q E s:=bl_ 5 rfl C X k hx h
theorem N_sorted(C:Cx env N Gl)(X:Stat g)(k:Le g s.heap)(hx:("sorted":Str)∈Gl)(h:Q (.builtin "sorted") s):wpAny (model pw w) A (eval (.Name "sorted" pos) env) Q E s:=bl_ 6 rfl C X k hx h
theorem N_type(C:Cx env N Gl)(X:Stat g)(k:Le g s.heap)(hx:("type":Str)∈Gl)(h:Q (.type "type") s):wpAny (model pw w) A (eval (.Name "type" pos) env) Q E s:=bl_ 7 rfl C X k hx h
theorem N_bytes(C:Cx env N Gl)(X:Stat g)(k:Le g s.heap)(hx:("bytes":Str)∈Gl)(h:Q (.type "bytes") s):wpAny (model pw w) A (eval (.Name "bytes" pos) env) Q E s:=bl_ 8 rfl C X k hx h
theorem N_str(C:Cx env N Gl)(X:Stat g)(k:Le g s.heap)(hx:("str":Str)∈Gl)(h:Q (.type "str") s):wpAny (model pw w) A (eval (.Name "str" pos) env) Q E s:=bl_ 10 rfl C X k hx h
theorem N_tuple(C:Cx env N Gl)(X:Stat g)(k:Le g s.heap)(hx:("tuple":Str)∈Gl)(h:Q (.type "tuple") s):wpAny (model pw w) A (eval (.Name "tuple" pos) env) Q E s:=bl_ 11 rfl C X k hx h
theorem N_map(C:Cx env N Gl)(X:Stat g)(k:Le g s.heap)(hx:("map":Str)∈Gl)(h:Q (.type "map") s):wpAny (model pw w) A (eval (.Name "map" pos) env) Q E s:=bl_ 12 rfl C X k hx h
theorem N_enumerate(C:Cx env N Gl)(X:Stat g)(k:Le g s.heap)(hx:("enumerate":Str)∈Gl)(h:Q (.type "enumerate") s):wpAny (model pw w) A (eval (.Name "enumerate" pos) env) Q E s:=bl_ 13 rfl C X k hx h
theorem N_range(C:Cx env N Gl)(X:Stat g)(k:Le g s.heap)(hx:("range":Str)∈Gl)(h:Q (.type "range") s):wpAny (model pw w) A (eval (.Name "range" pos) env) Q E s:=bl_ 14 rfl C X k hx h
theorem N_list(C:Cx env N Gl)(X:Stat g)(k:Le g s.heap)(hx:("list":Str)∈Gl)(h:Q (.type "list") s):wpAny (model pw w) A (eval (.Name "list" pos) env) Q E s:=bl_ 15 rfl C X k hx h
theorem N_set(C:Cx env N Gl)(X:Stat g)(k:Le g s.heap)(hx:("set":Str)∈Gl)(h:Q (.type "set") s):wpAny (model pw w) A (eval (.Name "set" pos) env) Q E s:=bl_ 16 rfl C X k hx h
theorem N_int(C:Cx env N Gl)(X:Stat g)(k:Le g s.heap)(hx:("int":Str)∈Gl)(h:Q (.type "int") s):wpAny (model pw w) A (eval (.Name "int" pos) env) Q E s:=bl_ 21 rfl C X k hx h
end
section
variable{M:Model}{A:Around}{E:Value->Shared->Prop}{s:Shared}{env:Env}{Q:Value->Shared->Prop}
noncomputable def Callee(h:Heap):Value->Prop
 | .ref a=>∃fd,h.get? a=some (fnObj fd)
 | .builtin _=>True
 | .type _=>True
 | _=>False
theorem callWith_k{pos:Pos}{f:Value}{first:List Value}{args:List (Bool×Sem Value)}(hplain:args.any (·.1)=false)
 (h:wpAny M A (evalArgs f true args []) (fun x s₁=>(∃k,(k=.machine\/k=.frame)/\∀R:Keeper->Shared->Prop,R k s₁->wpAny M A (keeperOf f) R E s₁)/\wpAny M A (call f (first++x.pos) x.kw) Q E s₁) E s):wpAny M A (callWith pos f first args []) Q E s:=by
 delta callWith
 dsimp only
 rw [hplain]
 refine wpAny_bind (wpAny_holding (wpAny_mono h (fun x s₁ h₁=>wpAny_bind (wpAny_standAt ?_)) fun _ _ x=>x))
 obtain ⟨⟨k,hk,kp⟩,hc⟩:=h₁
 have tail:∀{t:Sem Value},wpAny M A t Q E s₁->wpAny M A (t>>=fun r=>holding [r] point>>=fun _=>pure r) Q E s₁ :=
  fun ht=>wpAny_bind (wpAny_mono ht (fun r s₂ hr=>wpAny_bind (wpAny_holding (wpAny_point (wpAny_pure hr)))) fun _ _ x=>x)
 refine wpAny_bind (kp _ ?_)
 rcases hk with rfl|rfl
 · exact tail hc
 · refine wpAny_ite (c:=args.length+2*([]:List (Option Str×Sem Value)).length>30) ?_
   by_cases q:args.length+2*([]:List (Option Str×Sem Value)).length>30
   · rw [if_pos q];exact tail hc
   · rw [if_neg q];exact tail (Calls.wpAny_keep hc)
theorem callWith_any{pos:Pos}{f:Value}{first:List Value}{args:List (Bool×Sem Value)}(hplain:args.any (·.1)=false)
 (h:wpAny M A (evalArgs f true args []) (fun x s₁=>Callee s₁.heap f/\wpAny M A (call f (first++x.pos) x.kw) Q E s₁) E s):wpAny M A (callWith pos f first args []) Q E s:=by
 refine callWith_k hplain (wpAny_mono h (fun x s₁ h₁=>⟨?_,h₁.2⟩) fun _ _ x=>x)
 cases f with
 | ref a =>
  obtain ⟨fd,ho⟩:=h₁.1
  exact ⟨.frame,.inr rfl,fun R r=>wpAny_bind (wpAny_load ho (wpAny_pure r))⟩
 | builtin id=>exact ⟨.machine,.inl rfl,fun R r=>wpAny_pure r⟩
 | type T=>exact ⟨.machine,.inl rfl,fun R r=>wpAny_pure r⟩
 | _=>exact h₁.1.elim
theorem args0{f:Value}{P:Args->Shared->Prop}(h:P ⟨[],[]⟩ s):wpAny M A (evalArgs f true [] []) P E s:=by
 exact evalArgs_nil3 h
theorem C0{id:Str}{p pos:Pos}(h:wpAny M A (eval (.Name id p) env) (fun f s₁=>Callee s₁.heap f/\wpAny M A (call f []) Q E s₁) E s):wpAny M A (eval (.Call (.Name id p) [] [] pos) env) Q E s:=by
 rw [arm_eval_Call_Name']
 exact wpAny_bind (wpAny_mono h (fun f s₁ h₁=>callWith_any rfl (args0 h₁)) fun _ _ e=>e)
theorem C1{id:Str}{p pos:Pos}{a:Expr}(h:wpAny M A (eval (.Name id p) env) (fun f s₁=>wpAny M A (eval a env) (fun v s₂=>Callee s₂.heap f/\wpAny M A (call f [v]) Q E s₂) E s₁) E s)
 (he:autoParam (starEach [a] env=[(false,eval a env)]) au0):wpAny M A (eval (.Call (.Name id p) [a] [] pos) env) Q E s:=by
 rw [arm_eval_Call_Name',he]
 exact wpAny_bind (wpAny_mono h (fun f s₁ h₁=>callWith_any rfl (evalArgs_plain (spliced_cons (wpAny_mono h₁ (fun v s₂ h₂=>spliced_nil h₂) fun _ _ e=>e)))) fun _ _ e=>e)
theorem C2{id:Str}{p pos:Pos}{a b:Expr}(h:wpAny M A (eval (.Name id p) env) (fun f s₁=>wpAny M A (eval a env) (fun v s₂=>wpAny M A (eval b env) (fun u s₃=>Callee s₃.heap f/\wpAny M A (call f [v,u]) Q E s₃) E s₂) E s₁) E s)
 (he:autoParam (starEach [a,b] env=[(false,eval a env),(false,eval b env)]) au0):wpAny M A (eval (.Call (.Name id p) [a,b] [] pos) env) Q E s:=by
 rw [arm_eval_Call_Name',he]
 exact wpAny_bind (wpAny_mono h (fun f s₁ h₁=>callWith_any rfl (evalArgs_plain (spliced_cons (wpAny_mono h₁ (fun v s₂ h₂=>spliced_cons (wpAny_mono h₂ (fun u s₃ h₃=>spliced_nil h₃) fun _ _ e=>e)) fun _ _ e=>e)))) fun _ _ e=>e)
theorem C3{id:Str}{p pos:Pos}{a b c:Expr}(h:wpAny M A (eval (.Name id p) env) (fun f s₁=>wpAny M A (eval a env) (fun v s₂=>wpAny M A (eval b env) (fun u s₃=>wpAny M A (eval c env) (fun x s₄=>Callee s₄.heap f/\wpAny M A (call f [v,u,x]) Q E s₄) E s₃) E s₂) E s₁) E s)
 (he:autoParam (starEach [a,b,c] env=[(false,eval a env),(false,eval b env),(false,eval c env)]) au0):wpAny M A (eval (.Call (.Name id p) [a,b,c] [] pos) env) Q E s:=by
 rw [arm_eval_Call_Name',he]
 exact wpAny_bind (wpAny_mono h (fun f s₁ h₁=>callWith_any rfl (evalArgs_plain (spliced_cons (wpAny_mono h₁ (fun v s₂ h₂=>spliced_cons (wpAny_mono h₂ (fun u s₃ h₃=>spliced_cons (wpAny_mono h₃ (fun x s₄ h₄=>spliced_nil h₄) fun _ _ e=>e)) fun _ _ e=>e)) fun _ _ e=>e)))) fun _ _ e=>e)
theorem C4{id:Str}{p pos:Pos}{a b c d:Expr}(h:wpAny M A (eval (.Name id p) env) (fun f s₁=>wpAny M A (eval a env) (fun v s₂=>wpAny M A (eval b env) (fun u s₃=>wpAny M A (eval c env) (fun x s₄=>wpAny M A (eval d env) (fun y s₅=>Callee s₅.heap f/\wpAny M A (call f [v,u,x,y]) Q E s₅) E s₄) E s₃) E s₂) E s₁) E s)
 (he:autoParam (starEach [a,b,c,d] env=[(false,eval a env),(false,eval b env),(false,eval c env),(false,eval d env)]) au0):wpAny M A (eval (.Call (.Name id p) [a,b,c,d] [] pos) env) Q E s:=by
 rw [arm_eval_Call_Name',he]
 exact wpAny_bind (wpAny_mono h (fun f s₁ h₁=>callWith_any rfl (evalArgs_plain (spliced_cons (wpAny_mono h₁ (fun v s₂ h₂=>spliced_cons (wpAny_mono h₂ (fun u s₃ h₃=>spliced_cons (wpAny_mono h₃ (fun x s₄ h₄=>spliced_cons (wpAny_mono h₄ (fun y s₅ h₅=>spliced_nil h₅) fun _ _ e=>e)) fun _ _ e=>e)) fun _ _ e=>e)) fun _ _ e=>e)))) fun _ _ e=>e)
theorem tupE{elts:List Expr}{k:Nat}{pos:Pos}(h:wpAny M A (spliced (backTo pos (starEach elts env))) (fun vs s₁=>wpAny M A (newTuple vs) Q E s₁) E s):wpAny M A (eval (.Tuple elts k pos) env) Q E s:=PyProof.Rows.Tuple_ h
theorem lstE{elts:List Expr}{pos:Pos}(h:wpAny M A (spliced (backTo pos (starEach elts env))) (fun vs s₁=>wpAny M A (newList vs) Q E s₁) E s):wpAny M A (eval (.List elts pos) env) Q E s:=PyProof.Rows.List_ h
theorem sp1{a:Expr}{rest:List Expr}{pos:Pos}{P:List Value->Shared->Prop}(h:wpAny M A (eval a env) (fun v s₁=>wpAny M A (spliced (backTo pos (starEach rest env))) (fun vs s₂=>P (v::vs) s₂) E s₁) E s)
 (he:autoParam (starEach (a::rest) env=(false,eval a env)::starEach rest env) au0):wpAny M A (spliced (backTo pos (starEach (a::rest) env))) P E s:=by
 rw [he];exact spliced_cons h
theorem sp0{pos:Pos}{P:List Value->Shared->Prop}(h:P [] s):wpAny M A (spliced (backTo pos (starEach [] env))) P E s:=spliced_nil h
end
section
variable{prog:Program}{w:World}{A:Around}{E:Value->Shared->Prop}{s:Shared}{env:Env}
variable{h₀ g₀ g:Heap}{xt:List Addr}{L:Addr}{N:List Str}{vs:List (Option Value)}{mu:List (Addr×Obj)}
noncomputable abbrev tupObj(vs:List Value):Obj:={cls:=.type "tuple",data:=.seq vs.toArray}
noncomputable abbrev lstObj(vs:List Value)(n:Nat):Obj:={cls:=.type "list",data:=.seq vs.toArray n}
theorem newTup{items:List Value}{Q:Value->Shared->Prop}(F:St h₀ xt g₀ g L N vs mu s.heap)
 (h:∀a g' h',Le g g'->g'.get? a=some (tupObj items)->St h₀ xt g₀ g' L N vs mu h'->Q (.ref a) {s with heap:=h'}) (hsz:autoParam (items.length<=sizeLine) auZ):wpAny (model prog w) A (newTuple items) Q E s:=by
 obtain ⟨g',k,e,F'⟩:=F.made (tupObj items)
 exact wpAny_newTuple (h _ _ _ k e F') hsz
theorem newLst{items:List Value}{Q:Value->Shared->Prop}(F:St h₀ xt g₀ g L N vs mu s.heap)
 (h:∀a g' h',Le g g'->g'.get? a=some (lstObj items 0)->St h₀ xt g₀ g' L N vs mu h'->Q (.ref a) {s with heap:=h'}) (hsz:autoParam (items.length<=sizeLine) auZ):wpAny (model prog w) A (newList items) Q E s:=by
 obtain ⟨g',k,e,F'⟩:=F.made (lstObj items 0)
 exact wpAny_newList (h _ _ _ k e F') hsz
theorem newOwn{items:List Value}{Q:Value->Shared->Prop}(F:St h₀ xt g₀ g L N vs mu s.heap)
 (h:∀a h',St h₀ xt g₀ g L N vs ((a,lstObj items 0)::mu) h'->h₀.objs.size<=a->Q (.ref a) {s with heap:=h'}) (hsz:autoParam (items.length<=sizeLine) auZ):wpAny (model prog w) A (newList items) Q E s :=
 wpAny_newList (h _ _ (F.own (lstObj items 0)) F.lowSz) hsz
end
theorem absQ{α:Type}{M:Model}{A:Around}{m:Sem α}{Q:α->Shared->Prop}{E:Value->Shared->Prop}{s:Shared}(h:∀Q':α->Shared->Prop,(∀v s',Q v s'->Q' v s')->wpAny M A m Q' E s):wpAny M A m Q E s:=h Q fun _ _ x=>x
theorem absT{α β:Type}{M:Model}{A:Around}{m:Sem α}{b:Sem β}{T:β->Shared->Prop}{E E':Value->Shared->Prop}{s:Shared}(h:∀T':β->Shared->Prop,(∀v s',T v s'->T' v s')->wpAny M A m (fun _ s₁=>wpAny M A b T' E' s₁) E s):wpAny M A m (fun _ s₁=>wpAny M A b T E' s₁) E s:=h T fun _ _ x=>x
section
variable{w:World}{A:Around}{s:Shared}{g:Heap}{n:Nat}
theorem getSep_gives(X:Stat g)(kg:Le g s.heap)(hA:Ok A (n+2))(x:Str)(t:Tok) :
 Gives pw w A (.call (.ref 356) ⟨[.str x t],[]⟩) s [] g (fun _ _ v=>∃t',v=.str "/" t'):=by
 refine Gives.go 13 [.str x t] ["path"] [] ["isinstance","bytes"] rfl X kg hA rfl (BindsTo.of_eq rfl) rfl (by decide +kernel) fun h₁ env A' t' hA' C F=>?_
 refine wpAny_execs_cons (wpAny_If (wpAny_isTrue_value ?_))
 refine C2 (N_isinstance C X F.keep (.head _) (ld0 C F (N_bytes C X F.keep (.tail _ (.head _)) ⟨trivial,?_⟩)))
 refine IsiPair.str_bytes ?_
 refine wpAny_truthy_bool ?_
 refine wpAny_execs_cons (wpAny_Return_some (Constant_str ?_))
 exact ends F ⟨_,rfl⟩
end
section
variable{prog:Program}{w:World}{A:Around}{E:Value->Shared->Prop}{s:Shared}
theorem codeAny_entry{id:String}{b:Builtin}{args:List Value}{R:Result->Shared->Prop}(hk:builtinKind id=none)(hp:plainId id=true)
 (hb:entryFor table id=some b) (ha:argsOk id ⟨args,[]⟩)
 (hc:wpAny (model prog w) A.in1 (b ⟨args,[]⟩) (fun fin s'=>∃v,fin=.done (.ret v)/\R (.ok (.ret v)) s') (fun e s'=>R (.error e) s') s):codeAny (model prog w) A (.call (.builtin id) ⟨args,[]⟩) R s:=by
 refine codeAny_call_builtin hp hb ?_
 have hfin:=wpAny_mono hc (Q':=fun fin s'=>match fin with
  | .done f=>R (.ok f) s'
  | .again c'=>c'.quiet=true/\codeAny (model prog w) A c' R s')
  (fun fin s' h'=>by obtain ⟨v,rfl,hv⟩:=h';exact hv) fun _ _ h'=>h'
 simp only [checkBuiltinCall,hk]
 cases hsig:Manifest.signature? id with
 | none=>exact wpAny_pure hfin
 | some sig =>
  simp only [argsOk,hsig] at ha
  have h2:Bind.checkArgs id sig ⟨args,[]⟩=pure ():=ha
  show wpAny _ A.in1 (Bind.checkArgs id sig ⟨args,[]⟩) _ _ s
  rw [h2];exact wpAny_pure hfin
theorem kind_issub:builtinKind "issubclass.nested"=none:=by decide +kernel
theorem plain_issub:plainId "issubclass.nested"=true:=by decide +kernel
theorem args_issub(a b c:Value):argsOk "issubclass.nested" ⟨[a,b,c],[]⟩:=by unfold argsOk;kernel_rfl
theorem issub_one{k:Value}{dep:Int}{tk:Tok}{Q:Fin->Shared->Prop}(hk:k=.int dep tk)(hq:Q (.done (.ret (.bool true))) s) :
 wpAny (model prog w) A (Builtin.«issubclass.nested» ⟨[.type "str",.type "str",k],[]⟩) Q E s:=by
 subst hk
 have hm:=F.isi_meta_str
 have hs:=F.sub_str_str
 repeat (any_goals (first|assumption|(rw [if_pos hm])|(rw [hs])|wp_step))
theorem issub_tup{a:Addr}{Q:Value->Shared->Prop}(ha:s.heap.get? a=some {cls:=.type "tuple",data:=.seq #[.type "str",.type "bytes"]})
 (h:Q (.bool true) s):wpAny (model prog w) A (call (.builtin "issubclass") [.type "str",.ref a]) Q E s:=by
 refine call_issubclass (S:=fun _ R s=>s.heap.get? a=some {cls:=.type "tuple",data:=.seq #[.type "str",.type "bytes"]}/\R (.ok (.ret (.bool true))) s) (fun prog w A R s hs=>issubclass_outer ?_) ⟨ha,h⟩
 obtain ⟨h,g,d,t,os⟩:=s
 have htp:=hs.1
 have hq:=hs.2
 have hT2:(⟨h,g,d,t,os⟩:Shared).TypeIs (.ref a) "tuple":=⟨_,htp,rfl⟩
 have f1:=F.isi_sub_tuple
 repeat (any_goals (first|assumption|wp_step))
 refine codeAny_entry kind_issub plain_issub F.entry_issubclass_nested (args_issub _ _ _) (issub_one rfl ⟨_,rfl,?_⟩)
 repeat (any_goals (first|assumption|wp_step))
section
variable{w:World}{A:Around}{s:Shared}{g:Heap}{n:Nat}
theorem fspath_gives(X:Stat g)(kg:Le g s.heap)(hA:Ok A (n+2))(x:Str)(t:Tok) :
 Gives pw w A (.call (.ref 342) ⟨[.str x t],[]⟩) s [] g (fun _ _ v=>v=.str x t):=by
 refine Gives.go 12 [.str x t] ["path"] ["kind","hook","given"] ["type","issubclass","str","bytes"] rfl X kg hA rfl (BindsTo.of_eq rfl) rfl (by decide +kernel) fun h₁ env A' t' hA' C F=>?_
 refine wpAny_execs_cons (wpAny_Assign_Name ?_)
 refine C1 (N_type C X F.keep (.head _) (ld0 C F ⟨trivial,?_⟩))
 refine call_type_of (Tx:="str") rfl (by decide +kernel) ?_
 refine st1 C F fun h' F=>?_
 refine wpAny_execs_cons (wpAny_If (wpAny_isTrue_value ?_))
 refine C2 (N_issubclass C X F.keep (.tail _ (.head _)) (ld1 C F ?_))
 refine tupE (sp1 (N_str C X F.keep (.tail _ (.tail _ (.head _))) (sp1 (N_bytes C X F.keep (.tail _ (.tail _ (.tail _ (.head _)))) (sp0 ?_)))))
 refine newTup F fun a g' h' k e F=>?_
 refine ⟨trivial,issub_tup (F.keep _ _ e) (wpAny_truthy_bool ?_)⟩
 refine wpAny_execs_cons (wpAny_Return_some (ld0 C F ?_))
 exact ends F rfl
end
end
noncomputable abbrev no:Value->Shared->Prop:=fun _ _=>False
theorem wpAny_no{α:Type}{M:Model}{A:Around}{t:Sem α}{Q:α->Shared->Prop}{E:Value->Shared->Prop}{s:Shared}(h:wpAny M A t Q no s):wpAny M A t Q E s:=wpAny_mono h (fun _ _ x=>x) fun _ _ e=>e.elim
theorem St.sub{h₀ g₀ g h:Heap}{xt:List Addr}{L:Addr}{N:List Str}{vs:List (Option Value)}{mu mu':List (Addr×Obj)}(F:St h₀ xt g₀ g L N vs mu h)(hs:mu'.Sublist mu):St h₀ xt g₀ g L N vs mu' h where
 len:=F.len
 ns:=F.ns
 base:=F.base
 keep:=F.keep
 low:=F.low
 outg:=F.outg
 mt:=fun p hp=>F.mt p (hs.subset hp)
 nd:=(hs.map _).nodup F.nd
 mono:=F.mono
 fresh:=F.fresh
theorem St.but{h₀ g₀ g h h₁:Heap}{xt:List Addr}{L I:Addr}{N:List Str}{vs:List (Option Value)}{mu:List (Addr×Obj)}{oI:Obj}(F:St h₀ xt g₀ g L N vs ((I,oI)::mu) h)
 (hk:∀b o,b∉[I]->h.get? b=some o->h₁.get? b=some o):St h₀ xt g₀ g L N vs mu h₁:=by
 have nI:∀b,b≠I->b∉[I]:=fun b hb hm=>hb (List.mem_singleton.mp hm)
 have mI:=F.mt (I,oI) (.head _)
 have nd:=F.nd
 rw [List.map_cons,List.nodup_cons] at nd
 refine ⟨F.len,?_,?_,?_,F.low,F.outg,?_,nd.2,F.mono,F.fresh⟩
 · obtain ⟨m,a,b⟩:=F.ns
   exact ⟨m,a.at' fun o e=>hk _ o (nI _ (Ne.symm mI.2.1)) e,b⟩
 · intro b o' hb e
   have ne:b≠I:=fun q=>by
    subst q
    rcases mI.2.2.2 with z|z
    · exact hb z
    · exact absurd (Heap.lt_size e) (Nat.not_lt.mpr z)
   exact hk b o' (nI b ne) (F.base b o' hb e)
 · intro b o' e
   have ne:b≠I:=fun q=>by subst q;rw [mI.2.2.1] at e;cases e
   exact hk b o' (nI b ne) (F.keep b o' e)
 · intro p hp
   have P':=F.mt p (.tail _ hp)
   refine ⟨hk _ _ (nI _ fun q=>nd.1 ?_) P'.1,P'.2⟩
   have z:p.1∈mu.map (·.1):=List.mem_map_of_mem hp
   rwa [q] at z
theorem St.butHas{h₀ g₀ g h h₁:Heap}{xt:List Addr}{L I:Addr}{N:List Str}{vs:List (Option Value)}{mu:List (Addr×Obj)}{oI o:Obj}(F:St h₀ xt g₀ g L N vs ((I,oI)::mu) h)
 (hk:∀b o,b∉[I]->h.get? b=some o->h₁.get? b=some o) (ho:h₁.get? I=some o):St h₀ xt g₀ g L N vs ((I,o)::mu) h₁:=by
 have F₁:=F.but hk
 have mI:=F.mt (I,oI) (.head _)
 have nd:=F.nd
 rw [List.map_cons,List.nodup_cons] at nd
 exact ⟨F.len,F₁.ns,F₁.base,F₁.keep,F.low,F.outg,fun p hp=>(List.mem_cons.mp hp).elim (fun e=>by subst e;exact ⟨ho,mI.2⟩) fun hp=>F₁.mt p hp,List.nodup_cons.mpr nd,F.mono,F.fresh⟩
structure It(prog:Program)(w:World)(A:Around)(target:Expr)(I:Addr)(n:Nat)(P:Nat->Value->Prop)(g:Heap)(Wst:Nat->Heap->Prop):Prop where
 walks:∃fp,Walks prog w A I fp [I] n P Wst/\∀b∈fp,b=I\/(g.get? b).isSome=true
 alive:∀i h,Wst i h->∃o,h.get? I=some o
 go:∀i v (s:Shared) (Q:Unit->Shared->Prop),Wst i s.heap->Q () s->wpAny (model prog w) A (letOwnedTupleGo target (.ref I) v) Q no s
section
variable{prog:Program}{w:World}{A:Around}{s:Shared}{env:Env}
variable{h₀ g₀ g:Heap}{xt:List Addr}{L:Addr}{N:List Str}{vs:List (Option Value)}{mu:List (Addr×Obj)}
noncomputable def Turn(h₀ g₀:Heap)(xt:List Addr)(L:Addr)(N:List Str)(s:Shared)(g:Heap)(I:Addr)(oI:Obj)(J:Heap->List (Option Value)->List (Addr×Obj)->Prop)(Q:Flow->Shared->Prop)(f:Flow)(s':Shared):Prop :=
 match f with
 | .brk=>Q .next s'
 | .ret v=>Q (.ret v) s'
 | _=>∃g' vs' mu' h' t',s'={s with heap:=h',toks:=t'}/\Le g g'/\St h₀ xt g₀ g' L N vs' ((I,oI)::mu') h'/\J g' vs' mu'
theorem turn_next{I:Addr}{oI:Obj}{J:Heap->List (Option Value)->List (Addr×Obj)->Prop}{Q:Flow->Shared->Prop}{g' h':Heap}{t':Nat}(k:Le g g')(F:St h₀ xt g₀ g' L N vs ((I,oI)::mu) h')(j:J g' vs mu) :
 Turn h₀ g₀ xt L N s g I oI J Q .next {s with heap:=h',toks:=t'}:=⟨g',vs,mu,h',t',rfl,k,F,j⟩
noncomputable def FT(Q:Flow->Shared->Prop)(T:Shared->Prop)(f:Flow)(s':Shared):Prop :=
 match f with
 | .brk=>Q .next s'
 | .ret v=>Q (.ret v) s'
 | _=>T s'
theorem forAny{target:Expr}{body:List Stmt}{it:Value}{Q:Flow->Shared->Prop}(I:Nat->Shared->Prop)
 (turn:∀n s (T:Shared->Prop),(∀m s',m<n->I m s'->T s')->I n s->wpAny (model prog w) A (pyNext it) (fun r s₁=>match r with
  | none=>Q .next s₁
  | some v=>wpAny (model prog w) A (letOwnedTupleGo target it v) (fun _ s₀=>wpAny (model prog w) A (assign target env v) (fun _ s₂=>wpAny (model prog w) A (execs body env) (FT Q T) no s₂) no s₀) no s₁) no s)
 (n:Nat) (h:I n s):codeAny (model prog w) A (.forLoop target it body [] env) (fun r s'=>match r with|.ok f=>Q f s'|.error _=>False) s:=by
 refine codeAny_forLoop_any I (fun n s hI=>wpAny_no (wpAny_mono (turn n s (fun s'=>∃m,m<n/\I m s') (fun m s' a b=>⟨m,a,b⟩) hI) (fun r s₁ h₁=>?_) fun _ _ e=>e)) n h
 cases r with
 | none=>exact wpAny_execs_nil h₁
 | some v =>
  refine wpAny_no (wpAny_mono h₁ (fun _ s₀ h₀=>wpAny_no (wpAny_mono h₀ (fun _ s₂ h₂=>wpAny_no (wpAny_mono h₂ (fun f s₃ h₃=>?_) fun _ _ e=>e)) fun _ _ e=>e)) fun _ _ e=>e)
  cases f<;>exact h₃
noncomputable def LI(s:Shared)(h₀ g₀ g:Heap)(xt:List Addr)(L:Addr)(N:List Str)(I:Addr)(Wst:Nat->Heap->Prop)(J:Nat->Heap->List (Option Value)->List (Addr×Obj)->Prop)(n k:Nat)(s':Shared):Prop :=
 ∀G:Shared->Prop,(∀i h tk g' vs' mu' oI,i<=n->k=n+1-i->Wst i h->Le g g'->J i g' vs' mu'->St h₀ xt g₀ g' L N vs' ((I,oI)::mu') h->G {s with heap:=h,toks:=tk})->G s'
theorem It.start{target:Expr}{I:Addr}{n:Nat}{P:Nat->Value->Prop}{Wst:Nat->Heap->Prop}{h h₁:Heap}(hI:It prog w A target I n P g Wst)(h0:Wst 0 h)(old:∀b o,h.get? b=some o->h₁.get? b=some o):Wst 0 h₁:=by
 obtain ⟨⟨fp,W,_⟩,_,_⟩:=hI
 exact W.frame _ _ _ h0 fun b _ o e=>old b o e
theorem LI.turn{target:Expr}{I:Addr}{n k:Nat}{P:Nat->Value->Prop}{Wst:Nat->Heap->Prop}{J:Nat->Heap->List (Option Value)->List (Addr×Obj)->Prop}{R:Option Value->Shared->Prop}{T:Shared->Prop}{s':Shared}
 (hT:∀m s',m<k->LI s h₀ g₀ g xt L N I Wst J n m s'->T s') (H:LI s h₀ g₀ g xt L N I Wst J n k s') (hI:It prog w A target I n P g Wst)
 (turn:∀i v h tk g' vs' mu' oI,i<n->P i v->Wst (i+1) h->Le g g'->J i g' vs' mu'->St h₀ xt g₀ g' L N vs' ((I,oI)::mu') h ->
  (∀g'' vs'' mu'' h'' t'',Le g' g''->St h₀ xt g₀ g'' L N vs'' ((I,oI)::mu'') h''->J (i+1) g'' vs'' mu''->T {s with heap:=h'',toks:=t''})->R (some v) {s with heap:=h,toks:=tk})
 (done:∀h tk g' vs' mu',Le g g'->J n g' vs' mu'->St h₀ xt g₀ g' L N vs' mu' h->R none {s with heap:=h,toks:=tk}):wpAny (model prog w) A (pyNext (.ref I)) R no s':=by
 obtain ⟨⟨fp,W,hfp⟩,alive,_⟩:=hI
 refine H (wpAny (model prog w) A (pyNext (.ref I)) R no) fun i h tk g' vs' mu' oI hi hk hw hg hJ F'=>?_
 rcases Nat.lt_or_eq_of_le hi with hlt|rfl
 · refine W.item i _ _ _ hlt hw fun v h₁ tk₁ hP hw₁ hk₁=>?_
   obtain ⟨o₁,ho₁⟩:=alive _ _ hw₁
   have F₁:=F'.butHas hk₁ ho₁
   refine turn i v h₁ tk₁ g' vs' mu' o₁ hlt hP hw₁ hg hJ F₁ fun g'' vs'' mu'' h'' t'' k2 F₂ J₂=>hT (n+1-(i+1)) _ (hk▸zz6 hlt) fun G k=>k (i+1) h'' t'' g'' vs'' mu'' o₁ hlt rfl (W.frame _ _ _ hw₁ fun b hb o e=>?_) (hg.tr k2) J₂ F₂
   rcases hfp b hb with rfl|q
   · exact (F₂.mt _ (.head _)).1.trans ((F₁.mt _ (.head _)).1.symm.trans e)
   · obtain ⟨o',e'⟩:=Option.isSome_iff_exists.mp q
     exact (F₂.keep b o' (k2 b o' (hg b o' e'))).trans ((F₁.keep b o' (hg b o' e')).symm.trans e)
 · exact W.done _ _ _ hw fun h₁ tk₁ hk₁=>done h₁ tk₁ g' vs' mu' hg hJ (F'.but hk₁)
theorem forLoop_{target:Expr}{body:List Stmt}{I:Addr}{n:Nat}{P:Nat->Value->Prop}{Wst:Nat->Heap->Prop}{oI:Obj}{Q:Flow->Shared->Prop}
 (J:Nat->Heap->List (Option Value)->List (Addr×Obj)->Prop)
 (hI:It prog w A target I n P g Wst) (h0:Wst 0 s.heap) (F:St h₀ xt g₀ g L N vs ((I,oI)::mu) s.heap) (hj:J 0 g vs mu)
 (turn:∀i v g' vs' mu' oI h tk,i<n->P i v->Le g g'->J i g' vs' mu'->St h₀ xt g₀ g' L N vs' ((I,oI)::mu') h ->
  wpAny (model prog w) A (assign target env v) (fun _ s₁=>wpAny (model prog w) A (execs body env) (Turn h₀ g₀ xt L N s g' I oI (J (i+1)) Q) no s₁) no {s with heap:=h,toks:=tk})
 (done:∀g' vs' mu' h tk,Le g g'->J n g' vs' mu'->St h₀ xt g₀ g' L N vs' mu' h->Q .next {s with heap:=h,toks:=tk}) :
 codeAny (model prog w) A (.forLoop target (.ref I) body [] env) (fun r s'=>match r with|.ok f=>Q f s'|.error _=>False) s:=by
 refine forAny (LI s h₀ g₀ g xt L N I Wst J n) (fun k s' T hT H=>?_) (n+1) fun G k=>k 0 s.heap s.toks g vs mu oI (Nat.zero_le _) rfl h0 Le.rfl' hj F
 refine LI.turn hT H hI (fun i v h tk g' vs' mu' oI hi hP hw hg hJ F' fin=>wpAny_no (hI.go (i+1) v _ _ hw ?_)) fun h tk g' vs' mu' hg hJ F'=>done g' vs' mu' h tk hg hJ F'
 refine wpAny_mono (turn i v g' vs' mu' oI h tk hi hP hg hJ F') (fun _ s₁ h₁=>wpAny_mono h₁ (fun f s₂=>?_) fun _ _ e=>e) fun _ _ e=>e
 cases f with
 | brk=>exact id
 | ret v=>exact id
 | _ =>
  rintro ⟨g'',vs'',mu'',h'',t'',rfl,k2,F₂,J₂⟩
  exact fin g'' vs'' mu'' h'' t'' k2 F₂ J₂
end
section
variable{prog:Program}{w:World}{A:Around}{s:Shared}{env:Env}
variable{h₀ g₀ g:Heap}{xt:List Addr}{L:Addr}{N:List Str}{vs:List (Option Value)}{mu:List (Addr×Obj)}
theorem For_{target iter:Expr}{body:List Stmt}{pos:Pos}{Q:Flow->Shared->Prop}{E:Value->Shared->Prop}
 (h:wpAny (model prog w) A (eval iter env) (fun x s₁=>wpAny (model prog w) A (pyIter x) (fun it s₂=>codeAny (model prog w) A (.forLoop target it body [] env) (fun r s'=>match r with|.ok f=>Q f s'|.error _=>False) s₂) no s₁) no s)
 (hs:autoParam (∀x,foldedSetIterable iter env x=pure x) au1):wpAny (model prog w) A (exec (.For target iter body [] pos) env) Q E s:=by
 refine wpAny_no (wpAny_For (E:=no) (wpAny_mono h (fun x s₁ h₁=>wpAny_mono h₁ (fun it s₂ h₂=>codeAny_mono h₂ fun r s' h'=>?_) fun _ _ e=>e) fun _ _ e=>e) hs)
 cases r with
 | ok f=>exact h'
 | error e=>exact h'.elim
noncomputable abbrev litObj(l:Addr):Obj:={cls:=.type "list_iterator",data:=.fields #[.ref l,.int 0 0]}
noncomputable abbrev titObj(l:Addr):Obj:={cls:=.type "tuple_iterator",data:=.fields #[.ref l,.int 0 0]}
theorem It.list{target:Expr}{I l:Addr}{vs:List Value}{k:Nat}{g h:Heap}(hh:A.handled=none)(hl:g.get? l=some (lstObj vs k))(hI:g.get? I=none)(kg:Le g h)(hi:h.get? I=some (litObj l))
 (hgo:∀(i:Nat) (v:Value) (s:Shared) (Q:Unit->Shared->Prop),s.heap.IsListIter I l i->Q () s->wpAny (model prog w) A (letOwnedTupleGo target (.ref I) v) Q no s) :
 It prog w A target I vs.length (fun i v=>vs[i]?=some v) g (fun i h=>h.IsListIter I l i/\h.IsList l vs.toArray)/\(h.IsListIter I l 0/\h.IsList l vs.toArray):=by
 have ne:l≠I:=fun q=>by subst q;rw [hI] at hl;cases hl
 refine ⟨⟨⟨[I,l],by simpa using (Walks.list (prog:=prog) (w:=w) (A:=A) hh I l ne vs.toArray),fun b hb=>?_⟩,fun i h hw=>let ⟨o,e,_⟩:=hw.1;⟨o,e⟩,fun i v s Q hw hq=>hgo i v s Q hw.1 hq⟩,⟨_,hi,rfl,rfl⟩,⟨_,kg _ _ hl,rfl,_,rfl⟩⟩
 rcases List.mem_cons.mp hb with rfl|hb
 · exact .inl rfl
 · rw [List.mem_singleton.mp hb,hl];exact .inr rfl
theorem It.tuple{target:Expr}{I l:Addr}{vs:List Value}{g h:Heap}(hh:A.handled=none)(hl:g.get? l=some (tupObj vs))(hI:g.get? I=none)(kg:Le g h)(hi:h.get? I=some (titObj l))
 (hgo:∀(i:Nat) (v:Value) (s:Shared) (Q:Unit->Shared->Prop),s.heap.IsTupleIter I l i->Q () s->wpAny (model prog w) A (letOwnedTupleGo target (.ref I) v) Q no s) :
 It prog w A target I vs.length (fun i v=>vs[i]?=some v) g (fun i h=>h.IsTupleIter I l i/\h.IsTuple l vs.toArray)/\(h.IsTupleIter I l 0/\h.IsTuple l vs.toArray):=by
 have ne:l≠I:=fun q=>by subst q;rw [hI] at hl;cases hl
 refine ⟨⟨⟨[I,l],by simpa using (Walks.tuple (prog:=prog) (w:=w) (A:=A) hh I l ne vs.toArray),fun b hb=>?_⟩,fun i h hw=>let ⟨o,e,_⟩:=hw.1;⟨o,e⟩,fun i v s Q hw hq=>hgo i v s Q hw.1 hq⟩,⟨_,hi,rfl,rfl⟩,⟨_,kg _ _ hl,rfl,_,rfl⟩⟩
 rcases List.mem_cons.mp hb with rfl|hb
 · exact .inl rfl
 · rw [List.mem_singleton.mp hb,hl];exact .inr rfl
theorem go_name{x:Str}{p:Pos}{it v:Value}{Q:Unit->Shared->Prop}(h:Q () s):wpAny (model prog w) A (letOwnedTupleGo (.Name x p) it v) Q no s:=by
 unfold letOwnedTupleGo;exact wpAny_pure h
end
section
variable{h₀ g₀ g g' h h' h'':Heap}{xt:List Addr}{L I C:Addr}{N:List Str}{vs:List (Option Value)}{mu:List (Addr×Obj)}{oI:Obj}
structure Off(h₀ g:Heap)(L C:Addr)(mu:List (Addr×Obj)):Prop where
 h₀:h₀.get? C=none
 L:C≠L
 g:g.get? C=none
 mu:∀p∈mu,p.1≠C
theorem St.off(F:St h₀ xt g₀ g L N vs mu h)(O:Off h₀ g L C mu)(hs:Heap.SameBut C h h'):St h₀ xt g₀ g L N vs mu h' where
 len:=F.len
 ns:=let ⟨m,a,b⟩:=F.ns;⟨m,a.sameBut hs (Ne.symm O.L),b⟩
 base:=fun b o hb e=>(hs.2 b fun q=>by subst q;rw [O.h₀] at e;cases e).trans (F.base b o hb e)
 keep:=fun b o e=>(hs.2 b fun q=>by subst q;rw [O.g] at e;cases e).trans (F.keep b o e)
 low:=F.low
 outg:=F.outg
 mt:=fun p hp=>⟨(hs.2 _ (O.mu p hp)).trans (F.mt p hp).1,(F.mt p hp).2⟩
 nd:=F.nd
 mono:=F.mono
 fresh:=F.fresh
theorem St.callBut(F:St h₀ xt g₀ g L N vs ((I,oI)::mu) h)(o:Out h [I] g g' h'):St h₀ xt g₀ g' L N vs mu h':=by
 have nI:∀b,b≠I->b∉[I]:=fun b hb hm=>hb (List.mem_singleton.mp hm)
 have mI:=F.mt (I,oI) (.head _)
 have nd:=F.nd
 rw [List.map_cons,List.nodup_cons] at nd
 refine ⟨F.len,?_,?_,o.keep,F.low,?_,?_,nd.2,F.mono.tr o.mono,?_⟩
 · obtain ⟨m,a,b⟩:=F.ns
   exact ⟨m,a.at' fun x e=>o.base _ x (nI _ (Ne.symm mI.2.1)) e,b⟩
 · intro b x hb e
   have ne:b≠I:=fun q=>by
    subst q
    rcases mI.2.2.2 with z|z
    · exact hb z
    · exact absurd (Heap.lt_size e) (Nat.not_lt.mpr z)
   exact o.base b x (nI b ne) (F.base b x hb e)
 · cases q:g'.get? L with
   | none=>rfl
   | some x=>exact absurd (o.fresh L x q F.outg) (Nat.not_le.mpr F.lt)
 · intro p hp
   have P:=F.mt p (.tail _ hp)
   refine ⟨o.base _ _ (nI _ fun q=>nd.1 ?_) P.1,P.2.1,?_,P.2.2.2⟩
   · have z:p.1∈mu.map (·.1):=List.mem_map_of_mem hp
     rwa [q] at z
   · cases q:g'.get? p.1 with
     | none=>rfl
     | some x=>exact absurd (o.fresh _ x q P.2.2.1) (Nat.not_le.mpr (Heap.lt_size P.1))
 · intro b x e e0
   cases q:g.get? b with
   | some y=>exact F.fresh b y q e0
   | none=>exact Nat.le_trans F.lowSz (o.fresh b x e q)
end
noncomputable abbrev lst(ys:List Value):Obj:=lstObj ys ys.length
theorem lst_snoc(ys:List Value)(y:Value):({cls:=.type "list",data:=.seq (ys.toArray.push y) (ys.length+1)}:Obj)=lst (ys++[y]):=by
 show ({cls:=.type "list",data:=.seq (ys.toArray.push y) (ys.length+1)}:Obj)={cls:=.type "list",data:=.seq (ys++[y]).toArray (ys++[y]).length}
 rw [List.length_append,List.length_singleton,List.push_toArray]
noncomputable def tests(ifs:List Expr)(env:Env):Sem Bool:=forIn ifs true fun c r=>if r=true then do let ok←isTrue c env (eval c env);pure (ForInStep.yield ok) else pure (ForInStep.yield r)
section
variable{prog:Program}{w:World}{A:Around}{s:Shared}{env:Env}
theorem tests0{Q:Bool->Shared->Prop}{E:Value->Shared->Prop}(h:Q true s):wpAny (model prog w) A (tests [] env) Q E s:=wpAny_tests_nil h
theorem tests1{c:Expr}{Q:Bool->Shared->Prop}{E:Value->Shared->Prop}(h:wpAny (model prog w) A (isTrue c env (eval c env)) Q E s):wpAny (model prog w) A (tests [c] env) Q E s:=wpAny_tests_one h
theorem gc_loop{elt target iter:Expr}{ifs:List Expr}{scope:Scope}{pos:Pos}{it acc:Value}{R:Result->Shared->Prop}(I:Nat->Shared->Prop)
 (turn:∀n s (T:Shared->Prop),(∀m s',m<n->I m s'->T s')->I n s->wpAny (model prog w) A (pyNext it) (fun r s₁=>match r with
  | none=>R (.ok .next) s₁
  | some v=>wpAny (model prog w) A (letOwnedTupleGo target it v) (fun _ s₀=>wpAny (model prog w) A (assign target env v) (fun _ s₂ =>
   wpAny (model prog w) A (tests ifs env) (fun ok s₃=>if ok=true then wpAny (model prog w) A (eval elt env) (fun x s₄ =>
    wpAny (model prog w) A (call (.builtin "list.append") [acc,x]) (fun _=>T) no s₄) no s₃
    else T s₃) no s₂) no s₀) no s₁) no s)
 (n:Nat) (h:I n s):codeAny (model prog w) A (.compLoop (.ListComp elt [⟨target,iter,ifs,0⟩] scope pos) 0 it acc env) R s:=by
 refine codeAny_loop rfl I (fun n s hI=>?_) n h
 show wpAny _ A ((compTurn (.ListComp elt [⟨target,iter,ifs,0⟩] scope pos) 0 it acc env).onRaise (fun x=>do noteFrame x env;theTreesLotGoes x)) _ _ s
 refine wpAny_noted ?_
 rw [compTurn_list]
 refine wpAny_bind (wpAny_standAt (wpAny_bind (wpAny_no (wpAny_mono (turn n s (fun s'=>∃m,m<n/\I m s') (fun m s' a b=>⟨m,a,b⟩) hI) (fun r s₁ h₁=>?_) fun _ _ h'=>h'))))
 cases r with
 | none=>exact wpAny_pure h₁
 | some v =>
  refine wpAny_bind (wpAny_no (wpAny_mono h₁ (fun _ s₀ h₀'=>?_) fun _ _ h'=>h'))
  refine wpAny_bind (wpAny_no (wpAny_mono h₀' (fun _ s₂ h₂=>?_) fun _ _ h'=>h'))
  refine wpAny_bind (wpAny_no (wpAny_mono h₂ (fun okb s₃ h₃=>?_) fun _ _ h'=>h'))
  cases okb with
  | false=>exact wpAny_pure ⟨rfl,h₃⟩
  | true=>exact wpAny_bind (wpAny_bind (wpAny_no (wpAny_mono h₃ (fun x s₄ h₄=>wpAny_bind (wpAny_no (wpAny_mono h₄ (fun _ s₅ h₅=>wpAny_pure (wpAny_pure ⟨rfl,h₅⟩)) fun _ _ h'=>h'))) fun _ _ h'=>h')))
end
section
variable{prog:Program}{w:World}{A:Around}{s:Shared}{env:Env}
variable{h₀ g₀ g:Heap}{xt:List Addr}{L:Addr}{N Nn Gl:List Str}{vs:List (Option Value)}{mu:List (Addr×Obj)}
noncomputable def CEnd(s:Shared)(g:Heap)(I C D:Addr)(oI:Obj)(Nn:List Str)(ys:List Value)(g₁:Heap)(J:Heap->Prop)(s':Shared):Prop :=
 ∃g' us h' t',s'={s with heap:=h',toks:=t'}/\Le g₁ g'/\St s.heap [I] g g' C Nn us [(I,oI),(D,lst ys)] h'/\J g'
theorem cEnd{s:Shared}{g g₁ g' h':Heap}{I C D:Addr}{oI:Obj}{Nn:List Str}{us:List (Option Value)}{ys:List Value}{t':Nat}{J:Heap->Prop}(k:Le g₁ g')(F:St s.heap [I] g g' C Nn us [(I,oI),(D,lst ys)] h')(j:J g') :
 CEnd s g I C D oI Nn ys g₁ J {s with heap:=h',toks:=t'}:=⟨g',us,h',t',rfl,k,F,j⟩
theorem comp_env{scope:Scope}{cl:List (Str×Addr)}{I:Addr}{oI X:Obj}{Q:Env->Shared->Prop}(hcell:∀y∈scope.names,y.2≠.cell)(hkind:scope.kind=.function)(hX:X.isFreed=false)(F:St h₀ xt g₀ g L N vs ((I,oI)::mu) s.heap)
 (h:∀C h₁,s.heap.objs.size<=C->(∀b o,s.heap.get? b=some o->h₁.get? b=some o)->St s.heap [I] g g C Nn (Nn.map fun _=>none) [(I,oI),(s.heap.objs.size,X)] h₁->Q (newEnv scope C env.globals cl env.qual none .none (some env) builtinsNs) {s with heap:=h₁,toks:=s.toks+0}) :
 wpAny (model prog w) A (newFunctionEnv scope env.globals cl [] env.qual none .none (some env)) Q no {s with heap:=s.heap.push X}:=by
 refine wpAny_newFunctionEnv hcell (fun y hy=>absurd hy List.not_mem_nil) (fun h₁ hns₁ hsb₁=>?_) hkind
 dsimp only at hns₁ hsb₁ ⊢
 have hC:=Heap.size_push s.heap X
 have below:∀b,b<s.heap.objs.size->b≠(s.heap.push X).objs.size:=fun b hb=>hC▸Nat.ne_of_lt (Nat.lt_succ_of_lt hb)
 have old:∀b o,s.heap.get? b=some o->h₁.get? b=some o:=fun b o e=>hsb₁.extBut b o (below b (Heap.lt_size e)) (Heap.get?_push_of_some _ (Heap.get?_push_of_some _ e))
 have le:s.heap.objs.size<=(s.heap.push X).objs.size:=hC▸Nat.le_succ _
 have hDC:s.heap.objs.size≠(s.heap.push X).objs.size:=hC▸Nat.ne_of_lt (Nat.lt_succ_self _)
 have mI:=F.mt (I,oI) (.head _)
 have hIlt:=Heap.lt_size mI.1
 have gno:∀a,s.heap.objs.size<=a->g.get? a=none:=fun a ha=>by
  cases e:g.get? a with
  | none=>rfl
  | some o'=>exact absurd (Heap.lt_size (F.keep a o' e)) (Nat.not_lt.mpr ha)
 refine h _ h₁ le old ⟨List.length_map ..,⟨_,hns₁,fun i x hx=>?_⟩,fun b o _ e=>old b o e,fun b o e=>old b o (F.keep b o e),le,gno _ le,List.forall_mem_cons.mpr ⟨⟨old _ _ mI.1,below _ hIlt,mI.2.2.1,.inl (.head _)⟩,fun p hp=>?_⟩,?_,Le.rfl',fun b o e e0=>?_⟩
 · rw [List.getElem?_map,hx];rfl
 · rw [List.mem_singleton.mp hp]
   exact ⟨hsb₁.extBut _ _ hDC (Heap.get?_push_of_some _ (Heap.get?_push_size _ hX)),hDC,gno _ (Nat.le_refl _),.inr (Nat.le_refl _)⟩
 · exact List.nodup_cons.mpr ⟨fun hm=>Nat.ne_of_lt hIlt (List.mem_singleton.mp hm),List.nodup_cons.mpr ⟨List.not_mem_nil,.nil⟩⟩
 · rw [e] at e0;cases e0
theorem comp_out{I C:Addr}{oI:Obj}{g' h':Heap}{us:List (Option Value)}{mu':List (Addr×Obj)}(F:St h₀ xt g₀ g L N vs ((I,oI)::mu) s.heap)(hC:s.heap.objs.size<=C)(F₃:St s.heap [I] g g' C Nn us mu' h') :
 ∃m,h'.Ns C m/\Off h₀ g' L C mu/\St h₀ xt g₀ g' L N vs mu h':=by
 obtain ⟨m,hm,_⟩:=F₃.ns
 refine ⟨m,hm,⟨?_,fun q=>absurd F.lt (Nat.not_lt.mpr (q▸hC)),F₃.outg,fun p hp q=>absurd (Heap.lt_size (F.mt p (.tail _ hp)).1) (Nat.not_lt.mpr (q▸hC))⟩,F.callBut F₃.out⟩
 cases e:h₀.get? C with
 | none=>rfl
 | some o=>exact absurd (Nat.lt_of_lt_of_le (Heap.lt_size e) F.lowSz) (Nat.not_lt.mpr hC)
theorem comp_block{elt target iter:Expr}{ifs:List Expr}{scope:Scope}{pos:Pos}{cl:List (Str×Addr)}{I:Addr}{oI:Obj}{n:Nat}{P:Nat->Value->Prop}{Wst:Nat->Heap->Prop}{RR:Value->Addr->Result->Shared->Prop}
 (J:Nat->Heap->List Value->Prop) (hcell:∀y∈scope.names,y.2≠.cell) (hkind:scope.kind=.function)
 (F:St h₀ xt g₀ g L N vs ((I,oI)::mu) s.heap) (hI:It prog w A target I n P g Wst) (h0:Wst 0 s.heap) (hj:J 0 g []) (hn:n<=sizeLine)
 (turn:∀i v g' us ys oI C D h tk,i<n->P i v->Le g g'->J i g' ys->us.length=Nn.length->St s.heap [I] g g' C Nn us [(I,oI),(D,lst ys)] h ->
  wpAny (model prog w) A (assign target (compEnvC scope cl C env) v) (fun _ s₁=>wpAny (model prog w) A (tests ifs (compEnvC scope cl C env)) (fun ok s₃ =>
   if ok=true then wpAny (model prog w) A (eval elt (compEnvC scope cl C env)) (fun y=>CEnd s g I C D oI Nn ys g' fun g''=>J (i+1) g'' (ys++[y])) no s₃
   else CEnd s g I C D oI Nn ys g' (fun g''=>J (i+1) g'' ys) s₃) no s₁) no {s with heap:=h,toks:=tk})
 (done:∀g₁ g' D C m h' tk ys,Le g g'->Le g₁ g'->J n g₁ ys->g'.get? D=some (lst ys)->h'.Ns C m->Off h₀ g' L C mu->St h₀ xt g₀ g' L N vs mu h'->RR (.ref D) C (.ok .next) {s with heap:=h',toks:=tk}) :
 wpAny (model prog w) A (newList []) (fun acc s₃=>wpAny (model prog w) A (newFunctionEnv scope env.globals cl [] env.qual none .none (some env)) (fun cenv s₄ =>
  codeAny (model prog w) A (.compStart (.ListComp elt [⟨target,iter,ifs,0⟩] scope pos) 0 (.ref I) acc {cenv with scope:=relabel scope env}) (RR acc cenv.locals) s₄) no s₃) no s:=by
 refine wpAny_newObj_type (comp_env (Nn:=Nn) hcell hkind rfl F fun C h₁ hC old F₁=>?_)
 generalize hD:s.heap.objs.size=D at F₁ ⊢
 have loop:codeAny (model prog w) A (.compLoop (.ListComp elt [⟨target,iter,ifs,0⟩] scope pos) 0 (.ref I) (.ref D) (compEnvC scope cl C env)) (RR (.ref D) C) {s with heap:=h₁,toks:=s.toks+0}:=by
  refine gc_loop (LI s s.heap g g [I] C Nn I Wst (fun i g' _ mu'=>∀G:List (Addr×Obj)->Prop,(∀ys,ys.length<=i->J i g' ys->G [(D,lst ys)])->G mu') n) (fun k s' T hT H=>?_) (n+1)
   fun G k=>k 0 h₁ _ g _ _ oI (Nat.zero_le _) rfl (hI.start h0 old) Le.rfl' (fun G k=>k [] (Nat.zero_le _) hj) F₁
  refine LI.turn hT H hI (fun i v h tk g' us mu' oI hi hP hw hg hJ F' fin=>wpAny_no (hI.go (i+1) v _ _ hw ?_)) fun h tk g' us mu' hg hJ F'=>?_
  · refine hJ (fun mu'=>St s.heap [I] g g' C Nn us ((I,oI)::mu') h->_) (fun ys hyl hJ F'=>?_) F'
    have fin':∀(ys':List Value) (s₅:Shared),ys'.length<=i+1->CEnd s g I C D oI Nn ys' g' (fun g''=>J (i+1) g'' ys') s₅->T s₅:=by
     rintro ys' s₅ hl ⟨g'',us'',h'',t'',rfl,k2,F₃,J₃⟩
     exact fin g'' us'' _ h'' t'' k2 F₃ fun G k=>k ys' hl J₃
    refine wpAny_mono (turn i v g' us ys oI C D h tk hi hP hg hJ F'.len F') (fun _ s₁ h₁'=>wpAny_mono h₁' (fun ok s₃ h₃=>?_) fun _ _ e=>e) fun _ _ e=>e
    cases ok with
    | false=>exact fin' ys s₃ (Nat.le_succ_of_le hyl) h₃
    | true =>
     refine wpAny_mono h₃ (fun y s₄ h₄=>?_) fun _ _ e=>e
     obtain ⟨g'',us'',h'',t'',rfl,k2,F₃,J₃⟩:=h₄
     refine append_at (F₃.mt (D,lst ys) (.tail _ (.head _))).1 (fun h₆ hs₆ hD₆=>?_) (by show ys.toArray.size<=sizeLine;rw [List.size_toArray];exact zz21 hn hyl hi)
     exact fin' (ys++[y]) _ (by rw [List.length_append,List.length_singleton];exact Nat.succ_le_succ hyl) ⟨g'',us'',h₆,t'',rfl,k2,F₃.turn (pre:=[(I,oI)]) (post:=[]) rfl hs₆ (hD₆.trans (congrArg some (lst_snoc ys y))),J₃⟩
  · refine hJ (fun mu'=>St s.heap [I] g g' C Nn us mu' h->_) (fun ys hyl hJ F'=>?_) F'
    obtain ⟨g'',k2,eD,F₃⟩:=F'.freeze (pre:=[]) (post:=[]) rfl (Nat.le_of_eq hD)
    obtain ⟨m,hm,O,F₄⟩:=comp_out F hC F₃
    exact done g' g'' D C m h tk ys (hg.tr k2) k2 hJ eD hm O F₄
 obtain ⟨⟨_,W,_⟩,_,_⟩:=hI
 exact codeAny_compStart_list loop (W.self 0 _ _ _ (It.start ⟨⟨_,W,‹_›⟩,‹_›,‹_›⟩ h0 old) loop)
end
section
variable{prog:Program}{w:World}{A:Around}{s:Shared}{env:Env}
variable{h₀ g₀ g:Heap}{xt:List Addr}{L:Addr}{N Nn Gl:List Str}{vs:List (Option Value)}{mu:List (Addr×Obj)}
theorem each_list{x:Str}{p:Pos}{body:List Stmt}{l:Addr}{items:List Value}{k:Nat}{Q:Flow->Shared->Prop}
 (J:Nat->Heap->List (Option Value)->List (Addr×Obj)->Prop) (hh:A.handled=none) (F:St h₀ xt g₀ g L N vs mu s.heap) (hl:g.get? l=some (lstObj items k)) (hj:J 0 g vs mu)
 (turn:∀i v g' vs' mu' I oI h tk,items[i]?=some v->Le g g'->J i g' vs' mu'->St h₀ xt g₀ g' L N vs' ((I,oI)::mu') h ->
  wpAny (model prog w) A (storeName env x v) (fun _ s₁=>wpAny (model prog w) A (execs body env) (Turn h₀ g₀ xt L N s g' I oI (J (i+1)) Q) no s₁) no {s with heap:=h,toks:=tk})
 (done:∀g' vs' mu' h tk,Le g g'->J items.length g' vs' mu'->St h₀ xt g₀ g' L N vs' mu' h->Q .next {s with heap:=h,toks:=tk}) :
 wpAny (model prog w) A (pyIter (.ref l)) (fun it s₂=>codeAny (model prog w) A (.forLoop (.Name x p) it body [] env) (fun r s'=>match r with|.ok f=>Q f s'|.error _=>False) s₂) no s:=by
 refine wpAny_pyIter_list ⟨_,F.keep _ _ hl,rfl,_,rfl⟩ ?_
 have F₁:=F.own (litObj l)
 obtain ⟨hI,h0⟩:=It.list (prog:=prog) (w:=w) (A:=A) (target:=.Name x p) hh hl (F₁.mt _ (.head _)).2.2.1 F₁.keep (F₁.mt _ (.head _)).1 fun i v s Q _ h=>go_name h
 exact forLoop_ J hI h0 F₁ hj (fun i v g' vs' mu' oI h tk _ hP hg hJ F'=>wpAny_assign_Name (turn i v g' vs' mu' _ oI h tk hP hg hJ F')) done
theorem each_tuple{x:Str}{p:Pos}{body:List Stmt}{l:Addr}{items:List Value}{Q:Flow->Shared->Prop}
 (J:Nat->Heap->List (Option Value)->List (Addr×Obj)->Prop) (hh:A.handled=none) (F:St h₀ xt g₀ g L N vs mu s.heap) (hl:g.get? l=some (tupObj items)) (hj:J 0 g vs mu)
 (turn:∀i v g' vs' mu' I oI h tk,items[i]?=some v->Le g g'->J i g' vs' mu'->St h₀ xt g₀ g' L N vs' ((I,oI)::mu') h ->
  wpAny (model prog w) A (storeName env x v) (fun _ s₁=>wpAny (model prog w) A (execs body env) (Turn h₀ g₀ xt L N s g' I oI (J (i+1)) Q) no s₁) no {s with heap:=h,toks:=tk})
 (done:∀g' vs' mu' h tk,Le g g'->J items.length g' vs' mu'->St h₀ xt g₀ g' L N vs' mu' h->Q .next {s with heap:=h,toks:=tk}) :
 wpAny (model prog w) A (pyIter (.ref l)) (fun it s₂=>codeAny (model prog w) A (.forLoop (.Name x p) it body [] env) (fun r s'=>match r with|.ok f=>Q f s'|.error _=>False) s₂) no s:=by
 refine wpAny_pyIter_tuple ⟨_,F.keep _ _ hl,rfl,_,rfl⟩ ?_
 have F₁:=F.own (titObj l)
 obtain ⟨hI,h0⟩:=It.tuple (prog:=prog) (w:=w) (A:=A) (target:=.Name x p) hh hl (F₁.mt _ (.head _)).2.2.1 F₁.keep (F₁.mt _ (.head _)).1 fun i v s Q _ h=>go_name h
 exact forLoop_ J hI h0 F₁ hj (fun i v g' vs' mu' oI h tk _ hP hg hJ F'=>wpAny_assign_Name (turn i v g' vs' mu' _ oI h tk hP hg hJ F')) done
structure CellAt(env:Env)(x:Str)(c:Addr):Prop where
 kind:env.scope.kind=.function
 isC:env.kindOf x=some .cell
 at_:env.cells.lookup x=some c
 nd:(x==("__debug__":Str))=false
theorem ldC{x:Str}{pos:Pos}{c:Addr}{o:Obj}{v:Value}{Q:Value->Shared->Prop}{E:Value->Shared->Prop}(c_:CellAt env x c)(k:Le g s.heap)(hg:g.get? c=some o)(hd:o.data=.cell (some v))(h:Q v s) :
 wpAny (model prog w) A (eval (.Name x pos) env) Q E s:=wpAny_Name (wpAny_loadName_cell c_.kind c_.isC c_.at_ ⟨o,k _ _ hg,hd⟩ h) c_.nd
theorem stC{x:Str}{c:Addr}{o:Obj}{v:Value}{u:Option Value}{Q:Unit->Shared->Prop}{E:Value->Shared->Prop}{pre post:List (Addr×Obj)}(c_:CellAt env x c)(F:St h₀ xt g₀ g L N vs mu s.heap)(e:mu=pre++(c,o)::post)(hd:o.data=.cell u)
 (h:∀h' o',o'.data=.cell (some v)->St h₀ xt g₀ g L N vs (pre++(c,o')::post) h'->Q () {s with heap:=h'}):wpAny (model prog w) A (storeName env x v) Q E s:=by
 refine wpAny_storeName_cell c_.kind c_.isC c_.at_ ⟨o,(F.mt (c,o) (by rw [e];simp)).1,hd⟩ fun h' hc hs=>?_
 obtain ⟨o',ho',hd'⟩:=hc
 exact h h' o' hd' (F.turn e hs ho')
theorem lookup_relabel{env:Env}{k₀:NameKind}(hk:k₀≠.free):∀{names:List (Str×NameKind)} {x:Str},names.lookup x=some k₀ ->
 (names.map fun (n,k)=>if (k==NameKind.free&&env.scope.kind==.function&&env.kindOf n==some .cell) then (n,NameKind.cell) else (n,k)).lookup x=some k₀
 | [],_,h=>by simp at h
 | (n,k)::r,x,h=>by
  have ih:=@lookup_relabel env k₀ hk r x
  show List.lookup x ((if (k==NameKind.free&&env.scope.kind==.function&&env.kindOf n==some .cell)=true then (n,NameKind.cell) else (n,k))::_)=_
  cases hx:x==n with
  | true =>
   simp only [List.lookup_cons,hx] at h
   cases h
   simp [List.lookup_cons,hx,hk]
  | false =>
   simp only [List.lookup_cons,hx] at h
   by_cases hc:(k==NameKind.free&&env.scope.kind==.function&&env.kindOf n==some .cell)=true
   · rw [if_pos hc];simp only [List.lookup_cons,hx];exact ih h
   · rw [if_neg hc];simp only [List.lookup_cons,hx];exact ih h
theorem lookup_relabel_cell{env:Env}{x:Str}(he:env.scope.kind=.function)(hx':env.kindOf x=some .cell):∀{names:List (Str×NameKind)},names.lookup x=some .free ->
 (names.map fun (n,k)=>if (k==NameKind.free&&env.scope.kind==.function&&env.kindOf n==some .cell) then (n,NameKind.cell) else (n,k)).lookup x=some .cell
 | [],h=>by simp at h
 | (n,k)::r,h=>by
  have ih:=@lookup_relabel_cell env x he hx' r
  show List.lookup x ((if (k==NameKind.free&&env.scope.kind==.function&&env.kindOf n==some .cell)=true then (n,NameKind.cell) else (n,k))::_)=_
  cases hx:x==n with
  | true =>
   simp only [List.lookup_cons,hx] at h
   cases h
   have:x=n:=beq_iff_eq.mp hx
   subst this
   simp [List.lookup_cons,he,hx']
  | false =>
   simp only [List.lookup_cons,hx] at h
   by_cases hc:(k==NameKind.free&&env.scope.kind==.function&&env.kindOf n==some .cell)=true
   · rw [if_pos hc];simp only [List.lookup_cons,hx];exact ih h
   · rw [if_neg hc];simp only [List.lookup_cons,hx];exact ih h
noncomputable def chkC(sc:Scope)(Nn Gl:List Str):Bool :=
 decide (sc.kind=.function)&&decide Nn.Nodup&&Nn.all (named sc .local)&&Gl.all (named sc .globalImplicit)&&sc.names.all fun x=>decide (x.2≠.cell)&&(decide (x.2≠.local)||decide (sc.names.lookup x.1=some .local))
theorem chkC_cx{sc:Scope}{No Go:List Str}(h:chkC sc Nn Gl=true)(C₀:Cx env No Go)(cl:List (Str×Addr))(C:Addr):Cx (compEnvC sc cl C env) Nn Gl:=by
 simp only [chkC,Bool.and_eq_true,decide_eq_true_eq,List.all_eq_true,named,Bool.not_eq_true'] at h
 obtain ⟨⟨⟨⟨h1,h2⟩,h3⟩,h4⟩,h5⟩:=h
 exact ⟨h1,h2,fun i x hx=>⟨lookup_relabel (by decide) (h3 x (List.mem_of_getElem? hx)).1,(h3 x (List.mem_of_getElem? hx)).2⟩,fun x hx=>⟨lookup_relabel (by decide) (h4 x hx).1,(h4 x hx).2⟩,C₀.globals,C₀.builtins⟩
theorem chkC_cell{sc:Scope}(h:chkC sc Nn Gl=true):∀y∈sc.names,y.2≠.cell:=by
 simp only [chkC,Bool.and_eq_true,decide_eq_true_eq,List.all_eq_true] at h
 exact fun y hy=>(h.2 y hy).1
theorem chkC_kind{sc:Scope}(h:chkC sc Nn Gl=true):sc.kind=.function:=by
 simp only [chkC,Bool.and_eq_true,decide_eq_true_eq,List.all_eq_true] at h
 exact h.1.1.1.1
theorem chkC_names{sc:Scope}(h:chkC sc Nn Gl=true):∀y∈sc.names,y.2=.local->sc.names.lookup y.1=some .local:=by
 simp only [chkC,Bool.and_eq_true,decide_eq_true_eq,List.all_eq_true,Bool.or_eq_true] at h
 exact fun y hy e=>((h.2 y hy).2).resolve_left (fun q=>q e)
noncomputable def clo(cells:List (Str×Addr)):List (Str×NameKind)->List (Str×Addr)->Option (List (Str×Addr))
 | [],acc=>some acc
 | (n,k)::r,acc=>if k==.free then (match cells.lookup n with|some c=>clo cells r ((n,c)::acc)|none=>none) else clo cells r acc
theorem closureFor_clo{sc:Scope}{cl:List (Str×Addr)}(h:clo env.cells sc.names []=some cl):closureFor sc env=pure cl:=by
 have key:∀(names:List (Str×NameKind)) (acc cl:List (Str×Addr)),clo env.cells names acc=some cl ->
  (forIn names acc fun (x:Str×NameKind) (cs:List (Str×Addr))=>if x.2==.free then (do let c←cellOf env x.1;pure (ForInStep.yield ((x.1,c)::cs))) else pure (ForInStep.yield cs):Sem (List (Str×Addr)))=pure cl:=by
  intro names
  induction names with
  | nil=>intro acc cl h;rw [List.forIn_nil];exact congrArg pure (Option.some.inj h)
  | cons p r ih =>
   intro acc cl h
   obtain ⟨n,k⟩:=p
   rw [List.forIn_cons]
   unfold clo at h
   by_cases q:(k==NameKind.free)=true
   · rw [if_pos q] at h
     simp only [q,if_true]
     cases e:env.cells.lookup n with
     | none=>rw [e] at h;cases h
     | some c =>
      rw [e] at h
      have:cellOf env n=pure c:=by unfold cellOf;rw [e]
      rw [this]
      simp only [pure_bind]
      exact ih _ _ h
   · rw [if_neg q] at h
     simp only [q,Bool.false_eq_true,if_false,pure_bind]
     exact ih _ _ h
 unfold closureFor
 have:=key sc.names [] cl h
 simpa using this
noncomputable def CompAt(prog:Program)(w:World)(A:Around)(env:Env)(scope:Scope)(cl:List (Str×Addr))(e:Expr)(use:Option (Value->Sem Unit))(Q:Value->Shared->Prop)(it:Value)(s:Shared):Prop :=
 wpAny (model prog w) A (newList []) (fun acc s₃=>wpAny (model prog w) A (newFunctionEnv scope env.globals cl [] env.qual none .none (some env)) (fun cenv s₄ =>
  codeAny (model prog w) A (.compStart e 0 it acc {cenv with scope:=relabel scope env}) (compPost (model prog w) A no use Q acc cenv.locals) s₄) no s₃) no s
theorem evComp{elt target iter:Expr}{ifs:List Expr}{scope:Scope}{pos:Pos}{cl:List (Str×Addr)}{Q:Value->Shared->Prop}{E:Value->Shared->Prop}(Nn Gl:List Str)(hc:chkC scope Nn Gl=true)(hclo:clo env.cells scope.names []=some cl)
 (h:wpAny (model prog w) A (eval iter env) (fun x s₁=>wpAny (model prog w) A (pyIter x) (CompAt prog w A env scope cl (.ListComp elt [⟨target,iter,ifs,0⟩] scope pos) none Q) no s₁) no s)
 (hs:autoParam (∀x,foldedSetIterable iter env x=pure x) au1):wpAny (model prog w) A (eval (.ListComp elt [⟨target,iter,ifs,0⟩] scope pos) env) Q E s:=by
 refine wpAny_no ?_
 rw [eval_ListComp]
 exact wpAny_comprehension_free (g:=⟨target,iter,ifs,0⟩) (gs:=[]) rfl hs (closureFor_clo hclo) (chkC_kind hc) (chkC_names hc) h
theorem asComp{elt target iter:Expr}{ifs:List Expr}{scope:Scope}{pos spos py:Pos}{y:Str}{cl:List (Str×Addr)}{Q:Flow->Shared->Prop}{E:Value->Shared->Prop}(Nn Gl:List Str)(hc:chkC scope Nn Gl=true)(hclo:clo env.cells scope.names []=some cl)
 (hsw:swapsWith (.ListComp elt [⟨target,iter,ifs,0⟩] scope pos) (some (.Name y py)) spos.line env=pure true)
 (h:wpAny (model prog w) A (eval iter env) (fun x s₁=>wpAny (model prog w) A (pyIter x) (CompAt prog w A env scope cl (.ListComp elt [⟨target,iter,ifs,0⟩] scope pos) (some (assign (.Name y py) env)) fun _ s'=>Q .next s') no s₁) no s)
 (hs:autoParam (∀x,foldedSetIterable iter env x=pure x) au1):wpAny (model prog w) A (exec (.Assign [.Name y py] (.ListComp elt [⟨target,iter,ifs,0⟩] scope pos) spos) env) Q E s:=by
 refine wpAny_no ?_
 rw [exec_Assign_Name_used _ _ _ _ hsw]
 refine wpAny_bind (wpAny_standAt (wpAny_bind ?_))
 show wpAny _ A (do let _←comprehension (.ListComp elt [⟨target,iter,ifs,0⟩] scope pos) scope env _ (newList []) false (eval iter env) (some (assign (.Name y py) env))) _ _ s
 exact wpAny_bind (wpAny_mono (wpAny_comprehension_free (g:=⟨target,iter,ifs,0⟩) (gs:=[]) (use:=some (assign (.Name y py) env)) (Q:=fun _ s'=>Q .next s') rfl hs (closureFor_clo hclo) (chkC_kind hc) (chkC_names hc) h)
  (fun _ s' hq=>wpAny_pure (wpAny_pure hq)) fun _ _ e=>e)
theorem swaps{elt:Expr}{gens:List Comprehension}{scope:Scope}{pos py:Pos}{y:Str}{n:Nat}{i:Nat}(C:Cx env N Gl)(hy:N[i]?=some y)(hl:(py.line==pos.line&&!(scope.names.any fun (n,k)=>n==y&&(k==.local||k==.cell)))=true) :
 swapsWith (.ListComp elt gens scope pos) (some (.Name y py)) n env=pure true:=by
 unfold swapsWith
 simp only []
 rw [Bool.and_eq_true] at hl
 have h1:(env.blockKind==ScopeKind.function)=true:=by
  have:=C.kind
  simp [Env.blockKind,this,ScopeKind.isAnnotationScope]
 have h2:(env.kindOf y==some NameKind.local)=true:=by rw [(C.loc i y hy).1];rfl
 have h3:(py.line==(Expr.ListComp elt gens scope pos).pos.line)=true:=hl.1
 rw [h1,h2,h3]
 simp only [Bool.true_and]
 rw [hl.2]
end
section
variable{prog:Program}{w:World}{A:Around}{s:Shared}{env:Env}
variable{h₀ g₀ g:Heap}{xt:List Addr}{L:Addr}{N Nn Gl No Go:List Str}{vs:List (Option Value)}{mu:List (Addr×Obj)}
noncomputable def CTurn(prog:Program)(w:World)(A:Around)(env:Env)(scope:Scope)(cl:List (Str×Addr))(elt target:Expr)(ifs:List Expr)(Nn Gl:List Str)(g:Heap)(P:Nat->Value->Prop)(J:Nat->Heap->List Value->Prop):Prop :=
 ∀i v (s:Shared) g' us ys I oI C D h tk,P i v->Le g g'->J i g' ys->us.length=Nn.length->Cx (compEnvC scope cl C env) Nn Gl->St s.heap [I] g g' C Nn us [(I,oI),(D,lst ys)] h ->
  wpAny (model prog w) A (assign target (compEnvC scope cl C env) v) (fun _ s₁=>wpAny (model prog w) A (tests ifs (compEnvC scope cl C env)) (fun ok s₃ =>
   if ok=true then wpAny (model prog w) A (eval elt (compEnvC scope cl C env)) (fun y=>CEnd s g I C D oI Nn ys g' fun g''=>J (i+1) g'' (ys++[y])) no s₃
   else CEnd s g I C D oI Nn ys g' (fun g''=>J (i+1) g'' ys) s₃) no s₁) no {s with heap:=h,toks:=tk}
theorem cmpE{elt target iter:Expr}{ifs:List Expr}{scope:Scope}{pos:Pos}{cl:List (Str×Addr)}{I:Addr}{oI:Obj}{n:Nat}{P:Nat->Value->Prop}{Wst:Nat->Heap->Prop}{Q:Value->Shared->Prop}
 (J:Nat->Heap->List Value->Prop) (hc:chkC scope Nn Gl=true) (C₀:Cx env No Go) (F:St h₀ xt g₀ g L N vs ((I,oI)::mu) s.heap) (hI:It prog w A target I n P g Wst) (h0:Wst 0 s.heap) (hj:J 0 g []) (hn:n<=sizeLine)
 (turn:CTurn prog w A env scope cl elt target ifs Nn Gl g P J)
 (done:∀g₁ g' D h' tk ys,Le g g'->Le g₁ g'->J n g₁ ys->g'.get? D=some (lst ys)->St h₀ xt g₀ g' L N vs mu h'->Q (.ref D) {s with heap:=h',toks:=tk}) :
 CompAt prog w A env scope cl (.ListComp elt [⟨target,iter,ifs,0⟩] scope pos) none Q (.ref I) s :=
 comp_block J (chkC_cell hc) (chkC_kind hc) F hI h0 hj hn (fun i v g' us ys oI C D h tk _ hP hg hJ hl F'=>turn i v s g' us ys _ oI C D h tk hP hg hJ hl (chkC_cx hc C₀ cl C) F')
  fun g₁ g' D C m h' tk ys k k1 hJ eD hm O F'=>⟨m,hm,fun h'' hs=>done g₁ g' D h'' tk ys k k1 hJ eD (F'.off O hs)⟩
theorem cmpS{elt target iter:Expr}{ifs:List Expr}{scope:Scope}{pos py:Pos}{y:Str}{cl:List (Str×Addr)}{I:Addr}{oI:Obj}{n j:Nat}{P:Nat->Value->Prop}{Wst:Nat->Heap->Prop}{Q:Flow->Shared->Prop}
 (J:Nat->Heap->List Value->Prop) (hc:chkC scope Nn Gl=true) (C₀:Cx env N Go) (F:St h₀ xt g₀ g env.locals N vs ((I,oI)::mu) s.heap) (hI:It prog w A target I n P g Wst) (h0:Wst 0 s.heap) (hj:J 0 g []) (hn:n<=sizeLine)
 (turn:CTurn prog w A env scope cl elt target ifs Nn Gl g P J) (hy:N[j]?=some y)
 (done:∀g₁ g' D h' tk ys,Le g g'->Le g₁ g'->J n g₁ ys->g'.get? D=some (lst ys)->St h₀ xt g₀ g' env.locals N (vs.set j (some (.ref D))) mu h'->Q .next {s with heap:=h',toks:=tk}) :
 CompAt prog w A env scope cl (.ListComp elt [⟨target,iter,ifs,0⟩] scope pos) (some (assign (.Name y py) env)) (fun _ s'=>Q .next s') (.ref I) s :=
 comp_block J (chkC_cell hc) (chkC_kind hc) F hI h0 hj hn (fun i v g' us ys oI C D h tk _ hP hg hJ hl F'=>turn i v s g' us ys _ oI C D h tk hP hg hJ hl (chkC_cx hc C₀ cl C) F')
  fun g₁ g' D C m h' tk ys k k1 hJ eD hm O F'=>by
   obtain ⟨m₀,hm₀,hl⟩:=F'.ns
   refine wpAny_assign_Name (wpAny_storeName_local (C₀.loc j y hy).1 hm₀ (fun h₂ hn hs=>?_) (by rw [C₀.kind];rfl))
   have F₂:=F'.set hy C₀.nodup hm₀ hn hs rfl
   refine ⟨m,hm.sameBut hs O.L,fun h'' hs'=>done g₁ g' D h'' _ ys k k1 hJ eD (F₂.off O hs')⟩
theorem cmpE_list{elt iter:Expr}{x:Str}{p:Pos}{ifs:List Expr}{scope:Scope}{pos:Pos}{cl:List (Str×Addr)}{l:Addr}{items:List Value}{k:Nat}{Q:Value->Shared->Prop}
 (J:Nat->Heap->List Value->Prop) (hh:A.handled=none) (hc:chkC scope Nn Gl=true) (C₀:Cx env No Go) (F:St h₀ xt g₀ g L N vs mu s.heap) (hl:g.get? l=some (lstObj items k)) (hj:J 0 g []) (hn:items.length<=sizeLine)
 (turn:CTurn prog w A env scope cl elt (.Name x p) ifs Nn Gl g (fun i v=>items[i]?=some v) J)
 (done:∀g₁ g' D h' tk ys,Le g g'->Le g₁ g'->J items.length g₁ ys->g'.get? D=some (lst ys)->St h₀ xt g₀ g' L N vs mu h'->Q (.ref D) {s with heap:=h',toks:=tk}) :
 wpAny (model prog w) A (pyIter (.ref l)) (CompAt prog w A env scope cl (.ListComp elt [⟨.Name x p,iter,ifs,0⟩] scope pos) none Q) no s:=by
 refine wpAny_pyIter_list ⟨_,F.keep _ _ hl,rfl,_,rfl⟩ ?_
 have F₁:=F.own (litObj l)
 obtain ⟨hI,h0⟩:=It.list (prog:=prog) (w:=w) (A:=A) (target:=.Name x p) hh hl (F₁.mt _ (.head _)).2.2.1 F₁.keep (F₁.mt _ (.head _)).1 fun i v s Q _ h=>go_name h
 exact cmpE J hc C₀ F₁ hI h0 hj hn turn done
theorem cmpS_list{elt iter:Expr}{x:Str}{p:Pos}{ifs:List Expr}{scope:Scope}{pos py:Pos}{y:Str}{cl:List (Str×Addr)}{l:Addr}{items:List Value}{k j:Nat}{Q:Flow->Shared->Prop}
 (J:Nat->Heap->List Value->Prop) (hh:A.handled=none) (hc:chkC scope Nn Gl=true) (C₀:Cx env N Go) (F:St h₀ xt g₀ g env.locals N vs mu s.heap) (hl:g.get? l=some (lstObj items k)) (hj:J 0 g []) (hn:items.length<=sizeLine)
 (turn:CTurn prog w A env scope cl elt (.Name x p) ifs Nn Gl g (fun i v=>items[i]?=some v) J) (hy:N[j]?=some y)
 (done:∀g₁ g' D h' tk ys,Le g g'->Le g₁ g'->J items.length g₁ ys->g'.get? D=some (lst ys)->St h₀ xt g₀ g' env.locals N (vs.set j (some (.ref D))) mu h'->Q .next {s with heap:=h',toks:=tk}) :
 wpAny (model prog w) A (pyIter (.ref l)) (CompAt prog w A env scope cl (.ListComp elt [⟨.Name x p,iter,ifs,0⟩] scope pos) (some (assign (.Name y py) env)) fun _ s'=>Q .next s') no s:=by
 refine wpAny_pyIter_list ⟨_,F.keep _ _ hl,rfl,_,rfl⟩ ?_
 have F₁:=F.own (litObj l)
 obtain ⟨hI,h0⟩:=It.list (prog:=prog) (w:=w) (A:=A) (target:=.Name x p) hh hl (F₁.mt _ (.head _)).2.2.1 F₁.keep (F₁.mt _ (.head _)).1 fun i v s Q _ h=>go_name h
 exact cmpS J hc C₀ F₁ hI h0 hj hn turn hy done
theorem cturn{elt:Expr}{x:Str}{p:Pos}{ifs:List Expr}{scope:Scope}{cl:List (Str×Addr)}{P:Nat->Value->Prop}{J:Nat->Heap->List Value->Prop}
 (h:∀i v (s:Shared) g' us ys I oI C D h tk,P i v->Le g g'->J i g' ys->us.length=Nn.length->Cx (compEnvC scope cl C env) Nn Gl->St s.heap [I] g g' C Nn us [(I,oI),(D,lst ys)] h ->
  wpAny (model prog w) A (storeName (compEnvC scope cl C env) x v) (fun _ s₁=>wpAny (model prog w) A (tests ifs (compEnvC scope cl C env)) (fun ok s₃ =>
   if ok=true then wpAny (model prog w) A (eval elt (compEnvC scope cl C env)) (fun y=>CEnd s g I C D oI Nn ys g' fun g''=>J (i+1) g'' (ys++[y])) no s₃
   else CEnd s g I C D oI Nn ys g' (fun g''=>J (i+1) g'' ys) s₃) no s₁) no {s with heap:=h,toks:=tk}):CTurn prog w A env scope cl elt (.Name x p) ifs Nn Gl g P J :=
 fun i v s g' us ys I oI C D h' tk hP hg hJ hl C₁ F=>wpAny_assign_Name (h i v s g' us ys I oI C D h' tk hP hg hJ hl C₁ F)
end
section
variable{prog:Program}{w:World}{A:Around}{s:Shared}{env:Env}{E:Value->Shared->Prop}
theorem Gives.enterV{g:Heap}{P:Heap->Heap->Value->Prop}{fa:Addr}{fd:FuncData}{body:List Stmt}{args:Args}{n:Nat}
 (as:List Value) (star:Str) (xs:List Value) (ps rest Gl:List Str) {o:Obj}
 (ho:s.heap.get? fa=some o) (hdata:o.data=.func fd) (hlim:s.heap.NoLimit) (hcd:s.heap.CodeRec fd.code fd.qualname) (hA:Ok A (n+1))
 (hbody:fd.body=.stmts body) (hbind:bindArgs fd args=(newTuple xs>>=fun t=>pure (ps.zip as++[(star,t)]))) (hl:ps.length=as.length) (hc:chk fd (ps++[star]) rest Gl=true) (hxs:xs.length<=sizeLine)
 (kg:Le g s.heap)
 (h:∀h₁ env A' t' T g₁,Ok A' n->Cx env (ps++[star]++rest) Gl->Le g g₁->g₁.get? T=some (tupObj xs)->St s.heap [] g g₁ env.locals (ps++[star]++rest) ((as++[Value.ref T]).map some++rest.map fun _=>(none:Option Value)) [] h₁ ->
  wpAny (model prog w) A' (execs body env) (Ends s [] g P) (fun _ _=>False) {s with heap:=h₁,toks:=t'}) :
 Gives prog w A (.call (.ref fa) args) s [] g P:=by
 have hc':=hc
 simp only [chk,Bool.and_eq_true,decide_eq_true_eq,List.all_eq_true,named,Bool.not_eq_true'] at hc
 obtain ⟨⟨⟨⟨⟨⟨⟨⟨c1,c2⟩,c3⟩,c4⟩,c5⟩,c6⟩,c7⟩,c8⟩,c9⟩:=hc
 intro R hR
 have ez:ps.zip as++[(star,Value.ref s.heap.objs.size)]=(ps++[star]).zip (as++[Value.ref s.heap.objs.size]):=by
  rw [List.zip_append hl];rfl
 refine codeAny_call_function hA.room ho hdata c2 c3 hbody hcd ?_
 rw [hbind]
 refine wpAny_bind (wpAny_newTuple (wpAny_pure ?_) hxs)
 rw [ez]
 refine wpAny_newFunctionEnv c7 (fun x hx=>(c5 _ (List.mem_append_left _ (List.of_mem_zip hx).1)).1) (fun h₁ hns hsb=>?_) c1
 have k0:Le s.heap (s.heap.push (tupObj xs)):=fun b o e=>Heap.get?_push_of_some _ e
 have k1:Le (s.heap.push (tupObj xs)) h₁:=fun b o e=>hsb.extBut b o (Nat.ne_of_lt (Heap.lt_size e)) (Heap.get?_push_of_some _ e)
 have hsz:(s.heap.push (tupObj xs)).objs.size=s.heap.objs.size+1:=Heap.size_push ..
 have gn:∀b,s.heap.objs.size<=b->g.get? b=none:=fun b hb=>by
  cases q:g.get? b with
  | none=>rfl
  | some o=>exact absurd (Heap.lt_size (kg _ _ q)) (Nat.not_lt.mpr hb)
 have F:St s.heap [] g g (s.heap.push (tupObj xs)).objs.size (ps++[star]++rest) ((as++[Value.ref s.heap.objs.size]).map some++rest.map fun _=>(none:Option Value)) [(s.heap.objs.size,tupObj xs)] h₁:=by
  refine ⟨by simp [hl],⟨_,hns,lookup_binds rest c4 (by simp [hl])⟩,fun b o _ e=>k1 b o (k0 b o e),(kg.tr k0).tr k1,by rw [hsz];exact Nat.le_succ _,gn _ (by rw [hsz];exact Nat.le_succ _),?_,List.nodup_cons.mpr ⟨List.not_mem_nil,.nil⟩,Le.rfl',?_⟩
  · intro p hp
    rw [List.mem_singleton.mp hp]
    exact ⟨k1 _ _ (Heap.get?_push_size _ rfl),by show s.heap.objs.size≠_;rw [hsz];exact Nat.ne_of_lt (Nat.lt_succ_self _),gn _ (Nat.le_refl _),.inr (Nat.le_refl _)⟩
  · intro b o e e0;rw [e] at e0;cases e0
 obtain ⟨g₁,kk,eT,F₁⟩:=F.freeze (pre:=[]) (post:=[]) rfl (Nat.le_refl _)
 refine ⟨(hlim.keeps k0).fresh _ hsb,codeAny_func (wpAny_mono (h h₁ (callEnv fd (s.heap.push (tupObj xs)).objs.size fa) _ _ _ g₁ hA.deeper (chk_cx hc' _ _) kk eT F₁) (fun fl s' e=>?_) fun _ _ e=>e.elim)⟩
 obtain ⟨g',h',t',rfl,o,p⟩:=e
 exact hR g' h' t' _ o p
theorem Try_{body:List Stmt}{h₀:ExceptHandler}{hs:List ExceptHandler}{pos:Pos}{Q:Flow->Shared->Prop}
 (h:wpAny (model prog w) A (execs body env) Q no s):wpAny (model prog w) A (exec (.Try body (h₀::hs) [] [] pos) env) Q E s :=
 wpAny_Try_except (wpAny_mono h (fun f s₁ h₁=>match f with
  | .next=>wpAny_execs_nil h₁
  | .brk=>h₁
  | .cont=>h₁
  | .ret _=>h₁) fun _ _ e=>e.elim)
theorem Cx.inter{N Gl:List Str}(C:Cx env N Gl):interactive env=false:=by unfold interactive;rw [C.kind];rfl
theorem doc_{N Gl:List Str}{x:Str}{k:Nat}{p pos:Pos}{rest:List Stmt}{Q:Flow->Shared->Prop}(C:Cx env N Gl)(h:∀t,wpAny (model prog w) A (execs rest env) Q E {s with toks:=t}) :
 wpAny (model prog w) A (execs (.Expr (.Constant (.str x) k p) pos::rest) env) Q E s :=
 wpAny_execs_cons (wpAny_Expr (Constant_str (h _)) C.inter rfl)
theorem Mstr{o e:Expr}{name:Str}{apos pos:Pos}{Q:Value->Shared->Prop}{x:Str}{t:Tok}
 (h:wpAny (model prog w) A (eval o env) (fun ov s₁=>ov=.str x t/\MethodOnS prog w A E name (.str x t) pos [(false,eval e env)] Q s₁) E s)
 (hbase:autoParam (attributeBase o name env (eval o env)=eval o env) au0) (hs:autoParam (starEach [e] env=[(false,eval e env)]) au0) (hline:autoParam ((apos.endLine==pos.line)=true) au0) :
 wpAny (model prog w) A (eval (.Call (.Attribute o name apos) [e] [] pos) env) Q E s :=
 Call_method1 hbase hs hline (wpAny_mono h (fun _ _ h=>h.1▸h.2) fun _ _ e=>e)
end
theorem le_ext{h h':Heap}(x:Heap.ExtBut h.objs.size h h'):Le h h':=fun b o e=>x b o (Nat.ne_of_lt (Heap.lt_size e)) e
theorem le_push(h:Heap)(o:Obj):Le h (h.push o):=fun b x e=>Heap.get?_push_of_some _ e
section
variable{prog:Program}{w:World}{A:Around}{s:Shared}{env:Env}{E:Value->Shared->Prop}
variable{h₀ g₀ g:Heap}{xt:List Addr}{L:Addr}{N Gl:List Str}{vs:List (Option Value)}{mu:List (Addr×Obj)}
theorem asT{elts:List Expr}{k:Nat}{tp:Pos}{T:Addr}{items:List Value}{Q:Unit->Shared->Prop}(hh:A.handled=none)(F:St h₀ xt g₀ g L N vs mu s.heap)(ht:g.get? T=some (tupObj items))
 (h:∀h',St h₀ xt g₀ g L N vs mu h'->wpAny (model prog w) A (assignInOrder ((assignEach elts env).map (·.2)) items) Q E {s with heap:=h'})
 (hn:autoParam ((assignEach elts env).length=items.length) au0) (hs:autoParam ((assignEach elts env).findIdx? (·.1)=none) au0):wpAny (model prog w) A (assign (.Tuple elts k tp) env (.ref T)) Q E s :=
 wpAny_assign_Tuple hh ⟨_,F.keep _ _ ht,rfl,_,rfl⟩ (by simpa using hn) hs fun h' he=>h h' (F.more (le_ext he))
theorem unp{T:Addr}{items:List Value}{n:Nat}{Q:List Value->Shared->Prop}(hh:A.handled=none)(F:St h₀ xt g₀ g L N vs mu s.heap)(ht:g.get? T=some (tupObj items))(hn:n=items.length)
 (h:∀h',St h₀ xt g₀ g L N vs mu h'->Q items {s with heap:=h'}):wpAny (model prog w) A (unpackItems (.ref T) n none) Q E s:=by
 have e:n=items.toArray.size:=by simpa using hn
 subst e
 exact unpackItems_tuple hh ⟨_,F.keep _ _ ht,rfl,_,rfl⟩ fun h' he=>h h' (F.more (le_ext he))
noncomputable def isSt(e:Expr):Bool:=match e with|.Starred _ _=>true|_=>false
theorem or_no{a b:Bool}(ha:a=false)(hb:b=false):¬(a||b)=true:=by rw [ha,hb];decide
noncomputable def nmAt(env:Env)(n:Nat)(e:Expr):Option Str:=match e with|.Name id pos=>if env.kindOf id==some .local&&pos.line==n then some id else none|_=>none
theorem swpG{env:Env}{ts vs:List Expr}{ns:List Str}{k k2:Nat}{tp p2:Pos}(hk:env.scope.kind=.function)(h1:(!(ts.length==2||ts.length==3))=false)(h2:(vs.length != ts.length)=false)
 (hs:vs.any isSt=false) (hn:ts.filterMap (nmAt env ((ts.head?.map (·.pos.line)).getD 0))=ns)
 (hl:(ns.length != ts.length)=false) (hd:(ns.eraseDups.length != ns.length)=false) (h4:vs.all (foldedForSure 8)=false) (h5:vs.all (constantsAlone 8)=false) :
 swappedStores [.Tuple ts k tp] (.Tuple vs k2 p2) env=pure (some ns):=by
 have hb:(env.blockKind != .function)=false:=by unfold Env.blockKind;rw [hk];rfl
 subst hn
 delta swappedStores
 dsimp only
 exact (if_neg (or_no (eq_false_of_ne_true (or_no h1 h2)) hb)).trans ((if_neg fun q=>Bool.noConfusion (hs.symm.trans q)).trans ((if_neg (or_no hl hd)).trans ((if_neg fun q=>Bool.noConfusion (h4.symm.trans q)).trans (if_neg fun q=>Bool.noConfusion (h5.symm.trans q)))))
theorem filt1{env:Env}{a:Str}{pa:Pos}{n:Nat}{es:List Expr}{r:List Str}(ka:env.kindOf a=some .local)(l:(pa.line==n)=true)(h:es.filterMap (nmAt env n)=r):(Expr.Name a pa::es).filterMap (nmAt env n)=a::r :=
 (List.filterMap_cons_some (show nmAt env n (.Name a pa)=some a from if_pos (by rw [ka,l];rfl))).trans (congrArg (a::·) h)
theorem Cx.ne{i j:Nat}{a b:Str}(C:Cx env N Gl)(hi:N[i]?=some a)(hj:N[j]?=some b)(h:i≠j):a≠b:=fun q=>h ((List.getElem?_inj (List.getElem?_eq_some_iff.mp hi).1 C.nodup).mp (hi.trans (q▸hj.symm)))
theorem dup0{α:Type}[BEq α][LawfulBEq α]{a:α}{l r:List α}(h:a∉l)(e:l.eraseDups=r):(a::l).eraseDups=a::r:=by
 rw [List.eraseDups_cons,List.filter_eq_self.mpr fun x hx=>by simpa using fun q:x=a=>h (q▸hx),e]
theorem swp2{a b:Str}{pa pb tp p2:Pos}{k k2:Nat}{e1 e2:Expr}(C:Cx env N Gl)(i j:Nat)(hi:N[i]?=some a)(hj:N[j]?=some b)(hab:i≠j)(l1:autoParam ((pb.line==pa.line)=true) au0)
 (n1:autoParam (isSt e1=false) au0) (n2:autoParam (isSt e2=false) au0) (h2:autoParam ([e1,e2].all (foldedForSure 8)=false) au0) (h3:autoParam ([e1,e2].all (constantsAlone 8)=false) au0) :
 swappedStores [.Tuple [.Name a pa,.Name b pb] k tp] (.Tuple [e1,e2] k2 p2) env=pure (some [a,b]) :=
 swpG C.kind rfl rfl (by rw [List.any_cons,List.any_cons];exact eq_false_of_ne_true (or_no n1 (eq_false_of_ne_true (or_no n2 rfl)))) (filt1 (C.loc i a hi).1 (beq_self_eq_true _) (filt1 (C.loc j b hj).1 l1 rfl)) rfl
  (by rw [dup0 (r:=[b]) (fun q=>C.ne hi hj hab (List.mem_singleton.mp q)) (dup0 List.not_mem_nil rfl)];rfl) h2 h3
theorem sl_ns{o e:Expr}{p pos:Pos}{Q:Value->Shared->Prop} (h:wpAny (model prog w) A (eval o env) (fun ov s₁=>wpAny (model prog w) A (eval e env) (fun ev s₂=>∃x t j u,ov=.str x t/\ev=.int j u/\x.length<=16777216 /\
 ∀h' t' k,Le s₂.heap h'->Q (.str (Txt.slice x none (some j)) t') {s₂ with heap:=h',toks:=k}) E s₁) E s) (ht:autoParam (∀o' r,letTemporaryGo o o' r=pure ()) au2) :
 wpAny (model prog w) A (eval (.Subscript o (.Slice none (some e) none p) pos) env) Q E s:=by
 refine Subscript_Slice (wpAny_mono h (fun ov s₁ h₁=>wpAny_Slice ?_) fun _ _ e=>e) ht
 rw [evalPart_none,evalPart_some]
 refine wpAny_pure (wpAny_mono h₁ (fun ev s₂ h₂=>wpAny_pure ?_) fun _ _ e=>e)
 obtain ⟨x,t,j,u,rfl,rfl,hsz,hq⟩:=h₂
 exact SBH.sliceItem_ns (P:=Le s₂.heap) (fun h ob k=>k.tr (le_push h ob)) Le.rfl' (fun h' t' k kk=>hq h' t' k kk) hsz
theorem sl_sn{o e:Expr}{p pos:Pos}{Q:Value->Shared->Prop} (h:wpAny (model prog w) A (eval o env) (fun ov s₁=>wpAny (model prog w) A (eval e env) (fun ev s₂=>∃x t j u,ov=.str x t/\ev=.int j u/\x.length<=16777216 /\
 ∀h' t' k,Le s₂.heap h'->Q (.str (Txt.slice x (some j) none) t') {s₂ with heap:=h',toks:=k}) E s₁) E s) (ht:autoParam (∀o' r,letTemporaryGo o o' r=pure ()) au2) :
 wpAny (model prog w) A (eval (.Subscript o (.Slice (some e) none none p) pos) env) Q E s:=by
 refine Subscript_Slice (wpAny_mono h (fun ov s₁ h₁=>wpAny_Slice ?_) fun _ _ e=>e) ht
 rw [evalPart_none,evalPart_some]
 refine wpAny_mono h₁ (fun ev s₂ h₂=>wpAny_pure (wpAny_pure ?_)) fun _ _ e=>e
 obtain ⟨x,t,j,u,rfl,rfl,hsz,hq⟩:=h₂
 exact SBH.sliceItem_sn (P:=Le s₂.heap) (fun h ob k=>k.tr (le_push h ob)) Le.rfl' (fun h' t' k kk=>hq h' t' k kk) hsz
end
end Mine.Internal
namespace Mine.Internal
open PySem PySem.W PyProof.Rows PySem.Calls PySem.Spec
mutual
inductive Dt(g:Heap):Value->PyData->Prop
 | int (i:Int) (t:Tok):Dt g (.int i t) (.int i)
 | str (x:Str) (t:Tok):Dt g (.str x t) (.str x)
 | list {l:Addr} {vs:List Value} {k:Nat} {ds:List PyData}:g.get? l=some (lstObj vs k)->Dts g vs ds->Dt g (.ref l) (.list ds)
 | tuple {l:Addr} {vs:List Value} {ds:List PyData}:g.get? l=some (tupObj vs)->Dts g vs ds->Dt g (.ref l) (.tuple ds)
inductive Dts(g:Heap):List Value->List PyData->Prop
 | nil:Dts g [] []
 | cons {v:Value} {vs:List Value} {d:PyData} {ds:List PyData}:Dt g v d->Dts g vs ds->Dts g (v::vs) (d::ds)
end
variable{g g':Heap}{v:Value}{d:PyData}{vs:List Value}{ds:List PyData}
theorem Dts.up(k:Le g g'){vs:List Value}{ds:List PyData}(h:Dts g vs ds):Dts g' vs ds :=
 Dts.rec (motive_1:=fun v d _=>Dt g' v d) (motive_2:=fun vs ds _=>Dts g' vs ds) (fun i t=>.int i t) (fun x t=>.str x t) (fun e _ x=>.list (k _ _ e) x) (fun e _ x=>.tuple (k _ _ e) x) .nil (fun _ _ a b=>.cons a b) h
theorem Dt.up(k:Le g g'){v:Value}{d:PyData}(h:Dt g v d):Dt g' v d:=by
 cases h with
 | int i t=>exact .int i t
 | str x t=>exact .str x t
 | list e x=>exact .list (k _ _ e) (x.up k)
 | tuple e x=>exact .tuple (k _ _ e) (x.up k)
theorem Dts.reads{vs:List Value}{ds:List PyData}(h:Dts g vs ds):∃as,ReadsAll g vs ds as :=
 Dts.rec (motive_1:=fun v d _=>∃as,Reads g v d as) (motive_2:=fun vs ds _=>∃as,ReadsAll g vs ds as) (fun i t=>⟨_,.int i t⟩) (fun x t=>⟨_,.str x t⟩) (fun e _ x=>x.elim fun as r=>⟨_,.list e rfl rfl (by simpa using r)⟩) (fun e _ x=>x.elim fun as r=>⟨_,.tuple e rfl rfl (by simpa using r)⟩) ⟨_,.nil⟩ (fun _ _ a b=>a.elim fun as r=>b.elim fun bs q=>⟨_,.cons r q⟩) h
theorem Dt.reads{v:Value}{d:PyData}(h:Dt g v d):∃as,Reads g v d as:=(Dts.cons h .nil).reads.elim fun as r=>by
 cases r with
 | cons a b=>exact ⟨_,a⟩
theorem Dts.ind{motive:List Value->List PyData->Prop}(h0:motive [] [])(h1:∀v vs d ds,Dt g v d->Dts g vs ds->motive vs ds->motive (v::vs) (d::ds)){vs:List Value}{ds:List PyData}(h:Dts g vs ds):motive vs ds :=
 Dts.rec (motive_1:=fun _ _ _=>True) (motive_2:=fun vs ds _=>motive vs ds) (fun _ _=>trivial) (fun _ _=>trivial) (fun _ _ _=>trivial) (fun _ _ _=>trivial) h0 (fun a b _ ih=>h1 _ _ _ _ a b ih) h
theorem Dt.listInv(x:Dt g v (.list ds)):∃l vs k,v=.ref l/\g.get? l=some (lstObj vs k)/\Dts g vs ds:=by
 cases x with
 | list e y=>exact ⟨_,_,_,rfl,e,y⟩
theorem Dt.tupInv(x:Dt g v (.tuple ds)):∃l vs,v=.ref l/\g.get? l=some (tupObj vs)/\Dts g vs ds:=by
 cases x with
 | tuple e y=>exact ⟨_,_,rfl,e,y⟩
theorem Dt.strInv{x:Str}(y:Dt g v (.str x)):∃t,v=.str x t:=by
 cases y;exact ⟨_,rfl⟩
theorem Dt.intInv{i:Int}(y:Dt g v (.int i)):∃t,v=.int i t:=by
 cases y;exact ⟨_,rfl⟩
theorem Dts.len{vs:List Value}{ds:List PyData}(h:Dts g vs ds):vs.length=ds.length:=h.ind (motive:=fun vs ds=>vs.length=ds.length) rfl fun _ _ _ _ _ _ ih=>congrArg (·+1) ih
theorem Dts.get{vs:List Value}{ds:List PyData}{i:Nat}{v:Value}(h:Dts g vs ds)(hv:vs[i]?=some v):∃d,ds[i]?=some d/\Dt g v d:=by
 refine h.ind (motive:=fun vs ds=>∀i v,vs[i]?=some v->∃d,ds[i]?=some d/\Dt g v d) (fun i v hv=>by cases hv) (fun v vs d ds a b ih i u hu=>?_) i v hv
 cases i with
 | zero=>cases hu;exact ⟨_,rfl,a⟩
 | succ i=>exact ih i u hu
theorem Dts.append{vs ws:List Value}{ds es:List PyData}(h:Dts g vs ds)(x:Dts g ws es):Dts g (vs++ws) (ds++es):=h.ind (motive:=fun vs ds=>Dts g (vs++ws) (ds++es)) x fun _ _ _ _ a _ ih=>.cons a ih
theorem Dts.snoc{vs:List Value}{ds:List PyData}{v:Value}{d:PyData}(h:Dts g vs ds)(x:Dt g v d):Dts g (vs++[v]) (ds++[d]):=h.append (.cons x .nil)
theorem Dts.take{vs:List Value}{ds:List PyData}(n:Nat)(h:Dts g vs ds):Dts g (vs.take n) (ds.take n):=by
 refine h.ind (motive:=fun vs ds=>∀n,Dts g (vs.take n) (ds.take n)) (fun n=>by rw [List.take_nil,List.take_nil];exact .nil) (fun v vs d ds a b ih n=>?_) n
 cases n with
 | zero=>exact .nil
 | succ n=>exact .cons a (ih n)
theorem Dts.drop{vs:List Value}{ds:List PyData}(n:Nat)(h:Dts g vs ds):Dts g (vs.drop n) (ds.drop n):=by
 refine h.ind (motive:=fun vs ds=>∀n,Dts g (vs.drop n) (ds.drop n)) (fun n=>by rw [List.drop_nil,List.drop_nil];exact .nil) (fun v vs d ds a b ih n=>?_) n
 cases n with
 | zero=>exact .cons a b
 | succ n=>exact ih n
theorem Dts.of_get{vs:List Value}{ds:List PyData}(hl:vs.length=ds.length)(h:∀(i:Nat) (v:Value) (d:PyData),vs[i]?=some v->ds[i]?=some d->Dt g v d):Dts g vs ds:=by
 induction vs generalizing ds with
 | nil=>cases ds with
  | nil=>exact .nil
  | cons d ds=>cases hl
 | cons v vs ih=>cases ds with
  | nil=>cases hl
  | cons d ds=>exact .cons (h 0 v d rfl rfl) (ih (Nat.succ.inj hl) fun i v d hv hd=>h (i+1) v d hv hd)
theorem Dts.ints{vs:List Value}{ns:List Int}(h:Dts g vs (ns.map .int)):IntsAre vs ns:=by
 induction ns generalizing vs with
 | nil=>cases h;exact .nil
 | cons n ns ih =>
  cases (show Dts g vs (.int n::ns.map .int) from h) with
  | cons a b=>cases a;exact .cons _ _ (ih b)
theorem Dts.strs{vs:List Value}{ns:List Str}(h:Dts g vs (ns.map .str)):∃l:List (Str×Tok),vs=strValues l/\l.map (·.1)=ns:=by
 induction ns generalizing vs with
 | nil=>cases h;exact ⟨[],rfl,rfl⟩
 | cons n ns ih =>
  cases (show Dts g vs (.str n::ns.map .str) from h) with
  | cons a b =>
   cases a with
   | str _ t =>
    obtain ⟨l,rfl,rfl⟩:=ih b
    exact ⟨(n,t)::l,rfl,rfl⟩
end Mine.Internal
namespace Mine.Internal
open PySem PySem.W PyProof.Rows PySem.Calls PySem.Spec
theorem clip(j n:Nat):max 0 (min (j:Int) (n:Int))=((min j n:Nat):Int):=by lia
theorem pick_take(vs:List Value)(j:Nat):slicePick vs.toArray none (some (j:Int)) none=(vs.take j).toArray:=by
 have e:sliceBounds none (some (j:Int)) none vs.toArray.size=(((0:Nat):Int),((min j vs.toArray.size:Nat):Int),1):=by
  simp only [sliceBounds,Option.getD_none,show (1:Int)>0 by decide,if_true,if_neg (show ¬((j:Int)<0) by exact zz0),clip];rfl
 rw [kmk_pick_nat _ e,List.drop_zero,Nat.sub_zero,List.size_toArray,kmk_take_min]
theorem pick_drop(vs:List Value)(j:Nat):slicePick vs.toArray (some (j:Int)) none none=(vs.drop j).toArray:=by
 have e:sliceBounds (some (j:Int)) none none vs.toArray.size=(((min j vs.toArray.size:Nat):Int),((vs.toArray.size:Nat):Int),1):=by
  simp only [sliceBounds,Option.getD_none,show (1:Int)>0 by decide,if_true,if_neg (show ¬((j:Int)<0) by exact zz0),clip]
 rw [kmk_pick_nat _ e]
 show ((vs.drop (min j vs.toArray.size)).take (vs.toArray.size-min j vs.toArray.size)).toArray=_
 rw [List.size_toArray,kmk_drop_min,List.take_of_length_le (by rw [List.length_drop];exact Nat.sub_le_sub_left (Nat.min_le_left ..) _)]
section
variable{prog:Program}{w:World}{A:Around}{s:Shared}{env:Env}{E:Value->Shared->Prop}
variable{h₀ g₀ g:Heap}{xt:List Addr}{L:Addr}{N Gl:List Str}{vs:List (Option Value)}{mu:List (Addr×Obj)}
theorem lsl_take{o e:Expr}{p pos:Pos}{Q:Value->Shared->Prop}
 (h:wpAny (model prog w) A (eval o env) (fun ov s₁=>wpAny (model prog w) A (eval e env) (fun ev s₂=>∃l items k j u g₁ mu₁ vs₁,ov=.ref l/\ev=.int ((j:Nat):Int) u/\items.length<=16777216/\g₁.get? l=some (lstObj items k)/\St h₀ xt g₀ g₁ L N vs₁ mu₁ s₂.heap /\
  ∀D g' h',Le g₁ g'->g'.get? D=some (lstObj (items.take j) 0)->St h₀ xt g₀ g' L N vs₁ mu₁ h'->Q (.ref D) {s₂ with heap:=h'}) E s₁) E s) (ht:autoParam (∀o' r,letTemporaryGo o o' r=pure ()) au2) :
 wpAny (model prog w) A (eval (.Subscript o (.Slice none (some e) none p) pos) env) Q E s:=by
 refine wpAny_Subscript_list_slice (wpAny_mono h (fun ov s₁ h₁=>?_) fun _ _ e=>e) ht
 rw [evalPart_none,evalPart_some]
 refine wpAny_pure (wpAny_mono h₁ (fun ev s₂ h₂=>?_) fun _ _ e=>e)
 obtain ⟨l,items,k,j,u,g₁,mu₁,vs₁,rfl,rfl,hsz,hl,F,hq⟩:=h₂
 refine ⟨l,items.toArray,none,some (j:Int),rfl,⟨_,F.keep _ _ hl,rfl,_,rfl⟩,by show _<=16777216;simpa using hsz,.none,.int _ _,?_⟩
 rw [pick_take]
 have F₁:=F.more (le_push s₂.heap {cls:=.type "slice",data:=.fields #[.none,.int ((j:Nat):Int) u,.none]})
 obtain ⟨g',k',eD,F₂⟩:=F₁.made (lstObj (items.take j) 0)
 have es:(s₂.heap.push {cls:=.type "slice",data:=.fields #[.none,.int ((j:Nat):Int) u,.none]}).objs.size=s₂.heap.objs.size+1:=Heap.size_push ..
 rw [es] at eD
 exact hq _ g' _ k' eD F₂
theorem lsl_drop{o e:Expr}{p pos:Pos}{Q:Value->Shared->Prop}
 (h:wpAny (model prog w) A (eval o env) (fun ov s₁=>wpAny (model prog w) A (eval e env) (fun ev s₂=>∃l items k j u g₁ mu₁ vs₁,ov=.ref l/\ev=.int ((j:Nat):Int) u/\items.length<=16777216/\g₁.get? l=some (lstObj items k)/\St h₀ xt g₀ g₁ L N vs₁ mu₁ s₂.heap /\
  ∀D g' h',Le g₁ g'->g'.get? D=some (lstObj (items.drop j) 0)->St h₀ xt g₀ g' L N vs₁ mu₁ h'->Q (.ref D) {s₂ with heap:=h'}) E s₁) E s) (ht:autoParam (∀o' r,letTemporaryGo o o' r=pure ()) au2) :
 wpAny (model prog w) A (eval (.Subscript o (.Slice (some e) none none p) pos) env) Q E s:=by
 refine wpAny_Subscript_list_slice (wpAny_mono h (fun ov s₁ h₁=>?_) fun _ _ e=>e) ht
 rw [evalPart_none,evalPart_some]
 refine wpAny_mono h₁ (fun ev s₂ h₂=>wpAny_pure ?_) fun _ _ e=>e
 obtain ⟨l,items,k,j,u,g₁,mu₁,vs₁,rfl,rfl,hsz,hl,F,hq⟩:=h₂
 refine ⟨l,items.toArray,some (j:Int),none,rfl,⟨_,F.keep _ _ hl,rfl,_,rfl⟩,by show _<=16777216;simpa using hsz,.int _ _,.none,?_⟩
 rw [pick_drop]
 have F₁:=F.more (le_push s₂.heap {cls:=.type "slice",data:=.fields #[.int ((j:Nat):Int) u,.none,.none]})
 obtain ⟨g',k',eD,F₂⟩:=F₁.made (lstObj (items.drop j) 0)
 have es:(s₂.heap.push {cls:=.type "slice",data:=.fields #[.int ((j:Nat):Int) u,.none,.none]}).objs.size=s₂.heap.objs.size+1:=Heap.size_push ..
 rw [es] at eD
 exact hq _ g' _ k' eD F₂
theorem addL{a b:Addr}{xs ys:List Value}{i j:Nat}{Q:Value->Shared->Prop}(F:St h₀ xt g₀ g L N vs mu s.heap)(ha:g.get? a=some (lstObj xs i))(hb:g.get? b=some (lstObj ys j))(hz:xs.length+ys.length<=16777216)
 (h:∀D g' h',Le g g'->g'.get? D=some (lstObj (xs++ys) 0)->St h₀ xt g₀ g' L N vs mu h'->Q (.ref D) {s with heap:=h'}):wpAny (model prog w) A (binaryOp .Add (.ref a) (.ref b)) Q E s:=by
 refine P.add_list (n:=i) (n2:=j) (F.keep _ _ ha) (F.keep _ _ hb) ?_ (by show _<=16777216;simpa using hz)
 obtain ⟨g',k',eD,F₂⟩:=F.made (lstObj (xs++ys) 0)
 have e:xs.toArray++ys.toArray=(xs++ys).toArray:=by simp
 rw [e]
 exact h _ g' _ k' eD F₂
theorem lenL{a:Addr}{xs:List Value}{i:Nat}{Q:Value->Shared->Prop}(k:Le g s.heap)(ha:g.get? a=some (lstObj xs i))(hz:xs.length<=16777216)
 (h:∀t t',Q (.int (xs.length:Int) t) {s with toks:=t'}):wpAny (model prog w) A (call (.builtin "len") [.ref a]) Q E s :=
 call_len_list ⟨_,k _ _ ha,rfl,_,rfl⟩ (by simp;exact zz1 hz) (by simpa using h _ _)
theorem eqD{a b:Value}{da db:PyData}{Q:Value->Shared->Prop}(k:Le g s.heap)(ha:Dt g a da)(hb:Dt g b db)(sa:SeqAt.shaped da=true)(sb:SeqAt.shaped db=true)(hu:A.units+65<cLine)(h:Q (.bool (PyData.eqv da db)) s) :
 wpAny (model prog w) A (compareOp .Eq a b) Q E s:=by
 obtain ⟨as,ra⟩:=(ha.up k).reads
 obtain ⟨bs,rb⟩:=(hb.up k).reads
 exact eq_dataH ra rb sa sb (by exact zz2 hu) h
theorem neD{a b:Value}{da db:PyData}{Q:Value->Shared->Prop}(k:Le g s.heap)(ha:Dt g a da)(hb:Dt g b db)(sa:SeqAt.shaped da=true)(sb:SeqAt.shaped db=true)(hu:A.units+65<cLine)(h:Q (.bool (!PyData.eqv da db)) s) :
 wpAny (model prog w) A (compareOp .NotEq a b) Q E s:=by
 obtain ⟨as,ra⟩:=(ha.up k).reads
 obtain ⟨bs,rb⟩:=(hb.up k).reads
 exact ne_dataH ra rb sa sb (by exact zz2 hu) h
theorem appS{o e:Expr}{apos pos:Pos}{a:Addr}{xs:List Value}{j:Nat}{pre post:List (Addr×Obj)}{Q:Value->Shared->Prop}(hz:xs.length<=16777216)
 (h:wpAny (model prog w) A (eval o env) (fun ov s₁=>ov=.ref a/\(∃ob,s₁.heap.get? a=some ob/\ob.dict=none/\ob.cls=.type "list")/\wpAny (model prog w) A (eval e env) (fun v s₂=>∃g₁ vs₁,St h₀ xt g₀ g₁ L N vs₁ (pre++(a,lstObj xs j)::post) s₂.heap /\
  ∀h',St h₀ xt g₀ g₁ L N vs₁ (pre++(a,lstObj (xs++[v]) (j+1))::post) h'->Q .none {s₂ with heap:=h'}) E s₁) E s)
 (hbase:autoParam (attributeBase o ("append":Str) env (eval o env)=eval o env) au0) (hs:autoParam (starEach [e] env=[(false,eval e env)]) au0) (hline:autoParam ((apos.endLine==pos.line)=true) au0) :
 wpAny (model prog w) A (eval (.Call (.Attribute o "append" apos) [e] [] pos) env) Q E s:=by
 refine Call_method1 hbase hs hline (wpAny_mono h (fun ov s₁ h₁=>?_) fun _ _ e=>e)
 obtain ⟨rfl,⟨ob,hob,hd,hc⟩,h₂⟩:=h₁
 refine ⟨"list","list.append",F.plainAttrs_list,F.slot_list_append,F.type_list_append,⟨ob,hob,hc⟩,fun b e=>by cases e;exact ⟨ob,hob,hd⟩,?_⟩
 refine callWith_any rfl (evalArgs_plain (spliced_cons (wpAny_mono h₂ (fun v s₂ h₃=>spliced_nil ?_) fun _ _ e=>e)))
 obtain ⟨g₁,vs₁,F,hq⟩:=h₃
 refine ⟨trivial,append_at (F.mt (a,lstObj xs j) (by simp)).1 (fun h' hsb hD=>?_) (by show _<=16777216;simpa using hz)⟩
 refine hq h' (F.turn rfl hsb (hD.trans ?_))
 rw [List.push_toArray]
end
section
variable{prog:Program}{w:World}{A:Around}{s:Shared}{env:Env}{E:Value->Shared->Prop}
variable{h₀ g₀ g:Heap}{xt:List Addr}{L:Addr}{N Gl:List Str}{vs:List (Option Value)}{mu:List (Addr×Obj)}
noncomputable def WTurn(h₀ g₀:Heap)(xt:List Addr)(L:Addr)(N:List Str)(s:Shared)(g:Heap)(n:Nat)(J:Nat->Heap->List (Option Value)->List (Addr×Obj)->Prop)(Q:Flow->Shared->Prop)(f:Flow)(s':Shared):Prop :=
 match f with
 | .brk=>Q .next s'
 | .ret v=>Q (.ret v) s'
 | _=>∃m g' vs' mu' h' t',m<n/\s'={s with heap:=h',toks:=t'}/\Le g g'/\St h₀ xt g₀ g' L N vs' mu' h'/\J m g' vs' mu'
theorem While_{test:Expr}{body:List Stmt}{pos:Pos}{Q:Flow->Shared->Prop}(J:Nat->Heap->List (Option Value)->List (Addr×Obj)->Prop)(n₀:Nat)(F:St h₀ xt g₀ g L N vs mu s.heap)(hj:J n₀ g vs mu)
 (turn:∀n g' vs' mu' h tk,Le g g'->J n g' vs' mu'->St h₀ xt g₀ g' L N vs' mu' h ->
  wpAny (model prog w) A (isTrue test env (eval test env)) (fun b s₂=>if b=true then wpAny (model prog w) A (execs body env) (WTurn h₀ g₀ xt L N s g' n J Q) no s₂ else Q .next s₂) no {s with heap:=h,toks:=tk}) :
 wpAny (model prog w) A (exec (.While test body [] pos) env) Q E s:=by
 refine wpAny_While (codeAny_mono (R:=fun r s'=>match r with|.ok f=>Q f s'|.error _=>False) ?_ fun r s' h'=>?_)
 · refine codeAny_whileLoop (fun n s'=>∃h tk g' vs' mu',s'={s with heap:=h,toks:=tk}/\Le g g'/\J n g' vs' mu'/\St h₀ xt g₀ g' L N vs' mu' h) ?_ n₀ ⟨s.heap,s.toks,g,vs,mu,rfl,Le.rfl',hj,F⟩
   rintro n s' ⟨h,tk,g',vs',mu',rfl,k,j,F'⟩
   refine wpAny_no (wpAny_mono (turn n g' vs' mu' h tk k j F') (fun b s₂ h₂=>?_) fun _ _ e=>e)
   cases b with
   | false=>exact wpAny_execs_nil h₂
   | true =>
    refine wpAny_no (wpAny_mono h₂ (fun f s₃ h₃=>?_) fun _ _ e=>e)
    have fin:(∃m g'' vs'' mu'' h'' t'',m<n/\s₃={s with heap:=h'',toks:=t''}/\Le g' g''/\St h₀ xt g₀ g'' L N vs'' mu'' h''/\J m g'' vs'' mu'') ->
     ∃m,m<n/\∃h tk g' vs' mu',s₃={s with heap:=h,toks:=tk}/\Le g g'/\J m g' vs' mu'/\St h₀ xt g₀ g' L N vs' mu' h:=by
     rintro ⟨m,g'',vs'',mu'',h'',t'',hm,rfl,k2,F₂,j₂⟩
     exact ⟨m,hm,h'',t'',g'',vs'',mu'',rfl,k.tr k2,j₂,F₂⟩
    cases f with
    | next=>exact fin h₃
    | cont=>exact fin h₃
    | brk=>exact h₃
    | ret v=>exact h₃
 · cases r with
   | ok f=>exact h'
   | error e=>exact h'.elim
theorem popS{o:Expr}{apos pos:Pos}{a:Addr}{xs:List Value}{y:Value}{j:Nat}{pre post:List (Addr×Obj)}{Q:Value->Shared->Prop}(hz:(xs++[y]).length<=16777216)
 (h:wpAny (model prog w) A (eval o env) (fun ov s₁=>ov=.ref a/\∃g₁ vs₁,St h₀ xt g₀ g₁ L N vs₁ (pre++(a,lstObj (xs++[y]) j)::post) s₁.heap /\
  ∀h' j',St h₀ xt g₀ g₁ L N vs₁ (pre++(a,lstObj xs j')::post) h'->Q y {s₁ with heap:=h'}) E s)
 (hbase:autoParam (attributeBase o ("pop":Str) env (eval o env)=eval o env) au0) (hline:autoParam ((apos.endLine==pos.line)=true) au0) :
 wpAny (model prog w) A (eval (.Call (.Attribute o "pop" apos) [] [] pos) env) Q E s:=by
 refine Call_method0 hbase hline (wpAny_mono h (fun ov s₁ h₁=>?_) fun _ _ e=>e)
 obtain ⟨rfl,g₁,vs₁,F,hq⟩:=h₁
 have ho:=(F.mt (a,lstObj (xs++[y]) j) (by simp)).1
 refine ⟨"list","list.pop",PySem.F.plainAttrs_list,PySem.F.slot_list_pop,PySem.F.type_list_pop,⟨_,ho,rfl⟩,fun b e=>by cases e;exact ⟨_,ho,rfl⟩,?_⟩
 refine callWith_any rfl (args0 ⟨trivial,?_⟩)
 refine call_meets PySem.F.slot_list_pop ⟨_,ho,rfl⟩ PySem.F.entry_list_pop (PySem.F.args_list_pop_1 _) (MeetsSeq.list_pop_last a (xs++[y]).toArray j y (by simp) (by show _<=16777216;simpa using hz)) ⟨ho,?_⟩
 have e:Obj.mapSeq (fun (zs:Array Value)=>zs.eraseIdxIfInBounds ((xs++[y]).toArray.size-1)) (lstObj (xs++[y]) j)=lstObj xs (j+1):=by
  have e1:(xs++[y]).toArray.eraseIdxIfInBounds ((xs++[y]).toArray.size-1)=xs.toArray:=by
   rw [List.eraseIdxIfInBounds_toArray]
   simp [List.eraseIdx_append_of_length_le]
  have e2:(xs.toArray.size==(xs++[y]).toArray.size)=false:=by simp
  show ({cls:=.type "list",dict:=none,data:=.seq ((xs++[y]).toArray.eraseIdxIfInBounds ((xs++[y]).toArray.size-1)) (if ((xs++[y]).toArray.eraseIdxIfInBounds ((xs++[y]).toArray.size-1)).size==(xs++[y]).toArray.size then j else j+1),slots:=#[]}:Obj)=_
  rw [e1,e2]
  rfl
 refine hq _ (j+1) (F.turn rfl (Heap.SameBut.update ..) ?_)
 rw [Heap.get?_update_self _ ho (by rw [e];rfl),e]
end
noncomputable def chkK(fd:FuncData)(N Gl Cl:List Str):Bool :=
 decide (fd.scope.kind=.function)&&!fd.scope.isCoroutine&&!fd.scope.isGenerator&&decide N.Nodup&&N.all (named fd.scope .local)&&Gl.all (named fd.scope .globalImplicit)&&Cl.all (named fd.scope .cell)&&decide (fd.globals=mainGlobals)&&decide (fd.builtins=builtinsNs)&&decide (fd.closure=[])
theorem Gives.goC{w:World}{A:Around}{s:Shared}{g:Heap}{P:Heap->Heap->Value->Prop}{fa:Addr}{fd:FuncData}{body:List Stmt}{n:Nat}
 (i:Nat) (as:List Value) (ps N Gl Cl:List Str) (vs:List (Option Value)) (hi:fnList[i]?=some (fa,fd)) (X:Stat g) (kg:Le g s.heap) (hA:Ok A (n+1))
 (hbody:fd.body=.stmts body) (hbind:bindArgs fd ⟨as,[]⟩=pure (ps.zip as)) (hc:chkK fd N Gl Cl=true)
 (hkn:∀n,∀x∈ps,fd.scope.names.lookup x=some .local\/(fd.scope.names.lookup x=some .cell/\((cellsFrom n fd.scope.names []).lookup x).isSome=true))
 (hvl:vs.length=N.length) (hvs:∀(j:Nat) (x:Str),N[j]?=some x->bindL (fun y=>fd.scope.names.lookup y) (ps.zip as) (fun _=>none) x=(vs[j]?).join)
 (h:∀h₁ env A' t',Ok A' n->Cx env N Gl->env.cells=cellsFrom (s.heap.objs.size+1) fd.scope.names []->(∀x∈Cl,∀c,env.cells.lookup x=some c->CellAt env x c) ->
  (∀x c,env.cells.lookup x=some c->h₁.IsCell c (bindC (fun y=>fd.scope.names.lookup y) (ps.zip as) (fun _=>none) x)/\s.heap.objs.size<c)->(env.locals=s.heap.objs.size) ->
  St s.heap [] g g env.locals N vs [] h₁->wpAny (model pw w) A' (execs body env) (Ends s [] g P) (fun _ _=>False) {s with heap:=h₁,toks:=t'}) :
 Gives pw w A (.call (.ref fa) ⟨as,[]⟩) s [] g P:=by
 simp only [chkK,Bool.and_eq_true,decide_eq_true_eq,List.all_eq_true,named,Bool.not_eq_true'] at hc
 obtain ⟨⟨⟨⟨⟨⟨⟨⟨⟨c1,c2⟩,c3⟩,c4⟩,c5⟩,c6⟩,c7⟩,c8⟩,c9⟩,c10⟩:=hc
 intro R hR
 refine codeAny_call_cells hA.room (kg _ _ (X.fnAt i hi)) rfl (X.lim.keeps kg) ((X.cdAt i hi).keeps kg) hbody hbind c10 (fun x hx=>hkn _ _ (List.of_mem_zip hx).1) (fun s₁ x=>?_) c2 c3 c1
 obtain ⟨h₁,t',rfl⟩:=x.toInCall.same
 have C:Cx (callEnvC fd s.heap.objs.size fa) N Gl:=⟨c1,c4,fun j y hy=>c5 y (List.mem_of_getElem? hy),fun y hy=>c6 y hy,c8,c9⟩
 have F:St s.heap [] g g (callEnvC fd s.heap.objs.size fa).locals N vs [] h₁:=by
  refine ⟨hvl,⟨_,x.toInCall.ns,fun j y hy=>hvs j y hy⟩,fun b o _ e=>x.toInCall.keep b o e,kg.tr fun b o e=>x.toInCall.keep b o e,Nat.le_refl _,?_,fun p hp=>(nomatch hp),.nil,Le.rfl',?_⟩
  · show g.get? s.heap.objs.size=none
    cases q:g.get? s.heap.objs.size with
    | none=>rfl
    | some o=>exact absurd (Heap.lt_size (kg _ _ q)) (Nat.lt_irrefl _)
  · intro b o e e0;rw [e] at e0;cases e0
 refine wpAny_mono (h h₁ (callEnvC fd s.heap.objs.size fa) _ t' hA.deeper C rfl (fun y hy c hcc=>⟨c1,(c7 y hy).1,hcc,(c7 y hy).2⟩) (fun y c hcc=>⟨x.cell y c hcc,x.above y c (mem_of_lookup hcc)⟩) rfl F) (fun fl s' e=>?_) fun _ _ e=>e.elim
 obtain ⟨g',h',t',rfl,o,p⟩:=e
 exact hR g' h' t' _ o p
theorem St.cell{h₀ g₀ g h:Heap}{xt:List Addr}{L c:Addr}{N:List Str}{vs:List (Option Value)}{mu:List (Addr×Obj)}{u:Option Value}(F:St h₀ xt g₀ g L N vs mu h)(hc:h.IsCell c u)(hL:L<c)(hg:g.get? c=none)(hm:∀p∈mu,p.1≠c) :
 ∃o,o.data=.cell u/\St h₀ xt g₀ g L N vs ((c,o)::mu) h:=by
 obtain ⟨o,ho,hd⟩:=hc
 refine ⟨o,hd,F.len,F.ns,F.base,F.keep,F.low,F.outg,fun p hp=>?_,?_,F.mono,F.fresh⟩
 · rcases List.mem_cons.mp hp with rfl|hp
   · exact ⟨ho,Nat.ne_of_gt hL,hg,.inr (Nat.le_trans F.low (Nat.le_of_lt hL))⟩
   · exact F.mt p hp
 · rw [List.map_cons]
   exact List.nodup_cons.mpr ⟨fun hm'=>by obtain ⟨p,hp,e⟩:=List.mem_map.mp hm';exact hm p hp e,F.nd⟩
theorem none_above{g h:Heap}(k:Le g h){c:Addr}(hc:h.objs.size<=c):g.get? c=none:=by
 cases q:g.get? c with
 | none=>rfl
 | some o=>exact absurd (Heap.lt_size (k _ _ q)) (Nat.not_lt.mpr hc)
section
variable{prog:Program}{w:World}{A:Around}{s:Shared}{env:Env}{E:Value->Shared->Prop}
variable{h₀ g₀ g:Heap}{xt:List Addr}{L:Addr}{N Gl:List Str}{vs:List (Option Value)}{mu:List (Addr×Obj)}
theorem modN{a b:Nat}{t u:Tok}{Q:Value->Shared->Prop}(hb:0<b)(h:∀t' k,Q (.int ((a%b:Nat):Int) t') {s with toks:=k}):wpAny (model prog w) A (binaryOp .Mod (.int (a:Int) t) (.int (b:Int) u)) Q E s:=by
 refine mod_int (by exact zz3 hb) ?_
 have e:Int.fmod (a:Int) (b:Int)=((a%b:Nat):Int):=by rw [Int.fmod_eq_emod_of_nonneg _ (by exact zz4)];rfl
 rw [e];exact h _ _
theorem divN{a b:Nat}{t u:Tok}{Q:Value->Shared->Prop}(hb:0<b)(hb2:b<1073741824)(h:∀t' k,Q (.int ((a/b:Nat):Int) t') {s with toks:=k}):wpAny (model prog w) A (binaryOp .FloorDiv (.int (a:Int) t) (.int (b:Int) u)) Q E s:=by
 refine floordiv_int (by exact zz3 hb) ?_ (.inl ?_)
 · have e:Int.fdiv (a:Int) (b:Int)=((a/b:Nat):Int):=by rw [Int.fdiv_eq_ediv_of_nonneg _ (by exact zz4)];rfl
   rw [e];exact h _ _
 · exact PyProof.noPylong_small (by simpa using hb2)
theorem powN{a n:Nat}{t u:Tok}{Q:Value->Shared->Prop}(ha:a<2^60)(hn:n<=1000)(h:∀t' k,Q (.int ((a^n:Nat):Int) t') {s with toks:=k}):wpAny (model prog w) A (binaryOp .Pow (.int (a:Int) t) (.int (n:Int) u)) Q E s:=by
 refine pow_int_small (by exact zz4) (by exact zz5 hn) (by simp;lia) ?_
 have e:((a:Int)^(n:Int).toNat)=((a^n:Nat):Int):=by simp
 rw [e];exact h _ _
theorem itemL{l:Addr}{xs:List Value}{k i:Nat}{t:Tok}{x:Value}{Q:Value->Shared->Prop}(kk:Le g s.heap)(hl:g.get? l=some (lstObj xs k))(hx:xs[i]?=some x)(hi:i<2^40)(h:Q x s):ItemOn (model prog w) A E (.ref l) (.int (i:Int) t) Q s :=
 ⟨"list",_,list_getitem_lookup,⟨_,kk _ _ hl,rfl⟩,wpAny_getItem_list ⟨_,kk _ _ hl,rfl,_,rfl⟩ (by exact zz4) (by lia) (by simpa using hx) h⟩
noncomputable abbrev ritObj(a n c:Int):Obj:={cls:=.type "range_iterator",data:=.fields #[rawInt a,rawInt n,rawInt c]}
theorem It.range{target:Expr}{I:Addr}{a n:Nat}{g h:Heap}(hh:A.handled=none)(hi:h.get? I=some (ritObj a n 1))
 (hgo:∀(i:Nat) (v:Value) (s:Shared) (Q:Unit->Shared->Prop),Q () s->wpAny (model prog w) A (letOwnedTupleGo target (.ref I) v) Q no s) :
 It prog w A target I n (fun i v=>∃t,v=.int ((a+i:Nat):Int) t) g (fun i h=>IsRangeIter h I ((a:Int)+(i:Nat)*1) ((n:Int)-(i:Nat)) 1)/\IsRangeIter h I ((a:Int)+((0:Nat):Int)*1) ((n:Int)-((0:Nat):Int)) 1:=by
 refine ⟨⟨⟨[I],(Walks.range (prog:=prog) (w:=w) (A:=A) hh I (a:Int) 1 n).weaken fun i v hv=>?_,fun b hb=>.inl (List.mem_singleton.mp hb)⟩,fun i h hw=>⟨_,hw⟩,fun i v s Q hw hq=>hgo i v s Q hq⟩,?_⟩
 · obtain ⟨t,rfl⟩:=hv
   exact ⟨t,by simp⟩
 · simpa [IsRangeIter] using hi
end
noncomputable abbrev rngObj(a b:Int)(t u v:Tok):Obj:={cls:=.type "range",data:=.fields #[.int a t,.int b u,.int 1 v]}
section
variable{prog:Program}{w:World}{A:Around}{s:Shared}{env:Env}{E:Value->Shared->Prop}
variable{h₀ g₀ g:Heap}{xt:List Addr}{L:Addr}{N Nn Gl No Go:List Str}{vs:List (Option Value)}{mu:List (Addr×Obj)}
theorem rng1{n:Int}{t:Tok}{Q:Value->Shared->Prop}(F:St h₀ xt g₀ g L N vs mu s.heap)
 (h:∀r g' h' t' u v k,Le g g'->g'.get? r=some (rngObj 0 n t' u v)->St h₀ xt g₀ g' L N vs mu h'->Q (.ref r) {s with heap:=h',toks:=k}):wpAny (model prog w) A (call (.type "range") [.int n t]) Q E s:=by
 refine call_range_1 ?_
 obtain ⟨g',k',e,F₂⟩:=F.made (rngObj 0 n s.toks t (s.toks+1))
 exact h _ g' _ _ _ _ _ k' e F₂
theorem rng2{a b:Int}{t t2:Tok}{Q:Value->Shared->Prop}(F:St h₀ xt g₀ g L N vs mu s.heap)
 (h:∀r g' h' t' u v k,Le g g'->g'.get? r=some (rngObj a b t' u v)->St h₀ xt g₀ g' L N vs mu h'->Q (.ref r) {s with heap:=h',toks:=k}):wpAny (model prog w) A (call (.type "range") [.int a t,.int b t2]) Q E s:=by
 refine call_range_2 ?_
 obtain ⟨g',k',e,F₂⟩:=F.made (rngObj a b t t2 s.toks)
 exact h _ g' _ _ _ _ _ k' e F₂
theorem rsize(a b:Nat):Builtin.Range.rangeSize (a:Int) (b:Int) 1=((b-a:Nat):Int):=by
 rw [rangeSize_one];split<;>lia
theorem each_range{x:Str}{p:Pos}{body:List Stmt}{r:Addr}{a b:Nat}{t u v:Tok}{Q:Flow->Shared->Prop}
 (J:Nat->Heap->List (Option Value)->List (Addr×Obj)->Prop) (hh:A.handled=none) (F:St h₀ xt g₀ g L N vs mu s.heap) (hl:g.get? r=some (rngObj a b t u v)) (ha:a<2^60) (hb:b<2^60) (hj:J 0 g vs mu)
 (turn:∀i t g' vs' mu' I oI h tk,i<b-a->Le g g'->J i g' vs' mu'->St h₀ xt g₀ g' L N vs' ((I,oI)::mu') h ->
  wpAny (model prog w) A (storeName env x (.int ((a+i:Nat):Int) t)) (fun _ s₁=>wpAny (model prog w) A (execs body env) (Turn h₀ g₀ xt L N s g' I oI (J (i+1)) Q) no s₁) no {s with heap:=h,toks:=tk})
 (done:∀g' vs' mu' h tk,Le g g'->J (b-a) g' vs' mu'->St h₀ xt g₀ g' L N vs' mu' h->Q .next {s with heap:=h,toks:=tk}) :
 wpAny (model prog w) A (pyIter (.ref r)) (fun it s₂=>codeAny (model prog w) A (.forLoop (.Name x p) it body [] env) (fun r s'=>match r with|.ok f=>Q f s'|.error _=>False) s₂) no s:=by
 refine wpAny_pyIter_range (F.keep _ _ hl) (small_one (by lia) (by lia) (by lia) (by lia)) ?_
 rw [rsize]
 have F₁:=F.own (ritObj (a:Int) ((b-a:Nat):Int) 1)
 obtain ⟨hI,h0⟩:=It.range (prog:=prog) (w:=w) (A:=A) (target:=.Name x p) (g:=g) hh (F₁.mt _ (.head _)).1 fun i v s Q h=>go_name h
 exact forLoop_ J hI h0 F₁ hj (fun i v g' vs' mu' oI h tk hi hP hg hJ F'=>by
  obtain ⟨t,rfl⟩:=hP
  exact wpAny_assign_Name (turn i t g' vs' mu' _ oI h tk hi hg hJ F')) done
theorem It.lt{target:Expr}{I:Addr}{n:Nat}{P:Nat->Value->Prop}{Wst:Nat->Heap->Prop}(hI:It prog w A target I n P g Wst):It prog w A target I n (fun i v=>i<n/\P i v) g Wst:=by
 obtain ⟨⟨fp,W,hfp⟩,alive,go⟩:=hI
 exact ⟨⟨fp,{sub:=W.sub,frame:=W.frame,item:=fun i s Q E hi st hQ=>W.item i s Q E hi st fun v h' tk hP a b=>hQ v h' tk ⟨hi,hP⟩ a b,done:=W.done,self:=W.self},hfp⟩,alive,go⟩
theorem cellIn{sc:Scope}{cl:List (Str×Addr)}{C c:Addr}{x:Str}(h:CellAt env x c)(hf:sc.names.lookup x=some .free)(hk:sc.kind=.function)(hc:cl.lookup x=some c):CellAt (compEnvC sc cl C env) x c :=
 ⟨hk,lookup_relabel_cell h.kind h.isC hf,hc,h.nd⟩
theorem cmpE_range{elt iter:Expr}{x:Str}{p:Pos}{ifs:List Expr}{scope:Scope}{pos:Pos}{cl:List (Str×Addr)}{r:Addr}{a b:Nat}{t u v:Tok}{Q:Value->Shared->Prop}
 (J:Nat->Heap->List Value->Prop) (hh:A.handled=none) (hc:chkC scope Nn Gl=true) (C₀:Cx env No Go) (F:St h₀ xt g₀ g L N vs mu s.heap) (hl:g.get? r=some (rngObj a b t u v)) (ha:a<2^60) (hb:b<2^60) (hj:J 0 g []) (hn:b-a<=sizeLine)
 (turn:CTurn prog w A env scope cl elt (.Name x p) ifs Nn Gl g (fun i v=>i<b-a/\∃t,v=.int ((a+i:Nat):Int) t) J)
 (done:∀g₁ g' D h' tk ys,Le g g'->Le g₁ g'->J (b-a) g₁ ys->g'.get? D=some (lst ys)->St h₀ xt g₀ g' L N vs mu h'->Q (.ref D) {s with heap:=h',toks:=tk}) :
 wpAny (model prog w) A (pyIter (.ref r)) (CompAt prog w A env scope cl (.ListComp elt [⟨.Name x p,iter,ifs,0⟩] scope pos) none Q) no s:=by
 refine wpAny_pyIter_range (F.keep _ _ hl) (small_one (by lia) (by lia) (by lia) (by lia)) ?_
 rw [rsize]
 have F₁:=F.own (ritObj (a:Int) ((b-a:Nat):Int) 1)
 obtain ⟨hI,h0⟩:=It.range (prog:=prog) (w:=w) (A:=A) (target:=.Name x p) (g:=g) hh (F₁.mt _ (.head _)).1 fun i v s Q h=>go_name h
 exact cmpE J hc C₀ F₁ hI.lt h0 hj hn turn done
end
end Mine.Internal
namespace Mine.Internal
open PySem PySem.W PyProof.Rows PySem.Calls PySem.Spec
section
variable{prog:Program}{w:World}{A:Around}{s:Shared}{env:Env}{E:Value->Shared->Prop}
variable{h₀ g₀ g:Heap}{xt:List Addr}{L:Addr}{N Gl:List Str}{vs:List (Option Value)}{mu:List (Addr×Obj)}
theorem swp3{a b c:Str}{pa pb pc tp p2:Pos}{k k2:Nat}{e1 e2 e3:Expr}(C:Cx env N Gl)(i j l:Nat)(hi:N[i]?=some a)(hj:N[j]?=some b)(hl:N[l]?=some c)(hab:i≠j)(hac:i≠l)(hbc:j≠l)(l1:autoParam ((pb.line==pa.line)=true) au0)(l2:autoParam ((pc.line==pa.line)=true) au0)
 (n1:autoParam (isSt e1=false) au0) (n2:autoParam (isSt e2=false) au0) (n3:autoParam (isSt e3=false) au0)
 (h2:autoParam ([e1,e2,e3].all (foldedForSure 8)=false) au0) (h3:autoParam ([e1,e2,e3].all (constantsAlone 8)=false) au0) :
 swappedStores [.Tuple [.Name a pa,.Name b pb,.Name c pc] k tp] (.Tuple [e1,e2,e3] k2 p2) env=pure (some [a,b,c]) :=
 swpG C.kind rfl rfl (by rw [List.any_cons,List.any_cons,List.any_cons];exact eq_false_of_ne_true (or_no n1 (eq_false_of_ne_true (or_no n2 (eq_false_of_ne_true (or_no n3 rfl)))))) (filt1 (C.loc i a hi).1 (beq_self_eq_true _) (filt1 (C.loc j b hj).1 l1 (filt1 (C.loc l c hl).1 l2 rfl))) rfl
  (by rw [dup0 (r:=[b,c]) (fun q=>(List.mem_cons.mp q).elim (C.ne hi hj hab) fun q=>C.ne hi hl hac (List.mem_singleton.mp q)) (dup0 (r:=[c]) (fun q=>C.ne hj hl hbc (List.mem_singleton.mp q)) (dup0 List.not_mem_nil rfl))];rfl) h2 h3
theorem go_tup{elts:List Expr}{k:Nat}{p:Pos}{I l:Addr}{i:Nat}{v:Value}{Q:Unit->Shared->Prop}(hit:s.heap.IsListIter I l i)(h:Q () s):wpAny (model prog w) A (letOwnedTupleGo (.Tuple elts k p) (.ref I) v) Q no s:=by
 cases v with
 | ref T=>exact wpAny_letOwnedTupleGo_listiter hit h
 | _=>exact wpAny_pure h
theorem each_listT{elts:List Expr}{kk:Nat}{p:Pos}{body:List Stmt}{l:Addr}{items:List Value}{k:Nat}{Q:Flow->Shared->Prop}
 (J:Nat->Heap->List (Option Value)->List (Addr×Obj)->Prop) (hh:A.handled=none) (F:St h₀ xt g₀ g L N vs mu s.heap) (hl:g.get? l=some (lstObj items k)) (hj:J 0 g vs mu)
 (turn:∀i v g' vs' mu' I oI h tk,items[i]?=some v->Le g g'->J i g' vs' mu'->St h₀ xt g₀ g' L N vs' ((I,oI)::mu') h ->
  wpAny (model prog w) A (assign (.Tuple elts kk p) env v) (fun _ s₁=>wpAny (model prog w) A (execs body env) (Turn h₀ g₀ xt L N s g' I oI (J (i+1)) Q) no s₁) no {s with heap:=h,toks:=tk})
 (done:∀g' vs' mu' h tk,Le g g'->J items.length g' vs' mu'->St h₀ xt g₀ g' L N vs' mu' h->Q .next {s with heap:=h,toks:=tk}) :
 wpAny (model prog w) A (pyIter (.ref l)) (fun it s₂=>codeAny (model prog w) A (.forLoop (.Tuple elts kk p) it body [] env) (fun r s'=>match r with|.ok f=>Q f s'|.error _=>False) s₂) no s:=by
 refine wpAny_pyIter_list ⟨_,F.keep _ _ hl,rfl,_,rfl⟩ ?_
 have F₁:=F.own (litObj l)
 obtain ⟨hI,h0⟩:=It.list (prog:=prog) (w:=w) (A:=A) (target:=.Tuple elts kk p) hh hl (F₁.mt _ (.head _)).2.2.1 F₁.keep (F₁.mt _ (.head _)).1 fun i v s Q hit h=>go_tup hit h
 exact forLoop_ J hI h0 F₁ hj (fun i v g' vs' mu' oI h tk _ hP hg hJ F'=>turn i v g' vs' mu' _ oI h tk hP hg hJ F') done
theorem itemT{l:Addr}{xs:List Value}{i:Nat}{t:Tok}{x:Value}{Q:Value->Shared->Prop}(kk:Le g s.heap)(hl:g.get? l=some (tupObj xs))(hx:xs[i]?=some x)(hi:i<2^40)(h:Q x s):ItemOn (model prog w) A E (.ref l) (.int (i:Int) t) Q s:=by
 have hlt:i<xs.length:=by
  rcases Nat.lt_or_ge i xs.length with q|q
  · exact q
  · rw [List.getElem?_eq_none q] at hx;cases hx
 exact ⟨"tuple",_,PySem.F.slot_tuple_getitem.lookup,⟨_,kk _ _ hl,rfl⟩,getItem_tuple ⟨_,kk _ _ hl,rfl,_,rfl⟩ (by lia) (by lia) (j:=i) (by unfold seqIndex?;simp;lia) (by simpa using hx) h⟩
theorem truT{l:Addr}{xs:List Value}{Q:Bool->Shared->Prop}(kk:Le g s.heap)(hl:g.get? l=some (tupObj xs))(hn:xs.length<2^40)(h:∀k,Q (decide (0<xs.length)) {s with toks:=k}):wpAny (model prog w) A (truthy (.ref l)) Q E s:=by
 refine truthy_tuple ⟨_,kk _ _ hl,rfl,_,rfl⟩ (by simp;lia) ?_
 have e:(!xs.toArray.isEmpty)=decide (0<xs.length):=by cases xs<;>simp
 rw [e];exact h _
theorem SubB{value e₁ e₂:Expr}{op:Operator}{p pos:Pos}{Q:Value->Shared->Prop}
 (h:wpAny (model prog w) A (eval value env) (fun o s₁=>wpAny (model prog w) A (eval (.BinOp e₁ op e₂ p) env) (fun i s₂=>ItemOn (model prog w) A E o i Q s₂) E s₁) E s) :
 wpAny (model prog w) A (eval (.Subscript value (.BinOp e₁ op e₂ p) pos) env) Q E s:=by
 rw [eval_Subscript]
 refine wpAny_bind (wpAny_mono h (fun o s₁ h₁=>wpAny_bind (wpAny_holding (wpAny_mono h₁ (fun i s₂ h₂=>wpAny_bind (wpAny_standAt ?_)) fun _ _ x=>x))) fun _ _ x=>x)
 obtain ⟨T,id,hl,hT,hg⟩:=h₂
 have fin:wpAny (model prog w) A (operate [o,i] (getItem o i)) (fun r s₃=>wpAny (model prog w) A (letTemporaryGo value o r>>=fun _=>pure r) Q E s₃) E s₂ :=
  wpAny_operating (wpAny_mono hg (fun r s₃ h₃=>wpAny_bind (wpAny_letTemporaryGo (wpAny_pure h₃))) fun _ _ x=>x)
 first
  | (refine wpAny_bind ?_;rw [getitemInPython_of_ne hT.not_modules];refine wpAny_bind (wpAny_specialOf hT hl ?_))
  | refine wpAny_bind (wpAny_specialOf hT hl ?_)
 first
  | exact wpAny_pure (wpAny_bind fin)
  | exact wpAny_bind (wpAny_pure (wpAny_bind fin))
  | exact wpAny_bind fin
theorem SubK{value:Expr}{c:Const}{k:Nat}{p pos:Pos}{Q:Value->Shared->Prop}
 (h:wpAny (model prog w) A (eval value env) (fun o s₁=>wpAny (model prog w) A (eval (.Constant c k p) env) (fun i s₂=>ItemOn (model prog w) A E o i Q s₂) E s₁) E s) :
 wpAny (model prog w) A (eval (.Subscript value (.Constant c k p) pos) env) Q E s:=by
 rw [eval_Subscript]
 refine wpAny_bind (wpAny_mono h (fun o s₁ h₁=>wpAny_bind (wpAny_holding (wpAny_mono h₁ (fun i s₂ h₂=>wpAny_bind (wpAny_standAt ?_)) fun _ _ x=>x))) fun _ _ x=>x)
 obtain ⟨T,id,hl,hT,hg⟩:=h₂
 have fin:wpAny (model prog w) A (operate [o,i] (getItem o i)) (fun r s₃=>wpAny (model prog w) A (letTemporaryGo value o r>>=fun _=>pure r) Q E s₃) E s₂ :=
  wpAny_operating (wpAny_mono hg (fun r s₃ h₃=>wpAny_bind (wpAny_letTemporaryGo (wpAny_pure h₃))) fun _ _ x=>x)
 first
  | (refine wpAny_bind ?_;rw [getitemInPython_of_ne hT.not_modules];refine wpAny_bind (wpAny_specialOf hT hl ?_))
  | refine wpAny_bind (wpAny_specialOf hT hl ?_)
 first
  | exact wpAny_pure (wpAny_bind fin)
  | exact wpAny_bind (wpAny_pure (wpAny_bind fin))
  | exact wpAny_bind fin
end
section
variable{prog:Program}{w:World}{A:Around}{s:Shared}{env:Env}{E:Value->Shared->Prop}
variable{h₀ g₀ g:Heap}{xt:List Addr}{L:Addr}{N Nn Gl No Go:List Str}{vs:List (Option Value)}{mu:List (Addr×Obj)}
theorem cmpS_tuple{elt iter:Expr}{x:Str}{p:Pos}{ifs:List Expr}{scope:Scope}{pos py:Pos}{y:Str}{cl:List (Str×Addr)}{l:Addr}{items:List Value}{j:Nat}{Q:Flow->Shared->Prop}
 (J:Nat->Heap->List Value->Prop) (hh:A.handled=none) (hc:chkC scope Nn Gl=true) (C₀:Cx env N Go) (F:St h₀ xt g₀ g env.locals N vs mu s.heap) (hl:g.get? l=some (tupObj items)) (hj:J 0 g []) (hn:items.length<=sizeLine)
 (turn:CTurn prog w A env scope cl elt (.Name x p) ifs Nn Gl g (fun i v=>items[i]?=some v) J) (hy:N[j]?=some y)
 (done:∀g₁ g' D h' tk ys,Le g g'->Le g₁ g'->J items.length g₁ ys->g'.get? D=some (lst ys)->St h₀ xt g₀ g' env.locals N (vs.set j (some (.ref D))) mu h'->Q .next {s with heap:=h',toks:=tk}) :
 wpAny (model prog w) A (pyIter (.ref l)) (CompAt prog w A env scope cl (.ListComp elt [⟨.Name x p,iter,ifs,0⟩] scope pos) (some (assign (.Name y py) env)) fun _ s'=>Q .next s') no s:=by
 refine wpAny_pyIter_tuple ⟨_,F.keep _ _ hl,rfl,_,rfl⟩ ?_
 have F₁:=F.own (titObj l)
 obtain ⟨hI,h0⟩:=It.tuple (prog:=prog) (w:=w) (A:=A) (target:=.Name x p) hh hl (F₁.mt _ (.head _)).2.2.1 F₁.keep (F₁.mt _ (.head _)).1 fun i v s Q _ h=>go_name h
 exact cmpS J hc C₀ F₁ hI h0 hj hn turn hy done
theorem asTup{elt iter:Expr}{x y:Str}{p py:Pos}{ifs:List Expr}{scope:Scope}{pos spos:Pos}{cl:List (Str×Addr)}{l:Addr}{items:List Value}{j:Nat}{Q:Flow->Shared->Prop}
 (Nn Gl:List Str) (J:Nat->Heap->List Value->Prop) (hh:A.handled=none) (hc:chkC scope Nn Gl=true) (hclo:clo env.cells scope.names []=some cl) (C₀:Cx env N Go) (hy:N[j]?=some y)
 (hl:(py.line==pos.line&&!(scope.names.any fun (n,k)=>n==y&&(k==.local||k==.cell)))=true) (hn:items.length<=sizeLine)
 (h:wpAny (model prog w) A (eval iter env) (fun xv s₁=>xv=.ref l/\∃g₁ vs₁ mu₁,St h₀ xt g₀ g₁ env.locals N vs₁ mu₁ s₁.heap/\g₁.get? l=some (tupObj items)/\J 0 g₁ []/\CTurn prog w A env scope cl elt (.Name x p) ifs Nn Gl g₁ (fun i v=>items[i]?=some v) J /\
  ∀g' g₂ D h' tk ys,Le g₁ g₂->Le g' g₂->J items.length g' ys->g₂.get? D=some (lst ys)->St h₀ xt g₀ g₂ env.locals N (vs₁.set j (some (.ref D))) mu₁ h'->Q .next {s₁ with heap:=h',toks:=tk}) no s)
 (hs:autoParam (∀x,foldedSetIterable iter env x=pure x) au1) :
 wpAny (model prog w) A (exec (.Assign [.Name y py] (.ListComp elt [⟨.Name x p,iter,ifs,0⟩] scope pos) spos) env) Q E s:=by
 refine asComp Nn Gl hc hclo (swaps C₀ hy hl) (wpAny_mono h (fun xv s₁ h₁=>?_) fun _ _ e=>e) hs
 obtain ⟨rfl,g₁,vs₁,mu₁,F,hl,hj,turn,done⟩:=h₁
 exact cmpS_tuple (Q:=Q) J hh hc C₀ F hl hj hn turn hy fun g' g₂ D h' tk ys a b c d e=>done g' g₂ D h' tk ys a b c d e
theorem asLst{elt iter:Expr}{x y:Str}{p py:Pos}{ifs:List Expr}{scope:Scope}{pos spos:Pos}{cl:List (Str×Addr)}{l:Addr}{items:List Value}{k j:Nat}{Q:Flow->Shared->Prop}
 (Nn Gl:List Str) (J:Nat->Heap->List Value->Prop) (hh:A.handled=none) (hc:chkC scope Nn Gl=true) (hclo:clo env.cells scope.names []=some cl) (C₀:Cx env N Go) (hy:N[j]?=some y)
 (hl:(py.line==pos.line&&!(scope.names.any fun (n,k)=>n==y&&(k==.local||k==.cell)))=true) (hn:items.length<=sizeLine)
 (h:wpAny (model prog w) A (eval iter env) (fun xv s₁=>xv=.ref l/\∃g₁ vs₁ mu₁,St h₀ xt g₀ g₁ env.locals N vs₁ mu₁ s₁.heap/\g₁.get? l=some (lstObj items k)/\J 0 g₁ []/\CTurn prog w A env scope cl elt (.Name x p) ifs Nn Gl g₁ (fun i v=>items[i]?=some v) J /\
  ∀g' g₂ D h' tk ys,Le g₁ g₂->Le g' g₂->J items.length g' ys->g₂.get? D=some (lst ys)->St h₀ xt g₀ g₂ env.locals N (vs₁.set j (some (.ref D))) mu₁ h'->Q .next {s₁ with heap:=h',toks:=tk}) no s)
 (hs:autoParam (∀x,foldedSetIterable iter env x=pure x) au1) :
 wpAny (model prog w) A (exec (.Assign [.Name y py] (.ListComp elt [⟨.Name x p,iter,ifs,0⟩] scope pos) spos) env) Q E s:=by
 refine asComp Nn Gl hc hclo (swaps C₀ hy hl) (wpAny_mono h (fun xv s₁ h₁=>?_) fun _ _ e=>e) hs
 obtain ⟨rfl,g₁,vs₁,mu₁,F,hl,hj,turn,done⟩:=h₁
 exact cmpS_list (Q:=Q) J hh hc C₀ F hl hj hn turn hy fun g' g₂ D h' tk ys a b c d e=>done g' g₂ D h' tk ys a b c d e
theorem evLst{elt iter:Expr}{x:Str}{p:Pos}{ifs:List Expr}{scope:Scope}{pos:Pos}{cl:List (Str×Addr)}{l L:Addr}{items:List Value}{k:Nat}{Q:Value->Shared->Prop}
 (Nn Gl:List Str) (J:Nat->Heap->List Value->Prop) (hh:A.handled=none) (hc:chkC scope Nn Gl=true) (hclo:clo env.cells scope.names []=some cl) (C₀:Cx env No Go) (hn:items.length<=sizeLine)
 (h:wpAny (model prog w) A (eval iter env) (fun xv s₁=>xv=.ref l/\∃g₁ vs₁ mu₁,St h₀ xt g₀ g₁ L N vs₁ mu₁ s₁.heap/\g₁.get? l=some (lstObj items k)/\J 0 g₁ []/\CTurn prog w A env scope cl elt (.Name x p) ifs Nn Gl g₁ (fun i v=>items[i]?=some v) J /\
  ∀g' g₂ D h' tk ys,Le g₁ g₂->Le g' g₂->J items.length g' ys->g₂.get? D=some (lst ys)->St h₀ xt g₀ g₂ L N vs₁ mu₁ h'->Q (.ref D) {s₁ with heap:=h',toks:=tk}) no s)
 (hs:autoParam (∀x,foldedSetIterable iter env x=pure x) au1) :
 wpAny (model prog w) A (eval (.ListComp elt [⟨.Name x p,iter,ifs,0⟩] scope pos) env) Q E s:=by
 refine evComp Nn Gl hc hclo (wpAny_mono h (fun xv s₁ h₁=>?_) fun _ _ e=>e) hs
 obtain ⟨rfl,g₁,vs₁,mu₁,F,hl,hj,turn,done⟩:=h₁
 exact cmpE_list (Q:=Q) J hh hc C₀ F hl hj hn turn fun g' g₂ D h' tk ys a b c d e=>done g' g₂ D h' tk ys a b c d e
end
structure Fr(w:World)(N Gl:List Str) where
 A:Around
 env:Env
 G:Array GenState
 D:Drawn
 O:OsState
 h₀:Heap
 xt:List Addr
 g₀:Heap
 cx:Cx env N Gl
 hd:A.handled=none
namespace Fr
variable{w:World}{N Gl:List Str}(c:Fr w N Gl)
noncomputable def st(h:Heap)(t:Nat):Shared:=⟨h,c.G,c.D,t,c.O⟩
noncomputable def S(g:Heap)(V:List (Option Value))(mu:List (Addr×Obj))(h:Heap):Prop:=St c.h₀ c.xt c.g₀ g c.env.locals N V mu h
noncomputable def X(b:List Stmt)(Q:Flow->Shared->Prop)(h:Heap)(t:Nat):Prop:=wpAny (model pw w) c.A (execs b c.env) Q no (c.st h t)
noncomputable def E(h:Heap)(e:Expr)(p:Tok->Value):Prop:=∀(Er:Value->Shared->Prop) (Q:Value->Shared->Prop) (t:Nat),(∀k t',Q (p k) (c.st h t'))->wpAny (model pw w) c.A (eval e c.env) Q Er (c.st h t)
noncomputable def T(h:Heap)(e:Expr)(b:Bool):Prop:=∀(Er:Value->Shared->Prop) (Q:Bool->Shared->Prop) (t:Nat),(∀t',Q b (c.st h t'))->wpAny (model pw w) c.A (isTrue e c.env (eval e c.env)) Q Er (c.st h t)
noncomputable def TA(h:Heap)(es:List Expr)(p:Pos)(b:Bool):Prop:=∀(wh:Sem Value) (Er:Value->Shared->Prop) (Q:Bool->Shared->Prop) (t:Nat),(∀t',Q b (c.st h t'))->wpAny (model pw w) c.A (isTrue (.BoolOp .And es p) c.env wh) Q Er (c.st h t)
noncomputable def Nx(K:Heap->Nat->Prop)(f:Flow)(s:Shared):Prop:=f=.next/\∃h t,s=c.st h t/\K h t
variable{c}{g:Heap}{V:List (Option Value)}{mu:List (Addr×Obj)}{h:Heap}{t:Nat}{e a b:Expr}{x:Str}{pos p:Pos}{rest body:List Stmt}{Q:Flow->Shared->Prop}
theorem nV{v:Value}(i:Nat)(F:c.S g V mu h)(hv:autoParam (V[i]?=some (some v)) au0)(hx:autoParam (N[i]?=some x) au0):c.E h (.Name x pos) (fun _=>v) :=
 fun _ _ t q=>ldI c.cx F (s:=c.st h t) i hx hv (q 0 t)
theorem nI{n:Int}{k:Tok}(i:Nat)(F:c.S g V mu h)(hv:autoParam (V[i]?=some (some (.int n k))) au0)(hx:autoParam (N[i]?=some x) au0):c.E h (.Name x pos) (Value.int n) :=
 fun _ _ t q=>ldI c.cx F (s:=c.st h t) i hx hv (q k t)
theorem kI{n:Int}{k:Nat}:c.E h (.Constant (.int n) k pos) (Value.int n):=fun _ _ t q=>wpAny_Constant_int (q _ _)
theorem kN{k:Nat}:c.E h (.Constant .none k pos) (fun _=>.none):=fun _ _ t q=>wpAny_Constant_none (q 0 _)
theorem toI{n:Int}{k:Tok}(H:c.E h e (fun _=>.int n k)):c.E h e (Value.int n):=fun Er Q t q=>H Er Q t fun _ t'=>q k t'
theorem addI{m n r:Int}(H1:c.E h a (Value.int m))(H2:c.E h b (Value.int n))(hr:m+n=r):c.E h (.BinOp a .Add b pos) (Value.int r) :=
 fun Er Q t q=>wpAny_BinOp (H1 Er _ t fun k t1=>H2 Er _ t1 fun k2 t2=>wpAny_add_int (by rw [hr];exact q _ _))
theorem subI{m n r:Int}(H1:c.E h a (Value.int m))(H2:c.E h b (Value.int n))(hr:m-n=r):c.E h (.BinOp a .Sub b pos) (Value.int r) :=
 fun Er Q t q=>wpAny_BinOp (H1 Er _ t fun k t1=>H2 Er _ t1 fun k2 t2=>P.sub_int (by rw [hr];exact q _ _))
theorem ixN{o:Expr}{n:Str}{l:Addr}{xs:List Value}{k i:Nat}{v:Value}(H1:c.E h o (fun _=>.ref l))(H2:c.E h (.Name n p) (Value.int (i:Int)))(kg:Le g h)(hl:g.get? l=some (lstObj xs k))(hx:xs[i]?=some v)(hi:i<2^40)
 (ht:autoParam (∀o' r,letTemporaryGo o o' r=pure ()) au2):c.E h (.Subscript o (.Name n p) pos) (fun _=>v) :=
 fun Er Q t q=>Subscript_Name (H1 Er _ t fun _ t1=>H2 Er _ t1 fun _ t2=>itemL kg hl hx hi (q 0 _)) ht
theorem ixB{o e1 e2:Expr}{op:Operator}{l:Addr}{xs:List Value}{k i:Nat}{v:Value}(H1:c.E h o (fun _=>.ref l))(H2:c.E h (.BinOp e1 op e2 p) (Value.int (i:Int)))(kg:Le g h)(hl:g.get? l=some (lstObj xs k))(hx:xs[i]?=some v)(hi:i<2^40)
 (ht:autoParam (∀o' r,letTemporaryGo o o' r=pure ()) au2):c.E h (.Subscript o (.BinOp e1 op e2 p) pos) (fun _=>v) :=
 fun Er Q t q=>Subscript_BinOp (H1 Er _ t fun _ t1=>H2 Er _ t1 fun _ t2=>itemL kg hl hx hi (q 0 _)) ht
theorem lenI{l:Addr}{xs:List Value}{k:Nat}{r:Int}{pp:Pos}(Y:Stat g)(hg:("len":Str)∈Gl)(H:c.E h e (fun _=>.ref l))(kg:Le g h)(hl:g.get? l=some (lstObj xs k))(hz:xs.length<=16777216)(hr:(xs.length:Int)=r)
 (he:autoParam (starEach [e] c.env=[(false,eval e c.env)]) au0):c.E h (.Call (.Name "len" pp) [e] [] pos) (Value.int r) :=
 fun Er Q t q=>C1 (N_len c.cx Y kg hg (H Er _ t fun _ t1=>⟨trivial,lenL kg hl hz fun t2 t3=>by rw [hr];exact q _ _⟩)) he
theorem tLt{m n:Int}{r:Bool}(H1:c.E h a (Value.int m))(H2:c.E h b (Value.int n))(hr:decide (m<n)=r)(hm:autoParam (behindInMarks .Lt b=false) auU):c.T h (.Compare a [.Lt] [b] pos) r :=
 fun Er Q t q=>wpAny_isTrue_Compare1 (H1 Er _ t fun k t1=>H2 Er _ t1 fun k2 t2=>P.lt_int (wpAny_truthy_bool (by rw [hr];exact q _))) hm
theorem tGt{m n:Int}{r:Bool}(H1:c.E h a (Value.int m))(H2:c.E h b (Value.int n))(hr:decide (n<m)=r)(hm:autoParam (behindInMarks .Gt b=false) auU):c.T h (.Compare a [.Gt] [b] pos) r :=
 fun Er Q t q=>wpAny_isTrue_Compare1 (H1 Er _ t fun k t1=>H2 Er _ t1 fun k2 t2=>P.gt_int (wpAny_truthy_bool (by show Q (decide (n<m)) _;rw [hr];exact q _))) hm
theorem tGe{m n:Int}{r:Bool}(H1:c.E h a (Value.int m))(H2:c.E h b (Value.int n))(hr:decide (n<=m)=r)(hm:autoParam (behindInMarks .GtE b=false) auU):c.T h (.Compare a [.GtE] [b] pos) r :=
 fun Er Q t q=>wpAny_isTrue_Compare1 (H1 Er _ t fun k t1=>H2 Er _ t1 fun k2 t2=>P.ge_int (wpAny_truthy_bool (by show Q (decide (n<=m)) _;rw [hr];exact q _))) hm
theorem tEqS{u v:Str}{r:Bool}{k1 k2:Tok}(H1:c.E h a (fun _=>.str u k1))(H2:c.E h b (fun _=>.str v k2))(hr:(u.cps.toList==v.cps.toList)=r)(hm:autoParam (behindInMarks .Eq b=false) auU):c.T h (.Compare a [.Eq] [b] pos) r :=
 fun Er Q t q=>wpAny_isTrue_Compare1 (H1 Er _ t fun k t1=>H2 Er _ t1 fun k2 t2=>P.eq_str (wpAny_truthy_bool (by rw [hr];exact q _))) hm
theorem tIsN{v:Value}{r:Bool}(H1:c.E h a (fun _=>v))(hr:(match v with|.none=>true|_=>false)=r)(hv:(∃n k,v=.int n k)\/v=.none\/∃l,v=.ref l):c.T h (.Compare a [.Is] [.Constant .none 0 p] pos) r:=by
 intro Er Q t q
 refine wpAny_isTrue_Compare1 (H1 Er _ t fun k t1=>wpAny_Constant_none (is_none (wpAny_truthy_bool ?_)))
 rcases hv with ⟨n,k,rfl⟩|rfl|⟨l,rfl⟩<;>(subst hr;exact q _)
theorem taNil:c.TA h [] p true:=fun _ _ _ t q=>isTrue_and_nil (q t)
theorem taT{es:List Expr}{r:Bool}(H:c.T h e true)(K:c.TA h es p r):c.TA h (e::es) p r:=fun wh Er Q t q=>isTrue_and (H Er _ t fun t'=>by rw [if_pos rfl];exact K _ _ _ _ q)
theorem taF{es:List Expr}(H:c.T h e false):c.TA h (e::es) p false:=fun wh Er Q t q=>isTrue_and (H Er _ t fun t'=>by rw [if_neg (by decide)];exact q _)
theorem tAnd{es:List Expr}{r:Bool}(H:c.TA h es p r):c.T h (.BoolOp .And es p) r:=fun Er Q t q=>H _ Er Q t q
theorem tNot{r:Bool}(H:c.T h e r):c.T h (.UnaryOp .Not e p) (!r):=fun Er Q t q=>isTrue_not (H Er _ t fun t'=>q t')
theorem tNotF(H:c.T h e false):c.T h (.UnaryOp .Not e p) true:=tNot H
theorem xDoc{k:Nat}{pp:Pos}(H:∀t,c.X rest Q h t):c.X (.Expr (.Constant (.str x) k p) pp::rest) Q h t:=doc_ c.cx H
theorem xAsg{pn:Tok->Value}(i:Nat)(F:c.S g V mu h)(He:c.E h e pn)(H:∀k:Tok,let V':=V.set i (some (pn k));∀h' t',c.S g V' mu h'->c.X rest Q h' t')(hs:autoParam (swapsWith e (some (.Name x p)) pos.line c.env=pure false) au0)(hx:autoParam (N[i]?=some x) au0) :
 c.X (.Assign [.Name x p] e pos::rest) Q h t :=
 wpAny_execs_cons (wpAny_Assign_Name (He _ _ t fun k t1=>stI c.cx F (s:=c.st h t1) i hx fun h' F'=>H k h' _ F') hs)
theorem sto{v:Value}{Qu:Unit->Shared->Prop}{Er:Value->Shared->Prop}(i:Nat)(F:c.S g V mu h)(H:let V':=V.set i (some v);∀h' t',c.S g V' mu h'->Qu () (c.st h' t'))(hx:autoParam (N[i]?=some x) au0):wpAny (model pw w) c.A (storeName c.env x v) Qu Er (c.st h t) :=
 stI c.cx F (s:=c.st h t) i hx fun h' F'=>H h' _ F'
theorem xLet(i:Nat)(H:wpAny (model pw w) c.A (eval e c.env) (fun v s=>∃h t g V mu,s=c.st h t/\c.S g V mu h/\∀h' t',c.S g (V.set i (some v)) mu h'->c.X rest Q h' t') no (c.st h t))(hs:autoParam (swapsWith e (some (.Name x p)) pos.line c.env=pure false) au0)(hx:autoParam (N[i]?=some x) au0) :
 c.X (.Assign [.Name x p] e pos::rest) Q h t :=
 wpAny_execs_cons (wpAny_Assign_Name (wpAny_mono H (fun v s=>by rintro ⟨h,t,g,V,mu,rfl,F,k⟩;exact stI c.cx F (s:=c.st h t) i hx fun h' F'=>k h' _ F') fun _ _ z=>z) hs)
theorem xIfT{ob:List Stmt}(H:c.T h e true)(K:∀t',c.X body (fun f s'=>match f with|.next=>wpAny (model pw w) c.A (execs rest c.env) Q no s'|f=>Q f s') h t'):c.X (.If e body ob pos::rest) Q h t :=
 wpAny_execs_cons (wpAny_If (H _ _ t fun t'=>by rw [if_pos rfl];exact K t'))
theorem xIfF{ob:List Stmt}(H:c.T h e false)(K:∀t',c.X ob (fun f s'=>match f with|.next=>wpAny (model pw w) c.A (execs rest c.env) Q no s'|f=>Q f s') h t'):c.X (.If e body ob pos::rest) Q h t :=
 wpAny_execs_cons (wpAny_If (H _ _ t fun t'=>by rw [if_neg (by decide)];exact K t'))
theorem xIf0(H:c.T h e false)(K:∀t',c.X rest Q h t'):c.X (.If e body [] pos::rest) Q h t:=xIfF H fun t'=>wpAny_execs_nil (K t')
theorem xNil(q:Q .next (c.st h t)):c.X [] Q h t:=wpAny_execs_nil q
theorem xCont(q:Q .cont (c.st h t)):c.X (.Continue pos::rest) Q h t:=wpAny_execs_cons (wpAny_Continue q)
theorem xBrk(q:Q .brk (c.st h t)):c.X (.Break pos::rest) Q h t:=wpAny_execs_cons (wpAny_Break q)
theorem xSeq{s:Stmt}(J:(Heap->Nat->Prop)->Prop)(H:∀K:Heap->Nat->Prop,J K->c.X [s] (c.Nx K) h t)(hr:J fun h' t'=>c.X rest Q h' t'):c.X (s::rest) Q h t:=by
 refine wpAny_execs_cons ?_
 have:=H _ hr
 intro Γ pp hΓ
 have z:=this Γ pp hΓ
 rw [execs_cons,Sem.wp_bind'] at z
 refine Sem.wp_mono _ Γ _ (fun f p' s' h'=>?_) (fun _ _ _ h'=>h') _ _ z
 cases f with
 | next =>
  obtain ⟨_,h2,t2,rfl,hk⟩:c.Nx (fun h' t'=>c.X rest Q h' t') .next s':=h'
  exact hk
 | _=>exact absurd h'.1 (by intro z;cases z)
theorem nNext{K:Heap->Nat->Prop}(k:K h t):c.X [] (c.Nx K) h t:=xNil ⟨rfl,h,t,rfl,k⟩
end Fr
theorem Gives.fr{w:World}{A:Around}{s:Shared}{g:Heap}{P:Heap->Heap->Value->Prop}{fa:Addr}{fd:FuncData}{body:List Stmt}{args:Args}{n:Nat}
 (i:Nat) (as:List Value) (ps rest N Gl:List Str) (hi:fnList[i]?=some (fa,fd)) (X:Stat g) (kg:Le g s.heap) (hA:Ok A (n+1))
 (hbody:fd.body=.stmts body) (hbind:BindsTo s fd args (ps.zip as)) (hl:ps.length=as.length) (hN:ps++rest=N) (hc:chk fd ps rest Gl=true)
 (H:∀(h₁:Heap) (t':Nat) (env:Env) (A':Around) (QQ:Flow->Shared->Prop) (cx:Cx env N Gl) (hA':Ok A' n),let c:Fr w N Gl:=⟨A',env,s.gens,s.drawn,s.os,s.heap,[],g,cx,hA'.handled⟩;let V:=as.map some++rest.map fun _=>none;
  c.S g V [] h₁->(∀g' h' t' v,Out s.heap [] g g' h'->P g' h' v->QQ (.ret v) (c.st h' t'))->c.X body QQ h₁ t') :
 Gives pw w A (.call (.ref fa) args) s [] g P:=by
 subst hN
 refine Gives.go i as ps rest Gl hi X kg hA hbody hbind hl hc fun h₁ env A' t' hA' C F=>absQ fun QQ hQ=>?_
 exact H h₁ t' env A' QQ C hA' F fun g' h' t' v o p=>hQ _ _ ⟨g',h',t',rfl,o,p⟩
theorem getK{α:Type}{l:List α}{i:Nat}(hi:i<l.length){G:Prop}(k:∀x,l[i]?=some x->G):G:=k _ (List.getElem?_eq_getElem hi)
theorem Gives.frM{w:World}{A:Around}{s:Shared}{g:Heap}{P:Heap->Heap->Value->Prop}{fa:Addr}{fd:FuncData}{body:List Stmt}{args:Args}{n:Nat}{xt:List Addr}
 (i:Nat) (as:List Value) (ps rest N Gl:List Str) (mu:List (Addr×Obj)) (hi:fnList[i]?=some (fa,fd)) (X:Stat g) (kg:Le g s.heap) (hA:Ok A (n+1))
 (hbody:fd.body=.stmts body) (hbind:BindsTo s fd args (ps.zip as)) (hl:ps.length=as.length) (hN:ps++rest=N) (hc:chk fd ps rest Gl=true)
 (hmu:∀p∈mu,s.heap.get? p.1=some p.2/\g.get? p.1=none/\p.1∈xt) (hnd:(mu.map (·.1)).Nodup)
 (H:∀(h₁:Heap) (t':Nat) (env:Env) (A':Around) (QQ:Flow->Shared->Prop) (cx:Cx env N Gl) (hA':Ok A' n),let c:Fr w N Gl:=⟨A',env,s.gens,s.drawn,s.os,s.heap,xt,g,cx,hA'.handled⟩;let V:=as.map some++rest.map fun _=>none;
  c.S g V mu h₁->(∀g' h' t' v,Out s.heap xt g g' h'->P g' h' v->QQ (.ret v) (c.st h' t'))->c.X body QQ h₁ t') :
 Gives pw w A (.call (.ref fa) args) s xt g P:=by
 subst hN
 refine Gives.enter as ps rest Gl mu (kg _ _ (X.fnAt i hi)) rfl (X.lim.keeps kg) ((X.cdAt i hi).keeps kg) hA hbody hbind hl hc kg hmu hnd fun h₁ env A' t' hA' C F=>absQ fun QQ hQ=>?_
 exact H h₁ t' env A' QQ C hA' F fun g' h' t' v o p=>hQ _ _ ⟨g',h',t',rfl,o,p⟩
inductive Mtch(N:List Str):List Expr->List Nat->Prop
 | nil:Mtch N [] []
 | cons {n:Str} {p:Pos} {i:Nat} {es:List Expr} {is:List Nat}:N[i]?=some n->Mtch N es is->Mtch N (.Name n p::es) (i::is)
noncomputable def setAll:List (Option Value)->List Nat->List Value->List (Option Value)
 | V,i::is,v::vs=>setAll (V.set i (some v)) is vs
 | V,_,_=>V
theorem genK{α:Type}(a:α){G:Prop}(k:∀x,a=x->G):G:=k a rfl
theorem Dts.two{g:Heap}{vs:List Value}{ps:List (Nat×Nat)}{m:Nat}{q:Nat×Nat}(hv:Dts g vs (ps.map fun p=>.tuple [.int p.1,.int p.2]))(hq:ps[m]?=some q){G:Prop}(k:∀T t1 t2,vs[m]?=some (.ref T)->g.get? T=some (tupObj [.int (q.1:Int) t1,.int (q.2:Int) t2])->G):G:=by
 have hm:m<vs.length:=by have:=hv.len;have:=(List.getElem?_eq_some_iff.mp hq).1;simp at *;lia
 obtain ⟨d,hd,hdt⟩:=hv.get (i:=m) (v:=vs[m]) (by simp [hm])
 have e:d=.tuple [.int q.1,.int q.2]:=by rw [List.getElem?_map,hq] at hd;simpa using hd.symm
 subst e
 obtain ⟨T,vv,ev,eT,dT⟩:=hdt.tupInv
 cases dT with
 | cons a1 r1=>cases r1 with
  | cons a2 r2=>cases r2 with
   | nil =>
    obtain ⟨t1,rfl⟩:=a1.intInv
    obtain ⟨t2,rfl⟩:=a2.intInv
    exact k T t1 t2 (by rw [←ev];simp [hm]) eT
theorem Dts.getP{α:Type}{f:α->PyData}{g:Heap}{vs:List Value}{xs:List α}{i:Nat}{v:Value}(hv:Dts g vs (xs.map f))(h:vs[i]?=some v){G:Prop}(k:∀x,xs[i]?=some x->Dt g v (f x)->G):G:=by
 obtain ⟨d,hd,hdt⟩:=hv.get h
 rw [List.getElem?_map] at hd
 obtain ⟨x,hx,rfl⟩:=Option.map_eq_some_iff.mp hd
 exact k x hx hdt
namespace Fr
variable{w:World}{N Gl:List Str}{c:Fr w N Gl}{g:Heap}{V:List (Option Value)}{mu:List (Addr×Obj)}{h:Heap}{t:Nat}{e a b o:Expr}{x:Str}{pos p:Pos}{rest body:List Stmt}{Q:Flow->Shared->Prop}
theorem S.keep(F:c.S g V mu h):Le g h:=St.keep F
theorem S.out(F:c.S g V mu h):Out c.h₀ c.xt c.g₀ g h:=St.out F
theorem S.freeze{a:Addr}{o:Obj}{G:Prop}(F:c.S g V ((a,o)::mu) h)(ha:c.h₀.objs.size<=a)(k:∀g',Le g g'->g'.get? a=some o->c.S g' V mu h->G):G:=by
 obtain ⟨g',k',e,F'⟩:=St.freeze (pre:=[]) (post:=mu) F rfl ha
 exact k g' k' e F'
theorem asV{G:Prop}(F:c.S g V mu h)(k:let V':=V;c.S g V' mu h->G):G:=k F
theorem S.same{i:Nat}{u:Option Value}(F:c.S g V mu h)(hv:V[i]?=some u):c.S g (V.set i u) mu h:=by
 have e:V.set i u=V:=by
  refine List.ext_getElem? fun j=>?_
  rw [List.getElem?_set]
  by_cases q:i=j
  · subst q
    rw [if_pos rfl,if_pos (List.getElem?_eq_some_iff.mp hv).1,hv]
  · rw [if_neg q]
 rw [e];exact F
theorem xRet{pn:Tok->Value}(He:c.E h e pn)(q:∀k t',Q (.ret (pn k)) (c.st h t')):c.X (.Return (some e) pos::rest) Q h t :=
 wpAny_execs_cons (wpAny_Return_some (He _ _ t q))
theorem xTup3{n1 n2 n3:Str}{q1 q2 q3 tp p2:Pos}{k k2:Nat}{e1 e2 e3:Expr}{v1 v2 v3:Tok->Value}(i j l:Nat)(F:c.S g V mu h)(H1:c.E h e1 v1)(H2:c.E h e2 v2)(H3:c.E h e3 v3)
 (H:∀k1 k2 k3,let V':=((V.set l (some (v3 k3))).set j (some (v2 k2))).set i (some (v1 k1));∀g' h' t',Le g g'->c.S g' V' mu h'->c.X rest Q h' t')
 (hi:autoParam (N[i]?=some n1) au0) (hj:autoParam (N[j]?=some n2) au0) (hl:autoParam (N[l]?=some n3) au0) (hij:autoParam (i≠j) auD) (hil:autoParam (i≠l) auD) (hjl:autoParam (j≠l) auD)
 (l1:autoParam ((q2.line==q1.line)=true) au0) (l2:autoParam ((q3.line==q1.line)=true) au0)
 (s1:autoParam (isSt e1=false) au0) (s2:autoParam (isSt e2=false) au0) (s3:autoParam (isSt e3=false) au0)
 (a2:autoParam ([e1,e2,e3].all (foldedForSure 8)=false) au0) (a3:autoParam ([e1,e2,e3].all (constantsAlone 8)=false) au0)
 (hs:autoParam (swapsWithSole [.Tuple [.Name n1 q1,.Name n2 q2,.Name n3 q3] k tp] (.Tuple [e1,e2,e3] k2 p2) pos.line c.env=pure false) au0)
 (b1:autoParam (starEach [e1,e2,e3] c.env=(false,eval e1 c.env)::starEach [e2,e3] c.env) au0) (b2:autoParam (starEach [e2,e3] c.env=(false,eval e2 c.env)::starEach [e3] c.env) au0) (b3:autoParam (starEach [e3] c.env=(false,eval e3 c.env)::starEach [] c.env) au0) :
 c.X (.Assign [.Tuple [.Name n1 q1,.Name n2 q2,.Name n3 q3] k tp] (.Tuple [e1,e2,e3] k2 p2) pos::rest) Q h t:=by
 refine wpAny_execs_cons (Assign_Tuple_swapped (names:=[n1,n2,n3]) ?_ hs (swp3 c.cx i j l hi hj hl hij hil hjl l1 l2 s1 s2 s3 a2 a3))
 refine tupE (sp1 (H1 _ _ t fun k1 t1=>sp1 (H2 _ _ t1 fun k2 t2=>sp1 (H3 _ _ t2 fun k3 t3=>sp0 ?_) b3) b2) b1)
 refine newTup (s:=c.st h t3) F (fun T g' h' k eT F=>?_)
 refine unp c.hd F eT rfl fun h' F=>?_
 refine assignInOrder_cons (wpAny_bindName (stI c.cx F l hl fun h' F=>?_))
 refine assignInOrder_cons (wpAny_bindName (stI c.cx F j hj fun h' F=>?_))
 refine assignInOrder_cons (wpAny_bindName (stI c.cx F i hi fun h' F=>assignInOrder_nil ?_))
 exact H k1 k2 k3 g' h' _ k F
noncomputable def On(c:Fr w N Gl)(g:Heap)(I:Addr)(oI:Obj)(J:Heap->List (Option Value)->List (Addr×Obj)->Prop)(TT:Flow->Shared->Prop):Prop :=
 ∀g2 V2 mu2 h2 t2,Le g g2->c.S g2 V2 ((I,oI)::mu2) h2->J g2 V2 mu2->TT .next (c.st h2 t2)/\TT .cont (c.st h2 t2)
theorem On.go{I:Addr}{oI:Obj}{J:Heap->List (Option Value)->List (Addr×Obj)->Prop}{TT:Flow->Shared->Prop}(hT:c.On g I oI J TT){g2:Heap}(k:Le g g2)(F:c.S g2 V ((I,oI)::mu) h)(j:J g2 V mu):c.X [] TT h t:=xNil (hT _ _ _ _ _ k F j).1
theorem On.cont{I:Addr}{oI:Obj}{J:Heap->List (Option Value)->List (Addr×Obj)->Prop}{TT:Flow->Shared->Prop}(hT:c.On g I oI J TT){g2:Heap}(k:Le g g2)(F:c.S g2 V ((I,oI)::mu) h)(j:J g2 V mu):c.X (.Continue pos::rest) TT h t:=xCont (hT _ _ _ _ _ k F j).2
theorem xForR{a1 b1:Expr}{m n:Nat}{pr pc:Pos}(i:Nat)(Y:Stat g)(hr:("range":Str)∈Gl)(H1:c.E h a1 (Value.int (m:Int)))(H2:c.E h b1 (Value.int (n:Int)))(F:c.S g V mu h)(hm:m<2^60)(hn:n<2^60)
 (J:Nat->Heap->List (Option Value)->List (Addr×Obj)->Prop) (hj:∀g',Le g g'->J 0 g' V mu)
 (turn:∀k ti g' V' mu' I oI h' tk TT,k<n-m->Le g g'->J k g' V' mu'->(∀h2 t2,c.X rest Q h2 t2->TT .brk (c.st h2 t2))->c.On g' I oI (J (k+1)) TT->let V2:=V'.set i (some (.int ((m+k:Nat):Int) ti));c.S g' V2 ((I,oI)::mu') h'->c.X body TT h' tk)
 (done:∀g' V' mu' h' tk,Le g g'->J (n-m) g' V' mu'->c.S g' V' mu' h'->c.X rest Q h' tk) (hx:autoParam (N[i]?=some x) au0)
 (hs:autoParam (∀y,foldedSetIterable (.Call (.Name "range" pr) [a1,b1] [] pc) c.env y=pure y) au1) (he:autoParam (starEach [a1,b1] c.env=[(false,eval a1 c.env),(false,eval b1 c.env)]) au0) :
 c.X (.For (.Name x p) (.Call (.Name "range" pr) [a1,b1] [] pc) body [] pos::rest) Q h t:=by
 refine wpAny_execs_cons (For_ ?_ hs)
 refine C2 (N_range c.cx Y (s:=c.st h t) F.keep hr (H1 _ _ t fun _ t1=>H2 _ _ t1 fun _ t2=>⟨trivial,?_⟩)) he
 refine rng2 (s:=c.st h t2) F fun rr g₇ h' r1 r2 r3 rk k7 err F=>?_
 refine each_range (a:=m) (b:=n) (fun i g' vs' mu'=>Le g g'/\J i g' vs' mu') c.hd F err hm hn ⟨k7,hj _ k7⟩ ?_ ?_
 · intro k ti g' V' mu' I oI h tk hk kg' hJ F
   refine absT fun TT hTT=>?_
   refine stI c.cx F i hx fun h' F=>?_
   refine turn k ti g' V' mu' I oI h' _ TT hk hJ.1 hJ.2 (fun _ _ q=>hTT .brk _ q) ?_ F
   exact fun g2 V2 mu2 h2 t2 k2 F2 j2=>⟨hTT _ _ ⟨g2,V2,mu2,h2,t2,rfl,k2,F2,hJ.1.tr k2,j2⟩,hTT _ _ ⟨g2,V2,mu2,h2,t2,rfl,k2,F2,hJ.1.tr k2,j2⟩⟩
 · intro g' V' mu' h' tk kg' hJ F
   exact done g' V' mu' h' tk hJ.1 hJ.2 F
theorem xForL{it:Expr}{l:Addr}{n:Nat}{items:List Value}(i:Nat)(F:c.S g V mu h)(He:c.E h it (fun _=>.ref l))(hl:g.get? l=some (lstObj items n))
 (J:Nat->Heap->List (Option Value)->List (Addr×Obj)->Prop) (hj:J 0 g V mu)
 (turn:∀k v g' V' mu' I oI h' tk TT,items[k]?=some v->Le g g'->J k g' V' mu'->(∀h2 t2 g2 V2 mu2,Le g' g2->c.S g2 V2 mu2 h2->Q .next (c.st h2 t2)->TT .brk (c.st h2 t2))->c.On g' I oI (J (k+1)) TT->let V2:=V'.set i (some v);c.S g' V2 ((I,oI)::mu') h'->c.X body TT h' tk)
 (done:∀g' V' mu' h' tk,Le g g'->J items.length g' V' mu'->c.S g' V' mu' h'->Q .next (c.st h' tk)) (hx:autoParam (N[i]?=some x) au0)
 (hs:autoParam (∀y,foldedSetIterable it c.env y=pure y) au1) :
 wpAny (model pw w) c.A (exec (.For (.Name x p) it body [] pos) c.env) Q no (c.st h t):=by
 refine For_ (He _ _ t fun _ t=>?_) hs
 refine each_list (s:=c.st h t) (items:=items) (fun i g' vs' mu'=>Le g g'/\J i g' vs' mu') c.hd F hl ⟨Le.rfl',hj⟩ ?_ ?_
 · intro k v g' V' mu' I oI h tk hk kg' hJ F
   refine absT fun TT hTT=>?_
   refine stI c.cx F i hx fun h' F=>?_
   refine turn k v g' V' mu' I oI h' _ TT hk hJ.1 hJ.2 (fun _ _ _ _ _ _ _ q=>hTT .brk _ q) ?_ F
   exact fun g2 V2 mu2 h2 t2 k2 F2 j2=>⟨hTT _ _ ⟨g2,V2,mu2,h2,t2,rfl,k2,F2,hJ.1.tr k2,j2⟩,hTT _ _ ⟨g2,V2,mu2,h2,t2,rfl,k2,F2,hJ.1.tr k2,j2⟩⟩
 · intro g' V' mu' h' tk kg' hJ F
   exact done g' V' mu' h' tk hJ.1 hJ.2 F
theorem xWh0{test:Expr}(F:c.S g V mu h)(H:∀h',c.S g V mu h'->c.T h' test false)(K:∀h' t',c.S g V mu h'->c.X rest Q h' t'):c.X (.While test body [] pos::rest) Q h t:=by
 refine wpAny_execs_cons (While_ (fun n g' vs' mu'=>n=0/\g'=g/\vs'=V/\mu'=mu) 0 F ⟨rfl,rfl,rfl,rfl⟩ ?_)
 rintro n g' vs' mu' h tk _ ⟨rfl,rfl,rfl,rfl⟩ F
 exact H h F _ _ _ fun t'=>by rw [if_neg (by decide)];exact K h t' F
theorem lowSz(F:c.S g V mu h):c.h₀.objs.size<=h.objs.size:=St.lowSz F
theorem xNilF{p1:Pos}(i:Nat)(F:c.S g V mu h)
 (H:∀d,let V':=V.set i (some (.ref d));∀g' h' t',Le g g'->g'.get? d=some (lstObj [] 0)->c.S g' V' mu h'->c.X rest Q h' t')
 (hs:autoParam (swapsWith (.List [] p1) (some (.Name x p)) pos.line c.env=pure false) au0) (hx:autoParam (N[i]?=some x) au0):c.X (.Assign [.Name x p] (.List [] p1) pos::rest) Q h t :=
 xLet i (lstE (sp0 (newLst (s:=c.st h t) F fun d g' h' k e F'=>⟨h',_,g',V,mu,rfl,F',fun h2 t2 F2=>H d g' h2 t2 k e F2⟩))) hs hx
theorem E.use{pn:Tok->Value}{Qv Er:Value->Shared->Prop}(He:c.E h e pn)(k:∀k t',Qv (pn k) (c.st h t')):wpAny (model pw w) c.A (eval e c.env) Qv Er (c.st h t):=He _ _ t k
theorem E.eq{v v':Value}(He:c.E h e (fun _=>v))(q:v=v'):c.E h e (fun _=>v'):=q▸He
theorem ao{Er:Value->Shared->Prop}{elts:List Expr}{is:List Nat}(m:Mtch N elts is):∀{vs:List Value} {V:List (Option Value)} {h:Heap} {t:Nat} {Qu:Unit->Shared->Prop},elts.length=vs.length->c.S g V mu h->(∀h' t',c.S g (setAll V is vs) mu h'->Qu () (c.st h' t')) ->
 wpAny (model pw w) c.A (assignInOrder ((assignEach elts c.env).map (·.2)) vs) Qu Er (c.st h t):=by
 induction m with
 | nil =>
  intro vs V h t Qu l F H
  cases vs with
  | nil=>exact assignInOrder_nil (H _ _ F)
  | cons v vs=>cases l
 | cons hn _ ih =>
  intro vs V h t Qu l F H
  cases vs with
  | nil=>cases l
  | cons v vs=>exact assignInOrder_cons (assign_Name (stI c.cx F (s:=c.st h t) _ hn fun h' F'=>ih (t:=_) (Nat.succ.inj l) F' H))
theorem asTs{elts:List Expr}{k:Nat}{tp:Pos}{T:Addr}{vs:List Value}{Qu:Unit->Shared->Prop}{Er:Value->Shared->Prop}(is:List Nat)(F:c.S g V mu h)(ht:g.get? T=some (tupObj vs))(hm:Mtch N elts is)
 (H:let V':=setAll V is vs;∀h' t',c.S g V' mu h'->Qu () (c.st h' t')) (hl:autoParam (elts.length=vs.length) au0) (hn:autoParam ((assignEach elts c.env).length=vs.length) au0) (hs:autoParam ((assignEach elts c.env).findIdx? (·.1)=none) au0) :
 wpAny (model pw w) c.A (assign (.Tuple elts k tp) c.env (.ref T)) Qu Er (c.st h t) :=
 asT (s:=c.st h t) c.hd F ht (fun h' F'=>ao hm hl F' H) hn hs
theorem xTup2{n1 n2:Str}{q1 q2 tp p2:Pos}{k k2:Nat}{e1 e2:Expr}{v1 v2:Tok->Value}(i j:Nat)(F:c.S g V mu h)(H1:c.E h e1 v1)(H2:c.E h e2 v2)
 (H:∀k1 k2,let V':=(V.set j (some (v2 k2))).set i (some (v1 k1));∀g' h' t',Le g g'->c.S g' V' mu h'->c.X rest Q h' t')
 (hi:autoParam (N[i]?=some n1) au0) (hj:autoParam (N[j]?=some n2) au0) (hij:autoParam (i≠j) auD)
 (l1:autoParam ((q2.line==q1.line)=true) au0)
 (s1:autoParam (isSt e1=false) au0) (s2:autoParam (isSt e2=false) au0)
 (a2:autoParam ([e1,e2].all (foldedForSure 8)=false) au0) (a3:autoParam ([e1,e2].all (constantsAlone 8)=false) au0)
 (hs:autoParam (swapsWithSole [.Tuple [.Name n1 q1,.Name n2 q2] k tp] (.Tuple [e1,e2] k2 p2) pos.line c.env=pure false) au0)
 (b1:autoParam (starEach [e1,e2] c.env=(false,eval e1 c.env)::starEach [e2] c.env) au0) (b2:autoParam (starEach [e2] c.env=(false,eval e2 c.env)::starEach [] c.env) au0) :
 c.X (.Assign [.Tuple [.Name n1 q1,.Name n2 q2] k tp] (.Tuple [e1,e2] k2 p2) pos::rest) Q h t:=by
 refine wpAny_execs_cons (Assign_Tuple_swapped (names:=[n1,n2]) ?_ hs (swp2 c.cx i j hi hj hij l1 s1 s2 a2 a3))
 refine tupE (sp1 (H1 _ _ t fun k1 t1=>sp1 (H2 _ _ t1 fun k2 t2=>sp0 ?_) b2) b1)
 refine newTup (s:=c.st h t2) F (fun T g' h' k eT F=>?_)
 refine unp c.hd F eT rfl fun h' F=>?_
 refine assignInOrder_cons (wpAny_bindName (stI c.cx F j hj fun h' F=>?_))
 refine assignInOrder_cons (wpAny_bindName (stI c.cx F i hi fun h' F=>assignInOrder_nil ?_))
 exact H k1 k2 g' h' _ k F
theorem tTruI{n:Int}{r:Bool}(H:c.E h e (Value.int n))(hr:(n != 0)=r)(he:autoParam (isTrue e c.env (eval e c.env)=(do let v←eval e c.env;standAt e.pos;holding [v] (truthy v))) au0):c.T h e r :=
 fun Er Q t q=>wpAny_isTrue_value (H Er _ t fun k t1=>P.truthy_int (by rw [hr];exact q _)) he
theorem tTruL{l:Addr}{xs:List Value}{j:Nat}{r:Bool}(H:c.E h e (fun _=>.ref l))(hl:h.get? l=some (lstObj xs j))(hz:xs.length<=16777216)(hr:(!xs.isEmpty)=r)(he:autoParam (isTrue e c.env (eval e c.env)=(do let v←eval e c.env;standAt e.pos;holding [v] (truthy v))) au0):c.T h e r :=
 fun Er Q t q=>wpAny_isTrue_value (H Er _ t fun k t1=>wpAny_truthy_list (s:=c.st h t1) ⟨_,hl,rfl,_,rfl⟩ (by simp;exact zz1 hz) (by
  have e:decide (0<xs.toArray.size)=r:=by rw [←hr];cases xs<;>rfl
  first|(rw [e];exact q _)|(cases xs<;>(subst hr;exact q _)))) he
theorem tNotN{v:Value}{r:Bool}(H1:c.E h a (fun _=>v))(hr:(match v with|.none=>false|_=>true)=r)(hv:(∃n k,v=.int n k)\/v=.none\/∃l,v=.ref l):c.T h (.Compare a [.IsNot] [.Constant .none 0 p] pos) r:=by
 intro Er Q t q
 refine wpAny_isTrue_Compare1 (H1 Er _ t fun k t1=>wpAny_Constant_none (isNot_none (wpAny_truthy_bool ?_)))
 rcases hv with ⟨n,k,rfl⟩|rfl|⟨l,rfl⟩<;>(subst hr;exact q _)
theorem tEqI{m n:Int}{r:Bool}(H1:c.E h a (Value.int m))(H2:c.E h b (Value.int n))(hr:(m==n)=r)(hm:autoParam (behindInMarks .Eq b=false) auU):c.T h (.Compare a [.Eq] [b] pos) r :=
 fun Er Q t q=>wpAny_isTrue_Compare1 (H1 Er _ t fun k t1=>H2 Er _ t1 fun k2 t2=>P.eq_int (wpAny_truthy_bool (by rw [hr];exact q _))) hm
noncomputable def M(c:Fr w N Gl)(g:Heap)(V:List (Option Value))(mu:List (Addr×Obj))(h:Heap)(e:Expr)(P:Heap->Value->Prop):Prop :=
 ∀(Er:Value->Shared->Prop) (Q:Value->Shared->Prop) (t:Nat),(∀v g' h' t',Le g g'->P g' v->c.S g' V mu h'->Q v (c.st h' t'))->wpAny (model pw w) c.A (eval e c.env) Q Er (c.st h t)
theorem E.m{pn:Tok->Value}(He:c.E h e pn)(F:c.S g V mu h):c.M g V mu h e (fun _ v=>∃k,v=pn k):=fun Er Q t q=>He Er Q t fun k t'=>q _ _ _ _ Le.rfl' ⟨k,rfl⟩ F
theorem E.mV{v:Value}(He:c.E h e (fun _=>v))(F:c.S g V mu h):c.M g V mu h e (fun _ u=>u=v):=fun Er Q t q=>He Er Q t fun k t'=>q _ _ _ _ Le.rfl' rfl F
theorem M.use{P:Heap->Value->Prop}{Qv Er:Value->Shared->Prop}(He:c.M g V mu h e P)(k:∀v g' h' t',Le g g'->P g' v->c.S g' V mu h'->Qv v (c.st h' t')):wpAny (model pw w) c.A (eval e c.env) Qv Er (c.st h t):=He _ _ t k
theorem tup3{e1 e2 e3:Expr}{v1 v2 v3:Tok->Value}{k:Nat}(F:c.S g V mu h)(H1:c.E h e1 v1)(H2:c.E h e2 v2)(H3:c.E h e3 v3)
 (b1:autoParam (starEach [e1,e2,e3] c.env=(false,eval e1 c.env)::starEach [e2,e3] c.env) au0) (b2:autoParam (starEach [e2,e3] c.env=(false,eval e2 c.env)::starEach [e3] c.env) au0) (b3:autoParam (starEach [e3] c.env=(false,eval e3 c.env)::starEach [] c.env) au0) :
 c.M g V mu h (.Tuple [e1,e2,e3] k pos) (fun g' v=>∃T k1 k2 k3,v=.ref T/\g'.get? T=some (tupObj [v1 k1,v2 k2,v3 k3])):=fun Er Q t q =>
 tupE (sp1 (H1 _ _ t fun k1 t=>sp1 (H2 _ _ t fun k2 t=>sp1 (H3 _ _ t fun k3 t=>sp0 (newTup (s:=c.st h t) F fun T g' h' k eT F=>q _ g' h' _ k ⟨T,k1,k2,k3,rfl,eT⟩ F)) b3) b2) b1)
theorem tup4{e1 e2 e3 e4:Expr}{v1 v2 v3 v4:Tok->Value}{k:Nat}(F:c.S g V mu h)(H1:c.E h e1 v1)(H2:c.E h e2 v2)(H3:c.E h e3 v3)(H4:c.E h e4 v4)
 (b1:autoParam (starEach [e1,e2,e3,e4] c.env=(false,eval e1 c.env)::starEach [e2,e3,e4] c.env) au0) (b2:autoParam (starEach [e2,e3,e4] c.env=(false,eval e2 c.env)::starEach [e3,e4] c.env) au0) (b3:autoParam (starEach [e3,e4] c.env=(false,eval e3 c.env)::starEach [e4] c.env) au0) (b4:autoParam (starEach [e4] c.env=(false,eval e4 c.env)::starEach [] c.env) au0) :
 c.M g V mu h (.Tuple [e1,e2,e3,e4] k pos) (fun g' v=>∃T k1 k2 k3 k4,v=.ref T/\g'.get? T=some (tupObj [v1 k1,v2 k2,v3 k3,v4 k4])):=fun Er Q t q =>
 tupE (sp1 (H1 _ _ t fun k1 t=>sp1 (H2 _ _ t fun k2 t=>sp1 (H3 _ _ t fun k3 t=>sp1 (H4 _ _ t fun k4 t=>sp0 (newTup (s:=c.st h t) F fun T g' h' k eT F=>q _ g' h' _ k ⟨T,k1,k2,k3,k4,rfl,eT⟩ F)) b4) b3) b2) b1)
theorem tup5{e1 e2 e3 e4 e5:Expr}{v1 v2 v3 v4 v5:Tok->Value}{k:Nat}(F:c.S g V mu h)(H1:c.E h e1 v1)(H2:c.E h e2 v2)(H3:c.E h e3 v3)(H4:c.E h e4 v4)(H5:c.E h e5 v5)
 (b1:autoParam (starEach [e1,e2,e3,e4,e5] c.env=(false,eval e1 c.env)::starEach [e2,e3,e4,e5] c.env) au0) (b2:autoParam (starEach [e2,e3,e4,e5] c.env=(false,eval e2 c.env)::starEach [e3,e4,e5] c.env) au0) (b3:autoParam (starEach [e3,e4,e5] c.env=(false,eval e3 c.env)::starEach [e4,e5] c.env) au0) (b4:autoParam (starEach [e4,e5] c.env=(false,eval e4 c.env)::starEach [e5] c.env) au0) (b5:autoParam (starEach [e5] c.env=(false,eval e5 c.env)::starEach [] c.env) au0) :
 c.M g V mu h (.Tuple [e1,e2,e3,e4,e5] k pos) (fun g' v=>∃T k1 k2 k3 k4 k5,v=.ref T/\g'.get? T=some (tupObj [v1 k1,v2 k2,v3 k3,v4 k4,v5 k5])):=fun Er Q t q =>
 tupE (sp1 (H1 _ _ t fun k1 t=>sp1 (H2 _ _ t fun k2 t=>sp1 (H3 _ _ t fun k3 t=>sp1 (H4 _ _ t fun k4 t=>sp1 (H5 _ _ t fun k5 t=>sp0 (newTup (s:=c.st h t) F fun T g' h' k eT F=>q _ g' h' _ k ⟨T,k1,k2,k3,k4,k5,rfl,eT⟩ F)) b5) b4) b3) b2) b1)
theorem xApp{pre post:List (Addr×Obj)}{a:Addr}{xs:List Value}{j:Nat}{P:Heap->Value->Prop}{apos:Pos}(Ho:c.E h o (fun _=>.ref a))(F:c.S g V (pre++(a,lstObj xs j)::post) h)(hz:xs.length<=16777216)(He:c.M g V (pre++(a,lstObj xs j)::post) h e P)
 (K:∀v g' h' t',Le g g'->P g' v->c.S g' V (pre++(a,lstObj (xs++[v]) (j+1))::post) h'->c.X rest Q h' t')
 (hb:autoParam (attributeBase o ("append":Str) c.env (eval o c.env)=eval o c.env) au0) (hs:autoParam (starEach [e] c.env=[(false,eval e c.env)]) au0) (hl:autoParam ((apos.endLine==pos.line)=true) au0) :
 c.X (.Expr (.Call (.Attribute o "append" apos) [e] [] pos) p::rest) Q h t :=
 wpAny_execs_cons (wpAny_Expr (appS (h₀:=c.h₀) (xt:=c.xt) (g₀:=c.g₀) (L:=c.env.locals) (N:=N) (a:=a) (xs:=xs) (j:=j) (pre:=pre) (post:=post) hz
  (Ho _ _ t fun _ t=>⟨rfl,⟨_,(F.mt (a,lstObj xs j) (List.mem_append_right _ (.head _))).1,rfl,rfl⟩,He _ _ t fun v g' h' t' k p F'=>⟨g',V,F',fun h2 F2=>K v g' h2 t' k p F2⟩⟩) hb hs hl) c.cx.inter)
theorem xWh{test:Expr}(J:Nat->Heap->List (Option Value)->List (Addr×Obj)->Prop)(n₀:Nat)(F:c.S g V mu h)(hj:J n₀ g V mu)
 (turn:∀n g' V' mu' h' (tk:Nat) TT,Le g g'->J n g' V' mu'->(∀m g2 V2 mu2 h2 t2,m<n->Le g' g2->c.S g2 V2 mu2 h2->J m g2 V2 mu2->TT .next (c.st h2 t2))->c.S g' V' mu' h'->∀G:Prop,
  (c.T h' test true->(∀t',c.X body TT h' t')->G)->(c.T h' test false->(∀t',c.X rest Q h' t')->G)->G):c.X (.While test body [] pos::rest) Q h t:=by
 refine wpAny_execs_cons (While_ J n₀ F hj ?_)
 intro n g' V' mu' h₂ tk k j F'
 refine turn n g' V' mu' h₂ tk (WTurn c.h₀ c.g₀ c.xt c.env.locals N (c.st h t) g' n J fun f s'=>match f with|.next=>wpAny (model pw w) c.A (execs rest c.env) Q no s'|f=>Q f s') k j ?_ F' _ (fun hT hX=>hT _ _ _ fun t'=>?_) fun hT hX=>hT _ _ _ fun t'=>?_
 · exact fun m g2 V2 mu2 h2 t2 hm k2 F2 j2=>⟨m,g2,V2,mu2,h2,t2,hm,rfl,k2,F2,j2⟩
 · rw [if_pos rfl]
   exact hX t'
 · rw [if_neg (by decide)]
   exact hX t'
theorem xForT{it:Expr}{elts:List Expr}{kk:Nat}{l:Addr}{n:Nat}{items:List Value}(F:c.S g V mu h)(He:c.E h it (fun _=>.ref l))(hl:g.get? l=some (lstObj items n))
 (J:Nat->Heap->List (Option Value)->List (Addr×Obj)->Prop) (hj:J 0 g V mu)
 (turn:∀k v g' V' mu' I oI h' tk TT,items[k]?=some v->Le g g'->J k g' V' mu'->(∀h2 t2,c.X rest Q h2 t2->TT .brk (c.st h2 t2))->c.On g' I oI (J (k+1)) TT->c.S g' V' ((I,oI)::mu') h'->wpAny (model pw w) c.A (assign (.Tuple elts kk p) c.env v) (fun _ s'=>wpAny (model pw w) c.A (execs body c.env) TT no s') no (c.st h' tk))
 (done:∀g' V' mu' h' tk,Le g g'->J items.length g' V' mu'->c.S g' V' mu' h'->c.X rest Q h' tk)
 (hs:autoParam (∀y,foldedSetIterable it c.env y=pure y) au1) :
 c.X (.For (.Tuple elts kk p) it body [] pos::rest) Q h t:=by
 refine wpAny_execs_cons (For_ (He _ _ t fun _ t=>?_) hs)
 refine each_listT (s:=c.st h t) (items:=items) (fun i g' vs' mu'=>Le g g'/\J i g' vs' mu') c.hd F hl ⟨Le.rfl',hj⟩ ?_ ?_
 · intro k v g' V' mu' I oI h tk hk kg' hJ F
   refine absT fun TT hTT=>?_
   refine turn k v g' V' mu' I oI h tk TT hk hJ.1 hJ.2 (fun _ _ q=>hTT .brk _ q) ?_ F
   exact fun g2 V2 mu2 h2 t2 k2 F2 j2=>⟨hTT _ _ ⟨g2,V2,mu2,h2,t2,rfl,k2,F2,hJ.1.tr k2,j2⟩,hTT _ _ ⟨g2,V2,mu2,h2,t2,rfl,k2,F2,hJ.1.tr k2,j2⟩⟩
 · intro g' V' mu' h' tk kg' hJ F
   exact done g' V' mu' h' tk hJ.1 hJ.2 F
theorem xNilO{p1:Pos}(i:Nat)(F:c.S g V mu h)
 (H:∀d,c.h₀.objs.size<=d->let V':=V.set i (some (.ref d));∀h' t',c.S g V' ((d,lstObj [] 0)::mu) h'->c.X rest Q h' t')
 (hs:autoParam (swapsWith (.List [] p1) (some (.Name x p)) pos.line c.env=pure false) au0) (hx:autoParam (N[i]?=some x) au0):c.X (.Assign [.Name x p] (.List [] p1) pos::rest) Q h t :=
 xLet i (lstE (sp0 (newOwn (s:=c.st h t) F fun d h' F' hd=>⟨h',_,g,V,_,rfl,F',fun h2 t2 F2=>H d hd h2 t2 F2⟩))) hs hx
theorem taTwo{q1 q2:Prop}[Decidable q1][Decidable q2](H1:c.T h a (decide q1))(H2:c.T h b (decide q2)):c.TA h [a,b] p (decide (q1/\q2)):=by
 by_cases c1:q1
 · rw [decide_eq_true c1] at H1
   by_cases c2:q2
   · rw [decide_eq_true c2] at H2
     rw [decide_eq_true ⟨c1,c2⟩]
     exact taT H1 (taT H2 taNil)
   · rw [decide_eq_false c2] at H2
     rw [decide_eq_false fun z=>c2 z.2]
     exact taT H1 (taF H2)
 · rw [decide_eq_false c1] at H1
   rw [decide_eq_false fun z=>c1 z.1]
   exact taF H1
theorem tEqN{m n:Nat}(H1:c.E h a (Value.int (m:Int)))(H2:c.E h b (Value.int (n:Int)))(hm:autoParam (behindInMarks .Eq b=false) auU):c.T h (.Compare a [.Eq] [b] pos) (decide (m=n)) :=
 tEqI H1 H2 (by rw [Bool.eq_iff_iff];simp;exact zz364) hm
theorem tLtN{m n:Nat}(H1:c.E h a (Value.int (m:Int)))(H2:c.E h b (Value.int (n:Int)))(hm:autoParam (behindInMarks .Lt b=false) auU):c.T h (.Compare a [.Lt] [b] pos) (decide (m<n)) :=
 tLt H1 H2 (decide_eq_decide.mpr Int.ofNat_lt) hm
theorem tTruN{n:Nat}(H:c.E h e (Value.int (n:Int)))(he:autoParam (isTrue e c.env (eval e c.env)=(do let v←eval e c.env;standAt e.pos;holding [v] (truthy v))) au0):c.T h e (decide (0<n)) :=
 tTruI H (by rw [Bool.eq_iff_iff];simp;exact zz365) he
theorem xIfD{q:Prop}[Decidable q]{ob:List Stmt}(H:c.T h e (decide q))(K1:q->∀t',c.X body (fun f s'=>match f with|.next=>wpAny (model pw w) c.A (execs rest c.env) Q no s'|f=>Q f s') h t')(K0:¬q->∀t',c.X ob (fun f s'=>match f with|.next=>wpAny (model pw w) c.A (execs rest c.env) Q no s'|f=>Q f s') h t'):c.X (.If e body ob pos::rest) Q h t:=by
 by_cases c1:q
 · rw [decide_eq_true c1] at H
   exact xIfT H (K1 c1)
 · rw [decide_eq_false c1] at H
   exact xIfF H (K0 c1)
theorem xAug{m n r:Int}{k:Tok}(i:Nat)(F:c.S g V mu h)(He:c.E h e (Value.int n))(hr:m+n=r)(H:∀k,let V':=V.set i (some (.int r k));∀h' t',c.S g V' mu h'->c.X rest Q h' t')(hv:autoParam (V[i]?=some (some (.int m k))) au0)(hx:autoParam (N[i]?=some x) au0) :
 c.X (.AugAssign (.Name x p) .Add e pos::rest) Q h t :=
 wpAny_execs_cons (wpAny_AugAssign_Name (ldnI c.cx F (s:=c.st h t) i hx hv (He _ _ t fun k2 t2=>wpAny_iadd_int (by rw [hr];exact stI c.cx F (s:=c.st h (t2+1)) i hx fun h' F'=>H _ h' _ F'))))
theorem kS{k:Nat}:c.E h (.Constant (.str x) k pos) (Value.str x):=fun _ _ t q=>wpAny_Constant_str (q _ _)
theorem tTruS{y:Str}{k:Tok}{r:Bool}(H:c.E h e (fun _=>.str y k))(hl:y.length<=16777216)(hr:((y.length:Int) != 0)=r)(he:autoParam (isTrue e c.env (eval e c.env)=(do let v←eval e c.env;standAt e.pos;holding [v] (truthy v))) au0):c.T h e r :=
 fun Er Q t q=>wpAny_isTrue_value (H Er _ t fun k t1=>P.truthy_str (by lia) (by rw [hr];exact q _)) he
theorem iterT{elts:List Expr}{kk:Nat}{l:Addr}{n:Nat}{items:List Value}(F:c.S g V mu h)(hl:g.get? l=some (lstObj items n))
 (J:Nat->Heap->List (Option Value)->List (Addr×Obj)->Prop) (hj:J 0 g V mu)
 (turn:∀k v g' V' mu' I oI h' tk TT,items[k]?=some v->Le g g'->J k g' V' mu'->c.On g' I oI (J (k+1)) TT->c.S g' V' ((I,oI)::mu') h'->wpAny (model pw w) c.A (assign (.Tuple elts kk p) c.env v) (fun _ s'=>wpAny (model pw w) c.A (execs body c.env) TT no s') no (c.st h' tk))
 (done:∀g' V' mu' h' tk,Le g g'->J items.length g' V' mu'->c.S g' V' mu' h'->c.X rest Q h' tk) :
 wpAny (model pw w) c.A (pyIter (.ref l)) (fun it s₂=>codeAny (model pw w) c.A (.forLoop (.Tuple elts kk p) it body [] c.env) (fun r s'=>match r with|.ok f=>(match f with|.next=>wpAny (model pw w) c.A (execs rest c.env) Q no s'|f=>Q f s')|.error _=>False) s₂) no (c.st h t):=by
 refine each_listT (s:=c.st h t) (Q:=fun f s'=>match f with|.next=>wpAny (model pw w) c.A (execs rest c.env) Q no s'|f=>Q f s') (items:=items) (fun i g' vs' mu'=>Le g g'/\J i g' vs' mu') c.hd F hl ⟨Le.rfl',hj⟩ ?_ ?_
 · intro k v g' V' mu' I oI h tk hk kg' hJ F
   refine absT fun TT hTT=>?_
   refine turn k v g' V' mu' I oI h tk TT hk hJ.1 hJ.2 ?_ F
   exact fun g2 V2 mu2 h2 t2 k2 F2 j2=>⟨hTT _ _ ⟨g2,V2,mu2,h2,t2,rfl,k2,F2,hJ.1.tr k2,j2⟩,hTT _ _ ⟨g2,V2,mu2,h2,t2,rfl,k2,F2,hJ.1.tr k2,j2⟩⟩
 · intro g' V' mu' h' tk kg' hJ F
   exact done g' V' mu' h' tk hJ.1 hJ.2 F
theorem nC{ad:Addr}{ob:Obj}{v:Value}(K:CellAt c.env x ad)(kg:Le g h)(eo:g.get? ad=some ob)(hd:ob.data=.cell (some v)):c.E h (.Name x pos) (fun _=>v):=fun Er Q t q=>ldC (s:=c.st h t) K kg eo hd (q 0 t)
theorem modE{m n:Nat}(H1:c.E h a (Value.int (m:Int)))(H2:c.E h b (Value.int (n:Int)))(hn:0<n):c.E h (.BinOp a .Mod b pos) (Value.int ((m%n:Nat):Int)) :=
 fun Er Q t q=>wpAny_BinOp (H1 Er _ t fun k t1=>H2 Er _ t1 fun k2 t2=>modN hn fun _ _=>q _ _)
noncomputable def TM(c:Fr w N Gl)(g:Heap)(V:List (Option Value))(mu:List (Addr×Obj))(h:Heap)(e:Expr)(b:Bool):Prop :=
 ∀(Er:Value->Shared->Prop) (Q:Bool->Shared->Prop) (t:Nat),(∀g' h' t',Le g g'->c.S g' V mu h'->Q b (c.st h' t'))->wpAny (model pw w) c.A (isTrue e c.env (eval e c.env)) Q Er (c.st h t)
theorem tNeM{va:Value}{da db:PyData}{P:Heap->Value->Prop}{r:Bool}(Ha:c.E h a (fun _=>va))(Hb:c.M g V mu h b P)(hda:Dt g va da)(hP:∀g' v,P g' v->Dt g' v db)(sa:SeqAt.shaped da=true)(sb:SeqAt.shaped db=true)(hu:c.A.units+65<cLine)(hr:(!PyData.eqv da db)=r)
 (hm:autoParam (behindInMarks .NotEq b=false) auU):c.TM g V mu h (.Compare a [.NotEq] [b] pos) r:=fun Er Q t q =>
 wpAny_isTrue_Compare1 (Ha _ _ t fun _ t=>Hb _ _ t fun vb g' h' t' k p F=>neD (s:=c.st h' t') (g:=g') F.keep (hda.up k) (hP _ _ p) sa sb hu (wpAny_truthy_bool (by rw [hr];exact q _ _ _ k F))) hm
theorem tNeS{u v:Str}{k1:Tok}{r:Bool}(H1:c.E h a (fun _=>.str u k1))(H2:c.E h b (Value.str v))(hr:(u.cps.toList != v.cps.toList)=r)(hm:autoParam (behindInMarks .NotEq b=false) auU):c.T h (.Compare a [.NotEq] [b] pos) r :=
 fun Er Q t q=>wpAny_isTrue_Compare1 (H1 Er _ t fun k t1=>H2 Er _ t1 fun k2 t2=>P.ne_str (wpAny_truthy_bool (by rw [hr];exact q _))) hm
theorem xForN{a1:Expr}{n:Nat}{pr pc:Pos}(i:Nat)(Y:Stat g)(hr:("range":Str)∈Gl)(H1:c.E h a1 (Value.int (n:Int)))(F:c.S g V mu h)(hn:n<2^60)
 (J:Nat->Heap->List (Option Value)->List (Addr×Obj)->Prop) (hj:∀g',Le g g'->J 0 g' V mu)
 (turn:∀k ti g' V' mu' I oI h' tk TT,k<n->Le g g'->J k g' V' mu'->c.On g' I oI (J (k+1)) TT->let V2:=V'.set i (some (.int (k:Int) ti));c.S g' V2 ((I,oI)::mu') h'->c.X body TT h' tk)
 (done:∀g' V' mu' h' tk,Le g g'->J n g' V' mu'->c.S g' V' mu' h'->c.X rest Q h' tk) (hx:autoParam (N[i]?=some x) au0)
 (hs:autoParam (∀y,foldedSetIterable (.Call (.Name "range" pr) [a1] [] pc) c.env y=pure y) au1) (he:autoParam (starEach [a1] c.env=[(false,eval a1 c.env)]) au0) :
 c.X (.For (.Name x p) (.Call (.Name "range" pr) [a1] [] pc) body [] pos::rest) Q h t:=by
 refine wpAny_execs_cons (For_ ?_ hs)
 refine C1 (N_range c.cx Y (s:=c.st h t) F.keep hr (H1 _ _ t fun _ t1=>⟨trivial,?_⟩)) he
 refine rng1 (s:=c.st h t1) F fun rr g₇ h' r1 r2 r3 rk k7 err F=>?_
 refine each_range (a:=0) (b:=n) (fun i g' vs' mu'=>Le g g'/\J i g' vs' mu') c.hd F err (by decide) hn ⟨k7,hj _ k7⟩ ?_ ?_
 · intro k ti g' V' mu' I oI h tk hk kg' hJ F
   refine absT fun TT hTT=>?_
   rw [Nat.zero_add]
   refine stI c.cx F i hx fun h' F=>?_
   refine turn k ti g' V' mu' I oI h' _ TT hk hJ.1 hJ.2 ?_ F
   exact fun g2 V2 mu2 h2 t2 k2 F2 j2=>⟨hTT _ _ ⟨g2,V2,mu2,h2,t2,rfl,k2,F2,hJ.1.tr k2,j2⟩,hTT _ _ ⟨g2,V2,mu2,h2,t2,rfl,k2,F2,hJ.1.tr k2,j2⟩⟩
 · intro g' V' mu' h' tk kg' hJ F
   exact done g' V' mu' h' tk hJ.1 hJ.2 F
theorem S.freezeAt{pre post:List (Addr×Obj)}{a:Addr}{o:Obj}{G:Prop}(F:c.S g V (pre++(a,o)::post) h)(ha:c.h₀.objs.size<=a)(k:∀g',Le g g'->g'.get? a=some o->c.S g' V (pre++post) h->G):G:=by
 obtain ⟨g',k',e,F'⟩:=St.freeze (pre:=pre) (post:=post) F rfl ha
 exact k g' k' e F'
theorem ixT{o:Expr}{cst:Const}{kk:Nat}{l:Addr}{xs:List Value}{i:Nat}{v:Value}(H1:c.E h o (fun _=>.ref l))(H2:c.E h (.Constant cst kk p) (Value.int (i:Int)))(kg:Le g h)(hl:g.get? l=some (tupObj xs))(hx:xs[i]?=some v)(hi:i<2^40):c.E h (.Subscript o (.Constant cst kk p) pos) (fun _=>v) :=
 fun Er Q t q=>SubK (H1 Er _ t fun _ t1=>H2 Er _ t1 fun _ t2=>itemT kg hl hx hi (q 0 _))
theorem xIfM{ob:List Stmt}{r:Bool}(H:c.TM g V mu h e r)(K1:r=true->∀g' h' t',Le g g'->c.S g' V mu h'->c.X body (fun f s'=>match f with|.next=>wpAny (model pw w) c.A (execs rest c.env) Q no s'|f=>Q f s') h' t')
 (K0:r=false->∀g' h' t',Le g g'->c.S g' V mu h'->c.X ob (fun f s'=>match f with|.next=>wpAny (model pw w) c.A (execs rest c.env) Q no s'|f=>Q f s') h' t'):c.X (.If e body ob pos::rest) Q h t:=by
 refine wpAny_execs_cons (wpAny_If (H _ _ t fun g' h' t' k F=>?_))
 cases r with
 | true=>rw [if_pos rfl];exact K1 rfl g' h' t' k F
 | false=>rw [if_neg (by decide)];exact K0 rfl g' h' t' k F
theorem tup2{e1 e2:Expr}{v1 v2:Tok->Value}{k:Nat}(F:c.S g V mu h)(H1:c.E h e1 v1)(H2:c.E h e2 v2)
 (b1:autoParam (starEach [e1,e2] c.env=(false,eval e1 c.env)::starEach [e2] c.env) au0) (b2:autoParam (starEach [e2] c.env=(false,eval e2 c.env)::starEach [] c.env) au0) :
 c.M g V mu h (.Tuple [e1,e2] k pos) (fun g' v=>∃T k1 k2,v=.ref T/\g'.get? T=some (tupObj [v1 k1,v2 k2])):=fun Er Q t q =>
 tupE (sp1 (H1 _ _ t fun k1 t=>sp1 (H2 _ _ t fun k2 t=>sp0 (newTup (s:=c.st h t) F fun T g' h' k eT F=>q _ g' h' _ k ⟨T,k1,k2,rfl,eT⟩ F)) b2) b1)
theorem pairD{m n:Int}{v1 v2:Tok->Value}{g':Heap}{v:Value}(e1:v1=Value.int m)(e2:v2=Value.int n)(h:∃T k1 k2,v=.ref T/\g'.get? T=some (tupObj [v1 k1,v2 k2])):Dt g' v (.tuple [.int m,.int n]):=by
 obtain ⟨T,k1,k2,rfl,e⟩:=h
 subst e1 e2
 exact .tuple e (.cons (.int _ _) (.cons (.int _ _) .nil))
theorem xAsgM{P:Heap->Value->Prop}(i:Nat)(He:c.M g V mu h e P)(K:∀v g',Le g g'->P g' v->let V':=V.set i (some v);∀h' t',c.S g' V' mu h'->c.X rest Q h' t')(hs:autoParam (swapsWith e (some (.Name x p)) pos.line c.env=pure false) au0)(hx:autoParam (N[i]?=some x) au0) :
 c.X (.Assign [.Name x p] e pos::rest) Q h t :=
 xLet i (He _ _ t fun v g' h' t' k p F=>⟨h',t',g',V,mu,rfl,F,fun h2 t2 F2=>K v g' k p h2 t2 F2⟩) hs hx
theorem ct{A:Around}{env:Env}{scope:Scope}{cl:List (Str×Addr)}{elt cond:Expr}{Nn:List Str}{P:Nat->Value->Prop}{J:Nat->Heap->List Value->Prop}(hd:A.handled=none)
 (H:∀(i:Nat) (v:Value) (s:Shared) (g':Heap) (us:List (Option Value)) (ys:List Value) (I:Addr) (oI:Obj) (C D:Addr) (h:Heap) (cx:Cx (compEnvC scope cl C env) Nn Gl),P i v->Le g g'->J i g' ys->let c:Fr w Nn Gl:=⟨A,compEnvC scope cl C env,s.gens,s.drawn,s.os,s.heap,[I],g,cx,hd⟩;let V:=us.set 0 (some v);c.S g' V [(I,oI),(D,lst ys)] h->0<us.length ->
  ∀(T1:Value->Shared->Prop),(∀y g2 h2 t2,Le g' g2->c.S g2 V [(I,oI),(D,lst ys)] h2->J (i+1) g2 (ys++[y])->T1 y (c.st h2 t2))->∀G:Prop,(c.T h cond true->(∀t,wpAny (model pw w) A (eval elt c.env) T1 no (c.st h t))->G)->(c.T h cond false->J (i+1) g' ys->G)->G) (hx:autoParam (Nn[0]?=some x) au0) :
 CTurn pw w A env scope cl elt (.Name x p) [cond] Nn Gl g P J:=by
 refine cturn fun i v s g' us ys I oI C D h tk hP hg hJ hl cx F=>?_
 let c:Fr w Nn Gl:=⟨A,compEnvC scope cl C env,s.gens,s.drawn,s.os,s.heap,[I],g,cx,hd⟩
 refine stI cx F (s:=c.st h tk) 0 hx fun h' F=>tests1 ?_
 refine H i v s g' us ys I oI C D h' cx hP hg hJ F (by rw [hl];exact (List.getElem?_eq_some_iff.mp hx).1) (fun y=>CEnd s g I C D oI Nn ys g' fun g''=>J (i+1) g'' (ys++[y])) ?_ _ (fun hT hE=>hT _ _ _ fun t'=>?_) fun hT j=>hT _ _ _ fun t'=>?_
 · exact fun y g2 h2 t2 k F2 j=>⟨g2,_,h2,t2,rfl,k,F2,j⟩
 · rw [if_pos rfl];exact hE t'
 · rw [if_neg (by decide)];exact ⟨g',_,h',t',rfl,Le.rfl',F,j⟩
theorem ct0{A:Around}{env:Env}{scope:Scope}{cl:List (Str×Addr)}{elt:Expr}{Nn:List Str}{P:Nat->Value->Prop}{J:Nat->Heap->List Value->Prop}(hd:A.handled=none)
 (H:∀(i:Nat) (v:Value) (s:Shared) (g':Heap) (us:List (Option Value)) (ys:List Value) (I:Addr) (oI:Obj) (C D:Addr) (h:Heap) (cx:Cx (compEnvC scope cl C env) Nn Gl),P i v->Le g g'->J i g' ys->let c:Fr w Nn Gl:=⟨A,compEnvC scope cl C env,s.gens,s.drawn,s.os,s.heap,[I],g,cx,hd⟩;let V:=us.set 0 (some v);c.S g' V [(I,oI),(D,lst ys)] h->0<us.length ->
  ∀(T1:Value->Shared->Prop),(∀y g2 h2 t2,Le g' g2->c.S g2 V [(I,oI),(D,lst ys)] h2->J (i+1) g2 (ys++[y])->T1 y (c.st h2 t2))->∀t,wpAny (model pw w) A (eval elt c.env) T1 no (c.st h t)) (hx:autoParam (Nn[0]?=some x) au0) :
 CTurn pw w A env scope cl elt (.Name x p) [] Nn Gl g P J:=by
 refine cturn fun i v s g' us ys I oI C D h tk hP hg hJ hl cx F=>?_
 let c:Fr w Nn Gl:=⟨A,compEnvC scope cl C env,s.gens,s.drawn,s.os,s.heap,[I],g,cx,hd⟩
 refine stI cx F (s:=c.st h tk) 0 hx fun h' F=>tests0 ?_
 rw [if_pos rfl]
 exact H i v s g' us ys I oI C D h' cx hP hg hJ F (by rw [hl];exact (List.getElem?_eq_some_iff.mp hx).1) (fun y=>CEnd s g I C D oI Nn ys g' fun g''=>J (i+1) g'' (ys++[y])) (fun y g2 h2 t2 k F2 j=>⟨g2,_,h2,t2,rfl,k,F2,j⟩) _
theorem tTruT{l:Addr}{xs:List Value}{r:Bool}(H:c.E h e (fun _=>.ref l))(kg:Le g h)(hl:g.get? l=some (tupObj xs))(hz:xs.length<2^40)(hr:decide (0<xs.length)=r)(he:autoParam (isTrue e c.env (eval e c.env)=(do let v←eval e c.env;standAt e.pos;holding [v] (truthy v))) au0):c.T h e r :=
 fun Er Q t q=>wpAny_isTrue_value (H Er _ t fun _ t1=>truT (s:=c.st h t1) kg hl hz fun k=>by rw [hr];exact q _) he
theorem tTruB{r:Bool}(H:c.E h e (fun _=>.bool r))(he:autoParam (isTrue e c.env (eval e c.env)=(do let v←eval e c.env;standAt e.pos;holding [v] (truthy v))) au0):c.T h e r :=
 fun Er Q t q=>wpAny_isTrue_value (H Er _ t fun _ t1=>wpAny_truthy_bool (q _)) he
theorem tNotT(H:c.T h e true):c.T h (.UnaryOp .Not e p) false:=tNot H
theorem toS{y:Str}{k:Tok}(H:c.E h e (fun _=>.str y k)):c.E h e (Value.str y):=fun Er Q t q=>H Er Q t fun _ t'=>q k t'
theorem taAnd{r1 r2:Bool}(H1:c.T h a r1)(H2:c.T h b r2):c.TA h [a,b] p (r1&&r2):=by
 cases r1 with
 | true=>cases r2 with
  | true=>exact taT H1 (taT H2 taNil)
  | false=>exact taT H1 (taF H2)
 | false=>exact taF H1
theorem S.made{G:Prop}(F:c.S g V mu h)(ob:Obj)(k:∀g',Le g g'->g'.get? h.objs.size=some ob->c.S g' V mu (h.push ob)->G)(hf:autoParam (ob.isFreed=false) au0):G:=by
 obtain ⟨g',k',e,F'⟩:=St.made F ob hf
 exact k g' k' e F'
theorem T.to{r r':Bool}(H:c.T h e r)(q:r=r'):c.T h e r':=q▸H
theorem xLetK(i:Nat)(H:∀Qv:Value->Shared->Prop,(∀v h t g V mu,c.S g V mu h->(let V':=V.set i (some v);∀h' t',c.S g V' mu h'->c.X rest Q h' t')->Qv v (c.st h t))->wpAny (model pw w) c.A (eval e c.env) Qv no (c.st h t))(hs:autoParam (swapsWith e (some (.Name x p)) pos.line c.env=pure false) au0)(hx:autoParam (N[i]?=some x) au0) :
 c.X (.Assign [.Name x p] e pos::rest) Q h t :=
 wpAny_execs_cons (wpAny_Assign_Name (H _ fun v h t g V mu F k=>stI c.cx F (s:=c.st h t) i hx fun h' F'=>k h' _ F') hs)
theorem xCompL{elt it:Expr}{y z:Str}{py pz sp:Pos}{ifs:List Expr}{scope:Scope}{cl:List (Str×Addr)}{l:Addr}{items:List Value}{k:Nat}(j:Nat)(Nn Gc:List Str)(J:Nat->Heap->List Value->Prop)(hclo:clo c.env.cells scope.names []=some cl)(F:c.S g V mu h)(He:c.E h it (fun _=>.ref l))(hl:g.get? l=some (lstObj items k))(hn:items.length<=sizeLine)(hj:J 0 g [])
 (turn:CTurn pw w c.A c.env scope cl elt (.Name z pz) ifs Nn Gc g (fun i v=>items[i]?=some v) J)
 (done:∀g' g₂ D ys,Le g g₂->Le g' g₂->J items.length g' ys->g₂.get? D=some (lst ys)->let V':=V.set j (some (.ref D));∀h' t',c.S g₂ V' mu h'->c.X rest Q h' t')
 (hc:autoParam (chkC scope Nn Gc=true) auK) (hy:autoParam (N[j]?=some y) au0) (hw:autoParam ((py.line==pos.line&&!(scope.names.any fun (n,k)=>n==y&&(k==.local||k==.cell)))=true) au0) (hs:autoParam (∀u,foldedSetIterable it c.env u=pure u) au1) :
 c.X (.Assign [.Name y py] (.ListComp elt [⟨.Name z pz,it,ifs,0⟩] scope pos) sp::rest) Q h t :=
 wpAny_execs_cons (asLst (h₀:=c.h₀) (xt:=c.xt) (g₀:=c.g₀) Nn Gc J c.hd hc hclo c.cx hy hw hn (He _ _ t fun _ t=>⟨rfl,g,V,mu,F,hl,hj,turn,fun g' g₂ D h' tk ys k1 k2 jj e F'=>done g' g₂ D ys k1 k2 jj e h' tk F'⟩) hs)
theorem xCompT{elt it:Expr}{y z:Str}{py pz sp:Pos}{ifs:List Expr}{scope:Scope}{cl:List (Str×Addr)}{l:Addr}{items:List Value}(j:Nat)(Nn Gc:List Str)(J:Nat->Heap->List Value->Prop)(hclo:clo c.env.cells scope.names []=some cl)(F:c.S g V mu h)(He:c.E h it (fun _=>.ref l))(hl:g.get? l=some (tupObj items))(hn:items.length<=sizeLine)(hj:J 0 g [])
 (turn:CTurn pw w c.A c.env scope cl elt (.Name z pz) ifs Nn Gc g (fun i v=>items[i]?=some v) J)
 (done:∀g' g₂ D ys,Le g g₂->Le g' g₂->J items.length g' ys->g₂.get? D=some (lst ys)->let V':=V.set j (some (.ref D));∀h' t',c.S g₂ V' mu h'->c.X rest Q h' t')
 (hc:autoParam (chkC scope Nn Gc=true) auK) (hy:autoParam (N[j]?=some y) au0) (hw:autoParam ((py.line==pos.line&&!(scope.names.any fun (n,k)=>n==y&&(k==.local||k==.cell)))=true) au0) (hs:autoParam (∀u,foldedSetIterable it c.env u=pure u) au1) :
 c.X (.Assign [.Name y py] (.ListComp elt [⟨.Name z pz,it,ifs,0⟩] scope pos) sp::rest) Q h t :=
 wpAny_execs_cons (asTup (h₀:=c.h₀) (xt:=c.xt) (g₀:=c.g₀) Nn Gc J c.hd hc hclo c.cx hy hw hn (He _ _ t fun _ t=>⟨rfl,g,V,mu,F,hl,hj,turn,fun g' g₂ D h' tk ys k1 k2 jj e F'=>done g' g₂ D ys k1 k2 jj e h' tk F'⟩) hs)
theorem eCompL{elt it:Expr}{z:Str}{pz:Pos}{ifs:List Expr}{scope:Scope}{cl:List (Str×Addr)}{l:Addr}{items:List Value}{k:Nat}{Qv Er:Value->Shared->Prop}(Nn Gc:List Str)(J:Nat->Heap->List Value->Prop)(hclo:clo c.env.cells scope.names []=some cl)(F:c.S g V mu h)(He:c.E h it (fun _=>.ref l))(hl:g.get? l=some (lstObj items k))(hn:items.length<=sizeLine)(hj:J 0 g [])
 (turn:CTurn pw w c.A c.env scope cl elt (.Name z pz) ifs Nn Gc g (fun i v=>items[i]?=some v) J)
 (done:∀g' g₂ D ys h' t',Le g g₂->Le g' g₂->J items.length g' ys->g₂.get? D=some (lst ys)->c.S g₂ V mu h'->Qv (.ref D) (c.st h' t'))
 (hc:autoParam (chkC scope Nn Gc=true) auK) (hs:autoParam (∀u,foldedSetIterable it c.env u=pure u) au1) :
 wpAny (model pw w) c.A (eval (.ListComp elt [⟨.Name z pz,it,ifs,0⟩] scope pos) c.env) Qv Er (c.st h t) :=
 evLst (h₀:=c.h₀) (xt:=c.xt) (g₀:=c.g₀) (L:=c.env.locals) (N:=N) Nn Gc J c.hd hc hclo c.cx hn (He _ _ t fun _ t=>⟨rfl,g,V,mu,F,hl,hj,turn,fun g' g₂ D h' tk ys k1 k2 jj e F'=>done g' g₂ D ys h' tk k1 k2 jj e F'⟩) hs
end Fr
end Mine.Internal
namespace Mine.Internal
open PySem PySem.W PyProof.Rows PySem.Calls PySem.Spec
namespace Fr
variable{w:World}{N Gl:List Str}{c:Fr w N Gl}{g:Heap}{V:List (Option Value)}{mu:List (Addr×Obj)}{h:Heap}{t:Nat}{e a b o:Expr}{x:Str}{pos p:Pos}{rest body:List Stmt}{Q:Flow->Shared->Prop}
theorem tOr{r1 r2:Bool}(H1:c.T h a r1)(H2:c.T h b r2):c.T h (.BoolOp .Or [a,b] p) (r1||r2):=fun Er Q t q=>by
 refine isTrue_or (H1 Er _ t fun t'=>?_)
 cases r1 with
 | true=>rw [if_pos rfl];exact q t'
 | false =>
  rw [if_neg (by decide)]
  refine isTrue_or (H2 Er _ t' fun t'=>?_)
  cases r2 with
  | true=>rw [if_pos rfl];exact q t'
  | false=>rw [if_neg (by decide)];exact isTrue_or_nil (q t')
theorem xIfB{r:Bool}{ob:List Stmt}(H:c.T h e r)(K1:r=true->∀t',c.X body (fun f s'=>match f with|.next=>wpAny (model pw w) c.A (execs rest c.env) Q no s'|f=>Q f s') h t')(K0:r=false->∀t',c.X ob (fun f s'=>match f with|.next=>wpAny (model pw w) c.A (execs rest c.env) Q no s'|f=>Q f s') h t'):c.X (.If e body ob pos::rest) Q h t:=by
 cases r with
 | true=>exact xIfT H (K1 rfl)
 | false=>exact xIfF H (K0 rfl)
theorem xAppE{pre post:List (Addr×Obj)}{ad:Addr}{xs:List Value}{j:Nat}{pn:Tok->Value}{apos:Pos}(Ho:c.E h o (fun _=>.ref ad))(F:c.S g V (pre++(ad,lstObj xs j)::post) h)(hz:xs.length<=16777216)(He:c.E h e pn)
 (K:∀k h' t',c.S g V (pre++(ad,lstObj (xs++[pn k]) (j+1))::post) h'->c.X rest Q h' t')
 (hb:autoParam (attributeBase o ("append":Str) c.env (eval o c.env)=eval o c.env) au0) (hs:autoParam (starEach [e] c.env=[(false,eval e c.env)]) au0) (hl:autoParam ((apos.endLine==pos.line)=true) au0) :
 c.X (.Expr (.Call (.Attribute o "append" apos) [e] [] pos) p::rest) Q h t :=
 wpAny_execs_cons (wpAny_Expr (appS (h₀:=c.h₀) (xt:=c.xt) (g₀:=c.g₀) (L:=c.env.locals) (N:=N) (a:=ad) (xs:=xs) (j:=j) (pre:=pre) (post:=post) hz
  (Ho _ _ t fun _ t=>⟨rfl,⟨_,(F.mt (ad,lstObj xs j) (List.mem_append_right _ (.head _))).1,rfl,rfl⟩,He _ _ t fun k t'=>⟨g,V,F,fun h2 F2=>K k h2 t' F2⟩⟩) hb hs hl) c.cx.inter)
theorem takeM{p1:Pos}{l:Addr}{items:List Value}{k j:Nat}(F:c.S g V mu h)(Ho:c.E h o (fun _=>.ref l))(He:c.E h e (Value.int (j:Int)))(hl:g.get? l=some (lstObj items k))(hz:items.length<=16777216)(ht:autoParam (∀o' r,letTemporaryGo o o' r=pure ()) au2) :
 c.M g V mu h (.Subscript o (.Slice none (some e) none p1) pos) (fun g' v=>∃D,v=.ref D/\g'.get? D=some (lstObj (items.take j) 0)):=fun Er Q t q =>
 lsl_take (h₀:=c.h₀) (xt:=c.xt) (g₀:=c.g₀) (L:=c.env.locals) (N:=N) (Ho _ _ t fun _ t=>He _ _ t fun k1 t=>⟨l,items,k,j,k1,g,mu,V,rfl,rfl,hz,hl,F,fun D g' h' k eD F'=>q _ g' h' _ k ⟨D,rfl,eD⟩ F'⟩) ht
theorem dropM{p1:Pos}{l:Addr}{items:List Value}{k j:Nat}(F:c.S g V mu h)(Ho:c.E h o (fun _=>.ref l))(He:c.E h e (Value.int (j:Int)))(hl:g.get? l=some (lstObj items k))(hz:items.length<=16777216)(ht:autoParam (∀o' r,letTemporaryGo o o' r=pure ()) au2) :
 c.M g V mu h (.Subscript o (.Slice (some e) none none p1) pos) (fun g' v=>∃D,v=.ref D/\g'.get? D=some (lstObj (items.drop j) 0)):=fun Er Q t q =>
 lsl_drop (h₀:=c.h₀) (xt:=c.xt) (g₀:=c.g₀) (L:=c.env.locals) (N:=N) (Ho _ _ t fun _ t=>He _ _ t fun k1 t=>⟨l,items,k,j,k1,g,mu,V,rfl,rfl,hz,hl,F,fun D g' h' k eD F'=>q _ g' h' _ k ⟨D,rfl,eD⟩ F'⟩) ht
theorem addM{la:Addr}{xs ys:List Value}{ka:Nat}(Ha:c.E h a (fun _=>.ref la))(hl:g.get? la=some (lstObj xs ka))(Hb:c.M g V mu h b (fun g' v=>∃D,v=.ref D/\g'.get? D=some (lstObj ys 0)))(hz:xs.length+ys.length<=16777216) :
 c.M g V mu h (.BinOp a .Add b pos) (fun g' v=>∃D,v=.ref D/\g'.get? D=some (lstObj (xs++ys) 0)):=fun Er Q t q =>
 wpAny_BinOp (Ha _ _ t fun _ t=>Hb _ _ t fun v g' h' t' k1 pv F'=>by
  obtain ⟨D,rfl,eD⟩:=pv
  exact addL (s:=c.st h' t') F' (k1 _ _ hl) eD hz fun D3 g₂ h₂ k2 e3 F2=>q _ g₂ h₂ _ (k1.tr k2) ⟨D3,rfl,e3⟩ F2)
theorem eqM{vb:Value}{da db:PyData}{P:Heap->Value->Prop}{r:Bool}(Ha:c.M g V mu h a P)(Hb:∀{g' h'},Le g g'->c.S g' V mu h'->c.E h' b (fun _=>vb))(hP:∀g' v,Le g g'->P g' v->Dt g' v da)(hdb:Dt g vb db)(sa:SeqAt.shaped da=true)(sb:SeqAt.shaped db=true)(hu:c.A.units+65<cLine)(hr:PyData.eqv da db=r)
 (hm:autoParam (behindInMarks .Eq b=false) auU):c.M g V mu h (.Compare a [.Eq] [b] pos) (fun _ v=>v=.bool r):=fun Er Q t q =>
 wpAny_Compare1 (Ha _ _ t fun va g' h' t' k pv F'=>Hb k F' _ _ t' fun _ t2=>eqD (s:=c.st h' t2) F'.keep (hP _ _ k pv) (hdb.up k) sa sb hu (by rw [hr];exact q _ g' h' _ k rfl F')) hm
theorem xWhM{test:Expr}(J:Nat->Heap->List (Option Value)->List (Addr×Obj)->Prop)(n₀:Nat)(F:c.S g V mu h)(hj:J n₀ g V mu)
 (turn:∀n g' V' mu' h' (tk:Nat) TT,Le g g'->J n g' V' mu'->(∀m g2 V2 mu2 h2 t2,m<n->Le g' g2->c.S g2 V2 mu2 h2->J m g2 V2 mu2->TT .next (c.st h2 t2))->c.S g' V' mu' h'->∀G:Prop,
  (c.TM g' V' mu' h' test true->(∀g2 h2 t',Le g' g2->c.S g2 V' mu' h2->c.X body TT h2 t')->G)->(c.TM g' V' mu' h' test false->(∀g2 h2 t',Le g' g2->c.S g2 V' mu' h2->c.X rest Q h2 t')->G)->G):c.X (.While test body [] pos::rest) Q h t:=by
 refine wpAny_execs_cons (While_ J n₀ F hj ?_)
 intro n g' V' mu' h₂ tk k j F'
 refine turn n g' V' mu' h₂ tk (WTurn c.h₀ c.g₀ c.xt c.env.locals N (c.st h t) g' n J fun f s'=>match f with|.next=>wpAny (model pw w) c.A (execs rest c.env) Q no s'|f=>Q f s') k j ?_ F' _ (fun hT hX=>hT _ _ _ fun g2 h2 t' k2 F2=>?_) fun hT hX=>hT _ _ _ fun g2 h2 t' k2 F2=>?_
 · exact fun m g2 V2 mu2 h2 t2 hm k2 F2 j2=>⟨m,g2,V2,mu2,h2,t2,hm,rfl,k2,F2,j2⟩
 · rw [if_pos rfl]
   exact hX g2 h2 t' k2 F2
 · rw [if_neg (by decide)]
   exact hX g2 h2 t' k2 F2
end Fr
theorem take_nx{α:Type}{l:List α}{i:Nat}{r:α}(h:l[i]?=some r):l.take (i+1)=l.take i++[r]:=by rw [List.take_add_one,h];rfl
theorem mapD_len{α:Type}{f:α->PyData}{g:Heap}{vs:List Value}{xs:List α}(h:Dts g vs (xs.map f)):vs.length=xs.length:=by have:=h.len;rwa [List.length_map] at this
theorem Dt.strK{g:Heap}{v:Value}{y:Str}(h:Dt g v (.str y)){G:Prop}(k:∀t,v=.str y t->G):G:=let ⟨t,e⟩:=h.strInv;k t e
theorem Dt.intK{g:Heap}{v:Value}{i:Int}(h:Dt g v (.int i)){G:Prop}(k:∀t,v=.int i t->G):G:=let ⟨t,e⟩:=h.intInv;k t e
end Mine.Internal
namespace Mine.Internal
open PySem PySem.W PyProof.Rows PySem.Calls PySem.Spec
namespace Fr
variable{w:World}{N Gl:List Str}{c:Fr w N Gl}{g:Heap}{V:List (Option Value)}{mu:List (Addr×Obj)}{h:Heap}{t:Nat}{e a b o:Expr}{x:Str}{pos p:Pos}{rest body:List Stmt}{Q:Flow->Shared->Prop}
theorem divE{m n:Nat}(H1:c.E h a (Value.int (m:Int)))(H2:c.E h b (Value.int (n:Int)))(hn:0<n)(hz:n<1073741824):c.E h (.BinOp a .FloorDiv b pos) (Value.int ((m/n:Nat):Int)) :=
 fun Er Q t q=>wpAny_BinOp (H1 Er _ t fun k t1=>H2 Er _ t1 fun k2 t2=>divN hn hz fun _ _=>q _ _)
theorem M.imp{P P':Heap->Value->Prop}(H:c.M g V mu h e P)(k:∀g' v,Le g g'->P g' v->P' g' v):c.M g V mu h e P':=fun Er Q t q=>H Er Q t fun v g' h' t' l p F=>q v g' h' t' l (k g' v l p) F
theorem nilM(F:c.S g V mu h):c.M g V mu h (.List [] p) (fun g' v=>∃D,v=.ref D/\g'.get? D=some (lstObj [] 0)):=fun Er Q t q=>lstE (sp0 (newLst (s:=c.st h t) F fun D g' h' k e F'=>q _ g' h' _ k ⟨D,rfl,e⟩ F'))
theorem lst1M{v1:Tok->Value}(F:c.S g V mu h)(H1:c.E h e v1)(b1:autoParam (starEach [e] c.env=(false,eval e c.env)::starEach [] c.env) au0):c.M g V mu h (.List [e] p) (fun g' v=>∃D k,v=.ref D/\g'.get? D=some (lstObj [v1 k] 0)) :=
 fun Er Q t q=>lstE (sp1 (H1 _ _ t fun k t=>sp0 (newLst (s:=c.st h t) F fun D g' h' k1 e F'=>q _ g' h' _ k1 ⟨D,k,rfl,e⟩ F')) b1)
theorem ifExpM{P:Heap->Value->Prop}{r:Bool}(HT:c.TM g V mu h e r)(HB:r=true->∀g' h',Le g g'->c.S g' V mu h'->c.M g' V mu h' a P)(HO:r=false->∀g' h',Le g g'->c.S g' V mu h'->c.M g' V mu h' b P):c.M g V mu h (.IfExp e a b pos) P:=fun Er Q t q =>
 IfExp_ (HT _ _ t fun g' h' t' k F'=>by
  cases r with
  | true=>rw [if_pos rfl];exact HB rfl g' h' k F' _ _ t' fun v g2 h2 t2 k2 p F2=>q v g2 h2 t2 (k.tr k2) p F2
  | false=>rw [if_neg (by decide)];exact HO rfl g' h' k F' _ _ t' fun v g2 h2 t2 k2 p F2=>q v g2 h2 t2 (k.tr k2) p F2)
theorem iterL{l:Addr}{n:Nat}{items:List Value}(i:Nat)(F:c.S g V mu h)(hl:g.get? l=some (lstObj items n))
 (J:Nat->Heap->List (Option Value)->List (Addr×Obj)->Prop) (hj:J 0 g V mu)
 (turn:∀k v g' V' mu' I oI h' tk TT,items[k]?=some v->Le g g'->J k g' V' mu'->c.On g' I oI (J (k+1)) TT->let V2:=V'.set i (some v);c.S g' V2 ((I,oI)::mu') h'->c.X body TT h' tk)
 (done:∀g' V' mu' h' tk,Le g g'->J items.length g' V' mu'->c.S g' V' mu' h'->c.X rest Q h' tk) (hx:autoParam (N[i]?=some x) au0) :
 wpAny (model pw w) c.A (pyIter (.ref l)) (fun it s₂=>codeAny (model pw w) c.A (.forLoop (.Name x p) it body [] c.env) (fun r s'=>match r with|.ok f=>(match f with|.next=>wpAny (model pw w) c.A (execs rest c.env) Q no s'|f=>Q f s')|.error _=>False) s₂) no (c.st h t):=by
 refine each_list (s:=c.st h t) (Q:=fun f s'=>match f with|.next=>wpAny (model pw w) c.A (execs rest c.env) Q no s'|f=>Q f s') (items:=items) (fun i g' vs' mu'=>Le g g'/\J i g' vs' mu') c.hd F hl ⟨Le.rfl',hj⟩ ?_ ?_
 · intro k v g' V' mu' I oI h tk hk kg' hJ F
   refine absT fun TT hTT=>?_
   refine stI c.cx F i hx fun h' F=>?_
   refine turn k v g' V' mu' I oI h' _ TT hk hJ.1 hJ.2 ?_ F
   exact fun g2 V2 mu2 h2 t2 k2 F2 j2=>⟨hTT _ _ ⟨g2,V2,mu2,h2,t2,rfl,k2,F2,hJ.1.tr k2,j2⟩,hTT _ _ ⟨g2,V2,mu2,h2,t2,rfl,k2,F2,hJ.1.tr k2,j2⟩⟩
 · intro g' V' mu' h' tk kg' hJ F
   exact done g' V' mu' h' tk hJ.1 hJ.2 F
theorem tOrM(H1:c.TM g V mu h a false)(H2:∀{g' h'},Le g g'->c.S g' V mu h'->c.TM g' V mu h' b false):c.TM g V mu h (.BoolOp .Or [a,b] p) false:=fun Er Q t q =>
 isTrue_or (H1 Er _ t fun g' h' t' k F=>by
  rw [if_neg (by decide)]
  exact isTrue_or (H2 k F Er _ t' fun g2 h2 t2 k2 F2=>by
   rw [if_neg (by decide)]
   exact isTrue_or_nil (q g2 h2 t2 (k.tr k2) F2)))
theorem compM{elt it:Expr}{z:Str}{pz:Pos}{ifs:List Expr}{scope:Scope}{cl:List (Str×Addr)}{l:Addr}{items:List Value}{k:Nat}(Nn Gc:List Str)(J:Nat->Heap->List Value->Prop)(hclo:clo c.env.cells scope.names []=some cl)(F:c.S g V mu h)(He:c.E h it (fun _=>.ref l))(hl:g.get? l=some (lstObj items k))(hn:items.length<=sizeLine)(hj:J 0 g [])
 (turn:CTurn pw w c.A c.env scope cl elt (.Name z pz) ifs Nn Gc g (fun i v=>items[i]?=some v) J)
 (hc:autoParam (chkC scope Nn Gc=true) auK) (hs:autoParam (∀u,foldedSetIterable it c.env u=pure u) au1) :
 c.M g V mu h (.ListComp elt [⟨.Name z pz,it,ifs,0⟩] scope pos) (fun g' v=>∃D ys g1,v=.ref D/\Le g1 g'/\J items.length g1 ys/\g'.get? D=some (lst ys)):=fun Er Q t q =>
 eCompL Nn Gc J hclo F He hl hn hj turn (fun g1 g' D ys h' t' k1 k2 jj e F'=>q _ g' h' t' k1 ⟨D,ys,g1,rfl,k2,jj,e⟩ F') hc hs
end Fr
end Mine.Internal
namespace Mine.Internal
open PySem PySem.W PyProof.Rows PySem.Calls PySem.Spec
namespace Fr
variable{w:World}{N Gl:List Str}{c:Fr w N Gl}{g:Heap}{V:List (Option Value)}{mu:List (Addr×Obj)}{h:Heap}{t:Nat}{e a b o:Expr}{x y:Str}{u v:Tok}{pos p ap:Pos}{rest body:List Stmt}{Q:Flow->Shared->Prop}
theorem rfindE(Ho:c.E h o (fun _=>.str x u))(He:c.E h e (fun _=>.str y v))(hb:autoParam (attributeBase o ("rfind":Str) c.env (eval o c.env)=eval o c.env) au0)(hs:autoParam (starEach [e] c.env=[(false,eval e c.env)]) au0)(hl:autoParam ((ap.endLine==pos.line)=true) au0) :
 c.E h (.Call (.Attribute o "rfind" ap) [e] [] pos) (Value.int (Txt.rfind x y)):=fun Er Q t q=>Mstr (Ho _ _ t fun _ t=>⟨rfl,SB.rfind (He _ _ t fun _ t=>⟨_,_,rfl,q _ _⟩)⟩) hb hs hl
theorem startsT(Ho:c.E h o (fun _=>.str x u))(He:c.E h e (fun _=>.str y v))(hb:autoParam (attributeBase o ("startswith":Str) c.env (eval o c.env)=eval o c.env) au0)(hs:autoParam (starEach [e] c.env=[(false,eval e c.env)]) au0)(hl:autoParam ((ap.endLine==pos.line)=true) au0) :
 c.T h (.Call (.Attribute o "startswith" ap) [e] [] pos) (Txt.startswith x y):=fun Er Q t q=>isTrue_plain (Mstr (Ho _ _ t fun _ t=>⟨rfl,SB.startswith (He _ _ t fun _ t=>⟨_,_,rfl,wpAny_truthy_bool (q _)⟩)⟩) hb hs hl)
theorem endsT(Ho:c.E h o (fun _=>.str x u))(He:c.E h e (fun _=>.str y v))(hb:autoParam (attributeBase o ("endswith":Str) c.env (eval o c.env)=eval o c.env) au0)(hs:autoParam (starEach [e] c.env=[(false,eval e c.env)]) au0)(hl:autoParam ((ap.endLine==pos.line)=true) au0) :
 c.T h (.Call (.Attribute o "endswith" ap) [e] [] pos) (Txt.endswith x y):=fun Er Q t q=>isTrue_plain (Mstr (Ho _ _ t fun _ t=>⟨rfl,SB.endswith (He _ _ t fun _ t=>⟨_,_,rfl,wpAny_truthy_bool (q _)⟩)⟩) hb hs hl)
theorem rstripE(Ho:c.E h o (fun _=>.str x u))(He:c.E h e (fun _=>.str y v))(hz:x.length<=16777216)(hb:autoParam (attributeBase o ("rstrip":Str) c.env (eval o c.env)=eval o c.env) au0)(hs:autoParam (starEach [e] c.env=[(false,eval e c.env)]) au0)(hl:autoParam ((ap.endLine==pos.line)=true) au0) :
 c.E h (.Call (.Attribute o "rstrip" ap) [e] [] pos) (Value.str (Txt.rstripChars x y)):=fun Er Q t q=>Mstr (Ho _ _ t fun _ t=>⟨rfl,SB.rstripChars (He _ _ t fun _ t=>⟨_,_,rfl,fun t4 k=>q _ _⟩) hz⟩) hb hs hl
theorem fitsN{n:Nat}(h:n<100000):fitsSsize (n:Int)=true:=by simp [fitsSsize];lia
theorem addS(H1:c.E h a (Value.str x))(H2:c.E h b (Value.str y))(hz:x.length+y.length<=16777216):c.E h (.BinOp a .Add b pos) (Value.str (x++y)) :=
 fun Er Q t q=>wpAny_BinOp (H1 Er _ t fun k t1=>H2 Er _ t1 fun k2 t2=>SB.add (fun t k=>q _ _) hz)
theorem joinM{P:Heap->Value->Prop}{xs:List Str}(Ho:c.E h o (Value.str x))(He:c.M g V mu h e P)(hP:∀g' v,Le g g'->P g' v->∃D l k,v=.ref D/\g'.get? D=some (lstObj (strValues l) k)/\l.map (·.1)=xs)(hj:JoinOk x xs=true)
 (hb:autoParam (attributeBase o ("join":Str) c.env (eval o c.env)=eval o c.env) au0) (hs:autoParam (starEach [e] c.env=[(false,eval e c.env)]) au0) (hl:autoParam ((ap.endLine==pos.line)=true) au0) :
 c.M g V mu h (.Call (.Attribute o "join" ap) [e] [] pos) (fun _ v=>∃t,v=.str (Txt.join x xs) t):=fun Er Q t q =>
 Call_method1 hb hs hl (Ho _ _ t fun _ t=>SB.join (He.use fun v g' h' t' k p F=>by
  obtain ⟨D,l,j,rfl,e,f⟩:=hP g' v k p
  exact ⟨D,l,rfl,⟨_,F.keep _ _ e,rfl,_,rfl⟩,_,f,hj,fun t5 k5=>q _ g' h' k5 k ⟨_,rfl⟩ F⟩))
theorem ixSB{o e1 e2:Expr}{op:Operator}{i:Int}(Ho:c.E h o (fun _=>.str x u))(He:c.E h (.BinOp e1 op e2 p) (Value.int i))(hf:fitsSsize i=true)(hx:(Txt.charAt x i).isSome=true)(ht:autoParam (∀o' r,letTemporaryGo o o' r=pure ()) au2):c.E h (.Subscript o (.BinOp e1 op e2 p) pos) (Value.str (Txt.item x i)) :=
 fun Er Q t q=>Subscript_BinOp (Ho _ _ t fun _ t=>He _ _ t fun k t=>SB.item hf hx (q _ _)) ht
theorem xFspath{n:Nat}{pp:Pos}(i:Nat)(Y:Stat g)(hg:("fspath":Str)∈Gl)(hA:Ok c.A (n+2))(F:c.S g V mu h)(He:c.E h e (fun _=>.str x u))(H:let V':=V.set i (some (.str x u));∀g' h' t',Le g g'->c.S g' V' mu h'->c.X rest Q h' t')(hs:autoParam (swapsWith (.Call (.Name "fspath" p) [e] [] pp) (some (.Name y ap)) pos.line c.env=pure false) au0)(hx:autoParam (N[i]?=some y) au0)(he:autoParam (starEach [e] c.env=[(false,eval e c.env)]) au0) :
 c.X (.Assign [.Name y ap] (.Call (.Name "fspath" p) [e] [] pp) pos::rest) Q h t :=
 xLetK i (fun Qv hQv=>C1 (N_fspath (s:=c.st h t) c.cx Y F.keep hg (He _ _ t fun _ t=>⟨⟨_,F.keep _ _ (Y.fnAt 12 rfl)⟩,call_c (s:=c.st h t) F (fspath_gives (n:=n) Y F.keep hA x u) fun g₂ h t v k2 F e=>hQv _ _ _ _ _ _ F (by subst e;exact fun h' t' F=>H g₂ h' t' k2 F)⟩)) he) hs hx
theorem xGetSep{n:Nat}{pp:Pos}(i:Nat)(Y:Stat g)(hg:("_get_sep":Str)∈Gl)(hA:Ok c.A (n+2))(F:c.S g V mu h)(He:c.E h e (fun _=>.str x u))(H:∀ts,let V':=V.set i (some (.str "/" ts));∀g' h' t',Le g g'->c.S g' V' mu h'->c.X rest Q h' t')(hs:autoParam (swapsWith (.Call (.Name "_get_sep" p) [e] [] pp) (some (.Name y ap)) pos.line c.env=pure false) au0)(hx:autoParam (N[i]?=some y) au0)(he:autoParam (starEach [e] c.env=[(false,eval e c.env)]) au0) :
 c.X (.Assign [.Name y ap] (.Call (.Name "_get_sep" p) [e] [] pp) pos::rest) Q h t :=
 xLetK i (fun Qv hQv=>C1 (N_get_sep (s:=c.st h t) c.cx Y F.keep hg (He _ _ t fun _ t=>⟨⟨_,F.keep _ _ (Y.fnAt 13 rfl)⟩,call_c (s:=c.st h t) F (getSep_gives (n:=n) Y F.keep hA x u) fun g₂ h t v k2 F e=>hQv _ _ _ _ _ _ F (by obtain ⟨ts,rfl⟩:=e;exact fun h' t' F=>H ts g₂ h' t' k2 F)⟩)) he) hs hx
theorem xAugS{z:Str}{k:Tok}(i:Nat)(F:c.S g V mu h)(He:c.E h e (Value.str y))(hz:z.length+y.length<=16777216)(H:∀k,let V':=V.set i (some (.str (z++y) k));∀h' t',c.S g V' mu h'->c.X rest Q h' t')(hv:autoParam (V[i]?=some (some (.str z k))) au0)(hx:autoParam (N[i]?=some x) au0) :
 c.X (.AugAssign (.Name x p) .Add e pos::rest) Q h t :=
 wpAny_execs_cons (wpAny_AugAssign_Name (ldnI c.cx F (s:=c.st h t) i hx hv (He _ _ t fun k2 t2=>SB.iadd (fun t3 k3=>stI c.cx F (s:=c.st h k3) i hx fun h' F'=>H _ h' _ F') hz)))
theorem mulE{n:Int}(H1:c.E h a (fun _=>.str x u))(H2:c.E h b (Value.int n))(hm:MulOk x n):c.E h (.BinOp a .Mult b pos) (Value.str (Txt.mul x n)) :=
 fun Er Q t q=>wpAny_BinOp (H1 Er _ t fun k t1=>H2 Er _ t1 fun k2 t2=>SB.mul hm fun _ _=>q _ _)
theorem lenS{pp:Pos}(Y:Stat g)(hg:("len":Str)∈Gl)(H:c.E h e (fun _=>.str x u))(kg:Le g h)(hz:x.length<=16777216)(he:autoParam (starEach [e] c.env=[(false,eval e c.env)]) au0):c.E h (.Call (.Name "len" p) [e] [] pp) (Value.int (x.length:Int)) :=
 fun Er Q t q=>C1 (N_len (s:=c.st h t) c.cx Y kg hg (H _ _ t fun _ t=>⟨trivial,P.len_str (by lia) (q _ _)⟩)) he
theorem len0(n:Nat):((n:Int) != 0)=!(n==0):=by cases n<;>rfl
end Fr
end Mine.Internal
namespace Mine.Internal
open PySem PySem.W PyProof.Rows PySem.Calls PySem.Spec
noncomputable def joinS(a b:Str):Str:=if Txt.startswith b "/"||a.length==0 then b else if Txt.endswith a "/" then a++b else a++(("/":Str)++b)
theorem slash_len:("/":Str).length=1:=by decide +kernel
section
variable{w:World}{A:Around}{s:Shared}{g:Heap}{n:Nat}
theorem join_gives(X:Stat g)(kg:Le g s.heap)(hA:Ok A (n+3))(a b:Str)(t u:Tok)(ha:a.length<=1000)(hb:b.length<=1000) :
 Gives pw w A (.call (.ref 363) ⟨[.str a t,.str b u],[]⟩) s [] g (fun _ _ v=>∃t',v=.str (joinS a b) t'):=by
 refine Gives.enterV [.str a t] "p" [.str b u] ["a"] ["sep","path","b"] ["fspath","_get_sep","TypeError","AttributeError","BytesWarning"] (kg _ _ (X.fnAt 14 rfl)) rfl (X.lim.keeps kg) ((X.cdAt 14 rfl).keeps kg) hA rfl rfl rfl (by decide +kernel) (by show 1<=sizeLine;decide) kg fun h env A' t' T g₁ hA' C k1 eT F=>absQ fun QQ hQ=>?_
 let c:Fr w ["a","p","sep","path","b"] ["fspath","_get_sep","TypeError","AttributeError","BytesWarning"]:=⟨A',env,s.gens,s.drawn,s.os,s.heap,[],g,C,hA'.handled⟩
 refine Fr.xDoc (c:=c) fun t0=>Fr.xFspath (c:=c) (n:=n) 0 (X.up k1) (.head _) hA' F (Fr.nV 0 F) ?_
 intro V g₂ h t0 k2 F
 refine Fr.xGetSep (c:=c) (n:=n) 2 ((X.up k1).up k2) (.tail _ (.head _)) hA' F (Fr.nV 0 F) ?_
 intro ts V g₃ h t0 k3 F
 refine Fr.xAsg (c:=c) 3 F (Fr.nV 0 F) ?_
 intro _ V h t0 F
 refine wpAny_execs_cons (Try_ (wpAny_execs_cons (For_ ((Fr.nV (c:=c) 1 F).use fun _ t0=>each_tuple (s:=c.st h t0) (items:=[.str b u]) (fun i g' V' mu'=>∀G:List (Option Value)->List (Addr×Obj)->Prop,(∀u3 u4,(i=0->u3=.str a t)->(i=0\/∃t',u3=.str (joinS a b) t')->G [some (.str a t),some (.ref T),some (.str "/" ts),some u3,u4] [])->G V' mu') hA'.handled F (k3 _ _ (k2 _ _ eT)) (fun G q=>q _ none (fun _=>rfl) (.inl rfl)) ?_ ?_))))
 · intro i v g' V' mu' I oI h tk hi kg' hJ
   apply hJ
   intro u3 u4 h0 _ F
   cases i with
   | succ j=>cases hi
   | zero =>
    cases hi
    cases h0 rfl
    refine absT fun TT hTT=>?_
    have fin:∀{g₄ h t0 y k},Le g' g₄->y=joinS a b->c.S g₄ [some (.str a t),some (.ref T),some (.str "/" ts),some (.str y k),some (.str b u)] [(I,oI)] h->TT .next (c.st h t0):=fun k4 e F=>by
     subst e
     exact hTT _ _ (turn_next k4 F fun G q=>q _ _ (fun h=>nomatch h) (.inr ⟨_,rfl⟩))
    refine Fr.sto (c:=c) 4 F ?_
    intro V h t0 F
    refine Fr.xFspath (c:=c) (n:=n) 4 ((((X.up k1).up k2).up k3).up kg') (.head _) hA' F (Fr.nV 4 F) ?_
    intro V g₄ h t0 k4 F
    refine Fr.xIfB (c:=c) (Fr.tOr (Fr.startsT (Fr.nV 4 F) (Fr.nV 2 F)) ((Fr.tNot (Fr.tTruS (Fr.nV 3 F) (Nat.le_trans ha (by decide)) (Fr.len0 _))).to (Bool.not_not _))) (fun q t0=>?_) fun q t0=>?_
    · refine Fr.xAsg (c:=c) 3 F (Fr.nV 4 F) ?_
      intro _ V h t0 F
      exact Fr.xNil (Fr.xNil (fin k4 (if_pos q).symm F))
    · have q:=ne_true_of_eq_false q
      refine Fr.xIfB (c:=c) (Fr.endsT (Fr.nV 3 F) (Fr.nV 2 F)) (fun q2 t0=>?_) fun q2 t0=>?_
      · refine Fr.xAugS (c:=c) (z:=a) 3 F (Fr.toS (Fr.nV 4 F)) (by exact zz171 ha hb) ?_
        intro k V h t0 F
        exact Fr.xNil (Fr.xNil (Fr.xNil (fin k4 ((if_neg q).trans (if_pos q2)).symm F)))
      · refine Fr.xAugS (c:=c) (z:=a) 3 F (Fr.addS (Fr.toS (Fr.nV 2 F)) (Fr.toS (Fr.nV 4 F)) (by rw [slash_len];exact zz172 hb)) (by rw [Str.length_append,slash_len];exact zz173 ha hb) ?_
        intro k V h t0 F
        exact Fr.xNil (Fr.xNil (Fr.xNil (fin k4 ((if_neg q).trans (if_neg (ne_true_of_eq_false q2))).symm F)))
 · intro g' V' mu' h tk kg' hJ
   apply hJ
   intro u3 u4 _ h1 F
   obtain ⟨t',rfl⟩:=h1.resolve_left (fun h=>nomatch h)
   exact wpAny_execs_nil (Fr.xRet (c:=c) (Fr.nV 3 F) fun k t=>hQ _ _ (ends F ⟨_,rfl⟩))
end
noncomputable def headS(p:Str):Str:=Txt.slice p none (some (Txt.rfind p "/"+1))
noncomputable def tailS(p:Str):Str:=Txt.slice p (some (Txt.rfind p "/"+1)) none
noncomputable def splitS(p:Str):Str:=if (headS p).length==0||(headS p).cps.toList==(Txt.mul "/" (headS p).length).cps.toList then headS p else Txt.rstripChars (headS p) "/"
theorem headS_le(p:Str):(headS p).length<=p.length:=Txt.slice_le _ _ _
theorem mulOk_slash{n:Nat}(h:n<=1000):MulOk "/" (n:Int):=by
 refine ⟨?_,fun h1 _=>?_,fun h1 _=>?_⟩
 · simp;exact zz31 h
 · rw [slash_len]
   intro h2
   have:(2^63-1:Int)/(n:Int)≥1:=by
    apply Int.le_ediv_of_mul_le (by exact zz174 h1)
    lia
   exact zz175 h2 this
 · rw [slash_len]
   have h3:(n:Int).toNat=n:=Int.toNat_natCast n
   rw [h3]
   show decide (1*n>16777216)=false
   simp;exact zz24 h
section
variable{w:World}{A:Around}{s:Shared}{g:Heap}{n:Nat}
theorem split_gives(X:Stat g)(kg:Le g s.heap)(hA:Ok A (n+3))(p:Str)(t:Tok)(hp:p.length<=1000) :
 Gives pw w A (.call (.ref 370) ⟨[.str p t],[]⟩) s [] g (fun g' _ v=>∃T t1 t2,v=.ref T/\g'.get? T=some (tupObj [.str (splitS p) t1,.str (tailS p) t2])):=by
 refine Gives.fr 15 [.str p t] ["p"] ["sep","i","head","tail"] ["p","sep","i","head","tail"] ["fspath","_get_sep","len"] rfl X kg hA rfl (BindsTo.of_eq rfl) rfl rfl (by decide +kernel) ?_
 intro h t0 env A' QQ C hA' c V F hQ
 refine Fr.xDoc (c:=c) fun t0=>Fr.xFspath (c:=c) (n:=n) 0 X (.head _) hA' F (Fr.nV 0 F) ?_
 intro V g₂ h t0 k2 F
 refine Fr.xGetSep (c:=c) (n:=n) 1 (X.up k2) (.tail _ (.head _)) hA' F (Fr.nV 0 F) ?_
 intro ts V g₃ h t0 k3 F
 have hl:=headS_le p
 have hz:(headS p).length<=16777216:=by exact zz91 hp hl
 refine Fr.xAsg (c:=c) 2 F (Fr.addI (Fr.rfindE (Fr.nV 0 F) (Fr.nV 1 F)) Fr.kI rfl) ?_
 intro ki V h t0 F
 refine wpAny_execs_cons (Assign_Tuple_swapped (names:=["head","tail"]) (tupE (sp1 (sl_ns ((Fr.nV (c:=c) 0 F).use fun _ t0=>(Fr.nV (c:=c) 2 F).use fun _ t0=>⟨_,_,_,_,rfl,rfl,by exact zz24 hp,fun h t1 k kk=>?_⟩)))) rfl (swp2 C 3 4 rfl rfl (by decide)))
 have F:=St.more F kk
 refine sp1 (sl_sn ((Fr.nV (c:=c) 0 F).use fun _ t0=>(Fr.nV (c:=c) 2 F).use fun _ t0=>⟨_,_,_,_,rfl,rfl,by exact zz24 hp,fun h t2 k kk=>sp0 ?_⟩))
 have F:=St.more F kk
 refine newTup (s:=c.st h k) F fun T0 g₄ h kk4 eT F=>unp (s:=c.st h k) hA'.handled F eT rfl fun h F=>assignInOrder_cons (bindName_ (Fr.sto (c:=c) 4 F ?_))
 intro V h t0 F
 refine assignInOrder_cons (bindName_ (Fr.sto (c:=c) 3 F ?_))
 intro V h t0 F
 refine assignInOrder_nil ?_
 have ret:∀{h t0 t1 y} {V:List (Option Value)},y=splitS p->V[3]?=some (some (.str y t1))->V[4]?=some (some (.str (tailS p) t2))->c.S g₄ V [] h->∀{p1 p2 p3 p4 k1},c.X [.Return (some (.Tuple [.Name "head" p1,.Name "tail" p2] k1 p3)) p4] QQ h t0:=by
  intro h t0 t1 y V e h3 h4 F p1 p2 p3 p4 k1
  subst e
  exact wpAny_execs_cons (wpAny_Return_some ((Fr.tup2 F (Fr.nV (c:=c) 3 F h3) (Fr.nV 4 F h4)).use fun v g' h t k ⟨T,j1,j2,ev,eT⟩ F=>hQ _ _ _ _ F.out ⟨T,t1,t2,ev,eT⟩))
 have X₄:=((X.up k2).up k3).up kk4
 have nt:∀{b:Bool},(!b)=false->b=true:=fun {b} h=>by cases b<;>first|rfl|cases h
 have nf:∀{b:Bool},(!b)=true->¬b=true:=fun {b} h z=>by subst z;cases h
 refine Fr.xIfB (c:=c) ((Fr.tAnd (Fr.taAnd (Fr.tTruS (Fr.nV 3 F) hz (Fr.len0 _)) (Fr.tNeS (Fr.nV 3 F) (Fr.mulE (n:=((headS p).length:Int)) (Fr.nV 1 F) (Fr.lenS X₄ (.tail _ (.tail _ (.head _))) (Fr.nV 3 F) F.keep hz) (mulOk_slash (by exact zz176 hp hl))) rfl))).to (Bool.not_or ..).symm) (fun q t0=>?_) fun q t0=>Fr.xNil (ret (if_pos (nt q)).symm rfl rfl F)
 refine Fr.xAsg (c:=c) 3 F (Fr.rstripE (Fr.nV 3 F) (Fr.nV 1 F) hz) ?_
 intro t3 V h t0 F
 exact Fr.xNil (ret (if_neg (nf q)).symm rfl rfl F)
end
end Mine.Internal
namespace Mine.Internal
open PySem PySem.W PyProof.Rows PySem.Calls PySem.Spec PySem.Builtin
noncomputable def hexA(b:Array UInt8):Array Nat:=b.toList.zipIdx.foldl (fun (out:Array Nat) (p:UInt8×Nat)=>(out.push (Bytes.hexDigit (p.1.toNat/16))).push (Bytes.hexDigit (p.1.toNat%16))) #[]
theorem gives_hex(b:Array UInt8)(t:Tok):PySem.Gives (Builtin.«bytes.hex» ⟨[.bytes b t],[]⟩) (.str ⟨hexA b⟩):=.of_eq rfl
theorem gives_upper(b:Array UInt8)(t:Tok):PySem.Gives (Builtin.«bytes.upper» ⟨[.bytes b t],[]⟩) (.bytes (b.toList.map Bytes.toUpper).toArray):=.of_eq rfl
noncomputable def ascA(x:Array Nat):Array UInt8:=x.foldl (fun acc y=>acc++#[y.toUInt8]) #[]
theorem enc_tree(x:Str)(t u:Tok):Builtin.«str.encode» ⟨[.str x t,.str "ascii" u],[]⟩=(do ret (←_codecs.encodeRoad "str.encode" (.str x t) x (Str.ofString "ascii") none)):=by kernel_rfl
theorem enc_road(id:String)(self:Value)(x:Str)(errors:Option Str):_codecs.encodeRoad id self x (Str.ofString "ascii") errors=(do mkBytes (←_codecs.encodeNarrow id _codecs.asciiCodec errors self x)):=by
 kernel_rfl
theorem forIn_two{σ:Type}{m n:Nat}(hm:m=n+2){body:Nat->σ->Sem (ForInStep σ)}{b0 b1:σ}(h0:body 0 b0=pure (.yield b1))(h1:body 1 b1=pure (.done b1)):(forIn (m:=Sem) [0:m] b0 body)=pure b1:=by
 subst hm
 simp only [Std.Legacy.Range.forIn_eq_forIn_range',Std.Legacy.Range.size,Nat.sub_zero,Nat.add_sub_cancel,Nat.div_one,List.range'_succ,List.forIn_cons,h0,pure_bind,h1]
theorem enc_narrow(id:String)(self:Value)(x:Str)(h:x.cps.findIdx? (fun y=>decide (y≥128))=none)(h0:x.cps[0]?=some (x.cps[0]?.getD 0))(hb:decide (x.cps[0]?.getD 0≥128)=false)(n:Nat)(hl:x.cps.size=n+2)(hs:¬(ascA x.cps).size>sizeLine):_codecs.encodeNarrow id _codecs.asciiCodec none self x=pure (ascA x.cps):=by
 unfold _codecs.encodeNarrow
 have s0:¬((#[]:Array UInt8).size>sizeLine):=by decide
 have e1:x.cps.extract 0 x.cps.size=x.cps:=by simp
 have e2:x.cps[0+x.cps.size]?=none:=by simp
 have e3:(x.cps.extract 0 x.cps.size).findIdx? (fun y=>decide (y≥128))=none:=by rw [e1];exact h
 have hfin:((x.cps.extract 0 x.cps.size).extract 0 (((x.cps.extract 0 x.cps.size).findIdx? (fun y=>decide (y≥128))).getD (x.cps.extract 0 x.cps.size).size)).foldl (fun acc y=>acc++#[y.toUInt8]) (#[]:Array UInt8)=ascA x.cps/\0+((x.cps.extract 0 x.cps.size).findIdx? (fun y=>decide (y≥128))).getD (x.cps.extract 0 x.cps.size).size=0+x.cps.size:=by
  rw [e3,e1];exact ⟨by rw [Option.getD_none,e1];rfl,rfl⟩
 refine (congrArg (·>>=_) (forIn_two (b1:=(0+x.cps.size,ascA x.cps,{})) (m:=x.length) (n:=n) hl ?_ ?_)).trans ?_
 · refine (if_neg s0).trans ?_
   dsimp only
   rw [h0]
   refine (if_pos (by rw [show _codecs.asciiCodec.bad (x.cps[0]?.getD 0)=false from hb];rfl)).trans ?_
   exact congrArg (fun p:Array UInt8×Nat=>(pure (ForInStep.yield (p.2,p.1,({}:_codecs.Faults))):Sem (ForInStep (Nat×Array UInt8×_codecs.Faults)))) (Prod.ext (x:=(_,_)) (y:=(ascA x.cps,0+x.cps.size)) hfin.1 hfin.2)
 · refine (if_neg hs).trans ?_
   dsimp only
   rw [e2]
 · rfl
end Mine.Internal
namespace Mine.Internal
open PySem PySem.W PyProof.Rows PySem.Calls PySem.Spec PySem.Builtin
theorem slot_upper:Slot "bytes" "upper" "bytes.upper" :=
 .of (owner:="bytes") (n:="upper") (by rw [typeLookup_type,builtinLookup_eq_fast];kernel_rfl) (by decide +kernel) (by decide +kernel) (by decide +kernel)
  (by first|exact .inl (by decide +kernel)|exact .inr (by decide +kernel)) (by rw [isSubtype_type];kernel_rfl)
theorem type_upper:typeOf (.builtin "bytes.upper")=pure (.type "method_descriptor"):=by show builtinType _=_;rw [builtinType_eq_fast];kernel_rfl
theorem entry_upper:entryFor table "bytes.upper"=some Builtin.«bytes.upper»:=entryFor_of_tree (by kernel_rfl)
theorem args_upper(a:Value):argsOk "bytes.upper" ⟨[a],[]⟩:=by unfold argsOk;kernel_rfl
theorem enc_gives(x:Str)(t u:Tok)(h:x.cps.findIdx? (fun y=>decide (y≥128))=none)(h0:x.cps[0]?=some (x.cps[0]?.getD 0))(hb:decide (x.cps[0]?.getD 0≥128)=false)(n:Nat)(hl:x.cps.size=n+2)(hs:¬(ascA x.cps).size>sizeLine) :
 PySem.Gives (Builtin.«str.encode» ⟨[.str x t,.str "ascii" u],[]⟩) (.bytes (ascA x.cps)):=by
 refine .of_eq ?_
 rw [enc_tree,enc_road,enc_narrow _ _ x h h0 hb n hl hs]
 rfl
section
variable{prog:Program}{w:World}{A:Around}{s:Shared}{env:Env}{E:Value->Shared->Prop}
theorem M_hex{b:Array UInt8}{t:Tok}{pos:Pos}{Q:Value->Shared->Prop}(hsz:(Str.mk (hexA b)).length<=16777216)(h:∀t' k,Q (.str ⟨hexA b⟩ t') {s with toks:=k}):MethodOnS prog w A E "hex" (.bytes b t) pos [] Q s :=
 ⟨"bytes",_,FB.plainAttrs_bytes,FB.slot_bytes_hex,FB.type_bytes_hex,typeIs_bytes _ _ _,(fun _ e=>nomatch e),method0_gives FB.slot_bytes_hex FB.entry_bytes_hex (typeIs_bytes _ _ _) (FB.args_bytes_hex_1 _) (gives_hex b t) ⟨hsz,h _ _⟩⟩
theorem M_upper{b:Array UInt8}{t:Tok}{pos:Pos}{Q:Value->Shared->Prop}(hsz:b.size<=16777216)(h:∀t' k,Q (.bytes (b.toList.map Bytes.toUpper).toArray t') {s with toks:=k}):MethodOnS prog w A E "upper" (.bytes b t) pos [] Q s :=
 ⟨"bytes",_,FB.plainAttrs_bytes,slot_upper,type_upper,typeIs_bytes _ _ _,(fun _ e=>nomatch e),method0_gives slot_upper entry_upper (typeIs_bytes _ _ _) (args_upper _) (gives_upper b t) ⟨by show _<=16777216;simpa using hsz,h _ _⟩⟩
end
noncomputable def upA(b:Array UInt8):Array UInt8:=((ascA (hexA b)).toList.map Bytes.toUpper).toArray
structure Fine(b:Array UInt8):Prop where
 none:(hexA b).findIdx? (fun y=>decide (y≥128))=none
 first:(hexA b)[0]?=some ((hexA b)[0]?.getD 0)
 low:decide ((hexA b)[0]?.getD 0≥128)=false
 size:∃n,(hexA b).size=n+2
 le:(hexA b).size<=1000
 asc:(ascA (hexA b)).size<=1000
section
variable{w:World}{A:Around}{s:Shared}{g:Heap}{n:Nat}
theorem buffer_gives(X:Stat g)(kg:Le g s.heap)(hA:Ok A (n+1))(b:Array UInt8)(t:Tok) :
 Gives pw w A (.call (.ref 253) ⟨[.bytes b t],[]⟩) s [] g (fun _ _ v=>v=.bytes b t):=by
 refine Gives.go 9 [.bytes b t] ["data"] ["t"] ["type","bytes"] rfl X kg hA rfl (BindsTo.of_eq rfl) rfl (by decide +kernel) fun h₁ env A' t' hA' C F=>?_
 refine wpAny_execs_cons (wpAny_Assign_Name ?_)
 refine C1 (N_type C X F.keep (.head _) (ld0 C F ⟨trivial,?_⟩))
 refine call_type_of (Tx:="bytes") rfl (by decide +kernel) ?_
 refine st1 C F fun h' F=>?_
 refine wpAny_execs_cons (wpAny_If (wpAny_isTrue_Compare1 (ld1 C F (N_bytes C X F.keep (.tail _ (.head _)) (wpAny_is_self rfl (wpAny_truthy_bool ?_))))))
 refine wpAny_execs_cons (wpAny_Return_some (ld0 C F ?_))
 exact ends F rfl
theorem hex_gives(X:Stat g)(kg:Le g s.heap)(hA:Ok A (n+2))(b:Array UInt8)(t:Tok)(hb:Fine b) :
 Gives pw w A (.call (.ref 262) ⟨[.bytes b t],[]⟩) s [] g (fun _ _ v=>∃t',v=.bytes (ascA (hexA b)) t'):=by
 refine Gives.go 10 [.bytes b t,.ref 254,.int 1 594] ["data","sep","bytes_per_sep"] ["t"] ["_buffer","type","_NO_SEP","int"] rfl X kg hA rfl (BindsTo.of_defaults rfl (kg _ _ (X.obAt 0 rfl)) rfl rfl rfl) rfl (by decide +kernel) fun h₁ env A' t' hA' C F=>?_
 refine wpAny_execs_cons (wpAny_Assign_Name ?_)
 refine C1 (N_buffer C X F.keep (.head _) (ld0 C F ⟨⟨_,F.keep _ _ (X.fnAt 9 rfl)⟩,?_⟩))
 refine call_c F (buffer_gives X F.keep hA' b t) fun g₂ h' t' v k2 F e=>?_
 subst e
 refine st0 C F fun h' F=>?_
 have X₂:=X.up k2
 dsimp only
 refine wpAny_execs_cons (wpAny_If (isTrue_or (wpAny_isTrue_Compare1 ?_)))
 refine C1 (N_type C X₂ F.keep (.tail _ (.head _)) (ld2 C F ⟨trivial,?_⟩))
 refine call_type_of (Tx:="int") rfl (by decide +kernel) ?_
 refine N_int C X₂ F.keep (.tail _ (.tail _ (.tail _ (.head _)))) (wpAny_isNot_self rfl (wpAny_truthy_bool ?_))
 refine isTrue_or (wpAny_isTrue_Compare1 (ld2 C F (UnaryOp_ (wpAny_Constant_int ?_))))
 refine P.neg_int ?_
 refine P.lt_int (wpAny_truthy_bool ?_)
 refine isTrue_or (wpAny_isTrue_Compare1 (ld2 C F (wpAny_Constant_int ?_)))
 refine P.gt_int (wpAny_truthy_bool ?_)
 refine isTrue_or_nil ?_
 dsimp only
 refine wpAny_execs_nil (wpAny_execs_cons (wpAny_If (wpAny_isTrue_Compare1 (ld1 C F (N_NO_SEP C X₂ F.keep (.tail _ (.tail _ (.head _))) (wpAny_is_ref_self (wpAny_truthy_bool ?_)))))))
 refine wpAny_execs_cons (wpAny_Return_some ?_)
 obtain ⟨m,hm⟩:=hb.size
 refine Call_method1 rfl rfl rfl (Call_method0 rfl rfl (ld0 C F (M_hex (Nat.le_trans hb.le (by decide)) fun t2 k=>?_)))
 refine .str1 PySem.F.slot_str_encode PySem.F.type_str_encode PySem.F.entry_str_encode (Constant_str ⟨PySem.F.args_str_encode_2 _ _,_,enc_gives ⟨hexA b⟩ _ _ hb.none hb.first hb.low m hm (Nat.not_lt.mpr (Nat.le_trans hb.asc (by decide))),Nat.le_trans hb.asc (by decide),?_⟩)
 exact ends F ⟨_,rfl⟩
theorem b16_gives(X:Stat g)(kg:Le g s.heap)(hA:Ok A (n+3))(b:Array UInt8)(t:Tok)(hb:Fine b) :
 Gives pw w A (.call (.ref 269) ⟨[.bytes b t],[]⟩) s [] g (fun _ _ v=>∃t',v=.bytes (upA b) t'):=by
 refine Gives.go 11 [.bytes b t] ["s"] [] ["hexlify"] rfl X kg hA rfl (BindsTo.of_eq rfl) rfl (by decide +kernel) fun h₁ env A' t' hA' C F=>?_
 refine doc_ C fun t'=>?_
 refine wpAny_execs_cons (wpAny_Return_some ?_)
 refine Call_method0 rfl rfl ?_
 refine C1 (N_hexlify C X F.keep (.head _) (ld0 C F ⟨⟨_,F.keep _ _ (X.fnAt 10 rfl)⟩,?_⟩))
 refine call_c F (hex_gives X F.keep hA' b t hb) fun g₂ h' t' v k2 F e=>?_
 obtain ⟨t2,rfl⟩:=e
 refine M_upper (Nat.le_trans hb.asc (by decide)) fun t3 k=>?_
 exact ends F ⟨_,rfl⟩
end
end Mine.Internal
namespace Mine.Internal
open PySem PySem.W PyProof.Rows PySem.Calls PySem.Spec
noncomputable abbrev dInts(ns:List Nat):List PyData:=ns.map fun (k:Nat)=>PyData.int (k:Int)
noncomputable abbrev dName(ns:List Nat):PyData:=.list (dInts ns)
noncomputable abbrev dPlace(p:List (List Nat)):PyData:=.list (p.map dName)
noncomputable def octA(ns:List Nat):Array UInt8:=(ns.map fun k=>k.toUInt8).toArray
noncomputable def hexT(ns:List Nat):Str:=Txt.join "" ((upA (octA ns)).toList.map fun c=>⟨#[c.toNat]⟩)
noncomputable def pathT(p:List (List Nat)):Str:=p.foldl (fun acc n=>joinS acc (hexT n)) "/"
structure NameOk(ns:List Nat):Prop where
 fine:Fine (octA ns)
 oct:∀k∈ns,k<256
 up:(upA (octA ns)).size<=1000
 len:(hexT ns).length<=100
 short:ns.length<=2
 join:JoinOk "" ((upA (octA ns)).toList.map fun c=>⟨#[c.toNat]⟩)=true
theorem dts_ints{g:Heap}{vs:List Value}{ns:List Nat}(h:Dts g vs (dInts ns)):IntsAre vs (ns.map fun (k:Nat)=>(k:Int)):=Dts.ints (by rw [List.map_map];exact h)
theorem oct_range{ns:List Nat}(h:∀k∈ns,k<256):∀n∈(ns.map fun (k:Nat)=>(k:Int)),0<=n/\n<256:=by
 intro n hn
 obtain ⟨k,hk,rfl⟩:=List.mem_map.mp hn
 have:=h k hk
 exact zz177 this
theorem byteArr_oct(ns:List Nat):byteArr (ns.map fun (k:Nat)=>(k:Int))=octA ns:=by simp [byteArr,octA,List.map_map,Function.comp_def]
theorem strValues_snoc(l:List (Str×Tok))(x:Str)(t:Tok):strValues l++[.str x t]=strValues (l++[(x,t)]):=by simp [strValues]
theorem joinS_len(a b:Str):(joinS a b).length<=a.length+1+b.length:=by
 unfold joinS
 split
 · exact zz178
 · split
   · rw [Str.length_append];exact zz179
   · rw [Str.length_append,Str.length_append,slash_len];exact zz180
theorem pathT_snoc(p:List (List Nat))(n:List Nat):pathT (p++[n])=joinS (pathT p) (hexT n):=by simp [pathT]
theorem path_fold:∀(p:List (List Nat)) (acc:Str),(∀ns∈p,(hexT ns).length<=100)->(p.foldl (fun acc n=>joinS acc (hexT n)) acc).length<=acc.length+101*p.length
 | [],acc,_=>by simp
 | n::p,acc,h=>by
  have h1:=path_fold p (joinS acc (hexT n)) fun ns hm=>h ns (.tail _ hm)
  have h2:=h n (.head _)
  have h3:=joinS_len acc (hexT n)
  rw [List.foldl_cons,List.length_cons]
  exact zz181 h1 h2 h3
theorem pathT_len(p:List (List Nat))(h:∀ns∈p,(hexT ns).length<=100):(pathT p).length<=1+101*p.length:=by
 have:=path_fold p "/" h
 rw [slash_len] at this
 exact this
section
variable{prog:Program}{w:World}{A:Around}{s:Shared}{env:Env}
noncomputable abbrev bitObj(b:Array UInt8)(t:Tok):Obj:={cls:=.type "bytes_iterator",data:=.fields #[.bytes b t,.int 0 0]}
theorem It.bytes{target:Expr}{I:Addr}{b:Array UInt8}{t:Tok}{g h:Heap}(hh:A.handled=none)(hi:h.get? I=some (bitObj b t))
 (hgo:∀(i:Nat) (v:Value) (s:Shared) (Q:Unit->Shared->Prop),Q () s->wpAny (model prog w) A (letOwnedTupleGo target (.ref I) v) Q no s) :
 It prog w A target I b.size (fun i v=>∃c u,b[i]?=some c/\v=.int (c.toNat:Int) u) g (fun i h=>KBw.IsBytesIter h I b t i)/\KBw.IsBytesIter h I b t 0:=by
 refine ⟨⟨⟨[I],?_,fun b hb=>.inl (List.mem_singleton.mp hb)⟩,fun i h hw=>let ⟨o,e,_⟩:=hw;⟨o,e⟩,fun i v s Q hw hq=>hgo i v s Q hq⟩,⟨_,hi,rfl,rfl⟩⟩
 exact {
  sub:=fun _ hb=>hb
  frame:=fun _ _ _ st hk=>let ⟨o,ho,r⟩:=st;⟨o,hk I (by simp) o ho,r⟩
  item:=fun i s Q E hi st hQ=>by
   refine KBw.next_item st (c:=b[i]) (by simp [hi]) fun h' hit' hs'=>?_
   exact hQ _ h' _ ⟨_,_,by simp [hi],rfl⟩ hit' fun b o hb e=>hs'.extBut b o (fun h=>hb (by simp [h])) e
  done:=fun s Q E st hQ=>KBw.next_end hh st (by simp) fun h' he'=>hQ h' s.toks fun b o hb e=>he' b o (fun h=>hb (by simp [h])) e
  self:=fun _ _ _ _ st hQ=>KBw.pyIter_self st hQ}
end
section
variable{w:World}{A:Around}{s:Shared}{g:Heap}{n:Nat}
theorem path_gives(X:Stat g)(kg:Le g s.heap)(hA:Ok A (n+4))(v:Value)(p:List (List Nat))(hv:Dt g v (dPlace p))(hp:p.length<=9)(hn:∀ns∈p,NameOk ns) :
 Gives pw w A (.call (.ref 385) ⟨[v],[]⟩) s [] g (fun _ _ r=>∃t,r=.str (pathT p) t):=by
 obtain ⟨l,items,k,rfl,hl,hds⟩:=hv.listInv
 have hlen:items.length=p.length:=by simpa using hds.len
 refine Gives.fr 18 [.ref l] ["place"] ["path","name"] ["place","path","name"] ["join","b16encode","bytes"] rfl X kg hA rfl (BindsTo.of_eq rfl) rfl rfl (by decide +kernel) ?_
 intro h t0 env A' QQ C hA' c V F hQ
 refine Fr.xAsg (c:=c) 1 F Fr.kS ?_
 intro _ V h t0 F
 refine wpAny_execs_cons (Fr.xForL (c:=c) 2 F (Fr.nV (c:=c) 0 F) hl (fun i g' V' mu'=>∀G:List (Option Value)->List (Addr×Obj)->Prop,(∀t u,G [some (.ref l),some (.str (pathT (p.take i)) t),u] [])->G V' mu') (fun G q=>q _ none) ?_ ?_)
 · intro i v g' V' mu' I oI h t0 TT hi kg' hJ
   apply hJ
   intro t1 u _ hT V F
   apply Dts.getP hds hi
   intro ns hns hdt
   have ok:=hn ns (List.mem_of_getElem? hns)
   obtain ⟨l2,its,k2,rfl,hl2,hds2⟩:=hdt.listInv
   have X':=X.up kg'
   have hpl:=pathT_len (p.take i) fun ns hm=>(hn ns (List.mem_of_mem_take hm)).len
   have hlt:i<p.length:=(List.getElem?_eq_some_iff.mp hns).1
   rw [List.length_take] at hpl
   refine Fr.xLetK (c:=c) 1 fun Qv hQv=>C2 (N_join (s:=c.st h _) C X' F.keep (.head _) ((Fr.nV (c:=c) 1 F).use fun _ t0=>Fr.M.use (c:=c) (Fr.joinM (g:=g') (V:=V) (mu:=[(I,oI)]) (P:=fun g' v=>∃D l k,v=.ref D/\g'.get? D=some (lstObj (strValues l) k)/\l.map (·.1)=(upA (octA ns)).toList.map fun c=>⟨#[c.toNat]⟩) Fr.kS (fun Er Q t0 hq=>?_) (fun g' v _ e=>e) ok.join) fun v g₃ h t0 k3 ⟨t5,ev⟩ F=>⟨⟨_,F.keep _ _ ((X'.up k3).fnAt 14 rfl)⟩,?_⟩))
   · refine evComp ["sign"] ["chr"] (by decide +kernel) rfl (C1 (N_b16encode (s:=c.st h t0) C X' F.keep (.tail _ (.head _)) (C1 (N_bytes (s:=c.st h t0) C X' F.keep (.tail _ (.tail _ (.head _))) ((Fr.nV (c:=c) 2 F).use fun _ t0=>⟨trivial,call_bytes_ints (s:=c.st h t0) ⟨_,F.keep _ _ (kg' _ _ hl2),rfl,_,rfl⟩ (dts_ints hds2) (oct_range ok.oct) (Nat.le_trans (Nat.le_of_eq (by simpa using hds2.len)) (Nat.le_trans ok.short (by decide))) hA'.handled fun h t3 k3 kk=>?_⟩)))))
     rw [byteArr_oct]
     have F:=St.more F kk
     refine ⟨⟨_,F.keep _ _ (X'.fnAt 11 rfl)⟩,call_c (s:=c.st h k3) F (b16_gives X' F.keep hA' (octA ns) t3 ok.fine) fun g₂ h t0 v k2 F e=>?_⟩
     obtain ⟨t4,rfl⟩:=e
     have X₂:=X'.up k2
     refine KBw.pyIter_bytes (s:=c.st h t0) ?_
     have F₁:=St.own F (bitObj (upA (octA ns)) t4)
     obtain ⟨hI,h0⟩:=It.bytes (prog:=pw) (w:=w) (A:=A') (target:=.Name "sign" _) (g:=g₂) hA'.handled (F₁.mt _ (.head _)).1 fun i v s Q h=>go_name h
     refine cmpE (s:=c.st _ t0) (fun i g' ys=>∃l,ys=strValues l/\l.map (·.1)=((upA (octA ns)).toList.take i).map fun c=>⟨#[c.toNat]⟩) (Nn:=["sign"]) (Gl:=["chr"]) (by decide +kernel) C F₁ hI h0 ⟨[],rfl,rfl⟩ (Nat.le_trans ok.up (by decide)) (Fr.ct0 hA'.handled ?_) fun g₁ g' D h tk ys k3 k4 ⟨l,e1,e2⟩ eD F=>hq _ _ _ _ (k2.tr k3) ⟨D,l,(strValues l).length,rfl,?_,?_⟩ F
     · intro i v s g' us ys I oI C' D h cx ⟨cc,u,hc,ev⟩ kg2 ⟨l,e1,e2⟩ c' V F hus T1 hT1 t
       have hcl:=cc.toNat_lt
       have hv:V[0]?=some (some v):=List.getElem?_set_self hus
       subst ev
       refine C1 (N_chr (s:=c'.st h t) cx (X₂.up kg2) F.keep (.head _) ((Fr.nV (c:=c') 0 F hv).use fun _ t=>⟨trivial,P.chr_of_int (by simp;lia) (hT1 _ _ _ _ Le.rfl' F ⟨l++[(⟨#[cc.toNat]⟩,t)],?_,?_⟩)⟩))
       · rw [e1];exact strValues_snoc _ _ _
       · have hc':(upA (octA ns)).toList[i]?=some cc:=by simpa using hc
         rw [List.map_append,e2,take_nx hc',List.map_append];rfl
     · rw [eD,e1]
     · rw [e2,List.take_of_length_le (by simp)]
   · subst ev
     refine call_c (s:=c.st h t0) F (join_gives (X'.up k3) F.keep hA' (pathT (p.take i)) (hexT ns) t1 t5 (by lia) (Nat.le_trans ok.len (by decide))) fun g₃ h t0 v k6 F e=>hQv _ _ _ _ _ _ F ?_
     obtain ⟨t6,rfl⟩:=e
     intro V h t0 F
     refine hT.go (k3.tr k6) F fun G w=>?_
     have w:=w t6 (some (.ref l2))
     rw [take_nx hns,pathT_snoc] at w
     exact w
 · intro g' V' mu' h tk kg' hJ
   apply hJ
   intro t1 u F
   rw [hlen,List.take_length] at F
   exact Fr.xRet (c:=c) (Fr.nV 1 F) fun k t=>hQ _ _ _ _ F.out ⟨_,rfl⟩
end
theorem eqvAll_map{α:Type}[DecidableEq α]{f:α->PyData}(h:∀a b,PyData.eqv (f a) (f b)=decide (a=b)):∀xs ys:List α,PyData.eqvAll (xs.map f) (ys.map f)=decide (xs=ys)
 | [],[]=>rfl
 | [],_::_=>rfl
 | _::_,[]=>rfl
 | x::xs,y::ys=>by
  simp only [List.map_cons,PyData.eqvAll,h,eqvAll_map h xs ys]
  by_cases e:x=y<;>by_cases e2:xs=ys<;>simp [e,e2]
theorem eqv_int(a b:Nat):PyData.eqv (.int (a:Int)) (.int (b:Int))=decide (a=b):=by
 simp only [PyData.eqv]
 by_cases h:a=b
 · simp [h]
 · have:¬(a:Int)=b:=by exact zz37 h
   simp [h,this]
theorem eqv_name(a b:List Nat):PyData.eqv (dName a) (dName b)=decide (a=b):=by
 simp only [dName,dInts,PyData.eqv]
 exact eqvAll_map eqv_int a b
theorem eqv_place(a b:List (List Nat)):PyData.eqv (dPlace a) (dPlace b)=decide (a=b):=by
 simp only [dPlace,PyData.eqv]
 exact eqvAll_map eqv_name a b
theorem canLay_map{α:Type}{f:α->PyData}(h:∀a,(f a).canLay0=true):∀xs:List α,PyData.canLayAll0 (xs.map f)=true
 | []=>rfl
 | x::xs=>by simp only [List.map_cons,PyData.canLayAll0,h,canLay_map h xs,Bool.and_self]
theorem canLay_place(p:List (List Nat)):(dPlace p).canLay0=true:=by
 simp only [dPlace,PyData.canLay0]
 exact canLay_map (fun n=>by simp only [dName,dInts,PyData.canLay0];exact canLay_map (fun k=>rfl) n) p
theorem depth_map{α:Type}{f:α->PyData}{n:Nat}(h:∀a,(f a).depth<=n):∀xs:List α,PyData.depthAll (xs.map f)<=n
 | []=>Nat.zero_le _
 | x::xs=>by simp only [List.map_cons,PyData.depthAll];exact Nat.max_le.mpr ⟨h x,depth_map h xs⟩
theorem depth_place(p:List (List Nat)):(dPlace p).depth<=2:=by
 simp only [dPlace,PyData.depth]
 have:=depth_map (f:=dName) (n:=1) (fun n=>by
  simp only [dName,dInts,PyData.depth]
  have:=depth_map (f:=fun (k:Nat)=>PyData.int (k:Int)) (n:=0) (fun k=>Nat.le_refl _) n
  exact zz96 this) p
 exact zz329 this
theorem shaped_place(p:List (List Nat)):SeqAt.shaped (dPlace p)=true:=by
 have:=depth_place p
 simp only [SeqAt.shaped,canLay_place,Bool.true_and,decide_eq_true_eq]
 exact zz330 this
noncomputable abbrev dRows(r:List (List (List Nat))):PyData:=.list (r.map dPlace)
theorem shaped_rows(r:List (List (List Nat))):SeqAt.shaped (dRows r)=true:=by
 have h1:(dRows r).canLay0=true:=by simp only [dRows,PyData.canLay0];exact canLay_map canLay_place r
 have h2:(dRows r).depth<=3:=by
  simp only [dRows,PyData.depth]
  have:=depth_map depth_place r
  exact zz331 this
 simp only [SeqAt.shaped,h1,Bool.true_and,decide_eq_true_eq]
 exact zz236 h2
noncomputable abbrev Pl:=List (List Nat)
noncomputable def done1(d:Int)(o nw p:Pl):List Pl:=(if (!decide (p.take o.length=o))||d==2 then [p] else [])++(if decide (p.take o.length=o)&&decide (d>0) then [nw++p.drop o.length] else [])
noncomputable def doneR(d:Int)(o nw:Pl)(r:List Pl):List Pl:=r.flatMap (done1 d o nw)
theorem doneR_len(d:Int)(o nw:Pl):∀r:List Pl,(doneR d o nw r).length<=2*r.length
 | []=>Nat.zero_le _
 | p::r=>by
  have h1:(done1 d o nw p).length<=2:=by unfold done1;split<;>split<;>simp
  have h2:=doneR_len d o nw r
  simp only [doneR,List.flatMap_cons,List.length_append,List.length_cons] at h2 ⊢
  exact zz154 h1 h2
theorem doneR_next{d:Int}{o nw:Pl}{r:List Pl}{i:Nat}{p:Pl}(hp:r[i]?=some p):doneR d o nw (r.take (i+1))=doneR d o nw (r.take i)++done1 d o nw p:=by
 rw [take_nx hp,doneR,List.flatMap_append]
 simp [doneR]
noncomputable abbrev nDone:List Str:=["places","deed","old","new","rows","place","under"]
section
variable{w:World}{A:Around}{s:Shared}{g:Heap}{n:Nat}
theorem done_core(X:Stat g)(kg:Le g s.heap)(hA:Ok A (n+2))(d:Int)(td:Tok)(r:List Pl)(o nw:Pl){l lo ln:Addr}{items oi ni:List Value}{k ko kn:Nat}(hl:g.get? l=some (lstObj items k))(hds:Dts g items (r.map dPlace))(hlo:g.get? lo=some (lstObj oi ko))(hdo:Dts g oi (o.map dName))(hln:g.get? ln=some (lstObj ni kn))(hdn:Dts g ni (nw.map dName))
 (hr:r.length<=1000) (hrp:∀p∈r,p.length<=1000) (hol:o.length<=1000) (hnl:nw.length<=1000) {P:Heap->Heap->Value->Prop} (hP:∀g' h' x,Dt g' x (dRows (doneR d o nw r))->P g' h' x) :
 Gives pw w A (.call (.ref 397) ⟨[.ref l,.int d td,.ref lo,.ref ln],[]⟩) s [] g P:=by
 refine Gives.fr 20 [.ref l,.int d td,.ref lo,.ref ln] ["places","deed","old","new"] ["rows","place","under"] nDone ["len"] rfl X kg hA rfl (BindsTo.of_eq rfl) rfl rfl (by decide +kernel) ?_
 intro h₁ t' env A' QQ C hA' c V F hQ
 have hlen:=mapD_len hds
 have holen:=mapD_len hdo
 have hnlen:=mapD_len hdn
 refine Fr.xNilO 4 F ?_
 intro a ha V h t F
 refine wpAny_execs_cons (Fr.xForL 5 F (Fr.nV 0 F) hl (fun i g' V' mu'=>∀G:List (Option Value)->List (Addr×Obj)->Prop,(∀xs j u1 u2,Dts g' xs ((doneR d o nw (r.take i)).map dPlace)->G [some (.ref l),some (.int d td),some (.ref lo),some (.ref ln),some (.ref a),u1,u2] [(a,lstObj xs j)])->G V' mu') (fun G q=>q [] 0 _ _ .nil) ?_ ?_)
 · intro i v g' V' mu' I oI h t TT hi kg' hJ
   apply hJ
   intro xs j u1 u2 hxs _ hT V F
   refine hds.getP hi fun p hp hdt=>?_
   obtain ⟨lp,its,kp,ev,hlp,hdp⟩:=(hdt.up kg').listInv
   have hpl:=hrp p (List.mem_of_getElem? hp)
   have hpits:=mapD_len hdp
   have hxl:xs.length<=10000:=by
    have h1:=mapD_len hxs
    have h2:=doneR_len d o nw (r.take i)
    rw [List.length_take] at h2
    lia
   have E5 {h:Heap} {g':Heap} {V:List (Option Value)} {mu:List (Addr×Obj)} {p1:Pos} (F:c.S g' V mu h) (hv:V[5]?=some (some v)):=(Fr.nV (x:="place") (pos:=p1) 5 F hv).eq ev
   have X':=X.up kg'
   refine genK (decide (p.take o.length=o)) fun U eU=>?_
   have e1:done1 d o nw p=(if (!U)||d==2 then [p] else [])++(if U&&decide (0<d) then [nw++p.drop o.length] else []):=by rw [←eU];rfl
   refine Fr.xAsgM 6 (Fr.eqM (r:=U) (da:=dPlace (p.take o.length)) (db:=dPlace o) (Fr.takeM F (E5 F rfl) (Fr.lenI X' (.head _) (Fr.nV 2 F) F.keep (kg' _ _ hlo) (by exact zz182 hol holen) rfl) hlp (by exact zz182 hpl hpits)) (fun k2 F=>Fr.nV 2 F) (fun g₂ v k2 ⟨D,e,eD⟩=>e▸.list eD ?_) (.list (kg' _ _ hlo) (hdo.up kg')) (shaped_place _) (shaped_place _) hA'.c ((eqv_place _ _).trans eU)) ?_
   · rw [holen,List.map_take]
     exact (hdp.up k2).take o.length
   intro v2 g₂ k2 ev2 V h t F
   have X₂:=X'.up k2
   have E6 {h:Heap} {g':Heap} {V:List (Option Value)} {mu:List (Addr×Obj)} {p1:Pos} (F:c.S g' V mu h) (hv:V[6]?=some (some v2)):=(Fr.nV (x:="under") (pos:=p1) 6 F hv).eq ev2
   refine Fr.xSeq (c:=c) (fun K=>∀xs j h t,Dts g₂ xs ((doneR d o nw (r.take i)++(if (!U)||d==2 then [p] else [])).map dPlace)->c.S g₂ V [(I,oI),(a,lstObj xs j)] h->K h t) (fun K hK=>?_) fun xs j h t hxs F=>?_
   · refine Fr.xIfB (Fr.tOr (Fr.tNot (Fr.tTruB (E6 F rfl))) (Fr.tEqI (Fr.nI 1 F) Fr.kI rfl)) (fun q t=>?_) fun q t=>?_
     · refine Fr.xAppE (pre:=[(I,oI)]) (Fr.nV 4 F) F (Nat.le_trans hxl (by decide)) (E5 F rfl) fun _ h t F=>Fr.xNil (Fr.nNext (hK _ _ h t ?_ F))
       rw [if_pos q,List.map_append]
       exact (hxs.up k2).snoc (.list (k2 _ _ hlp) (hdp.up k2))
     · exact Fr.xNil (Fr.nNext (hK xs j h t (by rw [if_neg (by rw [q];decide),List.append_nil];exact hxs.up k2) F))
   have hxl2:xs.length<=16777216:=by
    have h1:=mapD_len hxs
    have h2:=doneR_len d o nw (r.take i)
    have h3:(if (!U)||d==2 then [p] else []).length<=1:=by split<;>simp
    rw [List.length_append] at h1
    rw [List.length_take] at h2
    lia
   refine Fr.xIfB (Fr.tAnd (Fr.taAnd (Fr.tTruB (E6 F rfl)) (Fr.tGt (Fr.nI 1 F) Fr.kI rfl))) (fun q t=>?_) fun q t=>?_
   · refine Fr.xApp (pre:=[(I,oI)]) (Fr.nV 4 F) F hxl2 (Fr.addM (Fr.nV 3 F) (k2 _ _ (kg' _ _ hln)) (Fr.dropM F (E5 F rfl) (Fr.lenI X₂ (.head _) (Fr.nV 2 F) F.keep (k2 _ _ (kg' _ _ hlo)) (by exact zz182 hol holen) rfl) (k2 _ _ hlp) (by exact zz182 hpl hpits)) (by rw [List.length_drop];exact zz183 hnl hnlen hpl hpits)) fun v g₃ h t k3 ex F=>?_
     refine Fr.xNil (hT.go (k2.tr k3) F fun G k=>k (xs++[v]) _ _ _ ?_)
     rw [doneR_next hp,e1,if_pos (c:=(U&&decide (0<d))=true) q,←List.append_assoc,List.map_append]
     refine (hxs.up k3).snoc (let ⟨D,e,eD⟩:=ex;e▸.list eD ?_)
     rw [holen,List.map_append,List.map_drop]
     exact (hdn.up (kg'.tr (k2.tr k3))).append ((hdp.up (k2.tr k3)).drop _)
   · refine Fr.xNil (hT.go k2 F fun G k=>k xs _ _ _ ?_)
     rw [doneR_next hp,e1,q,if_neg (c:=false=true) (by decide),List.append_nil]
     exact hxs
 · intro g' V' mu' h t kg' hJ
   apply hJ
   intro xs j u1 u2 hxs F
   rw [hlen,List.take_length] at hxs
   refine F.freeze ha fun g₂ k2 eD F=>?_
   exact Fr.xRet (c:=c) (Fr.nV 4 F) fun _ t=>hQ _ _ _ _ F.out (hP _ _ _ (.list eD (hxs.up k2)))
theorem done_gives(X:Stat g)(kg:Le g s.heap)(hA:Ok A (n+2))(v vo vn:Value)(d:Int)(td:Tok)(r:List Pl)(o nw:Pl)(hv:Dt g v (dRows r))(ho:Dt g vo (dPlace o))(hn:Dt g vn (dPlace nw))
 (hr:r.length<=1000) (hrp:∀p∈r,p.length<=1000) (hol:o.length<=1000) (hnl:nw.length<=1000) :
 Gives pw w A (.call (.ref 397) ⟨[v,.int d td,vo,vn],[]⟩) s [] g (fun g' _ x=>Dt g' x (dRows (doneR d o nw r))):=by
 obtain ⟨l,items,k,rfl,hl,hds⟩:=hv.listInv
 obtain ⟨lo,oi,ko,rfl,hlo,hdo⟩:=ho.listInv
 obtain ⟨ln,ni,kn,rfl,hln,hdn⟩:=hn.listInv
 exact done_core X kg hA d td r o nw hl hds hlo hdo hln hdn hr hrp hol hnl fun _ _ _ x=>x
end
end Mine.Internal
namespace Mine.Internal
open PySem PySem.W PyProof.Rows PySem.Calls PySem.Spec
section
variable{prog:Program}{w:World}{A:Around}{s:Shared}{env:Env}{E:Value->Shared->Prop}{g:Heap}
theorem neH{a b:Addr}{xs ys:List Value}{j k:Nat}{dx dy:List PyData}{Q:Value->Shared->Prop}(kk:Le g s.heap)(ha:s.heap.get? a=some (lstObj xs j))(hb:s.heap.get? b=some (lstObj ys k))(hx:Dts g xs dx)(hy:Dts g ys dy)
 (sa:SeqAt.shaped (.list dx)=true) (sb:SeqAt.shaped (.list dy)=true) (hu:A.units+65<cLine) (h:Q (.bool (!PyData.eqvAll dx dy)) s):wpAny (model prog w) A (compareOp .NotEq (.ref a) (.ref b)) Q E s:=by
 obtain ⟨as,ra⟩:=(hx.up kk).reads
 obtain ⟨bs,rb⟩:=(hy.up kk).reads
 exact ne_dataH (.list ha rfl rfl (by simpa using ra)) (.list hb rfl rfl (by simpa using rb)) sa sb (by exact zz2 hu) h
noncomputable def isT(x:Str):Value->Bool
 | .str a _=>a==x
 | _=>false
theorem notIn2{l:Addr}{x a b:Str}{t t1 t2:Tok}{j:Nat}{Q:Value->Shared->Prop}(hl:s.heap.get? l=some (lstObj [.str a t1,.str b t2] j))(h:Q (.bool (!(a==x||b==x))) s):wpAny (model prog w) A (compareOp .NotIn (.str x t) (.ref l)) Q E s:=by
 refine SeqAt.notIn_listAt (isT x) ⟨_,hl,rfl,_,rfl⟩ (fun y hy=>?_) (by simpa [isT] using h)
 simp only [List.mem_toArray,List.mem_cons,List.not_mem_nil,or_false] at hy
 rcases hy with rfl|rfl
 · exact SeqAt.EqAt.str_str _ _ _ _
 · exact SeqAt.EqAt.str_str _ _ _ _
end
noncomputable abbrev tails(tops:Nat->Str)(m:Nat):List PyData:=(List.range m).map fun i=>PyData.str (tailS (tops i))
namespace Fr
variable{w:World}{N Gl:List Str}{c:Fr w N Gl}{g:Heap}{V:List (Option Value)}{mu:List (Addr×Obj)}{h:Heap}{t:Nat}{e a b:Expr}{pos p:Pos}
theorem tNotIn2{x u v:Str}{t0 t1:Tok}{r:Bool}{e1 e2:Expr}(Ha:c.E h a (fun _=>.str x t0))(F:c.S g V mu h)(H1:c.E h e1 (fun _=>.str u t1))(H2:c.E h e2 (Value.str v))(hr:(!(u==x||v==x))=r)
 (b1:autoParam (starEach [e1,e2] c.env=(false,eval e1 c.env)::starEach [e2] c.env) au0) (b2:autoParam (starEach [e2] c.env=(false,eval e2 c.env)::starEach [] c.env) au0) (hm:autoParam (behindInMarks .NotIn (.List [e1,e2] p)=false) auU) :
 c.TM g V mu h (.Compare a [.NotIn] [.List [e1,e2] p] pos) r:=fun Er Q t q =>
 wpAny_isTrue_Compare1 (Ha _ _ t fun _ t=>lstE (sp1 (H1 _ _ t fun _ t=>sp1 (H2 _ _ t fun _ t=>sp0 (newLst (s:=c.st h t) F fun l g₂ h k2 eD F=>notIn2 (F.keep _ _ eD) (wpAny_truthy_bool (by rw [hr];exact q _ _ _ k2 F)))) b2) b1)) hm
theorem tNeNil{ad:Addr}{xs:List Value}{j:Nat}{dx:List PyData}{post:List (Addr×Obj)}{r:Bool}(Ha:c.E h a (fun _=>.ref ad))(F:c.S g V ((ad,lstObj xs j)::post) h)(hx:Dts g xs dx)(sa:SeqAt.shaped (.list dx)=true)(hu:c.A.units+65<cLine)(hr:(!PyData.eqvAll dx [])=r)
 (hm:autoParam (behindInMarks .NotEq (.List [] p)=false) auU):c.TM g V ((ad,lstObj xs j)::post) h (.Compare a [.NotEq] [.List [] p] pos) r:=fun Er Q t q =>
 wpAny_isTrue_Compare1 (Ha _ _ t fun _ t=>lstE (sp0 (newLst (s:=c.st h t) F fun l2 g₃ h k3 eD2 F=>neH (g:=g₃) F.keep (F.mt _ (.head _)).1 (F.keep _ _ eD2) (hx.up k3) .nil sa rfl hu (wpAny_truthy_bool (by rw [hr];exact q _ _ _ k3 F))))) hm
end Fr
theorem tails_next(tops:Nat->Str)(i:Nat):tails tops (i+1)=tails tops i++[.str (tailS (tops i))]:=by simp [tails,List.range_succ]
theorem Dts.popK{g:Heap}{xs:List Value}{ds:List PyData}{y:Str}(h:Dts g xs (ds++[.str y])){G:Prop}(k:∀ys v t,xs=ys++[v]->v=.str y t->Dts g ys ds->G):G:=by
 have hl:=h.len
 rw [List.length_append,List.length_singleton] at hl
 obtain ⟨ys,v,rfl⟩:∃ys v,xs=ys++[v]:=by
  rcases List.eq_nil_or_concat xs with q|⟨ys,v,q⟩
  · rw [q] at hl;simp at hl
  · exact ⟨ys,v,by simpa using q⟩
 have hyl:ys.length=ds.length:=by simpa using hl
 obtain ⟨d,hd,hdt⟩:=h.get (i:=ys.length) (v:=v) (by simp)
 rw [hyl,List.getElem?_append_right (Nat.le_refl _),Nat.sub_self] at hd
 obtain rfl:=Option.some.inj hd
 obtain ⟨t,e⟩:=hdt.strInv
 have:=h.take ys.length
 rw [List.take_append_of_le_length (Nat.le_refl _),List.take_length,hyl,List.take_append_of_le_length (Nat.le_refl _),List.take_length] at this
 exact k ys v t rfl e this
noncomputable abbrev nHung:List Str:=["path","old","new","names","top","name"]
section
variable{w:World}{A:Around}{s:Shared}{g:Heap}{n:Nat}
theorem hung_core(X:Stat g)(kg:Le g s.heap)(hA:Ok A (n+4))(old new:Str)(t1 t2 t3:Tok)(tops acc:Nat->Str)(k:Nat)(hk:k<=1000)
 (hstep:∀i<k,(old==tops i||"/"==tops i)=false/\tops (i+1)=splitS (tops i)) (hend:(old==tops k||"/"==tops k)=true) (hl:∀i≤k,(tops i).length<=1000/\(acc i).length<=1000/\(tailS (tops i)).length<=1000)
 (hacc:acc k=new) (hjoin:∀m<k,acc m=joinS (acc (m+1)) (tailS (tops m))) (hsh:∀m,m<=k->SeqAt.shaped (.list (tails tops m))=true) {P:Heap->Heap->Value->Prop} (hP:∀g' h' t,P g' h' (.str (acc 0) t)) :
 Gives pw w A (.call (.ref 404) ⟨[.str (tops 0) t1,.str old t2,.str new t3],[]⟩) s [] g P:=by
 refine Gives.fr 21 [.str (tops 0) t1,.str old t2,.str new t3] ["path","old","new"] ["names","top","name"] nHung ["split","join"] rfl X kg hA rfl (BindsTo.of_eq rfl) rfl rfl (by decide +kernel) ?_
 intro h₁ t' env A' QQ C hA' c V F hQ
 refine Fr.xNilO 3 F ?_
 intro a ha V h t F
 refine Fr.xAsg 4 F (Fr.nV 0 F) ?_
 intro _ V h t F
 refine Fr.xWhM (fun m g' V' mu'=>∀G:List (Option Value)->List (Addr×Obj)->Prop,(∀i xs j u t4,m=k-i->i<=k->Dts g' xs (tails tops i)->G [some (.str (tops 0) t1),some (.str old t2),some (.str new t3),some (.ref a),some (.str (tops i) t4),u] [(a,lstObj xs j)])->G V' mu') k F (fun G q=>q 0 [] 0 none t1 rfl (Nat.zero_le _) .nil) ?_
 intro m g' V' mu' h t TT kg' hJ
 apply hJ
 intro i xs j u t4 em hik hxs hT F G kT kF
 have hxl:xs.length=i:=by have:=hxs.len;rwa [List.length_map,List.length_range] at this
 refine dite (i<k) (fun hlt=>kT (Fr.tNotIn2 (Fr.nV 4 F) F (Fr.nV 1 F) Fr.kS (by rw [(hstep i hlt).1];rfl)) fun g₂ h t k2 F=>?_) fun hge=>?_
 · have X₂:=X.up (kg'.tr k2)
   refine wpAny_execs_cons (Assign_Tuple (C1 (N_split (s:=c.st h t) C X₂ F.keep (.head _) ((Fr.nV (c:=c) 4 F).use fun _ t=>⟨⟨_,F.keep _ _ (X₂.fnAt 15 rfl)⟩,call_c (s:=c.st h t) F (split_gives X₂ F.keep hA' (tops i) t4 (hl i hik).1) fun g₃ h t v k3 F e=>?_⟩))))
   obtain ⟨T,u1,u2,ev,eT⟩:=e
   rw [ev]
   refine Fr.asTs (c:=c) [4,5] F eT (.cons rfl (.cons rfl .nil)) ?_
   intro V h t F
   refine Fr.xAppE (pre:=[]) (Fr.nV 3 F) F (by exact zz184 hk hxl hlt) (Fr.nV 5 F) fun _ h t F=>Fr.xNil (hT (k-(i+1)) _ _ _ _ _ (by exact zz185 em hlt) (k2.tr k3) F fun G q=>?_)
   have z:=q (i+1) (xs++[.str (tailS (tops i)) u2]) (j+1) (some (.str (tailS (tops i)) u2)) u1 rfl hlt (by rw [tails_next];exact (hxs.up (k2.tr k3)).snoc (.str _ _))
   rw [(hstep i hlt).2] at z
   exact z
 have ek:i=k:=Nat.le_antisymm hik (Nat.le_of_not_lt hge)
 refine kF (Fr.tNotIn2 (Fr.nV 4 F) F (Fr.nV 1 F) Fr.kS (by rw [ek,hend];rfl)) fun g₂ h t k2 F=>?_
 rw [ek] at hxs
 refine Fr.xAsg (c:=c) 4 F (Fr.nV 2 F) ?_
 intro _ V h t F
 refine Fr.xWhM (c:=c) (fun m g' V' mu'=>∀G:List (Option Value)->List (Addr×Obj)->Prop,(∀xs j t4,m<=k->Dts g' xs (tails tops m)->G [some (.str (tops 0) t1),some (.str old t2),some (.str new t3),some (.ref a),some (.str (acc m) t4),u] [(a,lstObj xs j)])->G V' mu') k F (fun G q=>by have z:=q xs j t3 (Nat.le_refl _) (hxs.up k2);rw [hacc] at z;exact z) ?_
 intro m g' V' mu' h t TT kg2 hJ
 apply hJ
 intro xs j t4 hm hxs hT F G kT kF
 have hxl:xs.length=m:=by have:=hxs.len;rwa [List.length_map,List.length_range] at this
 cases m with
 | zero =>
  refine kF (Fr.tNeNil (Fr.nV 3 F) F hxs (hsh 0 hm) hA'.c rfl) fun g₃ h t k3 F=>?_
  exact Fr.xRet (c:=c) (Fr.nV 4 F) fun _ t=>hQ _ _ _ _ F.out (hP _ _ _)
 | succ m =>
  refine kT (Fr.tNeNil (Fr.nV 3 F) F hxs (hsh _ hm) hA'.c (by simp [tails,List.range_succ_eq_map,PyData.eqvAll])) fun g₃ h t k3 F=>?_
  rw [tails_next] at hxs
  refine hxs.popK fun ys y u5 exs ey hys=>?_
  have F:c.S g₃ _ [(a,lstObj (ys++[.str (tailS (tops m)) u5]) j)] h:=(exs.trans (congrArg (fun v=>ys++[v]) ey))▸F
  have X₃:=X.up (((kg'.tr k2).tr kg2).tr k3)
  have hyl:(ys++[Value.str (tailS (tops m)) u5]).length<=16777216:=by rw [exs] at hxl;simp at hxl ⊢;exact zz186 hk hm hxl
  refine Fr.xLetK (c:=c) 4 fun Qv hQv=>C2 (N_join (s:=c.st h t) C X₃ F.keep (.tail _ (.head _)) ((Fr.nV (c:=c) 4 F).use fun _ t=>popS (h₀:=c.h₀) (xt:=c.xt) (g₀:=c.g₀) (L:=c.env.locals) (N:=nHung) (a:=a) (xs:=ys) (j:=j) (pre:=[]) (post:=[]) hyl ((Fr.nV (c:=c) 3 F).use fun _ t=>⟨rfl,g₃,_,F,fun h j' F=>⟨⟨_,F.keep _ _ (X₃.fnAt 14 rfl)⟩,?_⟩⟩)))
  refine call_c (s:=c.st h t) F (join_gives X₃ F.keep hA' (acc (m+1)) (tailS (tops m)) t4 u5 (hl _ hm).2.1 (hl m (Nat.le_of_succ_le hm)).2.2) fun g₄ h t v k4 F e=>?_
  obtain ⟨t6,e⟩:=e
  rw [e,←hjoin m hm]
  refine hQv _ _ _ _ _ _ F ?_
  intro V h t F
  exact Fr.xNil (c:=c) (hT m _ _ _ _ _ (Nat.lt_succ_self m) (k3.tr k4) F fun G q=>q ys j' t6 (Nat.le_of_succ_le hm) (hys.up (k3.tr k4)))
theorem hung_gives(X:Stat g)(kg:Le g s.heap)(hA:Ok A (n+4))(path old new:Str)(t1 t2 t3:Tok)(tops acc:Nat->Str)(k:Nat)(hk:k<=1000)(h0:tops 0=path)
 (hstep:∀i<k,(old==tops i||"/"==tops i)=false/\tops (i+1)=splitS (tops i)) (hend:(old==tops k||"/"==tops k)=true) (hl:∀i≤k,(tops i).length<=1000/\(acc i).length<=1000/\(tailS (tops i)).length<=1000)
 (hacc:acc k=new) (hjoin:∀m<k,acc m=joinS (acc (m+1)) (tailS (tops m))) (hsh:∀m,m<=k->SeqAt.shaped (.list (tails tops m))=true) :
 Gives pw w A (.call (.ref 404) ⟨[.str path t1,.str old t2,.str new t3],[]⟩) s [] g (fun _ _ x=>∃t,x=.str (acc 0) t):=by
 subst h0
 exact hung_core X kg hA old new t1 t2 t3 tops acc k hk hstep hend hl hacc hjoin hsh fun _ _ t=>⟨t,rfl⟩
end
end Mine.Internal
namespace Mine.Internal
open PySem PySem.W PyProof.Rows PySem.Calls PySem.Spec
noncomputable def kindsN(n:Nat):Pl:=[[0],[0,0],[10],[153],[160,n/500%256]]
noncomputable def placeN(n:Nat):Pl:=(List.range (n%4)).map fun i=>(kindsN n).getD (n/4/5^i%5) []
section
variable{w:World}{A:Around}{s:Shared}{g:Heap}{n:Nat}
theorem place_gives(X:Stat g)(kg:Le g s.heap)(hA:Ok A (n+1))(m:Nat)(t:Tok)(hm:m<100000) :
 Gives pw w A (.call (.ref 380) ⟨[.int (m:Int) t],[]⟩) s [] g (fun g' _ x=>Dt g' x (dPlace (placeN m))):=by
 refine Gives.goC 17 [.int (m:Int) t] ["number"] [] ["range"] ["number","kinds"] [] rfl X kg hA rfl rfl (by decide +kernel) (fun n x hx=>?_) rfl (fun j x hx=>by simp at hx) fun h₁ env A' t' hA' C hcl hC hIs hL F=>?_
 · simp only [List.mem_cons,List.not_mem_nil,or_false] at hx
   subst hx
   exact .inr ⟨by decide +kernel,rfl⟩
 have c1:env.cells.lookup ("number":Str)=some (s.heap.objs.size+1):=by rw [hcl];rfl
 have c2:env.cells.lookup ("kinds":Str)=some (s.heap.objs.size+1+1):=by rw [hcl];rfl
 have K1:=hC _ (.head _) _ c1
 have K2:=hC _ (.tail _ (.head _)) _ c2
 obtain ⟨o1,hd1,F⟩:=F.cell (hIs _ _ c1).1 (by rw [hL];exact (hIs _ _ c1).2) (none_above kg (by exact zz43)) (fun p hp=>nomatch hp)
 obtain ⟨o2,hd2,F⟩:=F.cell (hIs _ _ c2).1 (by rw [hL];exact (hIs _ _ c2).2) (none_above kg (by exact zz44)) (fun p hp=>by
  rw [List.mem_singleton.mp hp];show s.heap.objs.size+1≠s.heap.objs.size+1+1;exact zz45)
 obtain ⟨g₁,k1,e1,F⟩:=F.freeze (pre:=[(_,o2)]) (post:=[]) rfl (by exact zz43)
 have hd1':o1.data=.cell (some (.int (m:Int) t)):=hd1
 have X₁:=X.up k1
 refine wpAny_execs_cons ?_
 refine wpAny_Assign_Name ?_
 refine lstE ?_
 refine sp1 ?_
 refine lstE ?_
 refine sp1 ?_
 refine wpAny_Constant_int ?_
 refine sp0 ?_
 refine newLst F fun a1 g₂ h' k2 ea1 F=>?_
 refine sp1 ?_
 refine lstE ?_
 refine sp1 ?_
 refine wpAny_Constant_int ?_
 refine sp1 ?_
 refine wpAny_Constant_int ?_
 refine sp0 ?_
 refine newLst F fun a2 g₃ h' k3 ea2 F=>?_
 refine sp1 ?_
 refine lstE ?_
 refine sp1 ?_
 refine wpAny_Constant_int ?_
 refine sp0 ?_
 refine newLst F fun a3 g₄ h' k4 ea3 F=>?_
 refine sp1 ?_
 refine lstE ?_
 refine sp1 ?_
 refine wpAny_Constant_int ?_
 refine sp0 ?_
 refine newLst F fun a4 g₅ h' k5 ea4 F=>?_
 refine sp1 ?_
 refine lstE ?_
 refine sp1 ?_
 refine wpAny_Constant_int ?_
 dsimp only
 have kc:=((k2.tr k3).tr k4).tr k5
 refine sp1 ?_
 refine wpAny_BinOp ?_
 refine wpAny_BinOp ?_
 refine ldC K1 F.keep (kc _ _ e1) hd1' ?_
 refine wpAny_Constant_int ?_
 refine divN (b:=500) (by exact zz46) (by exact zz47) fun u1 u2=>wpAny_Constant_int (modN (b:=256) (by exact zz48) fun u3 u4=>sp0 ?_)
 refine newLst F fun a5 g₆ h' k6 ea5 F=>sp0 ?_
 refine newLst F fun a6 g₇ h' k7 ea6 F=>?_
 dsimp only
 refine stC (pre:=[]) (post:=[]) K2 F rfl hd2 fun h' o' hd' F=>?_
 obtain ⟨g₈,k8,e2,F⟩:=F.freeze (pre:=[]) (post:=[]) rfl (by exact zz44)
 have l7:Le g₂ g₈:=((((k3.tr k4).tr k5).tr k6).tr k7).tr k8
 have nat1:∀(i:Nat) (t:Tok),Dt g₈ (.int (i:Int) t) (.int (i:Int)):=fun i t=>.int _ _
 have hk:Dt g₈ (.ref a6) (dPlace (kindsN m)):=by
  refine .list (k8 _ _ ea6) ?_
  refine .cons (.list (l7 _ _ ea1) (.cons (.int _ _) .nil)) ?_
  refine .cons (.list ((((((k4.tr k5).tr k6).tr k7).tr k8)) _ _ ea2) (.cons (.int _ _) (.cons (.int _ _) .nil))) ?_
  refine .cons (.list ((((k5.tr k6).tr k7).tr k8) _ _ ea3) (.cons (.int _ _) .nil)) ?_
  refine .cons (.list (((k6.tr k7).tr k8) _ _ ea4) (.cons (.int _ _) .nil)) ?_
  exact .cons (.list ((k7.tr k8) _ _ ea5) (.cons (.int _ _) (.cons (.int _ _) .nil))) .nil
 dsimp only
 have X₈:=X₁.up ((k2.tr l7))
 have e1':=l7 _ _ (k2 _ _ e1)
 refine wpAny_execs_cons ?_
 refine wpAny_Return_some ?_
 refine evComp (cl:=[("number",s.heap.objs.size+1),("kinds",s.heap.objs.size+1+1)]) ["at"] [] (by decide +kernel) (by rw [hcl];rfl) ?_
 refine C1 (N_range C X₈ F.keep (.head _) ?_)
 refine wpAny_BinOp ?_
 refine ldC K1 F.keep e1' hd1' ?_
 refine wpAny_Constant_int ?_
 refine modN (b:=4) (by exact zz49) fun u5 u6=>?_
 refine ⟨trivial,?_⟩
 refine rng1 F fun r g₉ h' t1 t2 t3 t4 k9 er F=>?_
 have hm4:m%4<4:=Nat.mod_lt _ (by exact zz49)
 refine cmpE_range (a:=0) (fun i g' ys=>Dts g' ys (((List.range i).map fun i=>(kindsN m).getD (m/4/5^i%5) []).map dName)) (Nn:=["at"]) (Gl:=[]) hA'.handled (by decide +kernel) C F er (by lia) (by lia) .nil (by show _<=16777216;exact zz50) (cturn ?_) ?_
 · rintro i v s1 g' us ys I oI C' D h tk ⟨hi,t5,rfl⟩ kg' hys hus Cc F
   obtain ⟨u0,rfl⟩:=List.length_eq_one_iff.mp hus
   refine st0 Cc F fun h' F=>tests0 ?_
   rw [if_pos rfl]
   have K1':=cellIn (C:=C') K1 (sc:=⟨.function,[(".0",.local),("at",.local),("kinds",.free),("number",.free)],false,false,[]⟩) (cl:=[("number",s.heap.objs.size+1),("kinds",s.heap.objs.size+1+1)]) rfl rfl rfl
   have K2':=cellIn (C:=C') K2 (sc:=⟨.function,[(".0",.local),("at",.local),("kinds",.free),("number",.free)],false,false,[]⟩) (cl:=[("number",s.heap.objs.size+1),("kinds",s.heap.objs.size+1+1)]) rfl rfl rfl
   refine Subscript_BinOp ?_
   refine ldC K2' F.keep (kg' _ _ (k9 _ _ e2)) hd' ?_
   refine wpAny_BinOp ?_
   refine wpAny_BinOp ?_
   refine wpAny_BinOp ?_
   refine ldC K1' F.keep (kg' _ _ (k9 _ _ e1')) hd1' ?_
   refine wpAny_Constant_int ?_
   refine divN (b:=4) (by exact zz49) (by exact zz51) fun u7 u8=>?_
   refine wpAny_BinOp ?_
   refine wpAny_Constant_int ?_
   refine ld0 Cc F ?_
   rw [Nat.zero_add]
   refine powN (a:=5) (by lia) (by exact zz52 hi) fun u9 u10=>?_
   have h5:0<5^i/\5^i<=125:=by
    rcases (by exact zz53 hi:i=0\/i=1\/i=2) with rfl|rfl|rfl<;>decide
   refine divN h5.1 (by exact zz54 h5) fun u11 u12=>?_
   refine wpAny_Constant_int ?_
   refine modN (b:=5) (by exact zz55) fun u13 u14=>?_
   obtain ⟨lk,its,kk,elk,hlk,hdk⟩:=hk.listInv
   have hj5:m/4/5^i%5<5:=Nat.mod_lt _ (by exact zz55)
   have hil:its.length=5:=by simpa [kindsN] using hdk.len
   cases elk
   obtain ⟨d,hd,hdt⟩:=hdk.get (i:=m/4/5^i%5) (v:=its[m/4/5^i%5]'(by exact zz56 hil)) (by simp)
   refine itemL (i:=m/4/5^i%5) (x:=its[m/4/5^i%5]'(by exact zz56 hil)) F.keep (kg' _ _ (k9 _ _ hlk)) (by simp) (by lia) ?_
   refine cEnd Le.rfl' F ?_
   rw [List.range_succ,List.map_append,List.map_append]
   refine hys.snoc ?_
   have ed:d=dName ((kindsN m).getD (m/4/5^i%5) []):=by
    rw [List.getElem?_map] at hd
    rw [List.getD_eq_getElem?_getD]
    cases q:(kindsN m)[m/4/5^i%5]? with
    | none=>rw [q] at hd;simp at hd
    | some y=>rw [q] at hd;simpa using hd.symm
   rw [←ed]
   exact hdt.up (k9.tr kg')
 · intro g₁ g' D h' tk ys k10 k11 hys eD F
   refine ends F (.list eD ?_)
   exact hys.up k11
end
noncomputable def figs:Str:="0123456789ABCDEF"
noncomputable def octT(k:Nat):Str:=Txt.item figs ((k/16:Nat):Int)++Txt.item figs ((k%16:Nat):Int)
noncomputable def hexW(ns:List Nat):Str:=Txt.join "" (ns.map octT)
noncomputable def writtenT(p:Pl):Str:=("/":Str)++Txt.join "/" (p.map hexW)
theorem fig_at:∀k<16,(Txt.charAt figs ((k:Nat):Int)).isSome=true/\(Txt.item figs ((k:Nat):Int)).length=1:=by decide +kernel
theorem octT_len(k:Nat)(h:k<256):(octT k).length=2:=by
 rw [octT,Str.length_append,(fig_at _ (by exact zz57 h)).2,(fig_at _ (by exact zz58)).2]
theorem sum_le{α:Type}{f:α->Nat}{m:Nat}:∀{l:List α},(∀x∈l,f x<=m)->(l.map f).sum<=m*l.length
 | [],_=>by simp
 | x::l,h=>by
  have h1:=sum_le (l:=l) fun y hy=>h y (.tail _ hy)
  have h2:=h x (.head _)
  rw [List.map_cons,List.sum_cons,List.length_cons,Nat.mul_succ]
  exact zz59 h1 h2
structure OctOk(ns:List Nat):Prop where
 short:ns.length<=2
 oct:∀k∈ns,k<256
theorem JoinOk_octs{ns:List Nat}(h:OctOk ns):JoinOk "" (ns.map octT)=true:=by
 refine joinOk_of ?_
 have h1:=sum_le (f:=fun x:Str=>x.length) (m:=2) (l:=ns.map octT) fun x hx=>by
  obtain ⟨k,hk,rfl⟩:=List.mem_map.mp hx
  exact Nat.le_of_eq (octT_len k (h.oct k hk))
 have h2:=h.short
 rw [List.length_map] at *
 have h3:("":Str).length=0:=by decide +kernel
 rw [h3]
 exact zz60 h1 h2
theorem joinT_len(sep:Str)(ys:List Str):(Txt.join sep ys).length<=(ys.map (·.length)).sum+ys.length*sep.length:=by
 have:=StrLaws.join_length_le sep ys
 unfold Txt.join;rw [StrLaws.glued_eq_join];exact this
theorem hexW_len{ns:List Nat}(h:OctOk ns):(hexW ns).length<=4:=by
 have h1:=joinT_len "" (ns.map octT)
 have h2:=sum_le (f:=fun x:Str=>x.length) (m:=2) (l:=ns.map octT) fun x hx=>by
  obtain ⟨k,hk,rfl⟩:=List.mem_map.mp hx
  exact Nat.le_of_eq (octT_len k (h.oct k hk))
 have h3:("":Str).length=0:=by decide +kernel
 have h4:=h.short
 rw [List.length_map] at *
 rw [h3] at h1
 show (Txt.join "" (ns.map octT)).length<=4
 exact zz61 h1 h2 h4
section
variable{w:World}{A:Around}{s:Shared}{g:Heap}{n:Nat}
theorem written_gives(X:Stat g)(kg:Le g s.heap)(hA:Ok A (n+1))(v:Value)(p:Pl)(hv:Dt g v (dPlace p))(hp:p.length<=9)(hn:∀ns∈p,OctOk ns) :
 Gives pw w A (.call (.ref 390) ⟨[v],[]⟩) s [] g (fun g' _ r=>∃t,r=.str (writtenT p) t):=by
 obtain ⟨l,items,k,rfl,hl,hds⟩:=hv.listInv
 have hlen:items.length=p.length:=by simpa using hds.len
 have hw:∀x∈p.map hexW,x.length<=4:=fun x hx=>by
  obtain ⟨ns,hm,rfl⟩:=List.mem_map.mp hx
  exact hexW_len (hn ns hm)
 have hsum:=sum_le (f:=fun x:Str=>x.length) hw
 rw [List.length_map] at hsum
 refine Gives.goC 19 [.ref l] ["place"] ["place","words","name"] [] ["figures"] [some (.ref l),none,none] rfl X kg hA rfl rfl (by decide +kernel) (fun n x hx=>?_) rfl (fun j x hx=>?_) fun h₁ env A' t' hA' C hcl hC hIs hL F=>absQ fun QQ hQ=>?_
 · rw [List.mem_singleton.mp hx]
   exact .inl (by decide +kernel)
 · rcases j with _|_|_|j
   all_goals first
    | (cases hx;rfl)
    | simp at hx
 have c1:env.cells.lookup ("figures":Str)=some (s.heap.objs.size+1):=by rw [hcl];rfl
 have K1:=hC _ (.head _) _ c1
 obtain ⟨o1,hd1,F⟩:=F.cell (hIs _ _ c1).1 (by rw [hL];exact (hIs _ _ c1).2) (none_above kg (by exact zz43)) (fun p hp=>nomatch hp)
 let c:Fr w ["place","words","name"] []:=⟨A',env,s.gens,s.drawn,s.os,s.heap,[],g,C,hA'.handled⟩
 refine wpAny_execs_cons (wpAny_Assign_Name (Constant_str (stC (pre:=[]) (post:=[]) K1 F rfl hd1 fun h o1 hd1 F=>Fr.S.freeze (c:=c) F (by exact zz43) fun g₁ k1 e1 F=>?_)))
 refine Fr.xNilO (c:=c) 1 F ?_
 intro a ha V h t F
 refine wpAny_execs_cons (Fr.xForL (c:=c) 2 F (Fr.nV (c:=c) 0 F) (k1 _ _ hl) (fun i g' V' mu'=>∀G:List (Option Value)->List (Addr×Obj)->Prop,(∀xs j u,xs.length=i->Dts g' xs (((p.take i).map hexW).map .str)->G [some (.ref l),some (.ref a),u] [(a,lstObj xs j)])->G V' mu') (fun G q=>q [] 0 none rfl .nil) ?_ ?_)
 · intro i v g' V' mu' I oI h t TT hi kg' hJ
   apply hJ
   intro xs j u hxl hxs _ hT V F
   apply Dts.getP hds hi
   intro ns hns hdt
   have ok:=hn ns (List.mem_of_getElem? hns)
   have hlt:i<p.length:=(List.getElem?_eq_some_iff.mp hns).1
   obtain ⟨l2,its,k2,rfl,hl2,hds2⟩:=hdt.listInv
   have hits:its.length=ns.length:=by simpa using hds2.len
   refine Fr.xApp (c:=c) (pre:=[(I,oI)]) (Fr.nV 1 F) F (by exact zz62 hp hxl hlt) (Fr.joinM (xs:=ns.map octT) Fr.kS (Fr.compM (cl:=[("figures",s.heap.objs.size+1)]) ["octet"] [] (fun i g' ws=>Dts g' ws (((ns.take i).map octT).map .str)) (by rw [hcl];rfl) F (Fr.nV 2 F) (kg' _ _ (k1 _ _ hl2)) (by show _<=16777216;exact zz63 hits ok.short) .nil (Fr.ct0 hA'.handled ?_)) (fun g' v _ ⟨D,ys,g1,ev,k,jj,eD⟩=>?_) (JoinOk_octs ok)) fun v g₂ h t k2 ⟨_,ev⟩ F=>hT.go k2 F fun G w=>w _ _ _ (by rw [List.length_append,hxl];rfl) ?_
   · intro i v s1 g' us ys I oI C' D h cx hi2 kg2 jj c' V F hus T1 hT1 t
     apply Dts.getP hds2 hi2
     intro kk hkk hd2
     obtain ⟨u3,rfl⟩:=hd2.intInv
     have hk:=ok.oct kk (List.mem_of_getElem? hkk)
     have K1':=cellIn (C:=C') K1 (sc:=⟨.function,[(".0",.local),("octet",.local),("figures",.free)],false,false,[]⟩) (cl:=[("figures",s.heap.objs.size+1)]) rfl rfl rfl
     have hv:V[0]?=some (some (.int (kk:Int) u3)):=List.getElem?_set_self hus
     have E1 {p1:Pos}:=Fr.nC (c:=c') (pos:=p1) K1' F.keep (kg2 _ _ (kg' _ _ e1)) hd1
     refine Fr.addS (c:=c') (Fr.ixSB E1 (Fr.divE (n:=16) (Fr.nI 0 F hv) Fr.kI (by exact zz64) (by exact zz65)) (Fr.fitsN (Nat.lt_of_le_of_lt (Nat.div_le_self ..) (Nat.lt_trans hk (by decide)))) (fig_at _ (by exact zz57 hk)).1) (Fr.ixSB E1 (Fr.modE (n:=16) (Fr.nI 0 F hv) Fr.kI (by exact zz64)) (Fr.fitsN (Nat.lt_of_le_of_lt (Nat.mod_le ..) (Nat.lt_trans hk (by decide)))) (fig_at _ (by exact zz58)).1) ?_ _ _ t fun k t=>hT1 _ _ _ _ Le.rfl' F ?_
     · have e:=octT_len kk hk
       rw [octT,Str.length_append] at e
       exact Nat.le_trans (Nat.le_of_eq e) (by decide)
     · rw [take_nx hkk,List.map_append,List.map_append]
       exact jj.snoc (.str _ _)
   · rw [hits,List.take_length] at jj
     obtain ⟨l',rfl,hl'⟩:=(jj.up k).strs
     exact ⟨D,l',_,ev,eD,hl'⟩
   · subst ev
     rw [take_nx hns,List.map_append,List.map_append]
     exact (hxs.up k2).snoc (.str _ _)
 · intro g' V' mu' h t kg' hJ
   apply hJ
   intro xs j u hxl hxs F
   rw [hlen,List.take_length] at hxs
   obtain ⟨l',rfl,hl'⟩:=hxs.strs
   refine Fr.S.freeze F ha fun g₂ k2 eD F=>wpAny_execs_cons (wpAny_Return_some (wpAny_BinOp (Constant_str ?_)))
   refine (Fr.joinM (c:=c) Fr.kS ((Fr.nV (c:=c) 1 F).mV F) (fun g' v k e=>⟨a,l',_,e,k _ _ eD,hl'⟩) (joinOk_of (by rw [List.length_map,slash_len];exact zz69 hp hsum))).use fun v g₃ h t k3 ⟨t5,ev⟩ F=>ev▸SB.add (fun t'' k=>hQ _ _ ⟨_,_,_,rfl,F.out,_,rfl⟩) ?_
   show _<=16777216
   have h1:=joinT_len "/" (p.map hexW)
   rw [List.length_map,slash_len] at h1
   rw [slash_len]
   exact zz70 hp hsum h1
end
noncomputable def kRun{α:Type}(lt:Nat->Nat->Bool):KasT α->α
 | .ret a=>a
 | .ask i j k=>kRun lt (k (lt i j))
theorem kRun_bind{α β:Type}(lt:Nat->Nat->Bool)(f:α->KasT β):∀t:KasT α,kRun lt (t.bind f)=kRun lt (f (kRun lt t))
 | .ret a=>rfl
 | .ask i j k=>kRun_bind lt f (k (lt i j))
structure Weak(lt:Nat->Nat->Bool):Prop where
 refl:∀a,lt a a=false
 trans:∀a b c,lt b a=false->lt c b=false->lt c a=false
 asym:∀a b,lt a b=true->lt b a=false
section
variable{lt:Nat->Nat->Bool}
noncomputable def Up(lt:Nat->Nat->Bool)(p:Array Nat)(m:Nat):Prop:=∀i j,i<=j->j<m->lt (p.getD j 0) (p.getD i 0)=false
noncomputable def Dn(lt:Nat->Nat->Bool)(p:Array Nat)(m:Nat):Prop:=∀i j,i<=j->j<m->lt (p.getD i 0) (p.getD j 0)=false
theorem getD_of{p q:Array Nat}{i j:Nat}(h:p[i]?=q[j]?):p.getD i 0=q.getD j 0:=by
 rw [Array.getD_eq_getD_getElem?,Array.getD_eq_getD_getElem?,h]
theorem rev_getD{p:Array Nat}{i j:Nat}(hj:j<=p.size)(k:Nat):(kas_rev p i j).getD k 0=if i<=k/\k<j then p.getD (i+j-1-k) 0 else p.getD k 0:=by
 have e:=getElem?_mirror_all (xs:=p) (i:=i) hj k
 by_cases h:i<=k/\k<j
 · rw [if_pos h] at e ⊢;exact getD_of e
 · rw [if_neg h] at e ⊢;exact getD_of e
theorem bub_getD{p:Array Nat}{src d:Nat}(hs:src<p.size)(hd:d<=src)(k:Nat):(bubble p src d).getD k 0=if k=src-d then p.getD src 0 else if src-d<k/\k<=src then p.getD (k-1) 0 else p.getD k 0:=by
 have e:=getElem?_bubble (xs:=p) hs d hd k
 by_cases h1:k=src-d
 · rw [if_pos h1] at e ⊢;exact getD_of e
 · rw [if_neg h1] at e ⊢
   by_cases h2:src-d<k/\k<=src
   · rw [if_pos h2] at e ⊢;exact getD_of e
   · rw [if_neg h2] at e ⊢;exact getD_of e
theorem rev_perm(p:Array Nat)(i j:Nat):(kas_rev p i j).Perm p:=mirror_perm _ _ _ _
theorem rev_size(p:Array Nat)(i j:Nat):(kas_rev p i j).size=p.size:=mirror_size _ _ _ _
theorem asc_up(W:Weak lt)(p:Array Nat):∀(f n:Nat),1<=n->Up lt p n->Up lt p (kRun lt (kas_asc p f n))/\n<=kRun lt (kas_asc p f n)/\kRun lt (kas_asc p f n)<=n+f/\(kRun lt (kas_asc p f n)=n+f\/lt (p.getD (kRun lt (kas_asc p f n)) 0) (p.getD (kRun lt (kas_asc p f n)-1) 0)=true)
 | 0,n,_,h=>⟨h,Nat.le_refl _,Nat.le_refl _,.inl rfl⟩
 | f+1,n,hn,h=>by
  unfold kas_asc
  simp only [kRun]
  cases e:lt (p.getD n 0) (p.getD (n-1) 0) with
  | true=>exact ⟨h,Nat.le_refl _,Nat.le_add_right _ _,.inr e⟩
  | false =>
   simp only [Bool.false_eq_true,if_false]
   obtain ⟨a,b,c,d⟩:=asc_up W p f (n+1) (by exact zz237) fun i j hij hj=>by
    by_cases hjn:j<n
    · exact h i j hij hjn
    · have:j=n:=by exact zz167 hj hjn
      subst this
      by_cases hi:i=j
      · subst hi;exact W.refl _
      · exact W.trans _ _ _ (h i (j-1) (by exact zz238 hij hi) (by exact zz239 hn)) e
   exact ⟨a,by exact zz231 b,by exact zz240 c,d.imp (fun x=>by exact zz241 x) id⟩
structure Desc(lt:Nat->Nat->Bool)(p:Array Nat)(n q:Nat):Prop where
 dn:Dn lt p n
 le:q+1<=n
 even:∀i,n-(q+1)<=i->i<n->lt (p.getD i 0) (p.getD (n-1) 0)=false/\lt (p.getD (n-1) 0) (p.getD i 0)=false
theorem Desc.turn(W:Weak lt){p:Array Nat}{n q:Nat}(D:Desc lt p n q)(hn:n<=p.size):Dn lt (kas_rev p (n-(q+1)) n) n:=by
 intro i j hij hj
 have hq:=D.le
 rw [rev_getD hn,rev_getD hn]
 by_cases hi:n-(q+1)<=i
 · rw [if_pos ⟨hi,by exact zz242 hij hj⟩,if_pos ⟨by exact zz243 hij hi,hj⟩]
   have a:=D.even (n-(q+1)+n-1-i) (by exact zz244 hij hj) (by exact zz245 hq hi)
   have b:=D.even (n-(q+1)+n-1-j) (by exact zz246 hj) (by exact zz247 hij hq hi)
   exact W.trans _ _ _ b.2 a.1
 · rw [if_neg (by exact zz248 hi)]
   by_cases hj2:n-(q+1)<=j
   · rw [if_pos ⟨hj2,hj⟩];exact D.dn _ _ (by exact zz249 hj hi) (by exact zz250 hi hj2)
   · rw [if_neg (by exact zz248 hj2)];exact D.dn _ _ hij hj
theorem desc_dn(W:Weak lt):∀(f:Nat) (p:Array Nat) (n q:Nat),n+f<=p.size->Desc lt p n q ->
 (kRun lt (kas_desc f p n q)).1.Perm p/\n<=(kRun lt (kas_desc f p n q)).2.1/\(kRun lt (kas_desc f p n q)).2.1<=n+f/\Desc lt (kRun lt (kas_desc f p n q)).1 (kRun lt (kas_desc f p n q)).2.1 (kRun lt (kas_desc f p n q)).2.2
 | 0,p,n,q,_,D=>⟨Array.Perm.refl _,Nat.le_refl _,Nat.le_refl _,D⟩
 | f+1,p,n,q,hz,D=>by
  have hq:=D.le
  unfold kas_desc
  simp only [kRun]
  cases e:lt (p.getD n 0) (p.getD (n-1) 0) with
  | true =>
   simp only [if_true]
   by_cases hq0:q>0
   · rw [if_pos hq0]
     have T:=D.turn W (by exact zz251 hz)
     have step:Desc lt (kas_rev p (n-(q+1)) n) (n+1) 0:=by
      refine ⟨fun i j hij hj=>?_,by exact zz252,fun i h1 h2=>?_⟩
      · by_cases hjn:j<n
        · exact T i j hij hjn
        · have:j=n:=by exact zz167 hj hjn
          subst this
          by_cases hi:i=j
          · subst hi;exact W.refl _
          · refine W.trans _ _ _ ?_ (T i (j-1) (by exact zz238 hij hi) (by exact zz253 hq))
            have a:=D.even (j-(q+1)) (by exact zz254) (by exact zz255 hq)
            rw [rev_getD (k:=j-1) (by exact zz251 hz),rev_getD (k:=j) (by exact zz251 hz),if_pos (by exact zz256 hq),if_neg (by exact zz257)]
            have e1:j-(q+1)+j-1-(j-1)=j-(q+1):=by exact zz258
            rw [e1]
            exact W.trans _ _ _ (W.asym _ _ e) a.1
      · have:i=n:=by exact zz259 h1 h2
        subst this
        have e2:i+1-1=i:=by exact zz131
        rw [e2]
        exact ⟨W.refl _,W.refl _⟩
     obtain ⟨a,b,c,d⟩:=desc_dn W f _ (n+1) 0 (by rw [rev_size];exact zz260 hz) step
     exact ⟨a.trans (rev_perm _ _ _),by exact zz231 b,by exact zz240 c,d⟩
   · rw [if_neg hq0]
     have step:Desc lt p (n+1) 0:=by
      refine ⟨fun i j hij hj=>?_,by exact zz252,fun i h1 h2=>?_⟩
      · by_cases hjn:j<n
        · exact D.dn i j hij hjn
        · have:j=n:=by exact zz167 hj hjn
          subst this
          by_cases hi:i=j
          · subst hi;exact W.refl _
          · exact W.trans _ _ _ (W.asym _ _ e) (D.dn i (j-1) (by exact zz238 hij hi) (by exact zz253 hq))
      · have:i=n:=by exact zz259 h1 h2
        subst this
        have e2:i+1-1=i:=by exact zz131
        rw [e2]
        exact ⟨W.refl _,W.refl _⟩
     obtain ⟨a,b,c,d⟩:=desc_dn W f _ (n+1) 0 (by exact zz260 hz) step
     exact ⟨a,by exact zz231 b,by exact zz240 c,d⟩
  | false =>
   simp only [Bool.false_eq_true,if_false,kRun]
   cases e2:lt (p.getD (n-1) 0) (p.getD n 0) with
   | true =>
    simp only [if_true,kRun]
    exact ⟨Array.Perm.refl _,Nat.le_refl _,by exact zz261,D⟩
   | false =>
    simp only [Bool.false_eq_true,if_false]
    have step:Desc lt p (n+1) (q+1):=by
     refine ⟨fun i j hij hj=>?_,by exact zz262 hq,fun i h1 h2=>?_⟩
     · by_cases hjn:j<n
       · exact D.dn i j hij hjn
       · have:j=n:=by exact zz167 hj hjn
         subst this
         by_cases hi:i=j
         · subst hi;exact W.refl _
         · exact W.trans _ _ _ e2 (D.dn i (j-1) (by exact zz238 hij hi) (by exact zz253 hq))
     · have e3:n+1-1=n:=by exact zz131
       rw [e3]
       by_cases hi:i=n
       · subst hi;exact ⟨W.refl _,W.refl _⟩
       · have a:=D.even i (by exact zz263 h1) (by exact zz264 h2 hi)
         exact ⟨W.trans _ _ _ e2 a.1,W.trans _ _ _ a.2 e⟩
    obtain ⟨a,b,c,d⟩:=desc_dn W f _ (n+1) (q+1) (by exact zz260 hz) step
    exact ⟨a,by exact zz231 b,by exact zz240 c,d⟩
theorem tail3_up(W:Weak lt){n nrem:Nat}{p:Array Nat}(h1:1<=n)(hn:n<=nrem)(hz:nrem<=p.size)(D:Dn lt p n) :
 (kRun lt (kas_tail3 n nrem p)).2.Perm p/\1<=(kRun lt (kas_tail3 n nrem p)).1/\(kRun lt (kas_tail3 n nrem p)).1<=nrem/\Up lt (kRun lt (kas_tail3 n nrem p)).2 (kRun lt (kas_tail3 n nrem p)).1:=by
 unfold kas_tail3
 rw [kRun_bind]
 simp only [kRun]
 obtain ⟨a,b,c,_⟩:=asc_up W (kas_rev p 0 n) (nrem-n) n h1 fun i j hij hj=>by
  rw [rev_getD (by exact zz265 hn hz),rev_getD (by exact zz265 hn hz),if_pos (by exact zz266 hj),if_pos (by exact zz267 hij hj)]
  exact D _ _ (by exact zz268 hij) (by exact zz269 hj)
 exact ⟨rev_perm _ _ _,by exact zz270 h1 b,by exact zz271 hn c,a⟩
theorem descPart_up(W:Weak lt){n nrem:Nat}{p:Array Nat}(h1:1<=n)(hn:n+1<=nrem)(hz:nrem<=p.size)(D:Desc lt p (n+1) 0) :
 (kRun lt (kas_descPart n nrem p)).2.Perm p/\1<=(kRun lt (kas_descPart n nrem p)).1/\(kRun lt (kas_descPart n nrem p)).1<=nrem/\Up lt (kRun lt (kas_descPart n nrem p)).2 (kRun lt (kas_descPart n nrem p)).1:=by
 unfold kas_descPart
 rw [kRun_bind]
 obtain ⟨a,b,c,d⟩:=desc_dn W (nrem-(n+1)) p (n+1) 0 (by exact zz272 hn hz) D
 have hs:(kRun lt (kas_desc (nrem-(n+1)) p (n+1) 0)).1.size=p.size:=a.size_eq
 by_cases hq:(kRun lt (kas_desc (nrem-(n+1)) p (n+1) 0)).2.2>0
 · rw [if_pos hq]
   obtain ⟨a',b',c',d'⟩:=tail3_up W (nrem:=nrem) (by exact zz273 b) (by exact zz274 hn c) (by rw [rev_size,hs];exact hz) (d.turn W (by exact zz275 hn hz c hs))
   exact ⟨a'.trans ((rev_perm _ _ _).trans a),b',c',d'⟩
 · rw [if_neg hq]
   obtain ⟨a',b',c',d'⟩:=tail3_up W (nrem:=nrem) (by exact zz273 b) (by exact zz274 hn c) (by rw [hs];exact hz) d.dn
   exact ⟨a'.trans a,b',c',d'⟩
theorem count_up(W:Weak lt){nrem:Nat}{p:Array Nat}(h1:1<=nrem)(hz:nrem<=p.size) :
 (kRun lt (kas_count nrem p)).2.Perm p/\1<=(kRun lt (kas_count nrem p)).1/\(kRun lt (kas_count nrem p)).1<=nrem/\Up lt (kRun lt (kas_count nrem p)).2 (kRun lt (kas_count nrem p)).1:=by
 unfold kas_count
 rw [kRun_bind]
 obtain ⟨a,b,c,d⟩:=asc_up W p (nrem-1) 1 (Nat.le_refl _) fun i j hij hj=>by
  have:i=j:=by exact zz276 hij hj
  subst this;exact W.refl _
 generalize kRun lt (kas_asc p (nrem-1) 1)=n at a b c d ⊢
 by_cases hn:(n==nrem)=true
 · rw [if_pos hn]
   simp only [kRun]
   exact ⟨Array.Perm.refl _,b,by exact zz277 h1 c,a⟩
 · rw [if_neg hn]
   have hne:n≠nrem:=by simpa using hn
   have e:lt (p.getD n 0) (p.getD (n-1) 0)=true:=d.resolve_left (by exact zz278 h1 hne)
   by_cases hg:n>1
   · rw [if_pos hg]
     simp only [kRun]
     cases e2:lt (p.getD 0 0) (p.getD (n-1) 0) with
     | true=>simp only [if_true,kRun];exact ⟨Array.Perm.refl _,b,by exact zz279 c hg,a⟩
     | false =>
      simp only [Bool.false_eq_true,if_false]
      have even:∀i,i<n->lt (p.getD i 0) (p.getD (n-1) 0)=false/\lt (p.getD (n-1) 0) (p.getD i 0)=false:=fun i hi =>
       ⟨W.trans _ _ _ e2 (a 0 i (by exact zz280) hi),a i (n-1) (by exact zz281 hi) (by exact zz282 hi)⟩
      obtain ⟨a',b',c',d'⟩:=descPart_up W (n:=n) (nrem:=nrem) (p:=kas_rev p 0 n) (by exact zz283 hg) (by exact zz284 c hne hg) (by rw [rev_size];exact hz) ⟨fun i j hij hj=>by
       rw [rev_getD (k:=i) (by exact zz285 hz c hg),rev_getD (k:=j) (by exact zz285 hz c hg)]
       by_cases hjn:j<n
       · rw [if_pos (by exact zz267 hij hjn),if_pos (by exact zz266 hjn)]
         exact a _ _ (by exact zz268 hij) (by exact zz269 hjn)
       · have:j=n:=by exact zz167 hj hjn
         subst this
         rw [if_neg (show ¬(0<=j/\j<j) by exact zz286)]
         by_cases hi:i<j
         · rw [if_pos (by exact zz266 hi)]
           exact W.trans _ _ _ (W.asym _ _ e) (even _ (by exact zz287 hi)).1
         · have:i=j:=by exact zz7 hij hi
           subst this
           rw [if_neg (by exact zz286)]
           exact W.refl _,by exact zz252,fun i h1 h2=>by
       have:i=n:=by exact zz259 h1 h2
       subst this
       have e3:i+1-1=i:=by exact zz131
       rw [e3]
       exact ⟨W.refl _,W.refl _⟩⟩
      exact ⟨a'.trans (rev_perm _ _ _),b',c',d'⟩
   · rw [if_neg hg]
     have hn1:n=1:=by exact zz288 b hg
     subst hn1
     exact descPart_up W (by exact zz289) (by exact zz290 h1 hne) hz ⟨fun i j hij hj=>by
      rcases (by exact zz291 hij hj:i=j\/(i=0/\j=1)) with rfl|⟨rfl,rfl⟩
      · exact W.refl _
      · exact W.asym _ _ e,by exact zz292,fun i h1 h2=>by
      have:i=1:=by exact zz293 h1 h2
      subst this
      exact ⟨W.refl _,W.refl _⟩⟩
theorem place_at(W:Weak lt){p:Array Nat}{k:Nat}(hs:Up lt p k):∀(f l r:Nat),l<=r->r<=k->r-l<=f->(∀i,i<l->lt (p.getD k 0) (p.getD i 0)=false)->(∀i,r<=i->i<k->lt (p.getD i 0) (p.getD k 0)=false) ->
 kRun lt (kas_place p k f l r)<=k/\(∀i,i<kRun lt (kas_place p k f l r)->lt (p.getD k 0) (p.getD i 0)=false)/\∀i,kRun lt (kas_place p k f l r)<=i->i<k->lt (p.getD i 0) (p.getD k 0)=false
 | 0,l,r,hlr,hrk,hf,h1,h2=>by
  have:l=r:=by exact zz294 hlr hf
  subst this
  exact ⟨hrk,h1,h2⟩
 | f+1,l,r,hlr,hrk,hf,h1,h2=>by
  unfold kas_place
  by_cases hg:l≥r
  · rw [if_pos hg]
    have:l=r:=by exact zz295 hlr hg
    subst this
    exact ⟨hrk,h1,h2⟩
  · rw [if_neg hg]
    simp only [kRun]
    cases e:lt (p.getD k 0) (p.getD ((l+r)/2) 0) with
    | true =>
     simp only [if_true]
     exact place_at W hs f l ((l+r)/2) (by exact zz296 hg) (by exact zz297 hrk hg) (by exact zz298 hf) h1 fun i hi hik=>W.trans _ _ _ (W.asym _ _ e) (hs _ _ hi hik)
    | false =>
     simp only [Bool.false_eq_true,if_false]
     exact place_at W hs f ((l+r)/2+1) r (by exact zz299 hg) hrk (by exact zz300 hf) (fun i hi=>W.trans _ _ _ (hs i ((l+r)/2) (by exact zz301 hi) (by exact zz302 hrk hg)) e) h2
theorem bin_up(W:Weak lt):∀(f:Nat) (p:Array Nat) (k:Nat),1<=k->k+f<=p.size->Up lt p k->(kRun lt (kas_bin f p k)).Perm p/\Up lt (kRun lt (kas_bin f p k)) (k+f)
 | 0,p,k,_,_,h=>⟨Array.Perm.refl _,h⟩
 | f+1,p,k,hk,hz,h=>by
  unfold kas_bin
  rw [kRun_bind]
  obtain ⟨a,b,c⟩:=place_at W h k 0 k (by exact zz280) (Nat.le_refl _) (by exact zz303) (fun i hi=>absurd hi (Nat.not_lt_zero _)) (fun i h1 h2=>absurd h2 (by exact zz304 h1))
  generalize kRun lt (kas_place p k k 0 k)=l at a b c ⊢
  obtain ⟨a',b'⟩:=bin_up W f (bubble p k (k-l)) (k+1) (by exact zz237) (by rw [bubble_size];exact zz260 hz) fun i j hij hj=>by
   rw [bub_getD (by exact zz305 hz) (by exact zz306) i,bub_getD (by exact zz305 hz) (by exact zz306) j,show k-(k-l)=l by exact zz103 a]
   repeat' split
   all_goals first
    | (exfalso;lia)
    | exact W.refl _
    | exact b _ (by lia)
    | exact c _ (by lia) (by lia)
    | exact h _ _ (by lia) (by lia)
  refine ⟨a'.trans (bubble_perm _ _ _),?_⟩
  rw [show k+(f+1)=k+1+f by exact zz140]
  exact b'
theorem sort_up(W:Weak lt){n:Nat}(hn:1<=n):(kRun lt (kas_sort n)).Perm (List.toArray (List.range n))/\Up lt (kRun lt (kas_sort n)) n:=by
 unfold kas_sort
 rw [kRun_bind]
 have hs:(List.toArray (List.range n)).size=n:=by simp
 obtain ⟨a,b,c,d⟩:=count_up W hn (p:=List.toArray (List.range n)) (by rw [hs];exact Nat.le_refl _)
 generalize kRun lt (kas_count n (List.toArray (List.range n)))=r at a b c d ⊢
 have hr:r.2.size=n:=a.size_eq.trans hs
 by_cases hlt:r.1<n
 · rw [if_pos hlt]
   have e:max r.1 1=r.1:=by lia
   rw [e]
   obtain ⟨a',b'⟩:=bin_up W (n-r.1) r.2 r.1 b (by exact zz307 hr hlt) d
   refine ⟨a'.trans a,?_⟩
   rw [show r.1+(n-r.1)=n by exact zz308 hlt] at b'
   exact b'
 · rw [if_neg hlt]
   have:r.1=n:=by exact zz7 c hlt
   rw [this] at d
   exact ⟨a,d⟩
end
end Mine.Internal
namespace Mine.Internal
open PySem PySem.W PyProof.Rows PySem.Calls PySem.Spec
open PySem.SeqAt AutoSeq1 MeetsSeq MeetsSeq2 MeetsSeq3 SeqRoads2
noncomputable def LtAt(A:Around)(s:Shared)(y x:Value)(b:Bool):Prop :=
 ∀(prog:Program) (w:World) (E:Value->Shared->Prop) (Q:Value->Shared->Prop),Q (.bool b) s->wpAny (model prog w) A (richCompare .Lt y x) Q E s
noncomputable def lexB(e l:Nat->Bool)(m n:Nat):Nat->Nat->Bool
 | 0,_=>decide (m<n)
 | k+1,i=>if e i then lexB e l m n k (i+1) else l i
theorem lt_loop(l b:Addr)(items items2:Array Value)(n n2:Nat)(dd dd2:Option Addr)(sl sl2:Array (Option Value))(e lt:Nat->Bool)(k:Nat) :
 ∀i:Nat,min items.size items2.size-i=k->Meets (Builtin.«list.__eq__.loop» ⟨[.ref l,.ref b,rawInt i,rawInt 0],[]⟩)
  (fun A R s=>s.heap.get? l=some {cls:=.type "list",dict:=dd,data:=.seq items n,slots:=sl}/\s.heap.get? b=some {cls:=.type "list",dict:=dd2,data:=.seq items2 n2,slots:=sl2} /\
   (∀j (h1:j<items.size) (h2:j<items2.size),EqAt A.in1 s items[j] items2[j] (e j)/\(e j=false->LtAt A.in1 s items[j] items2[j] (lt j))) /\
   R (.ok (.ret (.bool (lexB e lt items.size items2.size k i)))) s):=by
 induction k with
 | zero =>
  intro i hk prog w A R s h
  obtain ⟨hp,g,d,tk,os⟩:=s;obtain ⟨hl,hb,he,h⟩:=h
  wp_walk using wpAny_loadPart' hl,wpAny_loadPart' hb
  rcases (by lia:items.size<=i\/(i<items.size/\items2.size<=i)) with h1|⟨h1,h2⟩
  · have hi1:items[((i:Nat):Int).toNat]?=none:=by simp;exact zz75 h1
    rw [hi1]
    wp_walk using wpAny_loadPart' hl,wpAny_loadPart' hb
    exact h
  · have hi1:items[((i:Nat):Int).toNat]?=some items[i]:=by simp [h1]
    have hi2:items2[((i:Nat):Int).toNat]?=none:=by simp;exact zz75 h2
    rw [hi1,hi2]
    wp_walk using wpAny_loadPart' hl,wpAny_loadPart' hb
    exact h
 | succ k ih =>
  intro i hk prog w A R s h
  obtain ⟨hp,g,d,tk,os⟩:=s;obtain ⟨hl,hb,he,h⟩:=h
  wp_walk using wpAny_loadPart' hl,wpAny_loadPart' hb
  have hlt:i<items.size:=by lia
  have hlt2:i<items2.size:=by lia
  have hi1:items[((i:Nat):Int).toNat]?=some items[i]:=by simp [hlt]
  have hi2:items2[((i:Nat):Int).toNat]?=some items2[i]:=by simp [hlt2]
  have hc:((i:Int)+1)=((i+1:Nat):Int):=by push_cast;rfl
  rw [hi1,hi2]
  obtain ⟨he1,hl1⟩:=he i hlt hlt2
  refine wpAny_bind (he1 prog w _ _ ?_)
  unfold lexB at h
  cases hb':e i with
  | true =>
   rw [hb'] at h
   wp_walk
   rw [hc]
   exact ⟨plainId_quiet plain_eq_loop _,codeAny_builtin entry_eq_loop (by
    rw [Around.under_plainId plain_eq_loop _]
    exact ih (i+1) (by exact zz83 hk) prog w A R _ ⟨hl,hb,he,by simpa using h⟩)⟩
  | false =>
   rw [hb'] at h
   wp_walk using wpAny_loadPart' hl,wpAny_loadPart' hb
   rw [hi1,hi2]
   refine wpAny_bind (hl1 hb' prog w _ _ ?_)
   wp_walk
   simpa using h
theorem list_lt(l b:Addr)(items items2:Array Value)(n n2:Nat)(dd dd2:Option Addr)(sl sl2:Array (Option Value))(e lt:Nat->Bool) :
 Meets (Builtin.«list.__lt__» ⟨[.ref l,.ref b],[]⟩)
  (fun A R s=>s.heap.get? l=some {cls:=.type "list",dict:=dd,data:=.seq items n,slots:=sl}/\s.heap.get? b=some {cls:=.type "list",dict:=dd2,data:=.seq items2 n2,slots:=sl2} /\
   (∀j (h1:j<items.size) (h2:j<items2.size),EqAt A.in1 s items[j] items2[j] (e j)/\(e j=false->LtAt A.in1 s items[j] items2[j] (lt j))) /\
   R (.ok (.ret (.bool (lexB e lt items.size items2.size (min items.size items2.size) 0)))) s):=by
 intro prog w A R s h
 obtain ⟨hp,g,d,tk,os⟩:=s;obtain ⟨hl,hb,he,h⟩:=h
 have f3:=AutoSeq1.sub_list_list
 wp_walk using wpAny_loadPart' hl,wpAny_loadPart' hb
 exact ⟨plainId_quiet plain_eq_loop _,codeAny_builtin entry_eq_loop (by
  rw [Around.under_plainId plain_eq_loop _]
  exact lt_loop l b items items2 n n2 dd dd2 sl sl2 e lt _ 0 rfl prog w A R _ ⟨hl,hb,he,by simpa using h⟩)⟩
theorem tuple_lt(l b:Addr)(items items2:Array Value)(n n2:Nat)(dd dd2:Option Addr)(sl sl2:Array (Option Value))(e lt:Nat->Bool) :
 Meets (Builtin.«tuple.__lt__» ⟨[.ref l,.ref b],[]⟩)
  (fun A R s=>s.heap.get? l=some {cls:=.type "tuple",dict:=dd,data:=.seq items n,slots:=sl}/\s.heap.get? b=some {cls:=.type "tuple",dict:=dd2,data:=.seq items2 n2,slots:=sl2} /\
   (∀j (h1:j<items.size) (h2:j<items2.size),EqAt A.in1 s items[j] items2[j] (e j)/\(e j=false->LtAt A.in1 s items[j] items2[j] (lt j))) /\
   R (.ok (.ret (.bool (lexB e lt items.size items2.size (min items.size items2.size) 0)))) s) :=
 .of_wp fun prog w A R s h=>by
  obtain ⟨hp,g,d,tk,os⟩:=s;obtain ⟨hl,hb,he,h⟩:=h
  have f2:=AutoSeq1.sub_tuple_tuple
  have hZ:(items.toList.zip items2.toList).length=min items.size items2.size:=by simp
  wp_walk using wpAny_loadPart' hl,wpAny_loadPart' hb,wpAny_forIn_list _ (fun rest b s'=>b.1=none/\s'=⟨hp,g,d,tk,os⟩/\∃i k,rest=(items.toList.zip items2.toList).drop i/\i+k=min items.size items2.size /\
   R (.ok (.ret (.bool (lexB e lt items.size items2.size k i)))) ⟨hp,g,d,tk,os⟩) _
  case turn =>
   rintro ⟨y,x⟩ rest b s' ⟨hb',rfl,i,k,hz,hk,hR⟩
   have hlt:i<(items.toList.zip items2.toList).length:=by
    rcases Nat.lt_or_ge i (items.toList.zip items2.toList).length with h'|h'
    · exact h'
    · rw [List.drop_of_length_le h'] at hz;cases hz
   have hm:i<min items.size items2.size:=hZ▸hlt
   have h1:i<items.size:=Nat.lt_of_lt_of_le hm (Nat.min_le_left _ _)
   have h2:i<items2.size:=Nat.lt_of_lt_of_le hm (Nat.min_le_right _ _)
   rw [List.drop_eq_getElem_cons hlt] at hz
   injection hz with hyx hrest
   have hy:y=items[i]:=by have:=congrArg Prod.fst hyx;simpa using this
   have hx:x=items2[i]:=by have:=congrArg Prod.snd hyx;simpa using this
   subst hy hx
   obtain ⟨k,rfl⟩:∃k',k=k'+1:=⟨k-1,by exact zz33 hk hm⟩
   unfold lexB at hR
   obtain ⟨he1,hl1⟩:=he i h1 h2
   refine wpAny_bind (he1 prog w _ _ ?_)
   cases hy:e i with
   | true =>
    rw [hy] at hR
    wp_walk
    exact ⟨rfl,rfl,i+1,k,hrest,by exact zz34 hk,by simpa using hR⟩
   | false =>
    rw [hy] at hR
    repeat (first|(refine wpAny_bind (hl1 hy prog w _ _ ?_))|wp_step)
    exact ⟨_,rfl,by simpa using hR⟩
  case fin =>
   rintro ⟨b1,b2⟩ s' ⟨hb',rfl,i,k,hz,hk,hR⟩
   simp only at hb'
   subst hb'
   have hge:min items.size items2.size<=i:=by
    rcases Nat.lt_or_ge i (items.toList.zip items2.toList).length with h'|h'
    · rw [List.drop_eq_getElem_cons h'] at hz;cases hz
    · exact hZ▸h'
   have hk0:k=0:=by exact zz35 hk hge
   subst hk0
   unfold lexB at hR
   wp_walk
   exact ⟨_,rfl,by simpa [Builtin.Tuple.tupleCompareSizes] using hR⟩
  case h =>
   exact ⟨rfl,rfl,0,_,rfl,by exact zz36,h⟩
end Mine.Internal
namespace Mine.Internal
open PySem PySem.W PyProof.Rows PySem.Calls PySem.Spec
open PySem.SeqAt AutoSeq1 MeetsSeq MeetsSeq2 MeetsSeq3 SeqRoads2
mutual
noncomputable def ltP:PyData->PyData->Bool
 | .int a,.int b=>decide (a<b)
 | .str a,.str b=>decide (a.cps.toList<b.cps.toList)
 | .list xs,.list ys=>ltAllP xs ys
 | .tuple xs,.tuple ys=>ltAllP xs ys
 | _,_=>false
noncomputable def ltAllP:List PyData->List PyData->Bool
 | [],[]=>false
 | [],_::_=>true
 | _::_,[]=>false
 | x::xs,y::ys=>if PyData.eqv x y then ltAllP xs ys else ltP x y
end
mutual
noncomputable def cmpP:PyData->PyData->Bool
 | .int _,.int _=>true
 | .str _,.str _=>true
 | .list xs,.list ys=>cmpAllP xs ys
 | .tuple xs,.tuple ys=>cmpAllP xs ys
 | _,_=>false
noncomputable def cmpAllP:List PyData->List PyData->Bool
 | x::xs,y::ys=>cmpP x y&&cmpAllP xs ys
 | _,_=>true
end
theorem cmpAllP_get:∀{xs ys:List PyData},cmpAllP xs ys=true->∀(j:Nat) (x y:PyData),xs[j]?=some x->ys[j]?=some y->cmpP x y=true
 | x::xs,y::ys,h,0,_,_,hx,hy=>by
  cases hx;cases hy
  exact ((Bool.and_eq_true ..).mp (show (cmpP x y&&cmpAllP xs ys)=true from h)).1
 | x::xs,y::ys,h,j+1,_,_,hx,hy=>cmpAllP_get ((Bool.and_eq_true ..).mp (show (cmpP x y&&cmpAllP xs ys)=true from h)).2 j _ _ hx hy
 | [],_,_,j,_,_,hx,_=>by cases hx
 | _::_,[],_,j,_,_,_,hy=>by cases hy
theorem canLay_get{xs:List PyData}(h:PyData.canLayAll0 xs=true)(j:Nat)(x:PyData)(hx:xs[j]?=some x):x.canLay0=true:=PyData.canLay0_of_mem xs x h (List.mem_of_getElem? hx)
theorem depth_get{xs:List PyData}{n:Nat}(h:PyData.depthAll xs<=n)(j:Nat)(x:PyData)(hx:xs[j]?=some x):x.depth<=n:=Nat.le_trans (PyData.depth_le_depthAll xs x (List.mem_of_getElem? hx)) h
noncomputable def eB(xs ys:List PyData)(j:Nat):Bool:=PyData.eqv (xs.getD j .none) (ys.getD j .none)
noncomputable def lB(xs ys:List PyData)(j:Nat):Bool:=ltP (xs.getD j .none) (ys.getD j .none)
theorem getD_drop{α:Type}(d:α)(xs:List α)(i:Nat)(h:i<xs.length):xs.drop i=xs.getD i d::xs.drop (i+1):=by
 rw [List.drop_eq_getElem_cons h,List.getD_eq_getElem?_getD,List.getElem?_eq_getElem h];rfl
theorem lexA{α:Type}{lt:List α->List α->Bool}{e l:Nat->Bool}{xs ys:List α}(h1:∀l,lt l []=false)(h2:∀x l,lt [] (x::l)=true)(step:∀i,i<xs.length->i<ys.length->lt (xs.drop i) (ys.drop i)=if e i then lt (xs.drop (i+1)) (ys.drop (i+1)) else l i) :
 ∀(k i:Nat),min xs.length ys.length-i=k->i<=min xs.length ys.length->lexB e l xs.length ys.length k i=lt (xs.drop i) (ys.drop i)
 | 0,i,hk,hi=>by
  show decide (xs.length<ys.length)=_
  have h3:i<=ys.length:=Nat.le_trans hi (Nat.min_le_right ..)
  have h4:min xs.length ys.length<=i:=Nat.le_of_sub_eq_zero hk
  rcases Nat.lt_or_eq_of_le h3 with h5|h5
  · have h6:xs.length<=i:=Nat.not_lt.mp fun q=>absurd (Nat.lt_min.mpr ⟨q,h5⟩) (Nat.not_lt.mpr h4)
    rw [List.drop_of_length_le h6,List.drop_eq_getElem_cons h5,h2]
    exact decide_eq_true (Nat.lt_of_le_of_lt h6 h5)
  · rw [List.drop_of_length_le (Nat.le_of_eq h5.symm),h1]
    exact decide_eq_false (Nat.not_lt.mpr (h5▸Nat.le_trans hi (Nat.min_le_left ..)))
 | k+1,i,hk,hi=>by
  have h3:i<min xs.length ys.length:=Nat.lt_of_sub_ne_zero (hk▸Nat.succ_ne_zero k)
  rw [step i (Nat.lt_of_lt_of_le h3 (Nat.min_le_left ..)) (Nat.lt_of_lt_of_le h3 (Nat.min_le_right ..))]
  show (if e i then lexB e l xs.length ys.length k (i+1) else l i)=_
  rw [lexA h1 h2 step k (i+1) (Nat.sub_succ' ..▸(congrArg Nat.pred hk)) h3]
theorem lexB_eq(xs ys:List PyData)(k i:Nat)(hk:min xs.length ys.length-i=k)(hi:i<=min xs.length ys.length):lexB (eB xs ys) (lB xs ys) xs.length ys.length k i=ltAllP (xs.drop i) (ys.drop i) :=
 lexA (fun l=>by cases l<;>rfl) (fun _ _=>rfl) (fun i a b=>by rw [getD_drop .none xs i a,getD_drop .none ys i b];rfl) k i hk hi
theorem elems{g:Heap}(n:Nat)(ih:∀(da db:PyData) (A:Around) (s:Shared) (a b:Value),Dt g a da->Dt g b db->Le g s.heap->da.depth<=n->da.canLay0=true->db.canLay0=true->cmpP da db=true->A.units+2*n+1<cLine->LtAt A s a b (ltP da db))
 {A:Around} {s:Shared} {vs vs':List Value} {xs ys:List PyData} (x:Dts g vs xs) (x':Dts g vs' ys) (kg:Le g s.heap) (hd:PyData.depthAll xs<=n) (la:PyData.canLayAll0 xs=true) (lb:PyData.canLayAll0 ys=true) (hc:cmpAllP xs ys=true)
 (hu:A.in1.units+2*n+1<cLine) (j:Nat) (j1:j<vs.toArray.size) (j2:j<vs'.toArray.size) :
 EqAt A.in1 s vs.toArray[j] vs'.toArray[j] (eB xs ys j)/\(eB xs ys j=false->LtAt A.in1 s vs.toArray[j] vs'.toArray[j] (lB xs ys j)):=by
 have k1:j<vs.length:=by simpa using j1
 have k2:j<vs'.length:=by simpa using j2
 have e1:vs[j]?=some vs.toArray[j]:=by simp [k1]
 have e2:vs'[j]?=some vs'.toArray[j]:=by simp [k2]
 obtain ⟨d1,hd1,dt1⟩:=x.get e1
 obtain ⟨d2,hd2,dt2⟩:=x'.get e2
 have g1:xs.getD j .none=d1:=by rw [List.getD_eq_getElem?_getD,hd1];rfl
 have g2:ys.getD j .none=d2:=by rw [List.getD_eq_getElem?_getD,hd2];rfl
 obtain ⟨as,r1⟩:=(dt1.up kg).reads
 obtain ⟨bs,r2⟩:=(dt2.up kg).reads
 have dn:=depth_get hd j d1 hd1
 constructor
 · have:=eqAt_reads d1 d2 A.in1 s _ _ as bs r1 r2 (canLay_get la j d1 hd1) (canLay_get lb j d2 hd2) (by lia)
   rw [eB,g1,g2]
   exact this
 · intro _
   rw [lB,g1,g2]
   exact ih d1 d2 A.in1 s _ _ dt1 dt2 kg dn (canLay_get la j d1 hd1) (canLay_get lb j d2 hd2) (cmpAllP_get hc j d1 d2 hd1 hd2) hu
noncomputable def LtIs(g:Heap)(n:Nat):Prop:=∀(da db:PyData) (A:Around) (s:Shared) (a b:Value),Dt g a da->Dt g b db->Le g s.heap->da.depth<=n->da.canLay0=true->db.canLay0=true->cmpP da db=true->A.units+2*n+1<cLine->LtAt A s a b (ltP da db)
theorem lt_step{g:Heap}(n:Nat)(ih:∀m,n=m+1->LtIs g m):LtIs g n:=by
 intro da db A s a b ha hb kg hd la lb hc hu prog w E Q hq
 cases ha with
 | int x t =>
  cases hb with
  | int y u=>exact P.lt_int hq
  | _=>exact absurd (show false=true from hc) Bool.false_ne_true
 | str x t =>
  cases hb with
  | str y u=>exact P.lt_str hq
  | _=>exact absurd (show false=true from hc) Bool.false_ne_true
 | @list l vs k xs e x =>
  cases n with
  | zero=>exact absurd hd (Nat.not_succ_le_zero _)
  | succ n =>
  cases hb with
  | @list l' vs' k' ys e' x' =>
   have n1:vs.length=xs.length:=x.len
   have n2:vs'.length=ys.length:=x'.len
   have hl:s.TypeIs (.ref l) "list":=⟨_,kg _ _ e,rfl⟩
   have hl':s.TypeIs (.ref l') "list":=⟨_,kg _ _ e',rfl⟩
   refine richCompare_meets_room hl hl' PySem.F.slot_list_lt PySem.F.entry_list_lt (PySem.F.args_list_lt_2 _ _) (list_lt l l' vs.toArray vs'.toArray k k' none none #[] #[] (eB xs ys) (lB xs ys)) ⟨kg _ _ e,kg _ _ e',fun j j1 j2=>?_,?_⟩ (by exact zz309 hu)
   · exact elems n (ih n rfl) x x' kg (zz310 hd) la lb hc (by show A.units+1+2*n+1<cLine;exact zz311 hu) j j1 j2
   · have:=lexB_eq xs ys _ 0 rfl (Nat.zero_le _)
     simp only [List.size_toArray,n1,n2]
     rw [show min xs.length ys.length=min xs.length ys.length-0 from rfl,this]
     exact ⟨by simp,hq⟩
  | _=>exact absurd (show false=true from hc) Bool.false_ne_true
 | @tuple l vs xs e x =>
  cases n with
  | zero=>exact absurd hd (Nat.not_succ_le_zero _)
  | succ n =>
  cases hb with
  | @tuple l' vs' ys e' x' =>
   have n1:vs.length=xs.length:=x.len
   have n2:vs'.length=ys.length:=x'.len
   have hl:s.TypeIs (.ref l) "tuple":=⟨_,kg _ _ e,rfl⟩
   have hl':s.TypeIs (.ref l') "tuple":=⟨_,kg _ _ e',rfl⟩
   refine richCompare_meets_room hl hl' PySem.F.slot_tuple_lt PySem.F.entry_tuple_lt (PySem.F.args_tuple_lt_2 _ _) (tuple_lt l l' vs.toArray vs'.toArray 0 0 none none #[] #[] (eB xs ys) (lB xs ys)) ⟨kg _ _ e,kg _ _ e',fun j j1 j2=>?_,?_⟩ (by exact zz309 hu)
   · exact elems n (ih n rfl) x x' kg (zz310 hd) la lb hc (by show A.units+1+2*n+1<cLine;exact zz311 hu) j j1 j2
   · have:=lexB_eq xs ys _ 0 rfl (Nat.zero_le _)
     simp only [List.size_toArray,n1,n2]
     rw [show min xs.length ys.length=min xs.length ys.length-0 from rfl,this]
     exact ⟨by simp,hq⟩
  | _=>exact absurd (show false=true from hc) Bool.false_ne_true
theorem ltAt_dt{g:Heap}:∀(n:Nat) (da db:PyData) (A:Around) (s:Shared) (a b:Value),Dt g a da->Dt g b db->Le g s.heap->da.depth<=n->da.canLay0=true->db.canLay0=true->cmpP da db=true->A.units+2*n+1<cLine->LtAt A s a b (ltP da db):=fun n=>by
 induction n with
 | zero=>exact lt_step 0 fun m h=>nomatch h
 | succ n ih=>exact lt_step (n+1) fun m h=>by cases h;exact ih
end Mine.Internal
namespace Mine.Internal
open PySem PySem.W PyProof.Rows PySem.Calls PySem.Spec
open PySem.SeqAt
noncomputable def kIn{α:Type}(n:Nat):KasT α->(α->Prop)->Prop
 | .ret a,P=>P a
 | .ask i j k,P=>i<n/\j<n/\∀b,kIn n (k b) P
theorem kIn_bind{α β:Type}{n:Nat}{f:α->KasT β}{P:β->Prop}:∀(t:KasT α),kIn n t (fun a=>kIn n (f a) P)->kIn n (t.bind f) P
 | .ret a,h=>h
 | .ask i j k,h=>⟨h.1,h.2.1,fun b=>kIn_bind (k b) (h.2.2 b)⟩
noncomputable def Small(n:Nat)(p:Array Nat):Prop:=∀x∈p,x<n
theorem Small.at{n:Nat}{p:Array Nat}(h:Small n p)(hn:0<n)(k:Nat):p.getD k 0<n:=by
 rw [Array.getD_eq_getD_getElem?]
 cases q:p[k]? with
 | none=>exact hn
 | some x=>exact h x (Array.mem_of_getElem? q)
theorem Small.perm{n:Nat}{p q:Array Nat}(h:Small n p)(e:q.Perm p):Small n q:=fun x hx=>h x (by
 have:=(Array.perm_iff_toList_perm.mp e).mem_iff (a:=x)
 simpa using this.mp (by simpa using hx))
theorem asc_in{n:Nat}{p:Array Nat}(h:Small n p)(hn:0<n){P:Nat->Prop}(hP:∀m,P m):∀f m:Nat,kIn n (kas_asc p f m) P
 | 0,m=>hP m
 | f+1,m=>⟨h.at hn _,h.at hn _,fun b=>by cases b with|true=>exact hP m|false=>exact asc_in h hn hP f (m+1)⟩
theorem desc_in{n:Nat}(hn:0<n){P:Array Nat×Nat×Nat->Prop}(hP:∀r,Small n r.1->P r):∀(f:Nat) (p:Array Nat) (m q:Nat),Small n p->kIn n (kas_desc f p m q) P
 | 0,p,m,q,h=>hP _ h
 | f+1,p,m,q,h=>⟨h.at hn _,h.at hn _,fun b=>by
  cases b with
  | true =>
   simp only [if_true]
   split
   · exact desc_in hn hP f _ _ _ (h.perm (rev_perm _ _ _))
   · exact desc_in hn hP f _ _ _ h
  | false =>
   simp only [Bool.false_eq_true,if_false]
   exact ⟨h.at hn _,h.at hn _,fun b=>by
    cases b with
    | true=>exact hP _ h
    | false=>exact desc_in hn hP f _ _ _ h⟩⟩
theorem tail3_in{n:Nat}(hn:0<n){P:Nat×Array Nat->Prop}(hP:∀r,Small n r.2->P r){m nrem:Nat}{p:Array Nat}(h:Small n p):kIn n (kas_tail3 m nrem p) P :=
 kIn_bind _ (asc_in (h.perm (rev_perm _ _ _)) hn (fun _=>hP _ (h.perm (rev_perm _ _ _))) _ _)
theorem descPart_in{n:Nat}(hn:0<n){P:Nat×Array Nat->Prop}(hP:∀r,Small n r.2->P r){m nrem:Nat}{p:Array Nat}(h:Small n p):kIn n (kas_descPart m nrem p) P :=
 kIn_bind _ (desc_in hn (fun r hr=>by
  split
  · exact tail3_in hn hP (hr.perm (rev_perm _ _ _))
  · exact tail3_in hn hP hr) _ _ _ _ h)
theorem count_in{n:Nat}(hn:0<n){P:Nat×Array Nat->Prop}(hP:∀r,Small n r.2->P r){nrem:Nat}{p:Array Nat}(h:Small n p):kIn n (kas_count nrem p) P :=
 kIn_bind _ (asc_in h hn (fun m=>by
  split
  · exact hP _ h
  · split
    · exact ⟨h.at hn _,h.at hn _,fun b=>by
       cases b with
       | true=>exact hP _ h
       | false=>exact descPart_in hn hP (h.perm (rev_perm _ _ _))⟩
    · exact descPart_in hn hP h) _ _)
theorem place_in{n:Nat}{p:Array Nat}(h:Small n p)(hn:0<n){P:Nat->Prop}(hP:∀m,P m)(k:Nat):∀f l r:Nat,kIn n (kas_place p k f l r) P
 | 0,l,r=>hP l
 | f+1,l,r=>by
  unfold kas_place
  split
  · exact hP l
  · exact ⟨h.at hn _,h.at hn _,fun b=>by
     cases b with
     | true=>exact place_in h hn hP k f _ _
     | false=>exact place_in h hn hP k f _ _⟩
theorem bin_in{n:Nat}(hn:0<n){P:Array Nat->Prop}(hP:∀p,P p):∀(f:Nat) (p:Array Nat) (k:Nat),Small n p->kIn n (kas_bin f p k) P
 | 0,p,k,h=>hP p
 | f+1,p,k,h=>kIn_bind _ (place_in h hn (fun l=>bin_in hn hP f _ _ (h.perm (bubble_perm _ _ _))) _ _ _ _)
theorem sort_in{n:Nat}(hn:0<n):kIn n (kas_sort n) fun _=>True :=
 kIn_bind _ (count_in hn (fun r hr=>by
  split
  · exact bin_in hn (fun _=>trivial) _ _ _ hr
  · trivial) fun x hx=>by simpa using hx)
theorem kWp{α:Type}{cmp:Nat->Nat->(Bool->Shared->Prop)->Shared->Prop}{lt:Nat->Nat->Bool}{G:α->Shared->Prop}{s:Shared}{n:Nat}(hc:∀i j C,i<n->j<n->C (lt i j) s->cmp i j C s) :
 ∀(t:KasT α),kIn n t (fun _=>True)->G (kRun lt t) s->t.kasWp cmp G s
 | .ret a,_,h=>h
 | .ask i j k,hi,h=>hc i j _ hi.1 hi.2.1 (kWp hc (k (lt i j)) (hi.2.2 _) h)
section
variable{prog:Program}{w:World}{A:Around}{E:Value->Shared->Prop}{s:Shared}
theorem srt_tree{a:Addr}{vs:List Value}{n:Nat}{P:PySem.Fin->Shared->Prop}{T:Value}(ho:s.heap.get? a=some (seqObj "list" vs.toArray n))(h64:vs.length<64)
 (hT:∀h,(∀b o,b≠a->s.heap.get? b=some o->h.get? b=some o)->∀v∈vs,Looks (model prog w) h (typeOf v) T) (hT1:(T != Value.type "tuple")=true) (hT2:(T==T)=true) (lt:Nat->Nat->Bool) (W:Weak lt)
 (cmp:∀(i j:Nat) (h:Heap) (C:Bool->Shared->Prop),i<vs.length->j<vs.length->(∀b o,b≠a->s.heap.get? b=some o->h.get? b=some o)->C (lt i j) {s with heap:=h}->kas_ask prog w A oneType' vs i j C {s with heap:=h})
 (h:∀p:Array Nat,p.Perm (List.toArray (List.range vs.length))->Up lt p vs.length->P (.done (.ret .none)) {s with heap:=sortedHeap s.heap a vs (List.toArray (p.toList.map fun i=>vs.getD i Value.none))}) :
 wpAny (model prog w) A (Builtin.«list.sort» ⟨[.ref a],[]⟩) P E s:=by
 rw [list_sort_plain]
 have ha:a<s.heap.objs.size:=Heap.lt_size ho
 refine wpAny_bind (listItems_at ho rfl ?_)
 refine wpAny_bind (listUpdate_at ho rfl ?_ (by rw [List.size_toArray,sizeLine_eq];exact zz155 h64) (Nat.zero_le _))
 obtain ⟨e1,ho1⟩:∃e1,(s.heap.update a (Obj.mapSeq fun _=>#[])).get? a=some (seqObj "list" #[] e1):=⟨_,get?_update_seq ho (fun _=>#[])⟩
 refine wpAny_bind (seqEpoch_at ho1 rfl ?_)
 refine wpAny_bind (wpAny_newTuple ?_ (by show vs.length<=_;rw [sizeLine_eq];exact zz155 h64))
 refine wpAny_bind (wpAny_newList ?_ (Nat.zero_le _))
 refine wpAny_holding ?_
 have ho6:(((s.heap.update a (Obj.mapSeq fun _=>#[])).push (seqObj "tuple" vs.toArray 0)).push (seqObj "list" #[] 0)).get? a=some (seqObj "list" #[] e1):=by
  rw [Heap.get?_push_ne _ _ _ (by rw [size_push',Heap.size_update];exact Nat.ne_of_lt (Nat.lt_succ_of_lt ha)),Heap.get?_push_ne _ _ _ (by rw [Heap.size_update];exact Nat.ne_of_lt ha)]
  exact ho1
 have kp:∀b o,b≠a->s.heap.get? b=some o->(((s.heap.update a (Obj.mapSeq fun _=>#[])).push (seqObj "tuple" vs.toArray 0)).push (seqObj "list" #[] 0)).get? b=some o:=fun b o hb e =>
  Heap.get?_push_of_some _ (Heap.get?_push_of_some _ ((Heap.get?_update_ne _ _ _ _ hb).trans e))
 show wpAny (model prog w) A _ P E {s with heap:=((s.heap.update a (Obj.mapSeq fun _=>#[])).push (seqObj "tuple" vs.toArray 0)).push (seqObj "list" #[] 0)}
 dsimp only
 have hsz:vs.toArray.size=vs.length:=by simp
 by_cases h2:vs.toArray.size<2
 · rw [if_pos h2,if_pos h2]
   refine wpAny_bind (wpAny_pure ?_)
   rw [StateT.run_pure]
   refine wpAny_bind (wpAny_pure ?_)
   dsimp only
   refine wpAny_bind (seqEpoch_at ho6 rfl ?_)
   refine wpAny_bind (listUpdate_at ho6 rfl ?_ (Nat.zero_le _) (by rw [Array.size_map];show (pairsOf vs).size<=_;rw [pairsOf_size,sizeLine_eq];exact zz312 hsz h2))
   simp only [bne_self_eq_false,Bool.false_eq_true,if_false]
   refine wpAny_pure ?_
   have fin:=h (List.toArray (List.range vs.length)) (Array.Perm.refl _) fun i j hij hj=>by
    have:i=j:=by exact zz313 hsz h2 hij hj
    subst this;exact W.refl _
   have eo:(arrOf (SortSt.mk' general' (vs.toArray.zip vs.toArray) #[] 7 none)).map (·.2)=List.toArray ((List.toArray (List.range vs.length)).toList.map fun i=>vs.getD i Value.none):=by
    have e:=kas_range (pairsOf vs)
    rw [pairsOf_size] at e
    show (pairsOf vs).map (·.2)=_
    apply Array.toList_inj.mp
    rw [←e,Array.map_map,Array.toList_map]
    exact List.map_congr_left fun i _=>by show (kas_item (pairsOf vs) i).2=_;rw [kas_item_eq]
   rw [←eo] at fin
   exact fin
 · rw [if_neg h2,if_neg h2]
   refine wpAny_bind (kas_kind (by exact zz314 hsz h2) (hT _ kp) hT1 hT2 ?_)
   have est:SortSt.mk' oneType' (vs.toArray.zip vs.toArray) #[] 7 none=kas_st oneType' (pairsOf vs) (List.toArray (List.range vs.length)):=by
    have e:=kas_range (pairsOf vs)
    rw [pairsOf_size] at e
    show SortSt.mk' oneType' (pairsOf vs) #[] 7 none=SortSt.mk' oneType' ((List.toArray (List.range vs.length)).map (kas_item (pairsOf vs))) #[] 7 none
    rw [e]
   have S:=sort_up W (n:=vs.length) (by exact zz315 hsz h2)
   have run:=kas_runs (prog:=prog) (w:=w) (A:=A) (E:=E) (κ:=oneType') (it:=pairsOf vs) (n:=vs.length) (s:={s with heap:=(((s.heap.update a (Obj.mapSeq fun _=>#[])).push (seqObj "tuple" vs.toArray 0)).push (seqObj "list" #[] 0))})
    (Q:=fun _ st' s'=>s'={s with heap:=(((s.heap.update a (Obj.mapSeq fun _=>#[])).push (seqObj "tuple" vs.toArray 0)).push (seqObj "list" #[] 0))}/\arrOf st'=(kRun lt (kas_sort vs.length)).map (kas_item (pairsOf vs))/\failedOf st'=none)
    (G:=fun p s'=>s'={s with heap:=(((s.heap.update a (Obj.mapSeq fun _=>#[])).push (seqObj "tuple" vs.toArray 0)).push (seqObj "list" #[] 0))}/\p=kRun lt (kas_sort vs.length))
    (by exact zz314 hsz h2) h64 (fun p' st' s' a1 a2 a3 a4=>⟨a4.1,by rw [a2,a4.2],a3⟩) (kWp (fun i j C hi hj hC=>by
     have:=cmp i j _ C hi hj kp hC
     rw [kas_ask_eq] at this
     exact this) _ (sort_in (by exact zz316 hsz h2)) ⟨rfl,rfl⟩)
   rw [←est] at run
   refine wpAny_bind (wpAny_mono run ?_ fun _ _ e=>e)
   rintro ⟨⟨⟩,st'⟩ s' ⟨rfl,har,hf⟩
   dsimp only
   have hout:(arrOf st').map (·.2)=List.toArray ((kRun lt (kas_sort vs.length)).toList.map fun i=>vs.getD i Value.none):=by
    apply Array.toList_inj.mp
    rw [har,Array.map_map,Array.toList_map]
    exact List.map_congr_left fun i _=>by show (kas_item (pairsOf vs) i).2=_;rw [kas_item_eq]
   have hps:(kRun lt (kas_sort vs.length)).size=vs.length:=by have:=S.1.size_eq;simpa using this
   rw [hout]
   refine wpAny_bind (seqEpoch_at ho6 rfl ?_)
   refine wpAny_bind (listUpdate_at ho6 rfl ?_ (Nat.zero_le _) (by simp only [List.size_toArray,List.length_map,Array.length_toList,hps];rw [sizeLine_eq];exact zz317 h64))
   rw [hf]
   simp only [bne_self_eq_false,Bool.false_eq_true,if_false]
   exact wpAny_pure (h _ S.1 S.2)
theorem sorted_tree{l:Addr}{vs:List Value}{T:Value}{Q:Value->Shared->Prop}(hl:s.heap.IsList l vs.toArray)(h64:vs.length<64)
 (hT:∀h,(∀b o,s.heap.get? b=some o->h.get? b=some o)->∀v∈vs,Looks (model prog w) h (typeOf v) T) (hT1:(T != Value.type "tuple")=true) (hT2:(T==T)=true) (lt:Nat->Nat->Bool) (W:Weak lt)
 (cmp:∀(i j:Nat) (h:Heap) (C:Bool->Shared->Prop),i<vs.length->j<vs.length->(∀b o,s.heap.get? b=some o->h.get? b=some o)->C (lt i j) {s with heap:=h}->kas_ask prog w A.in1.in1 oneType' vs i j C {s with heap:=h})
 (h:∀p:Array Nat,p.Perm (List.toArray (List.range vs.length))->Up lt p vs.length->Q (.ref (s.heap.objs.size+1)) {s with heap:=sortedAll s.heap vs (List.toArray (p.toList.map fun i=>vs.getD i Value.none))}) :
 wpAny (model prog w) A (call (.builtin "sorted") [.ref l]) Q E s:=by
 refine Calls.call_function_entry kind_sorted plain_sorted entry_sorted (args_sorted1 _) ?_
 unfold Builtin.«sorted»
 refine wpAny_bind (m:=checkCount "sorted" 1 1 _) (wpAny_pure ?_)
 refine wpAny_bind (collect_list hl ?_ (by rw [sizeLine_eq];exact zz155 h64))
 refine wpAny_bind (wpAny_newList ?_ (by rw [sizeLine_eq];exact zz155 h64))
 have hsz:((s.heap.push (seqObj "list" #[] 0)).update s.heap.objs.size (Obj.mapSeq (·++vs.toArray))).objs.size=s.heap.objs.size+1:=by
  rw [Heap.size_update,size_push']
 have hoL:(((s.heap.push (seqObj "list" #[] 0)).update s.heap.objs.size (Obj.mapSeq (·++vs.toArray))).push (seqObj "list" vs.toArray 0)).get? (s.heap.objs.size+1)=some (seqObj "list" vs.toArray 0):=by
  rw [←hsz];exact Heap.get?_push_size _ rfl
 have keep:∀b o,s.heap.get? b=some o->(((s.heap.push (seqObj "list" #[] 0)).update s.heap.objs.size (Obj.mapSeq (·++vs.toArray))).push (seqObj "list" vs.toArray 0)).get? b=some o:=fun b o q=>by
  have hlt:b<s.heap.objs.size:=Heap.lt_size q
  rw [Heap.get?_push_ne _ _ _ (by rw [hsz];exact Nat.ne_of_lt (Nat.lt_succ_of_lt hlt)),Heap.get?_update_ne _ _ _ _ (Nat.ne_of_lt hlt),Heap.get?_push_ne _ _ _ (Nat.ne_of_lt hlt)]
  exact q
 show wpAny _ _ _ _ _ {s with heap:=((s.heap.push (seqObj "list" #[] 0)).update s.heap.objs.size (Obj.mapSeq (·++vs.toArray))).push (seqObj "list" vs.toArray 0)}
 rw [hsz]
 have kp:∀(h':Heap),(∀b o,b≠s.heap.objs.size+1->(((s.heap.push (seqObj "list" #[] 0)).update s.heap.objs.size (Obj.mapSeq (·++vs.toArray))).push (seqObj "list" vs.toArray 0)).get? b=some o->h'.get? b=some o)->∀b o,s.heap.get? b=some o->h'.get? b=some o :=
  fun h' k b o e=>k b o (Nat.ne_of_lt (Nat.lt_succ_of_lt (Heap.lt_size e))) (keep b o e)
 refine wpAny_bind (wpAny_holding (wpAny_call_entry slot_list_sort ⟨_,hoL,rfl⟩ entry_list_sort (srt_tree (T:=T) (s:={s with heap:=((s.heap.push (seqObj "list" #[] 0)).update s.heap.objs.size (Obj.mapSeq (·++vs.toArray))).push (seqObj "list" vs.toArray 0)}) hoL h64 (fun h' k=>hT h' (kp h' k)) hT1 hT2 lt W
  (fun i j h' C hi hj k hC=>cmp i j h' C hi hj (kp h' k) hC) fun p a1 a2=>⟨_,rfl,?_⟩) (args_list_sort _)))
 exact wpAny_pure ⟨_,rfl,h p a1 a2⟩
end
section
variable{prog:Program}{w:World}{A:Around}{E:Value->Shared->Prop}{s:Shared}{g:Heap}
theorem keyLt_list{l l':Addr}{vs vs':List Value}{k k':Nat}{xs ys:List PyData}{Q:Bool->Shared->Prop}(e:g.get? l=some (lstObj vs k))(e':g.get? l'=some (lstObj vs' k'))(x:Dts g vs xs)(x':Dts g vs' ys)(kg:Le g s.heap)
 (hd:PyData.depthAll xs<=9) (la:PyData.canLayAll0 xs=true) (lb:PyData.canLayAll0 ys=true) (hc:cmpAllP xs ys=true) (hu:A.units+30<cLine) (h:Q (ltAllP xs ys) s) :
 wpAny (model prog w) A (keyLt' oneType' (.ref l) (.ref l')) Q E s:=by
 rw [keyLt'_oneType,oneLt'_eq]
 simp only [if_true]
 have n1:vs.length=xs.length:=x.len
 have n2:vs'.length=ys.length:=x'.len
 have hl:s.TypeIs (.ref l) "list":=⟨_,kg _ _ e,rfl⟩
 refine wpAny_bind (wpAny_cRoomFor (by exact zz38 hu) ?_)
 refine wpAny_bind (wpAny_callSpecialIfBound?_slot hl PySem.F.slot_list_lt (call_meets PySem.F.slot_list_lt hl PySem.F.entry_list_lt (PySem.F.args_list_lt_2 _ _) (list_lt l l' vs.toArray vs'.toArray k k' none none #[] #[] (eB xs ys) (lB xs ys)) ⟨kg _ _ e,kg _ _ e',fun j j1 j2=>?_,?_⟩))
 · exact elems 9 (ltAt_dt 9) x x' kg hd la lb hc (by show A.units+1+18+1<cLine;exact zz318 hu) j j1 j2
 · have:=lexB_eq xs ys _ 0 rfl (Nat.zero_le _)
   simp only [List.size_toArray,n1,n2]
   rw [show min xs.length ys.length=min xs.length ys.length-0 from rfl,this]
   exact wpAny_truthy_bool h
end
end Mine.Internal
namespace Mine.Internal
open PySem PySem.W PyProof.Rows PySem.Calls PySem.Spec
open PySem.SeqAt
theorem map_getD_range{α:Type}(d:α):∀(r:List α),(List.range r.length).map (fun i=>r.getD i d)=r:=by
 intro r
 apply List.ext_getElem
 · simp
 · intro i h1 h2;simp [h2]
theorem perm_list{p:Array Nat}{n:Nat}(hp:p.Perm (List.toArray (List.range n))):p.toList.Perm (List.range n):=by
 have:=Array.perm_iff_toList_perm.mp hp
 simpa using this
section
variable{α:Type}{f:α->PyData}{g:Heap}
theorem sort_out(d:α){p:Array Nat}{vs:List Value}{r:List α}(hp:p.Perm (List.toArray (List.range vs.length)))(h:Dts g vs (r.map f)) :
 Dts g (p.toList.map fun i=>vs.getD i Value.none) ((p.toList.map fun i=>r.getD i d).map f)/\(p.toList.map fun i=>r.getD i d).Perm r:=by
 have hl:vs.length=r.length:=by simpa using h.len
 have hpl:=perm_list hp
 constructor
 · refine Dts.of_get (by simp) fun i v y hv hy=>?_
   rw [List.map_map] at hy
   rw [List.getElem?_map] at hv hy
   cases q:p.toList[i]? with
   | none=>rw [q] at hv;cases hv
   | some j =>
    rw [q] at hv hy
    simp only [Option.map_some,Option.some.injEq] at hv hy
    have hj:j<vs.length:=by
     have:=hpl.mem_iff.mp (List.mem_of_getElem? q)
     simpa using this
    have hj2:j<r.length:=by exact zz40 hl hj
    obtain ⟨d',hd',dt⟩:=h.get (i:=j) (v:=vs[j]) (by simp [hj])
    have e1:vs.getD j Value.none=vs[j]:=by simp [hj]
    have e2:r.getD j d=r[j]:=by simp [hj2]
    rw [←hv,←hy]
    simp only [Function.comp]
    rw [e1,e2]
    have:d'=f r[j]:=by
     rw [List.getElem?_map,List.getElem?_eq_getElem hj2] at hd'
     simpa using hd'.symm
    rw [←this];exact dt
 · have:=hpl.map fun i=>r.getD i d
   rw [hl,map_getD_range] at this
   exact this
theorem sort_pair(d:α){p:Array Nat}{n:Nat}{r:List α}{blt:α->α->Bool}(hs:p.size=n)(h:Up (fun i j=>blt (r.getD i d) (r.getD j d)) p n):(p.toList.map fun i=>r.getD i d).Pairwise fun a b=>blt b a=false:=by
 rw [List.pairwise_iff_getElem]
 intro i j hi hj hij
 simp only [List.getElem_map,Array.getElem_toList]
 have hi':i<p.size:=by simpa using hi
 have hj':j<p.size:=by simpa using hj
 have:=h i j (Nat.le_of_lt hij) (by exact zz40 hs hj')
 have e1:p.getD i 0=p[i]:=by simp [Array.getD,hi']
 have e2:p.getD j 0=p[j]:=by simp [Array.getD,hj']
 rw [e1,e2] at this
 exact this
end
noncomputable def Sorts{α:Type}(f:α->PyData)(blt:α->α->Bool):Prop :=
 ∀{w:World} {A:Around} {E:Value->Shared->Prop} {s:Shared} {h₀ g₀ g:Heap} {xt:List Addr} {L:Addr} {N:List Str} {vs:List (Option Value)} {mu:List (Addr×Obj)} {n:Nat} {Q:Value->Shared->Prop} {l:Addr} {items:List Value} {k:Nat} {r:List α},
  Ok A n->St h₀ xt g₀ g L N vs mu s.heap->g.get? l=some (lstObj items k)->Dts g items (r.map f)->r.length<64 ->
  (∀D g' h' out e (r':List α),Le g g'->r'.Perm r->r'.Pairwise (fun a b=>blt b a=false)->g'.get? D=some (lstObj out e)->Dts g' out (r'.map f)->St h₀ xt g₀ g' L N vs mu h'->Q (.ref D) {s with heap:=h'}) ->
  wpAny (model pw w) A (call (.builtin "sorted") [.ref l]) Q E s
structure WeakB{α:Type}(blt:α->α->Bool):Prop where
 refl:∀a,blt a a=false
 trans:∀a b c,blt b a=false->blt c b=false->blt c a=false
 asym:∀a b,blt a b=true->blt b a=false
theorem sorts_of{α:Type}(d:α){f:α->PyData}{blt:α->α->Bool}(T:Value)(W:WeakB blt)
 (hT:∀(w:World) (g:Heap) (v:Value) (a:α),Dt g v (f a)->Looks (model pw w) g (typeOf v) T) (hT1:(T != Value.type "tuple")=true) (hT2:(T==T)=true)
 (cmp:∀(w:World) (A:Around) (s:Shared) (g:Heap) (v v':Value) (a b:α) (C:Bool->Shared->Prop),A.units+40<cLine->Dt g v (f a)->Dt g v' (f b)->Le g s.heap->C (blt a b) s->wpAny (model pw w) A (keyLt' oneType' v v') C no s):Sorts f blt:=by
 intro w A E s h₀ g₀ g xt L N vs mu n Q l items k r hA F hl hds h64 h
 have hlen:items.length=r.length:=by simpa using hds.len
 have getd:∀i,i<items.length->Dt g (items.getD i Value.none) (f (r.getD i d)):=fun i hi=>by
  obtain ⟨d',hd',dt⟩:=hds.get (i:=i) (v:=items[i]) (by simp [hi])
  have hi2:i<r.length:=by exact zz40 hlen hi
  have e1:items.getD i Value.none=items[i]:=by simp [hi]
  have e2:r.getD i d=r[i]:=by simp [hi2]
  rw [e1,e2]
  have:d'=f r[i]:=by
   rw [List.getElem?_map,List.getElem?_eq_getElem hi2] at hd'
   simpa using hd'.symm
  rw [←this];exact dt
 refine sorted_tree (T:=T) ⟨_,F.keep _ _ hl,rfl,_,rfl⟩ (by exact zz41 h64 hlen) (fun h' kp v hv=>?_) hT1 hT2 (fun i j=>blt (r.getD i d) (r.getD j d)) ⟨fun a=>W.refl _,fun a b c=>W.trans _ _ _,fun a b=>W.asym _ _⟩ (fun i j h' C hi hj kp hC=>?_) fun p hp hu=>?_
 · obtain ⟨i,hi⟩:=List.getElem?_of_mem hv
   obtain ⟨d',hd',dt⟩:=hds.get hi
   obtain ⟨a,-,rfl⟩:=List.mem_map.mp (List.mem_of_getElem? hd')
   exact (hT w g v a dt).keeps (F.keep.tr kp)
 · exact cmp w _ _ g _ _ _ _ C (by have:=hA.c;show A.units+1+1+40<cLine;exact zz319 this) (getd i hi) (getd j hj) (F.keep.tr kp) hC
 · obtain ⟨e,he⟩:=sortedAll_at s.heap items (List.toArray (p.toList.map fun i=>items.getD i Value.none))
   have k1:Le s.heap (sortedAll s.heap items (List.toArray (p.toList.map fun i=>items.getD i Value.none))):=fun b o q=>sortedAll_old q
   have O:=out_of F.keep k1 (Nat.le_trans (Nat.le_succ _) (Nat.le_of_lt (Heap.lt_size he)))
   obtain ⟨o1,o2⟩:=sort_out (f:=f) d hp hds
   refine h _ _ _ _ e _ O.mono o2 (sort_pair d (by have:=hp.size_eq;simpa using this) hu) ?_ (o1.up O.mono) (F.call O)
   rw [only_get,if_pos (by simp),he]
theorem weakB_lt{α:Type}[LT α][DecidableLT α](r:∀a:α,¬a<a)(t:∀a b c:α,a<b->b<c->a<c)(n:∀a b c:α,a<c->a<b\/b<c):WeakB (fun a b:α=>decide (a<b)) where
 refl a:=by simpa using r a
 trans a b c h1 h2:=by
  simp only [decide_eq_false_iff_not] at *
  intro h3
  rcases n c b a h3 with q|q
  · exact h2 q
  · exact h1 q
 asym a b h:=by
  simp only [decide_eq_true_eq,decide_eq_false_iff_not] at *
  intro h2
  exact r _ (t _ _ _ h h2)
theorem weakB_map{α β:Type}{blt:β->β->Bool}(f:α->β)(W:WeakB blt):WeakB (fun a b=>blt (f a) (f b)):=⟨fun a=>W.refl _,fun a b c=>W.trans _ _ _,fun a b=>W.asym _ _⟩
theorem list_neg{α:Type}[LT α][DecidableLT α][DecidableEq α](n:∀a b c:α,a<c->a<b\/b<c)(tri:∀a b:α,¬a<b->¬b<a->a=b)(t:∀a b c:α,a<b->b<c->a<c):∀a b c:List α,a<c->a<b\/b<c
 | _,[],[],h=>absurd h (List.not_lt_nil _)
 | [],_::_,_,_=>.inl (List.nil_lt_cons _ _)
 | _,[],_::_,_=>.inr (List.nil_lt_cons _ _)
 | _,_::_,[],h=>absurd h (List.not_lt_nil _)
 | x::xs,y::ys,z::zs,h=>by
  rw [List.cons_lt_cons_iff] at h ⊢
  rw [List.cons_lt_cons_iff]
  rcases h with h|⟨rfl,h⟩
  · rcases n x y z h with q|q
    · exact .inl (.inl q)
    · exact .inr (.inl q)
  · by_cases q1:x<y
    · exact .inl (.inl q1)
    · by_cases q2:y<x
      · exact .inr (.inl q2)
      · have:=tri _ _ q1 q2
        subst this
        rcases list_neg n tri t xs ys zs h with q|q
        · exact .inl (.inr ⟨rfl,q⟩)
        · exact .inr (.inr ⟨rfl,q⟩)
theorem list_tri{α:Type}[LT α](tri:∀a b:α,¬a<b->¬b<a->a=b):∀a b:List α,¬a<b->¬b<a->a=b
 | [],[],_,_=>rfl
 | [],_::_,h,_=>absurd (List.nil_lt_cons _ _) h
 | _::_,[],_,h=>absurd (List.nil_lt_cons _ _) h
 | x::xs,y::ys,h1,h2=>by
  rw [List.cons_lt_cons_iff] at h1 h2
  have e:x=y:=tri _ _ (fun q=>h1 (.inl q)) (fun q=>h2 (.inl q))
  subst e
  rw [list_tri tri xs ys (fun q=>h1 (.inr ⟨rfl,q⟩)) (fun q=>h2 (.inr ⟨rfl,q⟩))]
theorem list_irr{α:Type}[LT α](r:∀a:α,¬a<a):∀a:List α,¬a<a
 | [],h=>List.not_lt_nil _ h
 | x::xs,h=>by
  rw [List.cons_lt_cons_iff] at h
  rcases h with h|⟨_,h⟩
  · exact r _ h
  · exact list_irr r xs h
theorem list_tra{α:Type}[LT α](t:∀a b c:α,a<b->b<c->a<c):∀a b c:List α,a<b->b<c->a<c
 | _,[],_,h,_=>absurd h (List.not_lt_nil _)
 | _,_::_,[],_,h=>absurd h (List.not_lt_nil _)
 | [],_::_,_::_,_,_=>List.nil_lt_cons _ _
 | x::xs,y::ys,z::zs,h1,h2=>by
  rw [List.cons_lt_cons_iff] at *
  rcases h1 with h1|⟨rfl,h1⟩
  · rcases h2 with h2|⟨rfl,h2⟩
    · exact .inl (t _ _ _ h1 h2)
    · exact .inl h1
  · rcases h2 with h2|⟨rfl,h2⟩
    · exact .inl h2
    · exact .inr ⟨rfl,list_tra t _ _ _ h1 h2⟩
theorem nat_neg(a b c:Nat)(h:a<c):a<b\/b<c:=by exact zz320 h
theorem nat_tri(a b:Nat)(h1:¬a<b)(h2:¬b<a):a=b:=by exact zz321 h1 h2
theorem weak_names:WeakB (fun a b:List Nat=>decide (a<b)):=weakB_lt (list_irr Nat.lt_irrefl) (list_tra fun _ _ _=>Nat.lt_trans) (list_neg nat_neg nat_tri fun _ _ _=>Nat.lt_trans)
theorem weak_places:WeakB (fun a b:Pl=>decide (a<b)) :=
 weakB_lt (list_irr (list_irr Nat.lt_irrefl)) (list_tra (list_tra fun _ _ _=>Nat.lt_trans)) (list_neg (list_neg nat_neg nat_tri fun _ _ _=>Nat.lt_trans) (list_tri nat_tri) (list_tra fun _ _ _=>Nat.lt_trans))
theorem ltAllP_map{α:Type}[LT α][DecidableLT α][DecidableEq α]{f:α->PyData}(he:∀a b,PyData.eqv (f a) (f b)=decide (a=b))(hl:∀a b,ltP (f a) (f b)=decide (a<b))(irr:∀a:α,¬a<a):∀xs ys:List α,ltAllP (xs.map f) (ys.map f)=decide (xs<ys)
 | [],[]=>(decide_eq_false (List.not_lt_nil _)).symm
 | [],y::ys=>(decide_eq_true (List.nil_lt_cons y ys)).symm
 | x::xs,[]=>(decide_eq_false (List.not_lt_nil _)).symm
 | x::xs,y::ys=>by
  show (if PyData.eqv (f x) (f y) then ltAllP (xs.map f) (ys.map f) else ltP (f x) (f y))=_
  rw [he,hl,ltAllP_map he hl irr xs ys]
  by_cases e:x=y
  · subst e;simp [List.cons_lt_cons_iff,irr]
  · simp [List.cons_lt_cons_iff,e]
theorem ltP_int(a b:Nat):ltP (.int (a:Int)) (.int (b:Int))=decide (a<b):=show decide ((a:Int)<(b:Int))=_ from decide_eq_decide.mpr Int.ofNat_lt
theorem ltP_name(a b:List Nat):ltP (dName a) (dName b)=decide (a<b):=ltAllP_map eqv_int ltP_int Nat.lt_irrefl a b
theorem ltP_place(a b:Pl):ltAllP (a.map dName) (b.map dName)=decide (a<b):=ltAllP_map eqv_name ltP_name (list_irr Nat.lt_irrefl) a b
theorem cmpAllP_map{α:Type}{f:α->PyData}(h:∀a b,cmpP (f a) (f b)=true):∀xs ys:List α,cmpAllP (xs.map f) (ys.map f)=true
 | [],[]=>rfl
 | [],_::_=>rfl
 | _::_,[]=>rfl
 | x::xs,y::ys=>by show (cmpP (f x) (f y)&&cmpAllP (xs.map f) (ys.map f))=true;rw [h,cmpAllP_map h xs ys];rfl
theorem cmp_name(a b:List Nat):cmpP (dName a) (dName b)=true:=cmpAllP_map (f:=fun k:Nat=>.int (k:Int)) (fun _ _=>rfl) a b
theorem sorts_places:Sorts dPlace (fun a b=>decide (a<b)):=by
 refine sorts_of (d:=[]) (.type "list") weak_places (fun w g v a h=>?_) rfl rfl fun w A s g v v' a b C hu h h' kg hC=>?_
 · obtain ⟨l,vs,k,rfl,e,x⟩:=h.listInv
   intro A Q E s k q
   exact wpAny_typeOf ⟨_,k _ _ e,rfl⟩ q
 · obtain ⟨l,vs,k,rfl,e,x⟩:=h.listInv
   obtain ⟨l',vs',k',rfl,e',x'⟩:=h'.listInv
   refine keyLt_list e e' x x' kg ?_ ?_ ?_ (cmpAllP_map cmp_name a b) (by exact zz322 hu) ?_
   · have:=depth_place a
     simp only [dPlace,PyData.depth] at this
     exact zz323 this
   · have:=canLay_place a
     simpa only [dPlace,PyData.canLay0] using this
   · have:=canLay_place b
     simpa only [dPlace,PyData.canLay0] using this
   · rw [ltP_place];exact hC
end Mine.Internal
namespace Mine.Internal
open PySem PySem.W PyProof.Rows PySem.Calls PySem.Spec
noncomputable def kp{α:Type}[DecidableEq α](acc:List α)(x:α):List α:=if acc.getLast?=some x then acc else acc++[x]
noncomputable def keepL{α:Type}[DecidableEq α](r:List α):List α:=r.foldl kp []
section
variable{prog:Program}{w:World}{A:Around}{s:Shared}{env:Env}{E:Value->Shared->Prop}{g:Heap}
theorem eqH{a b:Addr}{xs ys:List Value}{j k:Nat}{dx dy:List PyData}{Q:Value->Shared->Prop}(kk:Le g s.heap)(ha:s.heap.get? a=some (lstObj xs j))(hb:s.heap.get? b=some (lstObj ys k))(hx:Dts g xs dx)(hy:Dts g ys dy)
 (sa:SeqAt.shaped (.list dx)=true) (sb:SeqAt.shaped (.list dy)=true) (hu:A.units+65<cLine) (h:Q (.bool (PyData.eqvAll dx dy)) s):wpAny (model prog w) A (compareOp .Eq (.ref a) (.ref b)) Q E s:=by
 obtain ⟨as,ra⟩:=(hx.up kk).reads
 obtain ⟨bs,rb⟩:=(hy.up kk).reads
 exact eq_dataH (.list ha rfl rfl (by simpa using ra)) (.list hb rfl rfl (by simpa using rb)) sa sb (by exact zz2 hu) h
theorem itemLast{l:Addr}{xs:List Value}{k:Nat}{t:Tok}{x:Value}{Q:Value->Shared->Prop}(hl:s.heap.get? l=some (lstObj (xs++[x]) k))(h:Q x s):ItemOn (model prog w) A E (.ref l) (.int (-1) t) Q s :=
 ⟨"list",_,list_getitem_lookup,⟨_,hl,rfl⟩,wpAny_getItem_list_neg ⟨_,hl,rfl,_,rfl⟩ (by exact zz71) (by simp;exact zz72) (by decide) (by
  have e:(-1+((xs++[x]).toArray.size:Int)).toNat=xs.length:=by simp;lia
  rw [e];simp) h⟩
end
theorem eqvAll_nil{α:Type}{f:α->PyData}{K:List α}{y:α}:PyData.eqvAll ((K++[y]).map f) []=false:=by cases K<;>rfl
theorem lastK{α:Type}{f:α->PyData}{g:Heap}{xs:List Value}{K:List α}(hxs:Dts g xs (K.map f)){G:Prop}(k0:K=[]->G)(k1:∀K' y ys z,K=K'++[y]->xs=ys++[z]->Dt g z (f y)->G):G:=by
 rcases List.eq_nil_or_concat K with e|⟨K',y,e⟩
 · exact k0 e
 rcases List.eq_nil_or_concat xs with q|⟨ys,z,q⟩
 · have:=hxs.len;rw [q,e] at this;simp at this
 rw [List.concat_eq_append] at e q
 refine k1 K' y ys z e q ?_
 subst e q
 have hyl:ys.length=K'.length:=by simpa using hxs.len
 obtain ⟨d,hd,hdz⟩:=hxs.get (i:=ys.length) (v:=z) (by simp)
 rw [hyl] at hd
 rw [show d=f y by simpa using hd.symm] at hdz
 exact hdz
section
variable{w:World}{N Gl:List Str}{c:Fr w N Gl}{g:Heap}{V:List (Option Value)}{mu pre post:List (Addr×Obj)}{h:Heap}
theorem keptT{α:Type}[DecidableEq α]{f:α->PyData}(he:∀a b,PyData.eqv (f a) (f b)=decide (a=b))(hsh:∀a,SeqAt.shaped (f a)=true)(hshl:∀l:List α,SeqAt.shaped (.list (l.map f))=true)
 {ad:Addr} {xs:List Value} {j kk:Nat} {K:List α} {x:α} {v:Value} {kn rn:Str} {p1 p2 p3 p4 p5 p6 p7 p8 p9 p10:Pos} (i i2:Nat) (F:c.S g V (pre++(ad,lstObj xs j)::post) h) (hxs:Dts g xs (K.map f)) (hd:Dt g v (f x)) (hu:c.A.units+65<cLine)
 (hv:autoParam (V[i]?=some (some (.ref ad))) au0) (hv2:autoParam (V[i2]?=some (some v)) au0) (hx:autoParam (N[i]?=some kn) au0) (hx2:autoParam (N[i2]?=some rn) au0) :
 c.TM g V (pre++(ad,lstObj xs j)::post) h (.BoolOp .Or [.Compare (.Name kn p1) [.Eq] [.List [] p2] p3,.Compare (.Subscript (.Name kn p4) (.UnaryOp .USub (.Constant (.int 1) kk p5) p6) p7) [.NotEq] [.Name rn p8] p9] p10) (decide (K.getLast?≠some x)):=by
 refine lastK hxs (fun e=>?_) fun K' y ys z e1 e2 hz=>?_
 · subst e
   exact fun Er Q t q=>isTrue_or (wpAny_isTrue_Compare1 ((Fr.nV (c:=c) i F hv hx).use fun _ t=>lstE (sp0 (newLst (s:=c.st h t) F fun l2 g₂ h k2 eD2 F=>eqH (s:=c.st h t) (g:=g₂) F.keep (F.mt (ad,lstObj xs j) (List.mem_append_right _ (.head _))).1 (F.keep _ _ eD2) (hxs.up k2) .nil (hshl _) rfl hu (wpAny_truthy_bool (q _ _ _ k2 F))))))
 · subst e1 e2
   rw [List.getLast?_concat]
   refine fun Er Q t q=>isTrue_or (wpAny_isTrue_Compare1 ((Fr.nV (c:=c) i F hv hx).use fun _ t=>lstE (sp0 (newLst (s:=c.st h t) F fun l2 g₂ h k2 eD2 F=>eqH (s:=c.st h t) (g:=g₂) F.keep (F.mt (ad,lstObj _ j) (List.mem_append_right _ (.head _))).1 (F.keep _ _ eD2) (hxs.up k2) .nil (hshl _) rfl hu (wpAny_truthy_bool ?_)))))
   rw [eqvAll_nil,if_neg Bool.false_ne_true]
   refine isTrue_or (wpAny_isTrue_Compare1 (Subscript_UnaryOp ((Fr.nV (c:=c) i F hv hx).use fun _ t=>UnaryOp_ (wpAny_Constant_int (P.neg_int (itemLast (F.mt (ad,lstObj _ j) (List.mem_append_right _ (.head _))).1 ((Fr.nV (c:=c) i2 F hv2 hx2).use fun _ t=>neD (s:=c.st h t) F.keep (hz.up k2) (hd.up k2) (hsh y) (hsh x) hu (wpAny_truthy_bool ?_))))))))
   have q:=q _ _ t k2 F
   revert q
   rw [he,show (!decide (y=x))=decide (some y≠some x) by simp]
   generalize Q=Q
   cases decide (some y≠some x) with
   | true=>exact fun q=>by rw [if_pos rfl];exact q
   | false=>exact fun q=>by rw [if_neg Bool.false_ne_true];exact isTrue_or_nil q
end
section
variable{w:World}{A:Around}{s:Shared}{g:Heap}{n:Nat}
theorem listing_gives{α:Type}[DecidableEq α]{f:α->PyData}{blt:α->α->Bool}(hs:Sorts f blt)(he:∀a b,PyData.eqv (f a) (f b)=decide (a=b))(hsh:∀a,SeqAt.shaped (f a)=true)(hshl:∀l:List α,SeqAt.shaped (.list (l.map f))=true)
 (X:Stat g) (kg:Le g s.heap) (hA:Ok A (n+1)) (v:Value) (r:List α) (hv:Dt g v (.list (r.map f))) (hr:r.length<64) :
 Gives pw w A (.call (.ref 418) ⟨[v],[]⟩) s [] g (fun g' _ x=>∃r':List α,r'.Perm r/\r'.Pairwise (fun a b=>blt b a=false)/\Dt g' x (.list ((keepL r').map f))):=by
 obtain ⟨l,items,k,rfl,hl,hds⟩:=hv.listInv
 refine Gives.fr 23 [.ref l] ["rows"] ["kept","row"] ["rows","kept","row"] ["sorted"] rfl X kg hA rfl (BindsTo.of_eq rfl) rfl rfl (by decide +kernel) ?_
 intro h t env A' QQ C hA' c V F hQ
 refine Fr.xNilO (c:=c) 1 F ?_
 intro a ha V h t F
 refine wpAny_execs_cons (For_ (C1 (N_sorted (s:=c.st h t) C X F.keep (.head _) ((Fr.nV (c:=c) 0 F).use fun _ t=>⟨trivial,hs (s:=c.st h t) hA' F hl hds hr fun D g₁ h out e r' k1 hperm hpw eD hout F=>?_⟩))))
 refine Fr.iterL (c:=c) 2 F eD (fun i g' V' mu'=>∀G:List (Option Value)->List (Addr×Obj)->Prop,(∀xs j u,Dts g' xs ((keepL (r'.take i)).map f)->xs.length<=i->G [some (.ref l),some (.ref a),u] [(a,lstObj xs j)])->G V' mu') (fun G q=>q [] 0 none .nil (Nat.le_refl _)) ?_ ?_
 · intro i v g' V' mu' I oI h t TT hi kg' hJ
   apply hJ
   intro xs j u hxs hxl hT V F
   apply Dts.getP hout hi
   intro x hx hdx
   have hir:i<r'.length:=(List.getElem?_eq_some_iff.mp hx).1
   have ek:keepL (r'.take (i+1))=kp (keepL (r'.take i)) x:=by
    rw [take_nx hx,keepL,List.foldl_append];rfl
   refine Fr.xIfM (keptT he hsh hshl (pre:=[(I,oI)]) 1 2 F hxs (hdx.up kg') hA'.c) (fun q g₂ h t k2 F=>?_) fun q g₂ h t k2 F=>Fr.xNil (hT.go k2 F fun G w=>w xs j _ ?_ (Nat.le_succ_of_le hxl))
   · refine Fr.xAppE (c:=c) (pre:=[(I,oI)]) (Fr.nV 1 F) F (by exact zz74 hxl hir (hperm.length_eq▸hr)) (Fr.nV 2 F) fun k h t F=>Fr.xNil (hT.go k2 F fun G w=>w (xs++[v]) (j+1) _ ?_ (by rw [List.length_append];exact Nat.succ_le_succ hxl))
     rw [ek,kp,if_neg (of_decide_eq_true q),List.map_append]
     exact (hxs.up k2).snoc (hdx.up (kg'.tr k2))
   · rw [ek,kp,if_pos (Decidable.not_not.mp (of_decide_eq_false q))]
     exact hxs.up k2
 · intro g' V' mu' h t kg' hJ
   apply hJ
   intro xs j u hxs hxl F
   refine Fr.S.freeze F ha fun g₂ k2 eD F=>Fr.xRet (c:=c) (Fr.nV 1 F) fun k t=>hQ _ _ _ _ F.out ⟨r',hperm,hpw,.list eD ?_⟩
   rw [hout.len,List.length_map,List.take_length] at hxs
   exact hxs.up k2
end
end Mine.Internal
namespace Mine.Internal
open PySem PySem.W PyProof.Rows PySem.Calls PySem.Spec
open AutoSeq1 (wpAny_loadPart')
theorem mro_map:mroOf (.type "map")=pure [.type "map",.type "object"]:=by rw [mroOf_type];kernel_rfl
theorem lookup_map_new:typeLookup (.type "map") "__new__"=pure (some (.builtin "map.__new__")):=by rw [typeLookup_type,builtinLookup_eq_fast];kernel_rfl
theorem slot_map_next:Slot "map" "__next__" "map.__next__" :=
 .of (owner:="map") (n:="__next__") (by rw [typeLookup_type,builtinLookup_eq_fast];kernel_rfl) (by decide +kernel) (by decide +kernel) (by decide +kernel)
  (by first|exact .inl (by decide +kernel)|exact .inr (by decide +kernel)) (by rw [isSubtype_type];kernel_rfl)
theorem entry_map_next:entryFor table "map.__next__"=some Builtin.«map.__next__»:=entryFor_of_tree (by kernel_rfl)
theorem args_map_next(a:Value):argsOk "map.__next__" ⟨[a],[]⟩:=by unfold argsOk;kernel_rfl
theorem slot_map_init:Slot "map" "__init__" "object.__init__" :=
 .of (owner:="object") (n:="__init__") (by rw [typeLookup_type,builtinLookup_eq_fast];kernel_rfl) (by decide +kernel) (by decide +kernel) (by decide +kernel)
  (by first|exact .inl (by decide +kernel)|exact .inr (by decide +kernel)) (by rw [isSubtype_type];kernel_rfl)
theorem called_map:TypeCalled "map" "map.__new__" "object.__init__" :=
 ⟨by decide +kernel,by decide +kernel,⟨_,_,mro_map⟩,madeBy_type mro_map lookup_map_new (by decide +kernel),by decide +kernel,by rw [isSubtype_type];kernel_rfl,slot_map_init⟩
theorem typeCall_map(a b:Value):checkTypeCall "map" ⟨[a,b],[]⟩=pure ():=by kernel_rfl
theorem newCall_map(a b:Value):checkBuiltinCall "map.__new__" ⟨[.type "map",a,b],[]⟩=pure ():=by kernel_rfl
theorem entry_map_new:entryFor table "map.__new__"=some Builtin.«map.__new__»:=entryFor_of_tree (by kernel_rfl)
theorem sub_map:isSubtype (.type "map") (.type "map")=pure true:=by rw [isSubtype_type];kernel_rfl
noncomputable abbrev mapObj(T:Addr)(f:Value):Obj:={cls:=.type "map",data:=.fields #[.ref T,f]}
theorem meets_map_new(f:Value)(l:Addr)(items:Array Value)(n:Nat) :
 Meets (Builtin.«map.__new__» ⟨[.type "map",f,.ref l],[]⟩) (fun _ R s=>s.heap.get? l=some {cls:=.type "list",dict:=none,data:=.seq items n,slots:=#[]} /\
  R (.ok (.ret (.ref (s.heap.objs.size+1+1))))
   {s with heap:=((s.heap.push {cls:=.type "list_iterator",data:=.fields #[.ref l,.int 0 0]}).push (tupObj [.ref s.heap.objs.size])).push (mapObj (s.heap.objs.size+1) f)}) :=
 .of_wp fun prog w A R s h=>by
  obtain ⟨hp,g,d,tk,os⟩:=s;obtain ⟨hl,h⟩:=h
  have hsub:=sub_map
  have hL:Heap.IsList (Shared.heap ⟨hp,g,d,tk,os⟩) l items:=⟨_,hl,rfl,n,rfl⟩
  wp_walk using wpAny_loadPart' hl,wpAny_pyIter_list hL
  refine ⟨_,rfl,?_⟩
  have e1:(Heap.push hp {cls:=.type "list_iterator",data:=.fields #[.ref l,.int 0 0]}).objs.size=hp.objs.size+1:=Heap.size_push ..
  have e2:((Heap.push hp {cls:=.type "list_iterator",data:=.fields #[.ref l,.int 0 0]}).push (tupObj [.ref hp.objs.size])).objs.size=hp.objs.size+1+1:=by rw [Heap.size_push,e1]
  show R (Except.ok (Flow.ret (Value.ref ((Heap.push hp {cls:=.type "list_iterator",data:=.fields #[.ref l,.int 0 0]}).push (tupObj [.ref hp.objs.size])).objs.size))) ⟨((Heap.push hp {cls:=.type "list_iterator",data:=.fields #[.ref l,.int 0 0]}).push (tupObj [.ref hp.objs.size])).push (mapObj (Heap.push hp {cls:=.type "list_iterator",data:=.fields #[.ref l,.int 0 0]}).objs.size f),g,d,tk,os⟩
  rw [e2,e1]
  exact h
section
variable{prog:Program}{w:World}{A:Around}{E:Value->Shared->Prop}{s:Shared}
theorem map_item{M T It l:Addr}{f x:Value}{i:Nat}{items:Array Value}{Q:Option Value->Shared->Prop}(hM:s.heap.get? M=some (mapObj T f))(hT:s.heap.get? T=some (tupObj [.ref It]))(hit:s.heap.IsListIter It l i)(hl:s.heap.IsList l items)(hx:items[i]?=some x)(hne:M≠It)
 (h:∀h',h'.IsListIter It l (i+1)->Heap.SameBut It s.heap h'->wpAny (model prog w) A.in1 (call f [x]) (fun v s'=>Q (some v) s') no {s with heap:=h'}):wpAny (model prog w) A (pyNext (.ref M)) Q E s:=by
 have hTy:s.TypeIs (.ref M) "map":=⟨_,hM,rfl⟩
 unfold pyNext
 refine wpAny_bind (wpAny_attempt (wpAny_callSpecial?_slot (name:=Str.ofString "__next__") hTy slot_map_next (wpAny_call_entry slot_map_next hTy entry_map_next ?_ (args_map_next _))))
 obtain ⟨hp,g,d,tk,os⟩:=s
 show wpAny _ _ (field (.ref M) 0>>=_) _ _ _
 refine wpAny_bind (wpAny_field hM rfl (x:=.ref T) rfl ?_)
 show wpAny _ _ (seqItems? (.ref T)>>=_) _ _ _
 refine wpAny_bind (wpAny_seqItems hT rfl ?_)
 dsimp only
 refine wpAny_bind ?_
 rw [←Array.forIn_toList]
 show wpAny _ _ (forIn [Value.ref It] (#[]:Array Value) _) _ _ _
 rw [List.forIn_cons]
 refine wpAny_bind (wpAny_bind (wpAny_holding (wpAny_nextOf_list_item hit hl hx fun h₁ hit₁ hs₁=>?_)))
 refine wpAny_pure ?_
 dsimp only
 rw [List.forIn_nil]
 refine wpAny_pure ?_
 refine wpAny_bind (wpAny_field (x:=f) ((hs₁.2 M hne).trans hM) rfl rfl ?_)
 refine wpAny_bind (wpAny_holding (wpAny_no (wpAny_mono (h h₁ hit₁ hs₁) (fun v s' hv=>?_) fun _ _ e=>e)))
 refine wpAny_bind (wpAny_letGo ?_)
 exact wpAny_pure ⟨_,rfl,wpAny_pure hv⟩
theorem map_end{M T It l:Addr}{f:Value}{i:Nat}{items:Array Value}{Q:Option Value->Shared->Prop}(hh:A.handled=none)(hM:s.heap.get? M=some (mapObj T f))(hT:s.heap.get? T=some (tupObj [.ref It]))(hit:s.heap.IsListIter It l i)(hl:s.heap.IsList l items)(hx:items[i]?=none)
 (h:∀h',Heap.ExtBut It s.heap h'->Q none {s with heap:=h'}):wpAny (model prog w) A (pyNext (.ref M)) Q E s:=by
 have hTy:s.TypeIs (.ref M) "map":=⟨_,hM,rfl⟩
 unfold pyNext
 refine wpAny_bind (wpAny_attempt (wpAny_callSpecial?_slot (name:=Str.ofString "__next__") hTy slot_map_next (wpAny_call_entry slot_map_next hTy entry_map_next ?_ (args_map_next _))))
 obtain ⟨hp,g,d,tk,os⟩:=s
 show wpAny _ _ (field (.ref M) 0>>=_) _ _ _
 refine wpAny_bind (wpAny_field hM rfl (x:=.ref T) rfl ?_)
 show wpAny _ _ (seqItems? (.ref T)>>=_) _ _ _
 refine wpAny_bind (wpAny_seqItems hT rfl ?_)
 dsimp only
 refine wpAny_bind ?_
 rw [←Array.forIn_toList]
 show wpAny _ _ (forIn [Value.ref It] (#[]:Array Value) _) _ _ _
 rw [List.forIn_cons]
 refine wpAny_bind (wpAny_bind (wpAny_holding (wpAny_nextOf_list_end hh hit hl hx fun h' x he' hx'=>?_)))
 obtain ⟨o,ho,hc⟩:=hx'
 refine wpAny_bind (wpAny_isInstance (T:="StopIteration") (b:=true) ⟨o,ho,hc⟩ isSubtype_stop ?_)
 exact wpAny_pure (h _ he')
end
theorem slot_map_iter:Slot "map" "__iter__" "map.__iter__" :=
 .of (owner:="map") (n:="__iter__") (by rw [typeLookup_type,builtinLookup_eq_fast];kernel_rfl) (by decide +kernel) (by decide +kernel) (by decide +kernel)
  (by first|exact .inl (by decide +kernel)|exact .inr (by decide +kernel)) (by rw [isSubtype_type];kernel_rfl)
theorem entry_map_iter:entryFor table "map.__iter__"=some Builtin.«dict_keyiterator.__iter__» :=
 entryFor_alias (id':="dict_keyiterator.__iter__") (by kernel_rfl) (by first|rfl|decide +kernel|(unfold String.splitOn;simp +decide [String.splitOnAux])) (by decide +kernel) (by kernel_rfl)
theorem args_map_iter(a:Value):argsOk "map.__iter__" ⟨[a],[]⟩:=by unfold argsOk;kernel_rfl
theorem map_no_len:typeLookup (.type "map") "__len__"=pure none:=by rw [typeLookup_type,builtinLookup_eq_fast];kernel_rfl
theorem map_no_hint:typeLookup (.type "map") "__length_hint__"=pure none:=by rw [typeLookup_type,builtinLookup_eq_fast];kernel_rfl
section
variable{prog:Program}{w:World}{A:Around}{E:Value->Shared->Prop}{s:Shared}
theorem map_self{M:Addr}{o:Obj}{Q:Value->Shared->Prop}(hM:s.heap.get? M=some o)(hc:o.cls=.type "map")(h:Q (.ref M) s):wpAny (model prog w) A (pyIter (.ref M)) Q E s:=by
 have hT:s.TypeIs (.ref M) "map":=⟨_,hM,hc⟩
 refine wpAny_pyIter_slot hT slot_map_iter (wpAny_call_entry slot_map_iter hT entry_map_iter ?_ (args_map_iter _))
 show wpAny _ _ (ret (.ref M)) _ _ s
 exact wpAny_pure ⟨_,rfl,"map",_,hT,slot_map_next.lookup,h⟩
variable{h₀ g₀ g:Heap}{xt:List Addr}{L:Addr}{N:List Str}{vs:List (Option Value)}{mu:List (Addr×Obj)}
theorem newMap{l:Addr}{f:Value}{items:List Value}{k:Nat}{Q:Value->Shared->Prop}(F:St h₀ xt g₀ g L N vs mu s.heap)(hl:g.get? l=some (lstObj items k))
 (h:∀M T It g' h',Le g g'->g'.get? M=some (mapObj T f)->g'.get? T=some (tupObj [.ref It])->h'.IsListIter It l 0->h₀.objs.size<=It->St h₀ xt g₀ g' L N vs ((It,litObj l)::mu) h'->Q (.ref M) {s with heap:=h'}) :
 wpAny (model prog w) A (call (.type "map") [f,.ref l]) Q E s:=by
 refine callType_new called_map (by decide) (typeCall_map _ _) (newCall_map _ _) (fun obj=>?_) entry_map_new (meets_map_new f l items.toArray k) ⟨F.keep _ _ hl,?_⟩
 · unfold argsOk;rw [signature?_of (id:="object.__init__") (n:=['_','_','t','i','n','i','_','_']) (o:=['t','c','e','j','b','o']) (by kernel_rfl) PySem.F.owner_object];kernel_rfl
 · have F₁:=F.own (litObj l)
   obtain ⟨g₁,k1,e1,F₂⟩:=F₁.made (tupObj [.ref s.heap.objs.size])
   obtain ⟨g₂,k2,e2,F₃⟩:=F₂.made (mapObj (s.heap.objs.size+1) f)
   have z1:(s.heap.push (litObj l)).objs.size=s.heap.objs.size+1:=Heap.size_push ..
   have z2:((s.heap.push (litObj l)).push (tupObj [.ref s.heap.objs.size])).objs.size=s.heap.objs.size+1+1:=by rw [Heap.size_push,z1]
   rw [z1] at e1
   rw [z2] at e2
   exact ⟨⟨_,F₃.keep _ _ e2,rfl⟩,h _ _ _ g₂ _ (k1.tr k2) e2 (k2 _ _ e1) ⟨_,(F₃.mt _ (.head _)).1,rfl,rfl⟩ F.lowSz F₃⟩
theorem grow_map{w:World}{S M T It l:Addr}{f res:Value}{items:List Value}{k₀:Nat}{R:Result->Shared->Prop}(hh:A.handled=none)(J:Nat->Heap->List Value->Prop)
 (hM:g.get? M=some (mapObj T f)) (hT:g.get? T=some (tupObj [.ref It])) (hl:g.get? l=some (lstObj items k₀)) (hn:items.length<=1000)
 (turn:∀i x g' ys h tk oI c,items[i]?=some x->Le g g'->J i g' ys->St h₀ xt g₀ g' L N vs ((It,oI)::(S,lstObj ys c)::mu) h ->
  wpAny (model prog w) A.in1.in1 (call f [x]) (fun v s'=>∃g'' h'' t'',s'={s with heap:=h'',toks:=t''}/\Le g' g''/\St h₀ xt g₀ g'' L N vs ((It,oI)::(S,lstObj ys c)::mu) h''/\J (i+1) g'' (ys++[v])) no {s with heap:=h,toks:=tk})
 (done:∀g' ys h tk c,Le g g'->J items.length g' ys->ys.length=items.length->St h₀ xt g₀ g' L N vs ((S,lstObj ys c)::mu) h->R (.ok (.ret res)) {s with heap:=h,toks:=tk}) :
 ∀(k i:Nat) (g':Heap) (ys:List Value) (h:Heap) (tk:Nat) (oI:Obj) (c:Nat),items.length-i=k->i<=items.length->ys.length=i->Le g g'->J i g' ys->St h₀ xt g₀ g' L N vs ((It,oI)::(S,lstObj ys c)::mu) h->h.IsListIter It l i ->
  codeAny (model prog w) A (.builtin "list.extend.loop" ⟨[.ref S,.ref M,res],[]⟩) R {s with heap:=h,toks:=tk}:=by
 intro k
 induction k with
 | zero =>
  intro i g' ys h tk oI c hk hi hy kg hJ F hit
  have hin:i=items.length:=by exact zz361 hk hi
  subst hin
  refine codeAny_builtin PySem.F.entry_extend_loop ?_
  rw [Around.under_plainId PySem.F.plain_extend_loop _]
  show wpAny _ A.in1 (pyNext (.ref M)>>=_) _ _ _
  refine wpAny_bind (map_end (i:=items.length) (items:=items.toArray) hh (F.keep _ _ (kg _ _ hM)) (F.keep _ _ (kg _ _ hT)) hit ⟨_,F.keep _ _ (kg _ _ hl),rfl,_,rfl⟩ (by simp) fun h' he=>?_)
  exact wpAny_pure (done g' ys h' tk c kg hJ hy (F.but fun b o hb e=>he b o (fun q=>hb (by simp [q])) e))
 | succ k ih =>
  intro i g' ys h tk oI c hk hi hy kg hJ F hit
  have hlt:i<items.length:=by exact zz362 hk
  refine codeAny_builtin PySem.F.entry_extend_loop ?_
  rw [Around.under_plainId PySem.F.plain_extend_loop _]
  show wpAny _ A.in1 (pyNext (.ref M)>>=_) _ _ _
  have hMI:M≠It:=fun q=>by
   have z:=(F.mt _ (.head _)).2.2.1
   rw [←q,kg _ _ hM] at z;cases z
  refine wpAny_bind (map_item (i:=i) (items:=items.toArray) (x:=items[i]) (F.keep _ _ (kg _ _ hM)) (F.keep _ _ (kg _ _ hT)) hit ⟨_,F.keep _ _ (kg _ _ hl),rfl,_,rfl⟩ (by simp [hlt]) hMI fun h₁ hit₁ hs₁=>?_)
  obtain ⟨o₁,ho₁,hc₁,hd₁⟩:=hit₁
  have F₁:=F.turn (pre:=[]) rfl hs₁ ho₁
  refine wpAny_mono (turn i items[i] g' ys h₁ tk o₁ c (by simp [hlt]) kg hJ F₁) (fun v s' hv=>?_) fun _ _ e=>e.elim
  obtain ⟨g'',h'',t'',rfl,k2,F₂,hJ₂⟩:=hv
  have hS:=(F₂.mt _ (.tail _ (.head _))).1
  show wpAny _ A.in1 (updateSeq S (·.push v)>>=_) _ _ _
  refine wpAny_bind (wpAny_updateSeq hS rfl ?_ (by show ys.toArray.size<=_;rw [List.size_toArray,sizeLine_eq];exact zz184 hn hy hlt) (by simp;rw [sizeLine_eq];exact zz184 hn hy hlt))
  have eS:(h''.update S (Obj.mapSeq (·.push v))).get? S=some (lstObj (ys++[v]) (c+1)):=by
   rw [Heap.get?_update_self _ hS rfl]
   show some ({cls:=.type "list",dict:=none,data:=.seq (ys.toArray.push v) (if (ys.toArray.push v).size==ys.toArray.size then c else c+1),slots:=#[]}:Obj)=_
   have e2:((ys.toArray.push v).size==ys.toArray.size)=false:=by simp
   rw [e2,List.push_toArray];rfl
  have F₃:=F₂.turn (pre:=[(It,o₁)]) rfl (Heap.SameBut.update ..) eS
  exact wpAny_pure ⟨plainId_quiet PySem.F.plain_extend_loop _,ih (i+1) g'' (ys++[v]) _ t'' o₁ (c+1) (by exact zz83 hk) hlt (by simp [hy]) (kg.tr k2) hJ₂ F₃ ⟨o₁,(F₃.mt _ (.head _)).1,hc₁,hd₁⟩⟩
end
end Mine.Internal
namespace Mine.Internal
open PySem PySem.W PyProof.Rows PySem.Calls PySem.Spec
open AutoSeq1 (wpAny_loadPart')
section
variable{prog:Program}{w:World}{A:Around}{E:Value->Shared->Prop}{s:Shared}
variable{h₀ g₀ g:Heap}{xt:List Addr}{L:Addr}{N:List Str}{vs:List (Option Value)}{mu:List (Addr×Obj)}
noncomputable def MapTurn(prog:Program)(w:World)(A:Around)(s:Shared)(h₀ g₀ g:Heap)(xt:List Addr)(L:Addr)(N:List Str)(vs:List (Option Value))(mu:List (Addr×Obj))(It S:Addr)(f:Value)(items:List Value)(J:Nat->Heap->List Value->Prop):Prop :=
 ∀i x g' ys h tk oI c,items[i]?=some x->Le g g'->J i g' ys->St h₀ xt g₀ g' L N vs ((It,oI)::(S,lstObj ys c)::mu) h ->
  wpAny (model prog w) A (call f [x]) (fun v s'=>∃g'' h'' t'',s'={s with heap:=h'',toks:=t''}/\Le g' g''/\St h₀ xt g₀ g'' L N vs ((It,oI)::(S,lstObj ys c)::mu) h''/\J (i+1) g'' (ys++[v])) no {s with heap:=h,toks:=tk}
theorem St.swap{h:Heap}{p q:Addr×Obj}(F:St h₀ xt g₀ g L N vs (p::q::mu) h):St h₀ xt g₀ g L N vs (q::p::mu) h:=by
 refine ⟨F.len,F.ns,F.base,F.keep,F.low,F.outg,fun r hr=>?_,?_,F.mono,F.fresh⟩
 · rcases List.mem_cons.mp hr with rfl|hr
   · exact F.mt _ (.tail _ (.head _))
   · rcases List.mem_cons.mp hr with rfl|hr
     · exact F.mt _ (.head _)
     · exact F.mt _ (.tail _ (.tail _ hr))
 · have nd:=F.nd
   simp only [List.map_cons,List.nodup_cons,List.mem_cons,not_or] at nd ⊢
   exact ⟨⟨Ne.symm nd.1.1,nd.2.1⟩,nd.1.2,nd.2.2⟩
theorem ext_map{S M T It l:Addr}{f res:Value}{items:List Value}{k₀ c₀:Nat}{oI₀:Obj}{R:Result->Shared->Prop}(hh:A.handled=none)(J:Nat->Heap->List Value->Prop)
 (hM:g.get? M=some (mapObj T f)) (hT:g.get? T=some (tupObj [.ref It])) (hl:g.get? l=some (lstObj items k₀)) (hn:items.length<=1000)
 (F:St h₀ xt g₀ g L N vs ((It,oI₀)::(S,lstObj [] c₀)::mu) s.heap) (hit:s.heap.IsListIter It l 0) (hj:J 0 g [])
 (turn:MapTurn prog w A.in1.in1 s h₀ g₀ g xt L N vs mu It S f items J)
 (done:∀g' ys h tk c,Le g g'->J items.length g' ys->ys.length=items.length->St h₀ xt g₀ g' L N vs ((S,lstObj ys c)::mu) h->R (.ok (.ret res)) {s with heap:=h,toks:=tk}) :
 wpAny (model prog w) A.in1 (Builtin.List.listExtendWith (.ref S) (.ref M) res)
  (fun fin s'=>match fin with|.done f=>R (.ok f) s'|.again c'=>c'.quiet=true/\codeAny (model prog w) A c' R s') (fun e s'=>R (.error e) s') s:=by
 have hTy:s.TypeIs (.ref M) "map":=⟨_,F.keep _ _ hM,rfl⟩
 have hSM:S≠M:=fun q=>by
  have z:=(F.mt _ (.tail _ (.head _))).2.2.1
  rw [q,hM] at z;cases z
 unfold Builtin.List.listExtendWith
 refine wpAny_bind (wpAny_typeOf hTy ?_)
 have h1:Builtin.List.listSameRef (.ref S) (.ref M)=false:=by simp [Builtin.List.listSameRef,hSM]
 have h2:(Value.type "map"==Value.type "list")=false:=by decide
 have h3:(Value.type "map"==Value.type "tuple")=false:=by decide
 simp only [h1,h2,h3,Bool.or_false,Bool.false_eq_true,if_false]
 refine wpAny_bind (map_self (F.keep _ _ hM) rfl ?_)
 refine wpAny_bind (wpAny_holding ?_)
 unfold Builtin.List.listLengthHint
 refine wpAny_bind (wpAny_specialOf hTy map_no_len ?_)
 show wpAny _ A.in1 (specialOf (Value.ref M) (Str.ofString "__length_hint__")>>=_) _ _ _
 refine wpAny_bind (wpAny_specialOf hTy map_no_hint ?_)
 refine wpAny_pure ?_
 show wpAny _ A.in1 (rule "list.extend.makes-room">>=fun _=>Builtin.List.listTouch (.ref S)>>=fun _ =>
  again (.builtin "list.extend.loop" ⟨[.ref S,.ref M,res],[]⟩)) _ _ _
 refine wpAny_bind (wpAny_rule ?_)
 have hS₁:=(F.mt _ (.tail _ (.head _))).1
 refine wpAny_bind ?_
 show wpAny _ A.in1 (updateSeq S (·.push .none)>>=fun _=>updateSeq S (·.pop)) _ _ _
 refine wpAny_bind (wpAny_updateSeq hS₁ rfl ?_ (by simp) (by simp [sizeLine_eq]))
 have e1:(s.heap.update S (Obj.mapSeq (·.push Value.none))).get? S=some (lstObj [Value.none] (c₀+1)):=Heap.get?_update_self _ hS₁ rfl
 have F₁:=F.turn (pre:=[(It,oI₀)]) rfl (Heap.SameBut.update ..) e1
 refine wpAny_updateSeq e1 rfl ?_ (by simp [sizeLine_eq]) (by simp)
 have e2:((s.heap.update S (Obj.mapSeq (·.push Value.none))).update S (Obj.mapSeq (·.pop))).get? S=some (lstObj [] (c₀+1+1)):=Heap.get?_update_self _ e1 rfl
 have F₂:=F₁.turn (pre:=[(It,oI₀)]) rfl (Heap.SameBut.update ..) e2
 obtain ⟨o,ho,hc,hd⟩:=hit
 have eo:o=oI₀:=by
  have z:=(F.mt _ (.head _)).1
  rw [ho] at z;exact Option.some.inj z
 subst eo
 refine wpAny_pure ⟨plainId_quiet PySem.F.plain_extend_loop _,grow_map (A:=A) (s:=s) hh J hM hT hl hn turn done _ 0 g [] _ s.toks o _ rfl (Nat.zero_le _) rfl Le.rfl' hj F₂ ⟨o,(F₂.mt _ (.head _)).1,hc,hd⟩⟩
theorem code_collect_map{M T It l:Addr}{f:Value}{items:List Value}{k₀:Nat}{oI₀:Obj}{R:Result->Shared->Prop}(hh:A.handled=none)(J:Nat->Heap->List Value->Prop)
 (hM:g.get? M=some (mapObj T f)) (hT:g.get? T=some (tupObj [.ref It])) (hl:g.get? l=some (lstObj items k₀)) (hn:items.length<=1000)
 (F:St h₀ xt g₀ g L N vs ((It,oI₀)::mu) s.heap) (hit:s.heap.IsListIter It l 0) (hj:J 0 g [])
 (turn:∀S,MapTurn prog w A.in1.in1 s h₀ g₀ g xt L N vs mu It S f items J)
 (done:∀D g' ys h tk c,Le g g'->J items.length g' ys->ys.length=items.length->St h₀ xt g₀ g' L N vs ((D,lstObj ys c)::mu) h->R (.ok (.ret (.ref D))) {s with heap:=h,toks:=tk}) :
 codeAny (model prog w) A (.builtin "proto.collect" ⟨[.ref M],[]⟩) R s:=by
 refine codeAny_builtin PySem.F.entry_proto_collect ?_
 rw [Around.under_plainId PySem.F.plain_proto_collect _]
 show wpAny _ A.in1 (newList []>>=fun l=>again (.builtin "list.__iadd__" ⟨[l,.ref M],[]⟩)) _ _ s
 refine wpAny_bind (wpAny_newObj_type ?_)
 refine wpAny_pure ⟨plainId_quiet PySem.F.plain_list_iadd _,codeAny_builtin PySem.F.entry_list_iadd ?_⟩
 rw [Around.under_plainId PySem.F.plain_list_iadd _]
 have F₁:=(F.own (lstObj [] 0)).swap
 obtain ⟨o,ho,hc,hd⟩:=hit
 have hit₁:(s.heap.push (lstObj [] 0)).IsListIter It l 0:=⟨o,Heap.get?_push_of_some _ ho,hc,hd⟩
 show wpAny _ A.in1 (Builtin.List.listExtendWith (.ref s.heap.objs.size) (.ref M) (.ref s.heap.objs.size)) _ _ _
 refine ext_map (A:=A) (s:={s with heap:=s.heap.push (lstObj [] 0)}) (R:=R) hh J hM hT hl hn F₁ hit₁ hj ?_ ?_
 · exact fun i x g' ys h tk oI c hx kg hJ F'=>turn _ i x g' ys h tk oI c hx kg hJ F'
 · exact fun g' ys h tk c kg hJ hy F'=>done _ g' ys h tk c kg hJ hy F'
theorem collect_map{M T It l:Addr}{f:Value}{items:List Value}{k₀:Nat}{oI₀:Obj}{Q:List Value->Shared->Prop}(hh:A.handled=none)(J:Nat->Heap->List Value->Prop)
 (hM:g.get? M=some (mapObj T f)) (hT:g.get? T=some (tupObj [.ref It])) (hl:g.get? l=some (lstObj items k₀)) (hn:items.length<=1000)
 (F:St h₀ xt g₀ g L N vs ((It,oI₀)::mu) s.heap) (hit:s.heap.IsListIter It l 0) (hj:J 0 g [])
 (turn:∀S,MapTurn prog w A.in1.in1 s h₀ g₀ g xt L N vs mu It S f items J)
 (done:∀g' ys h tk,Le g g'->J items.length g' ys->ys.length=items.length->St h₀ xt g₀ g' L N vs mu h->Q ys {s with heap:=h,toks:=tk}) :
 wpAny (model prog w) A (collect (.ref M)) Q E s:=by
 unfold collect
 refine wpAny_bind (wpAny_runValue (code_collect_map hh J hM hT hl hn F hit hj turn fun D g' ys h tk c kg hJ hy F'=>?_))
 show wpAny _ A (load D>>=_) _ _ _
 refine wpAny_bind (wpAny_load (F'.mt _ (.head _)).1 ?_)
 exact wpAny_pure (done g' ys h tk kg hJ hy (F'.sub (List.sublist_cons_self _ _)))
theorem meets_tuple_map{M T:Addr}{f:Value}{A:Around}{s:Shared}{Q:Value->Shared->Prop}(hM:s.heap.get? M=some (mapObj T f))
 (hc:wpAny (model prog w) A (collect (.ref M)) (fun xs s'=>xs.length<=sizeLine/\Q (.ref s'.heap.objs.size) {s' with heap:=s'.heap.push (tupObj xs)}) E s) :
 wpAny (model prog w) A (Builtin.«tuple.__new__» ⟨[.type "tuple",.ref M],[]⟩) (fun fin s'=>∃v,fin=.done (.ret v)/\Q v s') E s:=by
 have hsub:=sub_tuple_self
 have hinit:=init_tuple_lookup
 have hmh:=madeHere_tuple
 obtain ⟨hp,g,d,tk,os⟩:=s
 have hT:Shared.TypeIs ⟨hp,g,d,tk,os⟩ (.ref M) "map":=⟨_,hM,rfl⟩
 have hTT:isSubtype (.type "map") (.type "tuple")=pure false:=by rw [isSubtype_type];kernel_rfl
 repeat (first|assumption|(refine wpAny_bind (wpAny_mono hc (fun xs s' hx=>?_) fun _ _ e=>e))|(refine wpAny_typeOf hT ?_)|wp_step)
 exact ⟨_,rfl,hx.2⟩
theorem tuple_map{M T It l:Addr}{f:Value}{items:List Value}{k₀:Nat}{oI₀:Obj}{Q:Value->Shared->Prop}(hh:A.handled=none)(J:Nat->Heap->List Value->Prop)
 (hM:g.get? M=some (mapObj T f)) (hT:g.get? T=some (tupObj [.ref It])) (hl:g.get? l=some (lstObj items k₀)) (hn:items.length<=1000)
 (F:St h₀ xt g₀ g L N vs ((It,oI₀)::mu) s.heap) (hit:s.heap.IsListIter It l 0) (hj:J 0 g [])
 (turn:∀S,MapTurn prog w A.in1.in1.in1.in1 s h₀ g₀ g xt L N vs mu It S f items J)
 (done:∀D g₁ g' ys h tk,Le g g'->Le g₁ g'->J items.length g₁ ys->g'.get? D=some (tupObj ys)->St h₀ xt g₀ g' L N vs mu h->Q (.ref D) {s with heap:=h,toks:=tk}) :
 wpAny (model prog w) A (call (.type "tuple") [.ref M]) Q E s:=by
 refine callType_newIn PySem.F.called_tuple (by decide) (PySem.F.typeCall_tuple_1 _) (PySem.F.newCall_tuple_1 _) (fun obj=>PySem.F.args_object_init_2 obj _) PySem.F.entry_tuple_new
  (S:=fun A R s=>s.heap.get? M=some (mapObj T f)/\wpAny (model prog w) A.in1 (collect (.ref M)) (fun xs s'=>xs.length<=sizeLine/\R (.ok (.ret (.ref s'.heap.objs.size))) {s' with heap:=s'.heap.push (tupObj xs)}) (fun e s'=>R (.error e) s') s)
  (.of_wp fun A R s hs=>meets_tuple_map hs.1 hs.2) ⟨F.keep _ _ hM,?_⟩
 refine collect_map hh J hM hT hl hn F hit hj turn fun g' ys h tk kg hJ hy F'=>?_
 obtain ⟨g₂,k2,e2,F₂⟩:=F'.made (tupObj ys)
 refine ⟨by rw [sizeLine_eq];exact zz182 hn hy,⟨_,F₂.keep _ _ e2,rfl⟩,done _ g' g₂ ys _ _ (kg.tr k2) k2 hJ e2 F₂⟩
theorem list_map{M T It l:Addr}{f:Value}{items:List Value}{k₀:Nat}{oI₀:Obj}{Q:Value->Shared->Prop}(hh:A.handled=none)(J:Nat->Heap->List Value->Prop)
 (hM:g.get? M=some (mapObj T f)) (hT:g.get? T=some (tupObj [.ref It])) (hl:g.get? l=some (lstObj items k₀)) (hn:items.length<=1000)
 (F:St h₀ xt g₀ g L N vs ((It,oI₀)::mu) s.heap) (hit:s.heap.IsListIter It l 0) (hj:J 0 g [])
 (turn:∀S,MapTurn prog w A.in1.in1.in1 s h₀ g₀ g xt L N vs mu It S f items J)
 (done:∀D g₁ g' ys h tk c,Le g g'->Le g₁ g'->J items.length g₁ ys->g'.get? D=some (lstObj ys c)->St h₀ xt g₀ g' L N vs mu h->Q (.ref D) {s with heap:=h,toks:=tk}) :
 wpAny (model prog w) A (call (.type "list") [.ref M]) Q E s:=by
 refine callType_codes (Q₁:=fun obj s₁=>obj=.ref s.heap.objs.size/\s₁={s with heap:=s.heap.push {cls:=.type "list",data:=.seq #[]}}) PySem.F.called_list (PySem.F.typeCall_list_1 _) PySem.F.entry_list_init
  (code_list_new _ ⟨rfl,rfl⟩) fun obj s₁ h₁=>?_
 obtain ⟨rfl,rfl⟩:=h₁
 have hS:(s.heap.push {cls:=.type "list",data:=.seq #[]}).get? s.heap.objs.size=some {cls:=.type "list",data:=.seq #[]}:=Heap.get?_push_size _ rfl
 refine ⟨⟨_,hS,rfl⟩,PySem.F.args_list_init_2 _ _,?_⟩
 show wpAny _ _ (do let old←Builtin.List.listItems (.ref s.heap.objs.size);Builtin.List.listUpdate (.ref s.heap.objs.size) (fun _=>#[]);letGo old.toList.reverse;Builtin.List.listExtendWith (.ref s.heap.objs.size) (.ref M) .none) _ _ _
 refine wpAny_bind ?_
 unfold Builtin.List.listItems
 refine wpAny_bind (wpAny_seqItems hS rfl (wpAny_pure ?_))
 show wpAny _ _ (updateSeq s.heap.objs.size (fun _=>#[])>>=fun _=>letGo (#[]:Array Value).toList.reverse>>=fun _=>Builtin.List.listExtendWith (.ref s.heap.objs.size) (.ref M) .none) _ _ _
 refine wpAny_bind (wpAny_updateSeq hS rfl ?_)
 have F₁:=(F.own (lstObj [] 0)).swap
 have e1:((s.heap.push (lstObj [] 0)).update s.heap.objs.size (Obj.mapSeq (fun _=>(#[]:Array Value)))).get? s.heap.objs.size=some (lstObj [] 0):=Heap.get?_update_self _ (Heap.get?_push_size _ rfl) rfl
 have F₂:=F₁.turn (pre:=[(It,oI₀)]) rfl (Heap.SameBut.update ..) e1
 obtain ⟨o,ho,hc,hd⟩:=hit
 have eo:o=oI₀:=by
  have z:=(F.mt _ (.head _)).1
  rw [ho] at z;exact Option.some.inj z
 subst eo
 refine wpAny_bind (wpAny_letGo ?_)
 refine ext_map (A:=A.in1) (s:={s with heap:=(s.heap.push (lstObj [] 0)).update s.heap.objs.size (Obj.mapSeq (fun _=>(#[]:Array Value)))}) hh J hM hT hl hn F₂ ⟨o,(F₂.mt _ (.head _)).1,hc,hd⟩ hj ?_ ?_
 · exact fun i x g' ys h tk oI c hx kg hJ F'=>turn _ i x g' ys h tk oI c hx kg hJ F'
 · intro g' ys h tk c kg hJ hy F'
   obtain ⟨g₂,k2,eD,F₃⟩:=F'.freeze (pre:=[]) (post:=mu) rfl F.lowSz
   exact ⟨rfl,done _ g' g₂ ys _ _ _ (kg.tr k2) k2 hJ eD F₃⟩
end
end Mine.Internal
namespace Mine.Internal
open PySem PySem.W PyProof.Rows PySem.Calls PySem.Spec
open AutoSeq1 (wpAny_loadPart')
noncomputable abbrev setO0(led:Bool):Obj:={cls:=.type "set",data:=.set #[] 0 (.fresh 0 0 led)}
noncomputable def setT1(led:Bool):SetTable:={mask:=7,place:=#[1],dummies:=#[],finger:=0,led:=led,moves:=0,plain:=true}
theorem lay1(led:Bool):layNew (.fresh 0 0 led) #[] 1 (.bool true)=(#[(1,.bool true)],setT1 led,false,false):=by
 cases led<;>rfl
noncomputable def setO1(led:Bool):Obj:=Obj.putSet #[(1,.bool true)] (setT1 led) (setO0 led)
theorem setO1_data(led:Bool):∃e,setO1 led={cls:=.type "set",data:=.set #[(1,.bool true)] e (setT1 led)}:=⟨_,rfl⟩
theorem slot_sit_next:Slot "set_iterator" "__next__" "set_iterator.__next__" :=
 .of (owner:="set_iterator") (n:="__next__") (by rw [typeLookup_type,builtinLookup_eq_fast];kernel_rfl) (by decide +kernel) (by decide +kernel) (by decide +kernel)
  (by first|exact .inl (by decide +kernel)|exact .inr (by decide +kernel)) (by rw [isSubtype_type];kernel_rfl)
theorem entry_sit_next:entryFor table "set_iterator.__next__"=some Builtin.«set_iterator.__next__»:=entryFor_of_tree (by kernel_rfl)
theorem args_sit_next(a:Value):argsOk "set_iterator.__next__" ⟨[a],[]⟩:=by unfold argsOk;kernel_rfl
theorem entry_set_iter':entryFor table "set.__iter__"=some Builtin.«frozenset.__iter__» :=
 entryFor_alias (id':="frozenset.__iter__") (by kernel_rfl) (by first|rfl|decide +kernel|(unfold String.splitOn;simp +decide [String.splitOnAux])) (by decide +kernel) (by kernel_rfl)
section
variable{prog:Program}{w:World}{A:Around}{E:Value->Shared->Prop}{s:Shared}
theorem hash_true{Q:Int->Shared->Prop}(h:Q 1 {s with toks:=s.toks+1}):wpAny (model prog w) A (pyHash (.bool true)) Q E s:=by
 unfold pyHash
 have hv:[Value.bool true].any Value.onHeap=false:=rfl
 have hT:s.TypeIs (.bool true) "bool":=PySem.typeIs_bool _ _
 refine wpAny_bind ?_
 rw [cRoomFor,if_neg (by rw [hv];exact Bool.false_ne_true)];refine wpAny_pure ?_
 refine wpAny_bind (wpAny_specialOf hT PySem.F.slot_bool_hash.lookup ?_)
 show wpAny _ _ (if (some (Value.builtin "int.__hash__")==some Value.none)=true then _ else _) Q E s
 rw [if_neg (by rw [beq_builtin_none];exact Bool.false_ne_true)]
 refine wpAny_bind (wpAny_specialOf hT PySem.F.slot_bool_hash.lookup ?_)
 show wpAny _ _ (callSpecialIfBoundUnlessNone? (.bool true) "__hash__" _>>=_) Q E s
 refine wpAny_bind (wpAny_callSpecialIfBoundUnlessNone?_slot hT PySem.F.slot_bool_hash
  (wpAny_call_entry PySem.F.slot_bool_hash hT entry_int_hash ?_ (args_int_hash _)))
 obtain ⟨hp,g,d,tk,os⟩:=s
 wp_walk
 refine ⟨.int 1 tk,by rfl,?_⟩
 show wpAny _ _ (if (decide (-(2:Int)^63<=1)&&decide ((1:Int)<2^63))=true then _ else _) Q E _
 rw [if_pos (by decide)]
 exact wpAny_pure h
theorem set_state{a:Addr}{led:Bool}{Q:(Array (Int×Value)×Nat×SetTable)->Shared->Prop}(ho:s.heap.get? a=some (setO0 led))(h:Q (#[],0,.fresh 0 0 led) s):wpAny (model prog w) A (setState a) Q E s :=
 wpAny_setState_of ho rfl (by cases led<;>rfl) h
theorem set_state1{a:Addr}{led:Bool}{Q:(Array (Int×Value)×Nat×SetTable)->Shared->Prop}(ho:s.heap.get? a=some (setO1 led))(h:∀e,setO1 led={cls:=.type "set",data:=.set #[(1,.bool true)] e (setT1 led)}->Q (#[(1,.bool true)],e,setT1 led) s):wpAny (model prog w) A (setState a) Q E s:=by
 obtain ⟨e,he⟩:=setO1_data led
 rw [he] at ho
 exact wpAny_setState_of ho rfl (by cases led<;>rfl) (h e he)
theorem add_first{a:Addr}{led:Bool}{Q:Value->Shared->Prop}(ho:s.heap.get? a=some (setO0 led))
 (h:∀h',Heap.SameBut a s.heap h'->h'.get? a=some (setO1 led)->Q .none {s with heap:=h',toks:=s.toks+1}):wpAny (model prog w) A (call (.builtin "set.add") [.ref a,.bool true]) Q E s:=by
 refine wpAny_call_entry PySem.F.slot_set_add ⟨_,ho,rfl⟩ PySem.F.entry_set_add ?_ (PySem.F.args_set_add_2 _ _)
 unfold Builtin.«set.add» Builtin.Frozenset.oneOther
 simp only [List.isEmpty_nil,bind_assoc]
 unfold Builtin.Frozenset.addrOf setAdd
 refine wpAny_bind (wpAny_pure ?_)
 try dsimp only
 refine wpAny_bind (wpAny_pure ?_)
 try dsimp only
 refine wpAny_bind ?_
 refine wpAny_holding ?_
 refine wpAny_bind (hash_true ?_)
 unfold setAddHashed
 refine wpAny_holding ?_
 unfold setAddHashedIn
 refine wpAny_bind (set_state ho ?_)
 dsimp only
 rw [show byScan (.bool true) #[]=true by simp [byScan,Value.scannable,scanBound]]
 simp only [if_true]
 unfold setAddByScan
 refine wpAny_bind (wpAny_bind (wpAny_rule ?_))
 refine wpAny_bind (m:=setScan a (.bool true) 1 true #[]) ?_
 rw [show setScan a (.bool true) 1 true #[]=pure .absent from rfl]
 refine wpAny_pure ?_
 dsimp only
 rw [lay1]
 dsimp only
 obtain ⟨hp,g,d,tk,os⟩:=s
 wp_walk
 refine ⟨_,rfl,?_⟩
 rw [if_pos (show (true:Bool)=true from rfl)]
 exact h _ (Heap.SameBut.update ..) (Heap.get?_update_self _ ho rfl)
theorem eqb_true{Q:Bool->Shared->Prop}(h:Q true s):wpAny (model prog w) A (eqBool (.bool true) (.bool true)) Q E s:=SeqAt.EqAt.bool_bool true true prog w E Q h
theorem add_second{a:Addr}{led:Bool}{Q:Value->Shared->Prop}(ho:s.heap.get? a=some (setO1 led))
 (h:Q .none {s with toks:=s.toks+1}):wpAny (model prog w) A (call (.builtin "set.add") [.ref a,.bool true]) Q E s:=by
 refine wpAny_call_entry PySem.F.slot_set_add ⟨_,ho,rfl⟩ PySem.F.entry_set_add ?_ (PySem.F.args_set_add_2 _ _)
 unfold Builtin.«set.add» Builtin.Frozenset.oneOther
 simp only [List.isEmpty_nil,bind_assoc]
 unfold Builtin.Frozenset.addrOf setAdd
 refine wpAny_bind (wpAny_pure ?_)
 try dsimp only
 refine wpAny_bind (wpAny_pure ?_)
 try dsimp only
 refine wpAny_bind ?_
 refine wpAny_holding ?_
 refine wpAny_bind (hash_true ?_)
 unfold setAddHashed
 refine wpAny_holding ?_
 unfold setAddHashedIn
 refine wpAny_bind (set_state1 ho fun e he=>?_)
 dsimp only
 rw [show byScan (.bool true) #[(1,.bool true)]=true by simp [byScan,Value.scannable,scanBound]]
 simp only [if_true]
 unfold setAddByScan
 refine wpAny_bind (wpAny_bind (wpAny_rule ?_))
 refine wpAny_bind (m:=setScan a (.bool true) 1 true #[(1,.bool true)]) ?_
 show wpAny _ _ (setScanFrom a (.bool true) 1 true [(1,.bool true)] 0) _ _ _
 unfold setScanFrom
 rw [if_pos (by rfl)]
 refine wpAny_bind ?_
 unfold setEpoch
 refine wpAny_bind (set_state1 ho fun e2 he2=>wpAny_pure ?_)
 refine wpAny_bind (eqb_true ?_)
 simp only [Bool.and_self,if_true]
 exact wpAny_pure (wpAny_pure (wpAny_pure (wpAny_pure ⟨_,rfl,h⟩)))
noncomputable def byText(w:World):Bool:=w.params.followText "set-order"
noncomputable abbrev sitObj(a:Addr)(i j e:Int):Obj:={cls:=.type "set_iterator",data:=.fields #[rawInt i,rawInt j,.ref a,rawInt 1,rawInt e]}
theorem set_iter{a:Addr}{led:Bool}{Q:Value->Shared->Prop}(ho:s.heap.get? a=some (setO1 led))(h:∀e:Nat,setO1 led={cls:=.type "set",data:=.set #[(1,.bool true)] e (setT1 led)}->Q (.ref s.heap.objs.size) {s with heap:=s.heap.push (sitObj a 0 0 e)}):wpAny (model prog w) A (pyIter (.ref a)) Q E s:=by
 obtain ⟨e,he⟩:=setO1_data led
 have hT:s.TypeIs (.ref a) "set":=⟨_,ho,rfl⟩
 have ho':=ho
 rw [he] at ho'
 refine wpAny_pyIter_slot hT PySem.F.slot_set_iter (wpAny_call_entry PySem.F.slot_set_iter hT entry_set_iter' ?_ (PySem.F.args_set_iter_1 _))
 obtain ⟨hp,g,d,tk,os⟩:=s
 wp_walk using wpAny_loadPart' ho'
 refine wpAny_askSetting ?_
 refine wpAny_pure (wpAny_pure ?_)
 have hd:∀b:Bool,(!b&&false)=false:=fun b=>by cases b<;>rfl
 split
 · rename_i hx
   exact absurd (show ((!(model prog w).w.params.followText "set-order")&&false)=true from hx) (by rw [hd];exact Bool.false_ne_true)
 · wp_walk using wpAny_loadPart' ho'
   exact ⟨_,rfl,"set_iterator",_,⟨_,Heap.get?_push_size _ rfl,rfl⟩,slot_sit_next.lookup,h e he⟩
theorem pick_one{α:Type}(next:Nat->Nat)(x:α):pickOrder next #[x]=#[x]:=by
 show (match ([x]:List α)[next 0%1]? with|some y=>pickOrder.go next 0 1 (([x]:List α).eraseIdx (next 0%1)) (#[].push y)|none=>#[])=_
 rw [Nat.mod_one];rfl
theorem walk_text{a:Addr}{e:Nat}{Q:Array (Int×Value)->Shared->Prop}(hb:byText w=true)(ho:s.heap.get? a=some {cls:=.type "set",data:=.set #[(1,.bool true)] e (setT1 (!true))})(h:Q #[(1,.bool true)] s):wpAny (model prog w) A (setWalk a) Q E s:=by
 unfold setWalk
 refine wpAny_bind (wpAny_setState_of ho rfl (by rfl) ?_)
 dsimp only
 unfold setsByText
 refine wpAny_bind (wpAny_bind (wpAny_askSetting (wpAny_pure ?_)))
 show wpAny _ _ (if byText w=true then _ else _) _ _ _
 rw [if_pos hb]
 refine wpAny_bind (wpAny_askSetting ?_)
 rw [pick_one]
 exact wpAny_pure h
end
end Mine.Internal
namespace Mine.Internal
open PySem PySem.W PyProof.Rows PySem.Calls PySem.Spec
open AutoSeq1 (wpAny_loadPart')
section
variable{prog:Program}{w:World}{A:Around}{E:Value->Shared->Prop}{s:Shared}
theorem sit_item{a I:Addr}{e:Nat}{Q:Option Value->Shared->Prop}(hI:s.heap.get? I=some (sitObj a 0 0 e))(ho:s.heap.get? a=some {cls:=.type "set",data:=.set #[(1,.bool true)] e (setT1 (!byText w))})
 (h:∀h' n,Heap.SameBut I s.heap h'->h'.get? I=some (sitObj a n 1 e)->(byText w=false->n=2)->Q (some (.bool true)) {s with heap:=h'}):wpAny (model prog w) A (pyNext (.ref I)) Q E s:=by
 have hT:s.TypeIs (.ref I) "set_iterator":=⟨_,hI,rfl⟩
 unfold pyNext
 refine wpAny_bind (wpAny_attempt (wpAny_callSpecial?_slot (name:=Str.ofString "__next__") hT slot_sit_next (wpAny_call_entry slot_sit_next hT entry_sit_next ?_ (args_sit_next _))))
 obtain ⟨hp,g,d,tk,os⟩:=s
 wp_walk using wpAny_loadPart' hI,wpAny_loadPart' ho
 refine wpAny_askSetting ?_
 refine wpAny_pure ?_
 show wpAny _ _ (if byText w=true then _ else _) _ _ _
 cases hb:byText w with
 | true =>
  rw [hb] at ho
  rw [if_pos rfl]
  show wpAny _ _ (if (e != ((e:Nat):Int).toNat)=true then _ else (setWalk a>>=_)) _ _ _
  rw [if_neg (by simp)]
  refine wpAny_bind ?_
  refine walk_text hb ho ?_
  show wpAny _ _ (pure (some (Value.bool true,0))) _ _ _
  refine wpAny_pure ?_
  dsimp only
  refine wpAny_bind (wpAny_setField_rec hI (by simp) fun h₂ he₂ hs₂=>?_)
  refine wpAny_bind (wpAny_setField_rec he₂ (by simp) fun h₃ he₃ hs₃=>?_)
  refine wpAny_pure ⟨_,rfl,wpAny_pure (h h₃ 0 ((show Heap.SameBut I hp h₂ from hs₂).trans hs₃) he₃ fun q=>?_)⟩
  rw [hb] at q;cases q
 | false =>
  rw [hb] at ho
  rw [if_neg Bool.false_ne_true]
  show wpAny _ _ (pure (some (Value.bool true,2))) _ _ _
  refine wpAny_pure ?_
  dsimp only
  refine wpAny_bind (wpAny_setField_rec hI (by simp) fun h₂ he₂ hs₂=>?_)
  refine wpAny_bind (wpAny_setField_rec he₂ (by simp) fun h₃ he₃ hs₃=>?_)
  exact wpAny_pure ⟨_,rfl,wpAny_pure (h h₃ 2 ((show Heap.SameBut I hp h₂ from hs₂).trans hs₃) he₃ fun _=>rfl)⟩
theorem sit_end{a I:Addr}{e:Nat}{n:Int}{Q:Option Value->Shared->Prop}(hh:A.handled=none)(hI:s.heap.get? I=some (sitObj a n 1 e))(hn:byText w=false->n=2)(ho:s.heap.get? a=some {cls:=.type "set",data:=.set #[(1,.bool true)] e (setT1 (!byText w))})
 (h:∀h',Heap.ExtBut I s.heap h'->Q none {s with heap:=h'}):wpAny (model prog w) A (pyNext (.ref I)) Q E s:=by
 have hT:s.TypeIs (.ref I) "set_iterator":=⟨_,hI,rfl⟩
 unfold pyNext
 refine wpAny_bind (wpAny_attempt (wpAny_callSpecial?_slot (name:=Str.ofString "__next__") hT slot_sit_next (wpAny_call_entry slot_sit_next hT entry_sit_next ?_ (args_sit_next _))))
 obtain ⟨hp,g,d,tk,os⟩:=s
 wp_walk using wpAny_loadPart' hI,wpAny_loadPart' ho
 refine wpAny_askSetting ?_
 refine wpAny_pure ?_
 show wpAny _ _ (if byText w=true then _ else _) _ _ _
 have fin:∀(P:Fin->Shared->Prop),wpAny (model prog w) A.in1 (do setField (Value.ref I) 2 Value.none;let x←newExc (Value.type "StopIteration") [];raiseNew x) P
  (fun e s'=>wpAny (model prog w) A (do let b←isInstance e (Value.type "StopIteration");if b=true then pure none else throw e) Q E s') ⟨hp,g,d,tk,os⟩:=by
  intro P
  refine wpAny_bind (wpAny_setField_rec hI (by simp) fun h₂ he₂ hs₂=>?_)
  refine wpAny_bind ?_
  simp only [newExc,newTuple]
  refine wpAny_bind (wpAny_newObj_type ?_ (by size_fits))
  refine wpAny_bind (m:=firstArgMember _ _) (wpAny_of_eq (a:=Value.none) (by first|rfl|(simp only [firstArgMember];rfl)) ?_)
  refine wpAny_newObj_type ?_ (by size_fits)
  simp only [raiseNew]
  refine wpAny_bind (wpAny_handled ?_)
  rw [show A.in1.handled=none from hh]
  refine wpAny_bind (wpAny_pure (wpAny_throw ?_))
  refine wpAny_bind (wpAny_isInstance (T:="StopIteration") (b:=true) ⟨_,Heap.get?_push_size _ rfl,rfl⟩ isSubtype_stop ?_)
  rw [if_pos rfl]
  exact wpAny_pure (h _ (((show Heap.SameBut I hp h₂ from hs₂).extBut.push _).push _))
 cases hb:byText w with
 | true =>
  rw [hb] at ho
  rw [if_pos rfl]
  show wpAny _ _ (if (e != ((e:Nat):Int).toNat)=true then _ else (setWalk a>>=_)) _ _ _
  rw [if_neg (by simp)]
  refine wpAny_bind ?_
  refine walk_text hb ho ?_
  show wpAny _ _ (pure none) _ _ _
  refine wpAny_pure ?_
  exact fin _
 | false =>
  rw [hb] at ho
  rw [if_neg Bool.false_ne_true]
  have e2:=hn hb
  subst e2
  show wpAny _ _ (pure none) _ _ _
  refine wpAny_pure ?_
  exact fin _
end
end Mine.Internal
namespace Mine.Internal
open PySem PySem.W PyProof.Rows PySem.Calls PySem.Spec
section
variable{prog:Program}{w:World}{A:Around}{s:Shared}{env:Env}{E:Value->Shared->Prop}
variable{h₀ g₀ g:Heap}{xt:List Addr}{L:Addr}{N Nn Gl No Go:List Str}{vs:List (Option Value)}{mu:List (Addr×Obj)}
theorem asSet{e0:Expr}{k:Nat}{tp:Pos}{a:Addr}{Q:Unit->Shared->Prop}(hh:A.handled=none)(F:St h₀ xt g₀ g L N vs mu s.heap)(ha:g.get? a=some (setO1 (!byText w)))
 (h:∀h',St h₀ xt g₀ g L N vs mu h'->wpAny (model prog w) A (assignInOrder ((assignEach [e0] env).map (·.2)) [.bool true]) Q E {s with heap:=h'})
 (hn:autoParam ((assignEach [e0] env).length=1) au0) (hs:autoParam ((assignEach [e0] env).findIdx? (·.1)=none) au0):wpAny (model prog w) A (assign (.Tuple [e0] k tp) env (.ref a)) Q E s:=by
 rw [arm_assign_Tuple]
 refine wpAny_bind (wpAny_standAt ?_)
 unfold unpack
 rw [hn,hs]
 have hT:s.TypeIs (.ref a) "set":=⟨_,F.keep _ _ ha,rfl⟩
 refine wpAny_bind (wpAny_holding ?_)
 unfold unpackItems
 refine wpAny_bind ?_
 unfold notIterableAtAll
 refine wpAny_bind (wpAny_specialOf hT PySem.F.slot_set_iter.lookup ?_)
 refine wpAny_pure ?_
 simp only [Bool.false_eq_true,if_false]
 refine wpAny_bind (wpAny_holding (set_iter (F.keep _ _ ha) fun e he=>?_))
 have ha':=ha
 rw [he] at ha'
 have F₁:=F.own (sitObj a 0 0 e)
 refine wpAny_bind (wpAny_holding ?_)
 unfold draw
 refine wpAny_bind (sit_item (F₁.mt _ (.head _)).1 (F₁.keep _ _ ha') fun h' n hs' hI' hn'=>?_)
 have F₂:=F₁.turn (pre:=[]) rfl hs' hI'
 dsimp only
 refine wpAny_bind (wpAny_holding ?_)
 unfold draw
 refine wpAny_pure (wpAny_pure ?_)
 rw [if_neg (by simp)]
 refine wpAny_bind (wpAny_holding (sit_end hh (F₂.mt _ (.head _)).1 hn' (F₂.keep _ _ ha') fun h'' he''=>?_))
 simp only [Option.isSome_none,Bool.false_eq_true,if_false]
 exact wpAny_pure (h h'' (F₂.but fun b o hb q=>he'' b o (fun z=>hb (by simp [z])) q))
theorem compTurn_set(elt target iter:Expr)(ifs:List Expr)(scope:Scope)(pos:Pos)(it acc:Value)(env:Env) :
 compTurn (.SetComp elt [⟨target,iter,ifs,0⟩] scope pos) 0 it acc env=(do
  standAt iter.pos
  match←pyNext it with
  | none=>pure (.done .next)
  | some v =>
   letOwnedTupleGo target it v
   assign target env v
   let ok←tests ifs env
   if ok then
    (do let v←eval elt env;standAt elt.pos;let _←call (.builtin "set.add") [acc,v])
   again (.compLoop (.SetComp elt [⟨target,iter,ifs,0⟩] scope pos) 0 it acc env)):=by rfl
theorem sc_loop{elt target iter:Expr}{ifs:List Expr}{scope:Scope}{pos:Pos}{it acc:Value}{R:Result->Shared->Prop}(I:Nat->Shared->Prop)
 (turn:∀n s (T:Shared->Prop),(∀m s',m<n->I m s'->T s')->I n s->wpAny (model prog w) A (pyNext it) (fun r s₁=>match r with
  | none=>R (.ok .next) s₁
  | some v=>wpAny (model prog w) A (letOwnedTupleGo target it v) (fun _ s₀=>wpAny (model prog w) A (assign target env v) (fun _ s₂ =>
   wpAny (model prog w) A (tests ifs env) (fun ok s₃=>ok=true/\wpAny (model prog w) A (eval elt env) (fun x s₄ =>
    wpAny (model prog w) A (call (.builtin "set.add") [acc,x]) (fun _=>T) no s₄) no s₃) no s₂) no s₀) no s₁) no s)
 (n:Nat) (h:I n s):codeAny (model prog w) A (.compLoop (.SetComp elt [⟨target,iter,ifs,0⟩] scope pos) 0 it acc env) R s:=by
 refine codeAny_loop rfl I (fun n s hI=>?_) n h
 show wpAny _ A ((compTurn (.SetComp elt [⟨target,iter,ifs,0⟩] scope pos) 0 it acc env).onRaise (fun x=>do noteFrame x env;theTreesLotGoes x)) _ _ s
 refine wpAny_noted ?_
 rw [compTurn_set]
 refine wpAny_bind (wpAny_standAt (wpAny_bind (wpAny_no (wpAny_mono (turn n s (fun s'=>∃m,m<n/\I m s') (fun m s' a b=>⟨m,a,b⟩) hI) (fun r s₁ h₁=>?_) fun _ _ h'=>h'))))
 cases r with
 | none=>exact wpAny_pure h₁
 | some v =>
  refine wpAny_bind (wpAny_no (wpAny_mono h₁ (fun _ s₀ h₀'=>?_) fun _ _ h'=>h'))
  refine wpAny_bind (wpAny_no (wpAny_mono h₀' (fun _ s₂ h₂=>?_) fun _ _ h'=>h'))
  refine wpAny_bind (wpAny_no (wpAny_mono h₂ (fun okb s₃ h₃=>?_) fun _ _ h'=>h'))
  obtain ⟨rfl,h₃⟩:=h₃
  exact wpAny_bind (wpAny_bind (wpAny_no (wpAny_mono h₃ (fun x s₄ h₄=>wpAny_bind (wpAny_standAt (wpAny_bind (wpAny_no (wpAny_mono h₄ (fun _ s₅ h₅=>wpAny_pure (wpAny_pure ⟨rfl,h₅⟩)) fun _ _ h'=>h'))))) fun _ _ h'=>h')))
theorem compStart_set{elt target iter ifs rest scope pos it acc env}{R:Result->Shared->Prop}
 (h0:codeAny (model prog w) A (.compLoop (.SetComp elt (⟨target,iter,ifs,0⟩::rest) scope pos) 0 it acc env) R s)
 (h:wpAny (model prog w) A (pyIter it) (fun it' s'=>codeAny (model prog w) A (.compLoop (.SetComp elt (⟨target,iter,ifs,0⟩::rest) scope pos) 0 it' acc env) R s')
  (notedBy (model prog w) A env fun x s'=>R (.error x) s') s) :
 codeAny (model prog w) A (.compStart (.SetComp elt (⟨target,iter,ifs,0⟩::rest) scope pos) 0 it acc env) R s:=by
 refine codeAny_of_tree ?_
 show wpAny _ _ ((compStart (.SetComp elt (⟨target,iter,ifs,0⟩::rest) scope pos) 0 it acc env).onRaise (fun x=>do noteFrame x env;standAt theWindowsPlace)) _ _ s
 refine wpAny_notedAt ?_
 unfold compStart
 show wpAny _ _ (ask>>=_) _ _ s
 refine wpAny_bind (wpAny_askSetting (wpAny_ite ?_))
 split
 · first
    | exact wpAny_bind (wpAny_pure (wpAny_pure (And.intro rfl h0)))
    | exact wpAny_pure (And.intro rfl h0)
 · first
    | exact wpAny_bind (wpAny_rule (wpAny_bind (wpAny_standAt (wpAny_bind (wpAny_mono h (fun it' s' h'=>wpAny_pure ⟨rfl,h'⟩) fun _ _ e=>e)))))
theorem newSet_{Q:Value->Shared->Prop}(h:Q (.ref s.heap.objs.size) {s with heap:=s.heap.push (setO0 (!byText w))}):wpAny (model prog w) A (newSet (.type "set")) Q E s:=by
 unfold newSet setsByText
 refine wpAny_bind (wpAny_bind (wpAny_askSetting (wpAny_pure ?_)))
 exact wpAny_newObj_type h
noncomputable def SEnd(s:Shared)(g:Heap)(I C D:Addr)(oI so:Obj)(Nn:List Str)(g₁:Heap)(y:Value)(s':Shared):Prop :=
 y=.bool true/\∃g' us h' t',s'={s with heap:=h',toks:=t'}/\Le g₁ g'/\St s.heap [I] g g' C Nn us [(I,oI),(D,so)] h'
theorem set_block{elt target iter:Expr}{ifs:List Expr}{scope:Scope}{pos:Pos}{cl:List (Str×Addr)}{I:Addr}{oI:Obj}{n:Nat}{P:Nat->Value->Prop}{Wst:Nat->Heap->Prop}{Q:Value->Shared->Prop}
 (hc:chkC scope Nn Gl=true) (C₀:Cx env No Go) (F:St h₀ xt g₀ g L N vs ((I,oI)::mu) s.heap) (hI:It prog w A target I n P g Wst) (h0:Wst 0 s.heap) (hn1:1<=n)
 (turn:∀i v (s:Shared) g' us so I oI C D h tk,P i v->Le g g'->us.length=Nn.length->Cx (compEnvC scope cl C env) Nn Gl->St s.heap [I] g g' C Nn us [(I,oI),(D,so)] h ->
  wpAny (model prog w) A (assign target (compEnvC scope cl C env) v) (fun _ s₁=>wpAny (model prog w) A (tests ifs (compEnvC scope cl C env)) (fun ok s₃ =>
   ok=true/\wpAny (model prog w) A (eval elt (compEnvC scope cl C env)) (SEnd s g I C D oI so Nn g') no s₃) no s₁) no {s with heap:=h,toks:=tk})
 (done:∀g' D h' tk,Le g g'->g'.get? D=some (setO1 (!byText w))->St h₀ xt g₀ g' L N vs mu h'->Q (.ref D) {s with heap:=h',toks:=tk}) :
 wpAny (model prog w) A (newSet (.type "set")) (fun acc s₃=>wpAny (model prog w) A (newFunctionEnv scope env.globals cl [] env.qual none .none (some env)) (fun cenv s₄ =>
  codeAny (model prog w) A (.compStart (.SetComp elt [⟨target,iter,ifs,0⟩] scope pos) 0 (.ref I) acc {cenv with scope:=relabel scope env}) (compPost (model prog w) A no none Q acc cenv.locals) s₄) no s₃) no s:=by
 refine newSet_ (comp_env (Nn:=Nn) (chkC_cell hc) (chkC_kind hc) rfl F fun C h₁ hC old F₁=>?_)
 generalize hD:s.heap.objs.size=D at F₁ ⊢
 have loop:codeAny (model prog w) A (.compLoop (.SetComp elt [⟨target,iter,ifs,0⟩] scope pos) 0 (.ref I) (.ref D) (compEnvC scope cl C env)) (compPost (model prog w) A no none Q (.ref D) C) {s with heap:=h₁,toks:=s.toks+0}:=by
  refine sc_loop (LI s s.heap g g [I] C Nn I Wst (fun i _ _ mu'=>mu'=[(D,if i=0 then setO0 (!byText w) else setO1 (!byText w))]) n) (fun k s' T hT H=>?_) (n+1)
   fun G k=>k 0 h₁ _ g _ _ oI (Nat.zero_le _) rfl (hI.start h0 old) Le.rfl' (congrArg (fun x=>[(D,x)]) (if_pos rfl).symm) F₁
  refine LI.turn hT H hI (fun i v h tk g' us mu' oI hi hP hw hg hJ F' fin=>wpAny_no (hI.go (i+1) v _ _ hw ?_)) fun h tk g' us mu' hg hJ F'=>?_
  · subst hJ
    have fin':∀g'' us'' h'' t'',Le g' g''->St s.heap [I] g g'' C Nn us'' [(I,oI),(D,setO1 (!byText w))] h''->T {s with heap:=h'',toks:=t''}:=fun g'' us'' h'' t'' k2 F₃ =>
     fin g'' us'' _ h'' t'' k2 F₃ (congrArg (fun x=>[(D,x)]) (if_neg (Nat.succ_ne_zero i)).symm)
    refine wpAny_mono (turn i v s g' us _ I oI C D h tk hP hg F'.len (chkC_cx hc C₀ cl _) F') (fun _ s₁ h₁'=>wpAny_mono h₁' (fun ok s₃ h₃=>⟨h₃.1,?_⟩) fun _ _ e=>e) fun _ _ e=>e
    refine wpAny_mono h₃.2 (fun y s₄ h₄=>?_) fun _ _ e=>e
    obtain ⟨rfl,g'',us'',h'',t'',rfl,k2,F₃⟩:=h₄
    have hD:=(F₃.mt _ (.tail _ (.head _))).1
    by_cases hi0:i=0
    · rw [if_pos hi0] at F₃ hD
      exact add_first hD fun h₆ hs₆ hD₆=>fin' g'' us'' h₆ _ k2 (F₃.turn (pre:=[(I,oI)]) (post:=[]) rfl hs₆ hD₆)
    · rw [if_neg hi0] at F₃ hD
      exact add_second hD (fin' g'' us'' h'' _ k2 F₃)
  · subst hJ
    rw [if_neg (by exact zz363 hn1)] at F'
    obtain ⟨g'',k2,eD,F₃⟩:=F'.freeze (pre:=[]) (post:=[]) rfl (Nat.le_of_eq hD)
    obtain ⟨m,hm,O,F₄⟩:=comp_out F hC F₃
    exact ⟨m,hm,fun h'' hs=>done g'' D h'' tk (hg.tr k2) eD (F₄.off O hs)⟩
 obtain ⟨⟨_,W,_⟩,_,_⟩:=hI
 exact compStart_set loop (W.self 0 _ _ _ (It.start ⟨⟨_,W,‹_›⟩,‹_›,‹_›⟩ h0 old) loop)
theorem evSet{elt iter:Expr}{x:Str}{p:Pos}{ifs:List Expr}{scope:Scope}{pos:Pos}{cl:List (Str×Addr)}{l:Addr}{items:List Value}{Q:Value->Shared->Prop}(hh:A.handled=none)(hc:chkC scope Nn Gl=true)(hclo:clo env.cells scope.names []=some cl)
 (C₀:Cx env No Go) (hn1:1<=items.length)
 (h:wpAny (model prog w) A (eval iter env) (fun xv s₁=>xv=.ref l/\∃g₁ vs₁ mu₁,St h₀ xt g₀ g₁ L N vs₁ mu₁ s₁.heap/\g₁.get? l=some (tupObj items) /\
  (∀(i:Nat) (v:Value) (s:Shared) g' us so I oI C D h tk,items[i]?=some v->Le g₁ g'->us.length=Nn.length->Cx (compEnvC scope cl C env) Nn Gl->St s.heap [I] g₁ g' C Nn us [(I,oI),(D,so)] h ->
   wpAny (model prog w) A (storeName (compEnvC scope cl C env) x v) (fun _ s₁=>wpAny (model prog w) A (tests ifs (compEnvC scope cl C env)) (fun ok s₃ =>
   ok=true/\wpAny (model prog w) A (eval elt (compEnvC scope cl C env)) (SEnd s g₁ I C D oI so Nn g') no s₃) no s₁) no {s with heap:=h,toks:=tk}) /\
  ∀g' D h' tk,Le g₁ g'->g'.get? D=some (setO1 (!byText w))->St h₀ xt g₀ g' L N vs₁ mu₁ h'->Q (.ref D) {s₁ with heap:=h',toks:=tk}) no s)
 (hs:autoParam (∀x,foldedSetIterable iter env x=pure x) au1):wpAny (model prog w) A (eval (.SetComp elt [⟨.Name x p,iter,ifs,0⟩] scope pos) env) Q E s:=by
 refine wpAny_no ?_
 rw [arm_eval_SetComp]
 refine wpAny_comprehension_free (use:=none) (g:=⟨.Name x p,iter,ifs,0⟩) (gs:=[]) rfl hs (closureFor_clo hclo) (chkC_kind hc) (chkC_names hc) (wpAny_mono h (fun xv s₁ h₁=>?_) fun _ _ e=>e)
 obtain ⟨rfl,g₁,vs₁,mu₁,F,hl,turn,done⟩:=h₁
 refine wpAny_pyIter_tuple ⟨_,F.keep _ _ hl,rfl,_,rfl⟩ ?_
 have F₁:=F.own (titObj l)
 obtain ⟨hI,h0⟩:=It.tuple (prog:=prog) (w:=w) (A:=A) (target:=.Name x p) hh hl (F₁.mt _ (.head _)).2.2.1 F₁.keep (F₁.mt _ (.head _)).1 fun i v s Q _ h=>go_name h
 exact set_block (Q:=Q) hc C₀ F₁ hI h0 hn1 (fun i v s g' us so I oI C D h tk hP hg hus Cc F'=>wpAny_assign_Name (turn i v s g' us so I oI C D h tk hP hg hus Cc F')) done
end
end Mine.Internal
namespace Mine.Internal
open PySem PySem.W PyProof.Rows PySem.Calls PySem.Spec
open PySem.SeqAt
noncomputable def CmpIn(prog:Program)(w:World)(A:Around)(op:CmpOp)(g:Heap)(items:List Value)(bt:Nat->Nat->Bool):Prop :=
 ∀(i j:Nat) (vi vj:Value) (s:Shared) (Q:Value->Shared->Prop) (E:Value->Shared->Prop),Le g s.heap->items[i]?=some vi->items[j]?=some vj->Q (.bool (bt i j)) s->wpAny (model prog w) A (richCompare op vi vj) Q E s
section
variable{prog:Program}{w:World}{A:Around}{E:Value->Shared->Prop}{s:Shared}
variable{h₀ g₀ g:Heap}{xt:List Addr}{L:Addr}{N:List Str}{vs:List (Option Value)}{mu:List (Addr×Obj)}
theorem upd_to{h:Heap}{S:Addr}{ys zs:List Value}{c:Nat}(hS:h.get? S=some (lstObj ys c)):∃c',(h.update S (Obj.mapSeq fun _=>zs.toArray)).get? S=some (lstObj zs c'):=by
 exact ⟨_,get?_update_seq hS fun _=>zs.toArray⟩
theorem min_loop{I S l:Addr}{items:List Value}{k₀:Nat}{R:Result->Shared->Prop}(hh:A.handled=none)(bt:Nat->Nat->Bool)(hcmp:CmpIn prog w A.in1 .Lt g items bt)(hl:g.get? l=some (lstObj items k₀))
 (done:∀v h tk,items[argBest bt (items.length-1)]?=some v->St h₀ xt g₀ g L N vs mu h->R (.ok (.ret v)) {s with heap:=h,toks:=tk}) :
 ∀(k j:Nat) (vb:Value) (h:Heap) (tk:Nat) (oI:Obj) (c:Nat),items.length-(j+1)=k->j+1<=items.length->items[argBest bt j]?=some vb->St h₀ xt g₀ g L N vs ((I,oI)::(S,lstObj [vb,vb] c)::mu) h->h.IsListIter I l (j+1) ->
  codeAny (model prog w) A (.builtin "min.loop" ⟨[.ref I,.none,.ref S],[]⟩) R {s with heap:=h,toks:=tk}:=by
 have hname:(toString "min"++toString ".loop":String)="min.loop":=by decide
 intro k
 induction k with
 | zero =>
  intro j vb h tk oI c hk hj hvb F hit
  have hin:j+1=items.length:=by exact zz324 hk hj
  refine codeAny_builtin PySem.F.entry_min_loop ?_
  rw [Around.under_plainId PySem.F.plain_min_loop _]
  show wpAny _ A.in1 (seqItems? (.ref S)>>=_) _ _ _
  refine wpAny_bind (wpAny_seqItems (F.mt _ (.tail _ (.head _))).1 rfl ?_)
  show wpAny _ A.in1 (tryCatch (pyNext (.ref I)) _>>=_) _ _ _
  refine wpAny_bind (wpAny_tryCatch (wpAny_pyNext_list_end hh hit ⟨_,F.keep _ _ hl,rfl,_,rfl⟩ (by simp;exact zz325 hin) fun h' he=>?_))
  have F₁:=F.but (h₁:=h') fun b o hb e=>he b o (fun q=>hb (by simp [q])) e
  have hS:=(F₁.mt _ (.head _)).1
  show wpAny _ A.in1 (updateSeq S (fun _=>#[])>>=_) _ _ _
  refine wpAny_bind ?_
  refine wpAny_updateSeq hS rfl (wpAny_bind (wpAny_letGo (wpAny_pure ?_))) (by simp [sizeLine_eq]) (by simp)
  obtain ⟨c',hc'⟩:=upd_to (zs:=[]) hS
  have F₂:=F₁.turn (pre:=[]) rfl (Heap.SameBut.update ..) hc'
  exact done vb _ tk (by rw [show items.length-1=j by exact zz326 hin];exact hvb) (F₂.sub (List.sublist_cons_self _ _))
 | succ k ih =>
  intro j vb h tk oI c hk hj hvb F hit
  have hlt:j+1<items.length:=by exact zz327 hk
  refine codeAny_builtin PySem.F.entry_min_loop ?_
  rw [Around.under_plainId PySem.F.plain_min_loop _]
  show wpAny _ A.in1 (seqItems? (.ref S)>>=_) _ _ _
  refine wpAny_bind (wpAny_seqItems (F.mt _ (.tail _ (.head _))).1 rfl ?_)
  show wpAny _ A.in1 (tryCatch (pyNext (.ref I)) _>>=_) _ _ _
  refine wpAny_bind (wpAny_tryCatch (wpAny_pyNext_list_item hit ⟨_,F.keep _ _ hl,rfl,_,rfl⟩ (x:=items[j+1]) (by simp [hlt]) fun h' hit' hs'=>?_))
  obtain ⟨o₁,ho₁,hc₁,hd₁⟩:=hit'
  have F₁:=F.turn (pre:=[]) rfl hs' ho₁
  show wpAny _ A.in1 (tryCatch (holding [items[j+1],items[j+1]] (richCompare .Lt items[j+1] vb>>=_)) _>>=_) _ _ _
  refine wpAny_bind (wpAny_tryCatch (wpAny_holding (wpAny_bind (hcmp (j+1) (argBest bt j) _ vb _ _ _ F₁.keep (by simp [hlt]) hvb ?_))))
  refine wpAny_bind (wpAny_holding (wpAny_truthy_bool ?_))
  refine wpAny_bind (wpAny_letGo (wpAny_pure ?_))
  have hS:=(F₁.mt _ (.tail _ (.head _))).1
  cases hb:bt (j+1) (argBest bt j) with
  | true =>
   simp only [if_true]
   refine wpAny_bind ?_
   refine wpAny_updateSeq hS rfl (wpAny_bind (wpAny_letGo ?_)) (by simp [sizeLine_eq]) (by simp [sizeLine_eq])
   rw [hname]
   obtain ⟨c',hc'⟩:=upd_to (zs:=[items[j+1],items[j+1]]) hS
   have F₂:=F₁.turn (pre:=[(I,o₁)]) rfl (Heap.SameBut.update ..) hc'
   exact wpAny_pure ⟨plainId_quiet PySem.F.plain_min_loop _,ih (j+1) items[j+1] _ tk o₁ c' (by exact zz328 hk) hlt (by simp only [argBest,hb,if_true];simp [hlt]) F₂ ⟨o₁,(F₂.mt _ (.head _)).1,hc₁,hd₁⟩⟩
  | false =>
   simp only [Bool.false_eq_true,if_false]
   refine wpAny_bind (wpAny_letGo ?_)
   rw [hname]
   exact wpAny_pure ⟨plainId_quiet PySem.F.plain_min_loop _,ih (j+1) vb _ tk o₁ c (by exact zz328 hk) hlt (by simp only [argBest,hb,Bool.false_eq_true,if_false];exact hvb) F₁ ⟨o₁,ho₁,hc₁,hd₁⟩⟩
theorem minL{l:Addr}{items:List Value}{k₀:Nat}{Q:Value->Shared->Prop}(hh:A.handled=none)(bt:Nat->Nat->Bool)(hcmp:CmpIn prog w A.in1.in1 .Lt g items bt)(F:St h₀ xt g₀ g L N vs mu s.heap)(hl:g.get? l=some (lstObj items k₀))(hn:0<items.length)
 (done:∀v h tk,items[argBest bt (items.length-1)]?=some v->St h₀ xt g₀ g L N vs mu h->Q v {s with heap:=h,toks:=tk}):wpAny (model prog w) A (call (.builtin "min") [.ref l]) Q E s:=by
 have hname:(toString "min"++toString ".loop":String)="min.loop":=by decide
 refine call_function_tree PySem.F.kind_min PySem.F.plain_min PySem.F.entry_min (PySem.F.args_min1 _) ?_
 show wpAny _ A.in1 (Builtin.Builtins.bindParams "min" ["key","default"] 0 ⟨[],[]⟩>>=_) _ _ s
 refine wpAny_bind (wpAny_of_eq (show Builtin.Builtins.bindParams "min" ["key","default"] 0 ⟨[],[]⟩=pure [none,none] from rfl) ?_)
 refine wpAny_bind (wpAny_pure ?_)
 refine wpAny_bind (wpAny_pyIter_list ⟨_,F.keep _ _ hl,rfl,_,rfl⟩ ?_)
 refine wpAny_bind (wpAny_newObj_type ?_)
 have F₁:=F.own (litObj l)
 have F₂:=(F₁.own (lstObj [] 0)).swap
 rw [hname]
 refine wpAny_pure ⟨plainId_quiet PySem.F.plain_min_loop _,?_⟩
 have hit:((s.heap.push (litObj l)).push (lstObj [] 0)).IsListIter s.heap.objs.size l 0:=⟨_,(F₂.mt _ (.head _)).1,rfl,rfl⟩
 refine codeAny_builtin PySem.F.entry_min_loop ?_
 rw [Around.under_plainId PySem.F.plain_min_loop _]
 show wpAny _ A.in1 (seqItems? (.ref (s.heap.push (litObj l)).objs.size)>>=_) _ _ _
 refine wpAny_bind (wpAny_seqItems (F₂.mt _ (.tail _ (.head _))).1 rfl ?_)
 show wpAny _ A.in1 (tryCatch (pyNext (.ref s.heap.objs.size)) _>>=_) _ _ _
 refine wpAny_bind (wpAny_tryCatch (wpAny_pyNext_list_item hit ⟨_,F₂.keep _ _ hl,rfl,_,rfl⟩ (x:=items[0]) (by simp [hn]) fun h' hit' hs'=>?_))
 obtain ⟨o₁,ho₁,hc₁,hd₁⟩:=hit'
 have F₃:=F₂.turn (pre:=[]) rfl hs' ho₁
 have hS:=(F₃.mt _ (.tail _ (.head _))).1
 show wpAny _ A.in1 (updateSeq (s.heap.push (litObj l)).objs.size (fun _=>#[items[0],items[0]])>>=_) _ _ _
 refine wpAny_bind ?_
 refine wpAny_updateSeq hS rfl ?_ (by simp [sizeLine_eq]) (by simp [sizeLine_eq])
 rw [hname]
 obtain ⟨c',hc'⟩:=upd_to (zs:=[items[0],items[0]]) hS
 have F₄:=F₃.turn (pre:=[(s.heap.objs.size,o₁)]) rfl (Heap.SameBut.update ..) hc'
 refine wpAny_pure ⟨plainId_quiet PySem.F.plain_min_loop _,min_loop (A:=A) (s:=s) (S:=(s.heap.push (litObj l)).objs.size) (items:=items) hh bt (fun i j vi vj s Q E kk a b c=>?_) hl ?_ _ 0 items[0] _ s.toks o₁ c' rfl hn (by simp [argBest,hn]) F₄ ⟨o₁,(F₄.mt _ (.head _)).1,hc₁,hd₁⟩⟩
 · exact wpAny_of_in1 (hcmp i j vi vj s Q E kk a b c)
 · exact fun v h tk a b=>done v h tk a b
theorem max_loop{I S l:Addr}{items:List Value}{k₀:Nat}{R:Result->Shared->Prop}(hh:A.handled=none)(bt:Nat->Nat->Bool)(hcmp:CmpIn prog w A.in1 .Gt g items bt)(hl:g.get? l=some (lstObj items k₀))
 (done:∀v h tk,items[argBest bt (items.length-1)]?=some v->St h₀ xt g₀ g L N vs mu h->R (.ok (.ret v)) {s with heap:=h,toks:=tk}) :
 ∀(k j:Nat) (vb:Value) (h:Heap) (tk:Nat) (oI:Obj) (c:Nat),items.length-(j+1)=k->j+1<=items.length->items[argBest bt j]?=some vb->St h₀ xt g₀ g L N vs ((I,oI)::(S,lstObj [vb,vb] c)::mu) h->h.IsListIter I l (j+1) ->
  codeAny (model prog w) A (.builtin "max.loop" ⟨[.ref I,.none,.ref S],[]⟩) R {s with heap:=h,toks:=tk}:=by
 have hname:(toString "max"++toString ".loop":String)="max.loop":=by decide
 intro k
 induction k with
 | zero =>
  intro j vb h tk oI c hk hj hvb F hit
  have hin:j+1=items.length:=by exact zz324 hk hj
  refine codeAny_builtin PySem.F.entry_max_loop ?_
  rw [Around.under_plainId PySem.F.plain_max_loop _]
  show wpAny _ A.in1 (seqItems? (.ref S)>>=_) _ _ _
  refine wpAny_bind (wpAny_seqItems (F.mt _ (.tail _ (.head _))).1 rfl ?_)
  show wpAny _ A.in1 (tryCatch (pyNext (.ref I)) _>>=_) _ _ _
  refine wpAny_bind (wpAny_tryCatch (wpAny_pyNext_list_end hh hit ⟨_,F.keep _ _ hl,rfl,_,rfl⟩ (by simp;exact zz325 hin) fun h' he=>?_))
  have F₁:=F.but (h₁:=h') fun b o hb e=>he b o (fun q=>hb (by simp [q])) e
  have hS:=(F₁.mt _ (.head _)).1
  show wpAny _ A.in1 (updateSeq S (fun _=>#[])>>=_) _ _ _
  refine wpAny_bind ?_
  refine wpAny_updateSeq hS rfl (wpAny_bind (wpAny_letGo (wpAny_pure ?_))) (by simp [sizeLine_eq]) (by simp)
  obtain ⟨c',hc'⟩:=upd_to (zs:=[]) hS
  have F₂:=F₁.turn (pre:=[]) rfl (Heap.SameBut.update ..) hc'
  exact done vb _ tk (by rw [show items.length-1=j by exact zz326 hin];exact hvb) (F₂.sub (List.sublist_cons_self _ _))
 | succ k ih =>
  intro j vb h tk oI c hk hj hvb F hit
  have hlt:j+1<items.length:=by exact zz327 hk
  refine codeAny_builtin PySem.F.entry_max_loop ?_
  rw [Around.under_plainId PySem.F.plain_max_loop _]
  show wpAny _ A.in1 (seqItems? (.ref S)>>=_) _ _ _
  refine wpAny_bind (wpAny_seqItems (F.mt _ (.tail _ (.head _))).1 rfl ?_)
  show wpAny _ A.in1 (tryCatch (pyNext (.ref I)) _>>=_) _ _ _
  refine wpAny_bind (wpAny_tryCatch (wpAny_pyNext_list_item hit ⟨_,F.keep _ _ hl,rfl,_,rfl⟩ (x:=items[j+1]) (by simp [hlt]) fun h' hit' hs'=>?_))
  obtain ⟨o₁,ho₁,hc₁,hd₁⟩:=hit'
  have F₁:=F.turn (pre:=[]) rfl hs' ho₁
  show wpAny _ A.in1 (tryCatch (holding [items[j+1],items[j+1]] (richCompare .Gt items[j+1] vb>>=_)) _>>=_) _ _ _
  refine wpAny_bind (wpAny_tryCatch (wpAny_holding (wpAny_bind (hcmp (j+1) (argBest bt j) _ vb _ _ _ F₁.keep (by simp [hlt]) hvb ?_))))
  refine wpAny_bind (wpAny_holding (wpAny_truthy_bool ?_))
  refine wpAny_bind (wpAny_letGo (wpAny_pure ?_))
  have hS:=(F₁.mt _ (.tail _ (.head _))).1
  cases hb:bt (j+1) (argBest bt j) with
  | true =>
   simp only [if_true]
   refine wpAny_bind ?_
   refine wpAny_updateSeq hS rfl (wpAny_bind (wpAny_letGo ?_)) (by simp [sizeLine_eq]) (by simp [sizeLine_eq])
   rw [hname]
   obtain ⟨c',hc'⟩:=upd_to (zs:=[items[j+1],items[j+1]]) hS
   have F₂:=F₁.turn (pre:=[(I,o₁)]) rfl (Heap.SameBut.update ..) hc'
   exact wpAny_pure ⟨plainId_quiet PySem.F.plain_max_loop _,ih (j+1) items[j+1] _ tk o₁ c' (by exact zz328 hk) hlt (by simp only [argBest,hb,if_true];simp [hlt]) F₂ ⟨o₁,(F₂.mt _ (.head _)).1,hc₁,hd₁⟩⟩
  | false =>
   simp only [Bool.false_eq_true,if_false]
   refine wpAny_bind (wpAny_letGo ?_)
   rw [hname]
   exact wpAny_pure ⟨plainId_quiet PySem.F.plain_max_loop _,ih (j+1) vb _ tk o₁ c (by exact zz328 hk) hlt (by simp only [argBest,hb,Bool.false_eq_true,if_false];exact hvb) F₁ ⟨o₁,ho₁,hc₁,hd₁⟩⟩
theorem maxL{l:Addr}{items:List Value}{k₀:Nat}{Q:Value->Shared->Prop}(hh:A.handled=none)(bt:Nat->Nat->Bool)(hcmp:CmpIn prog w A.in1.in1 .Gt g items bt)(F:St h₀ xt g₀ g L N vs mu s.heap)(hl:g.get? l=some (lstObj items k₀))(hn:0<items.length)
 (done:∀v h tk,items[argBest bt (items.length-1)]?=some v->St h₀ xt g₀ g L N vs mu h->Q v {s with heap:=h,toks:=tk}):wpAny (model prog w) A (call (.builtin "max") [.ref l]) Q E s:=by
 have hname:(toString "max"++toString ".loop":String)="max.loop":=by decide
 refine call_function_tree PySem.F.kind_max PySem.F.plain_max PySem.F.entry_max (PySem.F.args_max1 _) ?_
 show wpAny _ A.in1 (Builtin.Builtins.bindParams "max" ["key","default"] 0 ⟨[],[]⟩>>=_) _ _ s
 refine wpAny_bind (wpAny_of_eq (show Builtin.Builtins.bindParams "max" ["key","default"] 0 ⟨[],[]⟩=pure [none,none] from rfl) ?_)
 refine wpAny_bind (wpAny_pure ?_)
 refine wpAny_bind (wpAny_pyIter_list ⟨_,F.keep _ _ hl,rfl,_,rfl⟩ ?_)
 refine wpAny_bind (wpAny_newObj_type ?_)
 have F₁:=F.own (litObj l)
 have F₂:=(F₁.own (lstObj [] 0)).swap
 rw [hname]
 refine wpAny_pure ⟨plainId_quiet PySem.F.plain_max_loop _,?_⟩
 have hit:((s.heap.push (litObj l)).push (lstObj [] 0)).IsListIter s.heap.objs.size l 0:=⟨_,(F₂.mt _ (.head _)).1,rfl,rfl⟩
 refine codeAny_builtin PySem.F.entry_max_loop ?_
 rw [Around.under_plainId PySem.F.plain_max_loop _]
 show wpAny _ A.in1 (seqItems? (.ref (s.heap.push (litObj l)).objs.size)>>=_) _ _ _
 refine wpAny_bind (wpAny_seqItems (F₂.mt _ (.tail _ (.head _))).1 rfl ?_)
 show wpAny _ A.in1 (tryCatch (pyNext (.ref s.heap.objs.size)) _>>=_) _ _ _
 refine wpAny_bind (wpAny_tryCatch (wpAny_pyNext_list_item hit ⟨_,F₂.keep _ _ hl,rfl,_,rfl⟩ (x:=items[0]) (by simp [hn]) fun h' hit' hs'=>?_))
 obtain ⟨o₁,ho₁,hc₁,hd₁⟩:=hit'
 have F₃:=F₂.turn (pre:=[]) rfl hs' ho₁
 have hS:=(F₃.mt _ (.tail _ (.head _))).1
 show wpAny _ A.in1 (updateSeq (s.heap.push (litObj l)).objs.size (fun _=>#[items[0],items[0]])>>=_) _ _ _
 refine wpAny_bind ?_
 refine wpAny_updateSeq hS rfl ?_ (by simp [sizeLine_eq]) (by simp [sizeLine_eq])
 rw [hname]
 obtain ⟨c',hc'⟩:=upd_to (zs:=[items[0],items[0]]) hS
 have F₄:=F₃.turn (pre:=[(s.heap.objs.size,o₁)]) rfl (Heap.SameBut.update ..) hc'
 refine wpAny_pure ⟨plainId_quiet PySem.F.plain_max_loop _,max_loop (A:=A) (s:=s) (S:=(s.heap.push (litObj l)).objs.size) (items:=items) hh bt (fun i j vi vj s Q E kk a b c=>?_) hl ?_ _ 0 items[0] _ s.toks o₁ c' rfl hn (by simp [argBest,hn]) F₄ ⟨o₁,(F₄.mt _ (.head _)).1,hc₁,hd₁⟩⟩
 · exact wpAny_of_in1 (hcmp i j vi vj s Q E kk a b c)
 · exact fun v h tk a b=>done v h tk a b
end
end Mine.Internal
namespace Mine.Internal
open PySem PySem.W PyProof.Rows PySem.Calls PySem.Spec
open PySem.SeqAt AutoSeq1 MeetsSeq MeetsSeq2 MeetsSeq3 SeqRoads2
noncomputable def GtAt(A:Around)(s:Shared)(y x:Value)(b:Bool):Prop :=
 ∀(prog:Program) (w:World) (E:Value->Shared->Prop) (Q:Value->Shared->Prop),Q (.bool b) s->wpAny (model prog w) A (richCompare .Gt y x) Q E s
noncomputable def lexG(e l:Nat->Bool)(m n:Nat):Nat->Nat->Bool
 | 0,_=>decide (m>n)
 | k+1,i=>if e i then lexG e l m n k (i+1) else l i
theorem gt_loop(l b:Addr)(items items2:Array Value)(n n2:Nat)(dd dd2:Option Addr)(sl sl2:Array (Option Value))(e lt:Nat->Bool)(k:Nat) :
 ∀i:Nat,min items.size items2.size-i=k->Meets (Builtin.«list.__eq__.loop» ⟨[.ref l,.ref b,rawInt i,rawInt 4],[]⟩)
  (fun A R s=>s.heap.get? l=some {cls:=.type "list",dict:=dd,data:=.seq items n,slots:=sl}/\s.heap.get? b=some {cls:=.type "list",dict:=dd2,data:=.seq items2 n2,slots:=sl2} /\
   (∀j (h1:j<items.size) (h2:j<items2.size),EqAt A.in1 s items[j] items2[j] (e j)/\(e j=false->GtAt A.in1 s items[j] items2[j] (lt j))) /\
   R (.ok (.ret (.bool (lexG e lt items.size items2.size k i)))) s):=by
 induction k with
 | zero =>
  intro i hk prog w A R s h
  obtain ⟨hp,g,d,tk,os⟩:=s;obtain ⟨hl,hb,he,h⟩:=h
  wp_walk using wpAny_loadPart' hl,wpAny_loadPart' hb
  rcases (by lia:items.size<=i\/(i<items.size/\items2.size<=i)) with h1|⟨h1,h2⟩
  · have hi1:items[((i:Nat):Int).toNat]?=none:=by simp;exact zz75 h1
    rw [hi1]
    wp_walk using wpAny_loadPart' hl,wpAny_loadPart' hb
    exact h
  · have hi1:items[((i:Nat):Int).toNat]?=some items[i]:=by simp [h1]
    have hi2:items2[((i:Nat):Int).toNat]?=none:=by simp;exact zz75 h2
    rw [hi1,hi2]
    wp_walk using wpAny_loadPart' hl,wpAny_loadPart' hb
    exact h
 | succ k ih =>
  intro i hk prog w A R s h
  obtain ⟨hp,g,d,tk,os⟩:=s;obtain ⟨hl,hb,he,h⟩:=h
  wp_walk using wpAny_loadPart' hl,wpAny_loadPart' hb
  have hlt:i<items.size:=by lia
  have hlt2:i<items2.size:=by lia
  have hi1:items[((i:Nat):Int).toNat]?=some items[i]:=by simp [hlt]
  have hi2:items2[((i:Nat):Int).toNat]?=some items2[i]:=by simp [hlt2]
  have hc:((i:Int)+1)=((i+1:Nat):Int):=by push_cast;rfl
  rw [hi1,hi2]
  obtain ⟨he1,hl1⟩:=he i hlt hlt2
  refine wpAny_bind (he1 prog w _ _ ?_)
  unfold lexG at h
  cases hb':e i with
  | true =>
   rw [hb'] at h
   wp_walk
   rw [hc]
   exact ⟨plainId_quiet plain_eq_loop _,codeAny_builtin entry_eq_loop (by
    rw [Around.under_plainId plain_eq_loop _]
    exact ih (i+1) (by exact zz83 hk) prog w A R _ ⟨hl,hb,he,by simpa using h⟩)⟩
  | false =>
   rw [hb'] at h
   wp_walk using wpAny_loadPart' hl,wpAny_loadPart' hb
   rw [hi1,hi2]
   refine wpAny_bind (hl1 hb' prog w _ _ ?_)
   wp_walk
   simpa using h
theorem list_gt(l b:Addr)(items items2:Array Value)(n n2:Nat)(dd dd2:Option Addr)(sl sl2:Array (Option Value))(e lt:Nat->Bool) :
 Meets (Builtin.«list.__gt__» ⟨[.ref l,.ref b],[]⟩)
  (fun A R s=>s.heap.get? l=some {cls:=.type "list",dict:=dd,data:=.seq items n,slots:=sl}/\s.heap.get? b=some {cls:=.type "list",dict:=dd2,data:=.seq items2 n2,slots:=sl2} /\
   (∀j (h1:j<items.size) (h2:j<items2.size),EqAt A.in1 s items[j] items2[j] (e j)/\(e j=false->GtAt A.in1 s items[j] items2[j] (lt j))) /\
   R (.ok (.ret (.bool (lexG e lt items.size items2.size (min items.size items2.size) 0)))) s):=by
 intro prog w A R s h
 obtain ⟨hp,g,d,tk,os⟩:=s;obtain ⟨hl,hb,he,h⟩:=h
 have f3:=AutoSeq1.sub_list_list
 wp_walk using wpAny_loadPart' hl,wpAny_loadPart' hb
 exact ⟨plainId_quiet plain_eq_loop _,codeAny_builtin entry_eq_loop (by
  rw [Around.under_plainId plain_eq_loop _]
  exact gt_loop l b items items2 n n2 dd dd2 sl sl2 e lt _ 0 rfl prog w A R _ ⟨hl,hb,he,by simpa using h⟩)⟩
noncomputable def eS(xs ys:List Str)(j:Nat):Bool:=xs.getD j ⟨#[]⟩==ys.getD j ⟨#[]⟩
noncomputable def lS(xs ys:List Str)(j:Nat):Bool:=decide ((xs.getD j ⟨#[]⟩).cps.toList<(ys.getD j ⟨#[]⟩).cps.toList)
noncomputable def gS(xs ys:List Str)(j:Nat):Bool:=decide ((ys.getD j ⟨#[]⟩).cps.toList<(xs.getD j ⟨#[]⟩).cps.toList)
noncomputable def ltS(xs ys:List Str):Bool:=lexB (eS xs ys) (lS xs ys) xs.length ys.length (min xs.length ys.length) 0
noncomputable def gtS(xs ys:List Str):Bool:=lexG (eS xs ys) (gS xs ys) xs.length ys.length (min xs.length ys.length) 0
theorem strV_get{tl:List (Str×Tok)}{j:Nat}(h:j<tl.length):∃t,(strValues tl).toArray[j]'(by simpa [strValues] using h)=.str ((tl.map (·.1)).getD j ⟨#[]⟩) t:=by
 refine ⟨tl[j].2,?_⟩
 simp [strValues,h]
section
variable{prog:Program}{w:World}{A:Around}{E:Value->Shared->Prop}{s:Shared}{g:Heap}
theorem strs_elems{A:Around}{s:Shared}{t1 t2:List (Str×Tok)}(j:Nat)(j1:j<(strValues t1).toArray.size)(j2:j<(strValues t2).toArray.size) :
 EqAt A s (strValues t1).toArray[j] (strValues t2).toArray[j] (eS (t1.map (·.1)) (t2.map (·.1)) j)/\LtAt A s (strValues t1).toArray[j] (strValues t2).toArray[j] (lS (t1.map (·.1)) (t2.map (·.1)) j)/\GtAt A s (strValues t1).toArray[j] (strValues t2).toArray[j] (gS (t1.map (·.1)) (t2.map (·.1)) j):=by
 obtain ⟨u1,e1⟩:=strV_get (tl:=t1) (j:=j) (by simpa [strValues] using j1)
 obtain ⟨u2,e2⟩:=strV_get (tl:=t2) (j:=j) (by simpa [strValues] using j2)
 rw [e1,e2]
 exact ⟨EqAt.str_str _ _ _ _,fun prog w E Q hq=>P.lt_str hq,fun prog w E Q hq=>P.gt_str hq⟩
theorem ltT{a b:Addr}{t1 t2:List (Str×Tok)}{k k':Nat}{Q:Value->Shared->Prop}(e:s.heap.get? a=some (lstObj (strValues t1) k))(e':s.heap.get? b=some (lstObj (strValues t2) k'))(hu:A.units<cLine)(h:Q (.bool (ltS (t1.map (·.1)) (t2.map (·.1)))) s) :
 wpAny (model prog w) A (richCompare .Lt (.ref a) (.ref b)) Q E s:=by
 have hl:s.TypeIs (.ref a) "list":=⟨_,e,rfl⟩
 have hl':s.TypeIs (.ref b) "list":=⟨_,e',rfl⟩
 refine richCompare_meets_room hl hl' PySem.F.slot_list_lt PySem.F.entry_list_lt (PySem.F.args_list_lt_2 _ _) (list_lt a b (strValues t1).toArray (strValues t2).toArray k k' none none #[] #[] (eS (t1.map (·.1)) (t2.map (·.1))) (lS (t1.map (·.1)) (t2.map (·.1)))) ⟨e,e',fun j j1 j2=>⟨(strs_elems j j1 j2).1,fun _=>(strs_elems j j1 j2).2.1⟩,?_⟩ hu
 refine ⟨by simp,?_⟩
 simpa [ltS,strValues] using h
theorem gtT{a b:Addr}{t1 t2:List (Str×Tok)}{k k':Nat}{Q:Value->Shared->Prop}(e:s.heap.get? a=some (lstObj (strValues t1) k))(e':s.heap.get? b=some (lstObj (strValues t2) k'))(hu:A.units<cLine)(h:Q (.bool (gtS (t1.map (·.1)) (t2.map (·.1)))) s) :
 wpAny (model prog w) A (richCompare .Gt (.ref a) (.ref b)) Q E s:=by
 have hl:s.TypeIs (.ref a) "list":=⟨_,e,rfl⟩
 have hl':s.TypeIs (.ref b) "list":=⟨_,e',rfl⟩
 refine richCompare_meets_room hl hl' PySem.F.slot_list_gt PySem.F.entry_list_gt (PySem.F.args_list_gt_2 _ _) (list_gt a b (strValues t1).toArray (strValues t2).toArray k k' none none #[] #[] (eS (t1.map (·.1)) (t2.map (·.1))) (gS (t1.map (·.1)) (t2.map (·.1)))) ⟨e,e',fun j j1 j2=>⟨(strs_elems j j1 j2).1,fun _=>(strs_elems j j1 j2).2.2⟩,?_⟩ hu
 refine ⟨by simp,?_⟩
 simpa [gtS,strValues] using h
end
end Mine.Internal
namespace Mine.Internal
open PySem PySem.W PyProof.Rows PySem.Calls PySem.Spec
section
variable{prog:Program}{w:World}{A:Around}{s:Shared}{env:Env}{E:Value->Shared->Prop}
variable{h₀ g₀ g:Heap}{xt:List Addr}{L:Addr}{N Nn Gl No Go:List Str}{vs:List (Option Value)}{mu:List (Addr×Obj)}
theorem St.put{h₁ h':Heap}{a:Addr}{o:Obj}(F:St h₀ xt g₀ g L N vs mu h₁)(k:Le h₁ h')(ha:h'.get? a=some o)(hge:h₁.objs.size<=a):St h₀ xt g₀ g L N vs ((a,o)::mu) h':=by
 have F₁:=F.more k
 have low:h₀.objs.size<=a:=Nat.le_trans F.lowSz hge
 refine ⟨F₁.len,F₁.ns,F₁.base,F₁.keep,F₁.low,F₁.outg,fun p hp=>?_,?_,F₁.mono,F₁.fresh⟩
 · rcases List.mem_cons.mp hp with rfl|hp
   · refine ⟨ha,fun q=>absurd F.lt (Nat.not_lt.mpr (q▸hge)),?_,.inr low⟩
     cases q:g.get? a with
     | none=>rfl
     | some x=>exact absurd (Heap.lt_size (F.keep _ _ q)) (Nat.not_lt.mpr hge)
   · exact F₁.mt p hp
 · rw [List.map_cons]
   refine List.nodup_cons.mpr ⟨fun hm=>?_,F.nd⟩
   obtain ⟨p,hp,e⟩:=List.mem_map.mp hm
   exact absurd (Heap.lt_size (F.mt p hp).1) (Nat.not_lt.mpr (e▸hge))
theorem St.put'{h:Heap}{a:Addr}{o:Obj}(F:St h₀ xt g₀ g L N vs mu h)(ha:h.get? a=some o)(hL:a≠L)(hg:g.get? a=none)(hm:∀p∈mu,p.1≠a)(low:h₀.objs.size<=a):St h₀ xt g₀ g L N vs ((a,o)::mu) h:=by
 refine ⟨F.len,F.ns,F.base,F.keep,F.low,F.outg,fun p hp=>?_,?_,F.mono,F.fresh⟩
 · rcases List.mem_cons.mp hp with rfl|hp
   · exact ⟨ha,hL,hg,.inr low⟩
   · exact F.mt p hp
 · rw [List.map_cons]
   refine List.nodup_cons.mpr ⟨fun hm'=>?_,F.nd⟩
   obtain ⟨p,hp,e⟩:=List.mem_map.mp hm'
   exact hm p hp e
theorem St.turn2{h h₁:Heap}{e it:Addr}{oe oi oe' oi':Obj}(F:St h₀ xt g₀ g L N vs ((e,oe)::(it,oi)::mu) h)(hk:∀b o,b≠e->b≠it->h.get? b=some o->h₁.get? b=some o)(he:h₁.get? e=some oe')(hi:h₁.get? it=some oi') :
 St h₀ xt g₀ g L N vs ((e,oe')::(it,oi')::mu) h₁:=by
 have me:=F.mt _ (.head _)
 have mi:=F.mt _ (.tail _ (.head _))
 have nd:=F.nd
 simp only [List.map_cons,List.nodup_cons,List.mem_cons,not_or] at nd
 have nb:∀p:Addr×Obj,p.1∈xt\/h₀.objs.size<=p.1->∀b o,b∉xt->h₀.get? b=some o->b≠p.1:=fun p hp b o hb q z=>by
  subst z
  rcases hp with z|z
  · exact hb z
  · exact absurd (Heap.lt_size q) (Nat.not_lt.mpr z)
 refine ⟨F.len,?_,fun b o hb q=>hk b o (nb (e,oe) me.2.2.2 b o hb q) (nb (it,oi) mi.2.2.2 b o hb q) (F.base b o hb q),fun b o q=>hk b o (fun z=>?_) (fun z=>?_) (F.keep b o q),F.low,F.outg,fun p hp=>?_,?_,F.mono,F.fresh⟩
 · obtain ⟨m,a,b⟩:=F.ns
   exact ⟨m,a.at' fun o q=>hk _ o (Ne.symm me.2.1) (Ne.symm mi.2.1) q,b⟩
 · subst z;rw [me.2.2.1] at q;cases q
 · subst z;rw [mi.2.2.1] at q;cases q
 · rcases List.mem_cons.mp hp with rfl|hp
   · exact ⟨he,me.2⟩
   · rcases List.mem_cons.mp hp with rfl|hp
     · exact ⟨hi,mi.2⟩
     · have P:=F.mt p (.tail _ (.tail _ hp))
       have hm:p.1∈mu.map (·.1):=List.mem_map_of_mem hp
       exact ⟨hk _ _ (fun z=>nd.1.2 (z▸hm)) (fun z=>nd.2.1 (z▸hm)) P.1,P.2⟩
 · simp only [List.map_cons,List.nodup_cons,List.mem_cons,not_or]
   exact nd
theorem St.but2{h h₁:Heap}{e it:Addr}{oe oi:Obj}(F:St h₀ xt g₀ g L N vs ((e,oe)::(it,oi)::mu) h)(hk:∀b o,b≠it->h.get? b=some o->h₁.get? b=some o):St h₀ xt g₀ g L N vs mu h₁ :=
 (F.swap.but fun b o hb q=>hk b o (fun z=>hb (by simp [z])) q).sub (List.sublist_cons_self _ _)
noncomputable def TurnE(h₀ g₀:Heap)(xt:List Addr)(L:Addr)(N:List Str)(s:Shared)(g:Heap)(e it:Addr)(oe oi:Obj)(J:Heap->List (Option Value)->List (Addr×Obj)->Prop)(Q:Flow->Shared->Prop)(f:Flow)(s':Shared):Prop :=
 match f with
 | .brk=>Q .next s'
 | .ret v=>Q (.ret v) s'
 | _=>∃g' vs' mu' h' t',s'={s with heap:=h',toks:=t'}/\Le g g'/\St h₀ xt g₀ g' L N vs' ((e,oe)::(it,oi)::mu') h'/\J g' vs' mu'
theorem turnE_next{e it:Addr}{oe oi:Obj}{J:Heap->List (Option Value)->List (Addr×Obj)->Prop}{Q:Flow->Shared->Prop}{g' h':Heap}{t':Nat}(k:Le g g')(F:St h₀ xt g₀ g' L N vs ((e,oe)::(it,oi)::mu) h')(j:J g' vs mu) :
 TurnE h₀ g₀ xt L N s g e it oe oi J Q .next {s with heap:=h',toks:=t'}:=⟨g',vs,mu,h',t',rfl,k,F,j⟩
theorem turnE_brk{e it:Addr}{oe oi:Obj}{J:Heap->List (Option Value)->List (Addr×Obj)->Prop}{Q:Flow->Shared->Prop}{s':Shared}(h:Q .next s') :
 TurnE h₀ g₀ xt L N s g e it oe oi J Q .brk s':=h
noncomputable def LE(s:Shared)(h₀ g₀ g:Heap)(xt:List Addr)(L:Addr)(N:List Str)(e it l n:Nat)(J:Nat->Heap->List (Option Value)->List (Addr×Obj)->Prop)(k:Nat)(s':Shared):Prop :=
 ∀G:Shared->Prop,(∀(i:Nat) h tk g' vs' mu' oe oi old,i<=n->k=n+1-i->IsEnum h e it i old->h.IsListIter it l i->Le g g'->J i g' vs' mu'->St h₀ xt g₀ g' L N vs' ((e,oe)::(it,oi)::mu') h->G {s with heap:=h,toks:=tk})->G s'
theorem each_enum{elts:List Expr}{kk:Nat}{p:Pos}{body:List Stmt}{l:Addr}{items:List Value}{k₀:Nat}{Q:Flow->Shared->Prop}
 (J:Nat->Heap->List (Option Value)->List (Addr×Obj)->Prop) (hh:A.handled=none) (F:St h₀ xt g₀ g L N vs mu s.heap) (hl:g.get? l=some (lstObj items k₀)) (hj:J 0 g vs mu)
 (turn:∀(i:Nat) v t g' g'' vs' mu' e it oe oi h tk,items[i]?=some v->Le g g'->J i g' vs' mu'->Le g' g''->St h₀ xt g₀ g'' L N vs' ((e,oe)::(it,oi)::mu') h ->
  wpAny (model prog w) A (assignInOrder ((assignEach elts env).map (·.2)) [.int (i:Int) t,v]) (fun _ s₁=>wpAny (model prog w) A (execs body env) (TurnE h₀ g₀ xt L N s g'' e it oe oi (J (i+1)) Q) no s₁) no {s with heap:=h,toks:=tk})
 (done:∀g' vs' mu' h tk,Le g g'->J items.length g' vs' mu'->St h₀ xt g₀ g' L N vs' mu' h->Q .next {s with heap:=h,toks:=tk})
 (hn:autoParam ((assignEach elts env).length=2) au0) (hs:autoParam ((assignEach elts env).findIdx? (·.1)=none) au0) :
 wpAny (model prog w) A (call (.type "enumerate") [.ref l]) (fun x s₁=>wpAny (model prog w) A (pyIter x) (fun it s₂=>codeAny (model prog w) A (.forLoop (.Tuple elts kk p) it body [] env) (fun r s'=>match r with|.ok f=>Q f s'|.error _=>False) s₂) no s₁) no s:=by
 refine call_enumerate_list ⟨_,F.keep _ _ hl,rfl,_,rfl⟩ fun h' he hit hz hk=>?_
 refine wpAny_pyIter_enum he ?_
 obtain ⟨oi,hoi,hci,hdi⟩:=hit
 have F₁:=F.put hk hoi (Nat.le_refl _)
 have F₂:=F₁.put' (a:=s.heap.objs.size+1) he (fun q=>absurd F.lt (Nat.not_lt.mpr (q▸Nat.le_succ _))) (by
  cases q:g.get? (s.heap.objs.size+1) with
  | none=>rfl
  | some x=>exact absurd (Heap.lt_size (F.keep _ _ q)) (Nat.not_lt.mpr (Nat.le_succ _))) (fun p hp q=>by
  rcases List.mem_cons.mp hp with rfl|hp
  · exact absurd q (Nat.ne_of_lt (Nat.lt_succ_self _))
  · exact absurd (Heap.lt_size (F.mt p hp).1) (Nat.not_lt.mpr (q▸Nat.le_succ _))) (Nat.le_succ_of_le F.lowSz)
 have hei:s.heap.objs.size+1≠s.heap.objs.size:=Nat.ne_of_gt (Nat.lt_succ_self _)
 generalize s.heap.objs.size+1=e at he F₂ hei ⊢
 generalize s.heap.objs.size=it at hoi F₁ F₂ he hei ⊢
 refine forAny (LE s h₀ g₀ g xt L N e it l items.length J) (fun k s' T hT H=>?_) (items.length+1) fun G k=>k 0 h' s.toks g vs mu _ oi _ (Nat.zero_le _) rfl he ⟨oi,hoi,hci,hdi⟩ Le.rfl' hj F₂
 refine H (fun s'=>wpAny _ _ _ _ _ s') fun i h tk g' vs' mu' oe oi old hi hk he hit kg hJ F'=>?_
 have hl':h.get? l=some (lstObj items k₀):=F'.keep _ _ (kg _ _ hl)
 rcases Nat.lt_or_eq_of_le hi with hlt|rfl
 · refine wpAny_pyNext_enum_item he hit ⟨_,hl',rfl,_,rfl⟩ (List.getElem?_toArray.trans (List.getElem?_eq_getElem hlt)) hei fun h₁ ho₁ hit₁ hT₁ hz₁ hk₁=>?_
   obtain ⟨oi₁,hoi₁,hci₁,hdi₁⟩:=hit₁
   have hTi:h.objs.size≠it:=by obtain ⟨_,z,_⟩:=hit;exact Nat.ne_of_gt (Heap.lt_size z)
   have F₂:=(F'.turn2 hk₁ ho₁ hoi₁).put' hT₁ (Nat.ne_of_gt F'.lt) F'.none_size (List.forall_mem_cons.mpr ⟨Nat.ne_of_lt (Heap.lt_size he),List.forall_mem_cons.mpr ⟨hTi.symm,fun p hp q=>absurd (Heap.lt_size (F'.mt p (.tail _ (.tail _ hp))).1) (Nat.not_lt.mpr (Nat.le_of_eq q.symm))⟩⟩) F'.lowSz
   obtain ⟨g₂,k2,eT,F₃⟩:=F₂.freeze (pre:=[]) rfl F'.lowSz
   refine wpAny_no (wpAny_letOwnedTupleGo_enum ho₁ fun h₂ he₂ hs₂=>?_)
   refine wpAny_no (asT (items:=[.int (i:Int) tk,items[i]]) hh (St.turn (pre:=[]) F₃ rfl hs₂ he₂) eT (fun h₃ F₅=>?_) hn hs)
   refine wpAny_mono (turn i items[i] _ g' g₂ vs' mu' e it _ _ h₃ _ (List.getElem?_eq_getElem hlt) kg hJ k2 F₅) (fun _ s₁ h₁'=>wpAny_mono h₁' (fun f s₂=>?_) fun _ _ e=>e) fun _ _ e=>e
   cases f with
   | brk=>exact id
   | ret v=>exact id
   | _ =>
    rintro ⟨g'',vs'',mu'',h'',t'',rfl,k3,F₆,J₆⟩
    exact hT (items.length+1-(i+1)) _ (hk▸zz6 hlt) fun G k=>k (i+1) h'' t'' g'' vs'' mu'' _ _ items[i] hlt rfl (by have z:=(F₆.mt _ (.head _)).1;simpa [IsEnum] using z) ⟨_,(F₆.mt _ (.tail _ (.head _))).1,hci₁,hdi₁⟩ ((kg.tr k2).tr k3) J₆ F₆
 · exact wpAny_pyNext_enum_end hh he hit ⟨_,hl',rfl,_,rfl⟩ (List.getElem?_toArray.trans (List.getElem?_eq_none (Nat.le_refl _))) fun h₁ hx=>done g' vs' mu' h₁ _ kg hJ (F'.but2 hx)
end
section
variable{prog:Program}{w:World}{A:Around}{s:Shared}{env:Env}{E:Value->Shared->Prop}
variable{h₀ g₀ g:Heap}{xt:List Addr}{L:Addr}{N Nn Gl No Go:List Str}{vs:List (Option Value)}{mu:List (Addr×Obj)}
theorem splitM{x:Str}{t:Tok}{pos:Pos}{a:Sem Value}{Q:Value->Shared->Prop} (h:wpAny (model prog w) A a (fun v s₁=>∃y u,v=.str y u/\(y.length==0)=false /\
 ∀l k,l.map (·.1)=Txt.split x y->Q (.ref s₁.heap.objs.size) {s₁ with heap:=s₁.heap.push (lstObj (strValues l) 0),toks:=k}) E s) (hx:x.length<=100000) :
 MethodOnS prog w A E "split" (.str x t) pos [(false,a)] Q s:=by
 have hx':x.length<=sizeLine:=by rw [sizeLine_eq];exact zz16 hx
 refine ⟨"str",_,PySem.F.plainAttrs_str,PySem.F.slot_str_split,PySem.F.type_str_split,typeIs_str _ _ _,(fun _ e=>nomatch e),
  method1_meets PySem.F.slot_str_split PySem.F.entry_str_split (wpAny_mono h (fun v s₁ h₁=>?_) fun _ _ e=>e)⟩
 obtain ⟨y,u,rfl,hy,hq⟩:=h₁
 have hn:(Builtin.Str.partsBetween x (Builtin.Str.occurrences x y 0 x.length (x.length+1)) y.length).length<=sizeLine:=by
  rw [length_partsBetween,sizeLine_eq]
  have:=StrLaws.occ_length_le x y 0 x.length (x.length+1)
  exact zz17 hx this
 refine ⟨typeIs_str _ _ _,PySem.F.args_str_split_2 _ _,?_⟩
 cases h1:(decide (x.length<y.length)||decide (Builtin.Str.strKind x<Builtin.Str.strKind y))
 · cases hf:(Builtin.Str.occurrences x y 0 x.length (x.length+1)).isEmpty
   · refine ⟨_,meets_str_split_sep x y t u h1 hy hf hx' hn,?_⟩
     show wants Q E _ {s₁ with toks:=_,heap:=s₁.heap.push {cls:=.type "list",data:=.seq (strsFrom s₁.toks (Builtin.Str.partsBetween x (Builtin.Str.occurrences x y 0 x.length (x.length+1)) y.length)).toArray}}
     rw [strsFrom_eq]
     exact hq (numbered s₁.toks _) _ ((numbered_texts _ _).trans ((if_neg (ne_true_of_eq_false h1)).trans (if_neg (ne_true_of_eq_false hf))).symm)
   · exact ⟨_,meets_str_split_not_found x y t u h1 hy hf,hq [(x,t)] s₁.toks ((if_neg (ne_true_of_eq_false h1)).trans (if_pos hf)).symm⟩
 · exact ⟨_,meets_str_split_cannot_occur x y t u h1,hq [(x,t)] s₁.toks (if_pos h1).symm⟩
end
section
variable{prog:Program}{w:World}{A:Around}{s:Shared}{env:Env}{E:Value->Shared->Prop}
variable{h₀ g₀ g:Heap}{xt:List Addr}{N Nn Gl No Go:List Str}{vs:List (Option Value)}{mu:List (Addr×Obj)}
end
noncomputable def goodS(c:Str):Bool:=((c.length:Int) != 0)&&(c.cps.toList != (".": Str).cps.toList)
noncomputable def partsS(x:Str):List Str:=(Txt.split x "/").filter goodS
noncomputable def comL:List Str->List Str->List Str
 | x::xs,y::ys=>if x=y then x::comL xs ys else []
 | _,_=>[]
noncomputable def commonT(p q:Str):Str:=("/":Str)++Txt.join "/" (comL (partsS p) (partsS q))
theorem join_each(sep c:Str):∀ps:List Str,c∈ps->c.length<=(Str.join sep ps).length
 | [],h=>nomatch h
 | [x],h=>by
  rw [List.mem_singleton.mp h];exact Nat.le_refl _
 | x::y::r,h=>by
  show c.length<=(x++sep++Str.join sep (y::r)).length
  rw [Str.length_append,Str.length_append]
  rcases List.mem_cons.mp h with rfl|h
  · exact zz76
  · have:=join_each sep c (y::r) h
    exact zz77 this
theorem split_each(x c:Str)(h:c∈Txt.split x "/"):c.length<=x.length:=by
 unfold Txt.split at h
 split at h
 · rw [List.mem_singleton.mp h];exact Nat.le_refl _
 · split at h
   · rw [List.mem_singleton.mp h];exact Nat.le_refl _
   · have e:=StrLaws.glued_between_self x "/" (x.length+1)
     rw [StrLaws.glued_eq_join] at e
     have:=join_each "/" c _ h
     rw [e] at this
     exact this
noncomputable abbrev nCommon:List Str:=["paths","split_paths","isabs","c","s1","s2","common","i","prefix"]
theorem split_len(x:Str):(Txt.split x "/").length<=x.length+2:=by
 unfold Txt.split
 split
 · simp
 · split
   · simp
   · rw [length_partsBetween]
     have:=StrLaws.occ_length_le x "/" 0 x.length (x.length+1)
     exact zz78 this
theorem dts_strs{g:Heap}:∀l:List (Str×Tok),Dts g (strValues l) ((l.map (·.1)).map .str)
 | []=>.nil
 | (x,t)::l=>.cons (.str x t) (dts_strs l)
theorem two_lists{g:Heap}{zs:List Value}{a b:List Str}(h:Dts g zs [.list (a.map .str),.list (b.map .str)]):∃a1 a2 ka kb ta tb,zs=[.ref a1,.ref a2]/\g.get? a1=some (lstObj (strValues ta) ka)/\g.get? a2=some (lstObj (strValues tb) kb)/\ta.map (·.1)=a/\tb.map (·.1)=b:=by
 cases h with
 | cons x y =>
  cases y with
  | cons y z =>
   cases z
   obtain ⟨l1,v1,k1,rfl,e1,d1⟩:=x.listInv
   obtain ⟨l2,v2,k2,rfl,e2,d2⟩:=y.listInv
   obtain ⟨t1,rfl,f1⟩:=d1.strs
   obtain ⟨t2,rfl,f2⟩:=d2.strs
   exact ⟨l1,l2,k1,k2,t1,t2,rfl,e1,e2,f1,f2⟩
noncomputable def pick2{α:Type}(a b:α):Nat->α
 | 0=>a
 | _=>b
noncomputable def btLt(a b:List Str)(i j:Nat):Bool:=ltS (pick2 a b i) (pick2 a b j)
noncomputable def btGt(a b:List Str)(i j:Nat):Bool:=gtS (pick2 a b i) (pick2 a b j)
theorem pick_at{g:Heap}{a1 a2:Addr}{ka kb:Nat}{ta tb:List (Str×Tok)}(h1:g.get? a1=some (lstObj (strValues ta) ka))(h2:g.get? a2=some (lstObj (strValues tb) kb)){i:Nat}{v:Value}(hv:([.ref a1,.ref a2]:List Value)[i]?=some v) :
 ∃l t k,v=.ref l/\g.get? l=some (lstObj (strValues t) k)/\t.map (·.1)=pick2 (ta.map (·.1)) (tb.map (·.1)) i:=by
 rcases i with _|_|i
 · simp at hv;exact ⟨a1,ta,ka,hv.symm,h1,rfl⟩
 · simp at hv;exact ⟨a2,tb,kb,hv.symm,h2,rfl⟩
 · simp at hv
theorem cmpLt{w:World}{A:Around}{g:Heap}{a1 a2:Addr}{ka kb:Nat}{ta tb:List (Str×Tok)}{a b:List Str}(h1:g.get? a1=some (lstObj (strValues ta) ka))(h2:g.get? a2=some (lstObj (strValues tb) kb))(ea:ta.map (·.1)=a)(eb:tb.map (·.1)=b)(hu:A.units+3<cLine) :
 CmpIn pw w A .Lt g [.ref a1,.ref a2] (btLt a b):=by
 intro i j vi vj s Q E k hi hj hq
 obtain ⟨l,t,kl,rfl,e,f⟩:=pick_at h1 h2 hi
 obtain ⟨l',t',kl',rfl,e',f'⟩:=pick_at h1 h2 hj
 refine ltT (k _ _ e) (k _ _ e') (by exact zz79 hu) ?_
 rw [f,f',ea,eb];exact hq
theorem cmpGt{w:World}{A:Around}{g:Heap}{a1 a2:Addr}{ka kb:Nat}{ta tb:List (Str×Tok)}{a b:List Str}(h1:g.get? a1=some (lstObj (strValues ta) ka))(h2:g.get? a2=some (lstObj (strValues tb) kb))(ea:ta.map (·.1)=a)(eb:tb.map (·.1)=b)(hu:A.units+3<cLine) :
 CmpIn pw w A .Gt g [.ref a1,.ref a2] (btGt a b):=by
 intro i j vi vj s Q E k hi hj hq
 obtain ⟨l,t,kl,rfl,e,f⟩:=pick_at h1 h2 hi
 obtain ⟨l',t',kl',rfl,e',f'⟩:=pick_at h1 h2 hj
 refine gtT (k _ _ e) (k _ _ e') (by exact zz79 hu) ?_
 rw [f,f',ea,eb];exact hq
theorem strV_at{T:List (Str×Tok)}{i:Nat}{v:Value}(h:(strValues T)[i]?=some v):∃c t,v=.str c t/\(T.map (·.1))[i]?=some c:=by
 simp only [strValues,List.getElem?_map] at h ⊢
 cases q:T[i]? with
 | none=>rw [q] at h;cases h
 | some x=>rw [q] at h;exact ⟨x.1,x.2,(Option.some.inj h).symm,rfl⟩
theorem strV_have{T:List (Str×Tok)}{i:Nat}(h:i<T.length):∃c t,(strValues T)[i]?=some (.str c t)/\(T.map (·.1))[i]?=some c :=
 ⟨T[i].1,T[i].2,by simp [strValues,h],by simp [h]⟩
theorem comL_cons(x y:Str)(xs ys:List Str):comL (x::xs) (y::ys)=if x=y then x::comL xs ys else []:=rfl
theorem comL_stop:∀{a b:List Str} {i:Nat} {c d:Str},a.take i=b.take i->a[i]?=some c->b[i]?=some d->c≠d->comL a b=a.take i
 | x::xs,y::ys,0,c,d,_,hc,hd,hn=>by
  cases hc;cases hd
  exact if_neg hn
 | x::xs,y::ys,i+1,c,d,h,hc,hd,hn=>by
  obtain ⟨rfl,h'⟩:=List.cons.inj (show x::xs.take i=y::ys.take i from h)
  rw [comL_cons,if_pos rfl,comL_stop h' hc hd hn];rfl
 | [],_,_,_,_,_,hc,_,_=>by cases hc
 | _::_,[],_,_,_,_,_,hd,_=>by cases hd
theorem comL_whole:∀{a b:List Str},a=b.take a.length->comL a b=a
 | [],b,_=>by cases b<;>rfl
 | x::xs,[],h=>by cases h
 | x::xs,y::ys,h=>by
  obtain ⟨rfl,h'⟩:=List.cons.inj (show x::xs=y::ys.take xs.length from h)
  rw [comL_cons,if_pos rfl,comL_whole h']
noncomputable def ltA:List Str->List Str->Bool
 | [],[]=>false
 | [],_::_=>true
 | _::_,[]=>false
 | x::xs,y::ys=>if x==y then ltA xs ys else decide (x.cps.toList<y.cps.toList)
theorem lexB_A(xs ys:List Str)(k i:Nat)(hk:min xs.length ys.length-i=k)(hi:i<=min xs.length ys.length):lexB (eS xs ys) (lS xs ys) xs.length ys.length k i=ltA (xs.drop i) (ys.drop i) :=
 lexA (fun l=>by cases l<;>rfl) (fun _ _=>rfl) (fun i a b=>by rw [getD_drop ⟨#[]⟩ xs i a,getD_drop ⟨#[]⟩ ys i b];rfl) k i hk hi
theorem lexG_B(e l:Nat->Bool)(m n:Nat):∀k i,lexG e l m n k i=lexB e l n m k i
 | 0,_=>rfl
 | k+1,i=>by
  show (if e i then lexG e l m n k (i+1) else l i)=(if e i then lexB e l n m k (i+1) else l i)
  rw [lexG_B e l m n k (i+1)]
theorem lexG_A(xs ys:List Str)(k i:Nat)(hk:min xs.length ys.length-i=k)(hi:i<=min xs.length ys.length):lexG (eS xs ys) (gS xs ys) xs.length ys.length k i=ltA (ys.drop i) (xs.drop i):=by
 rw [lexG_B]
 rw [Nat.min_comm] at hk hi
 refine lexA (fun l=>by cases l<;>rfl) (fun _ _=>rfl) (fun i a b=>?_) k i hk hi
 rw [getD_drop ⟨#[]⟩ ys i a,getD_drop ⟨#[]⟩ xs i b]
 show (if (ys.getD i ⟨#[]⟩==xs.getD i ⟨#[]⟩) then _ else _)=(if (xs.getD i ⟨#[]⟩==ys.getD i ⟨#[]⟩) then _ else _)
 rw [BEq.comm];rfl
theorem ltS_A(xs ys:List Str):ltS xs ys=ltA xs ys:=lexB_A xs ys _ 0 rfl (Nat.zero_le _)
theorem gtS_A(xs ys:List Str):gtS xs ys=ltA ys xs:=lexG_A xs ys _ 0 rfl (Nat.zero_le _)
theorem str_ext{a b:Str}(h:a.cps.toList=b.cps.toList):a=b:=by
 obtain ⟨a⟩:=a
 obtain ⟨b⟩:=b
 exact congrArg Str.mk (Array.toList_inj.mp h)
theorem ltA_eq{x y:Str}(e:x=y)(xs ys:List Str):ltA (x::xs) (y::ys)=ltA xs ys:=if_pos (beq_iff_eq.mpr e)
theorem ltA_ne{x y:Str}(e:x≠y)(xs ys:List Str):ltA (x::xs) (y::ys)=decide (x.cps.toList<y.cps.toList):=if_neg fun q=>e (beq_iff_eq.mp q)
theorem ltA_tri:∀a b:List Str,ltA a b=false->ltA b a=false->a=b
 | [],[],_,_=>rfl
 | [],_::_,h,_=>by cases h
 | _::_,[],_,h=>by cases h
 | x::xs,y::ys,h1,h2=>by
  by_cases e:x=y
  · rw [ltA_eq e] at h1
    rw [ltA_eq e.symm] at h2
    rw [e,ltA_tri xs ys h1 h2]
  · rw [ltA_ne e] at h1
    rw [ltA_ne (Ne.symm e)] at h2
    exact absurd (str_ext (list_tri nat_tri _ _ (of_decide_eq_false h1) (of_decide_eq_false h2))) e
theorem ltA_asym:∀a b:List Str,ltA a b=true->ltA b a=false
 | [],[],h=>by cases h
 | [],_::_,_=>rfl
 | _::_,[],h=>by cases h
 | x::xs,y::ys,h=>by
  by_cases e:x=y
  · rw [ltA_eq e] at h
    rw [ltA_eq e.symm]
    exact ltA_asym xs ys h
  · rw [ltA_ne e] at h
    rw [ltA_ne (Ne.symm e)]
    exact decide_eq_false fun q=>list_irr Nat.lt_irrefl _ (list_tra (fun _ _ _=>Nat.lt_trans) _ _ _ (of_decide_eq_true h) q)
theorem ltA_pre:∀a b:List Str,ltA a (a++b)=false->b=[]
 | [],[],_=>rfl
 | [],_::_,h=>by cases h
 | x::xs,b,h=>ltA_pre xs b ((ltA_eq rfl xs (xs++b)).symm.trans h)
theorem safe_at{a b:List Str}(h:ltA b a=false):∀i<a.length,a.take i=b.take i->i<b.length:=by
 intro i hi e
 rcases Nat.lt_or_ge i b.length with q|q
 · exact q
 · rw [List.take_of_length_le q] at e
   have e2:a=b++a.drop i:=by rw [←e,List.take_append_drop]
   rw [e2] at h
   have:=ltA_pre b _ h
   have hl:=congrArg List.length this
   rw [List.length_drop] at hl
   simp at hl;exact zz88 hi hl
theorem comL_comm:∀a b:List Str,comL a b=comL b a
 | [],[]=>rfl
 | [],_::_=>rfl
 | _::_,[]=>rfl
 | x::xs,y::ys=>by
  rw [comL_cons,comL_cons]
  by_cases e:x=y
  · rw [if_pos e,if_pos e.symm,e,comL_comm xs ys]
  · rw [if_neg e,if_neg (Ne.symm e)]
theorem ltA_irr:∀a:List Str,ltA a a=false
 | []=>rfl
 | x::xs=>(ltA_eq rfl xs xs).trans (ltA_irr xs)
theorem lo_hi(A B:List Str):comL (pick2 A B (argBest (btLt A B) 1)) (pick2 A B (argBest (btGt A B) 1))=comL A B /\
 ∀i<(pick2 A B (argBest (btLt A B) 1)).length,(pick2 A B (argBest (btLt A B) 1)).take i=(pick2 A B (argBest (btGt A B) 1)).take i->i<(pick2 A B (argBest (btGt A B) 1)).length:=by
 have e1:argBest (btLt A B) 1=if ltA B A then 1 else 0:=by
  show (if btLt A B 1 0 then 1 else 0)=_
  rw [show btLt A B 1 0=ltA B A from ltS_A B A]
 have e2:argBest (btGt A B) 1=if ltA A B then 1 else 0:=by
  show (if btGt A B 1 0 then 1 else 0)=_
  rw [show btGt A B 1 0=ltA A B from gtS_A B A]
 rw [e1,e2]
 cases h1:ltA B A with
 | true =>
  have h2:=ltA_asym _ _ h1
  rw [h2]
  exact ⟨comL_comm _ _,safe_at h2⟩
 | false =>
  cases h2:ltA A B with
  | true=>exact ⟨rfl,safe_at h1⟩
  | false =>
   have:=ltA_tri _ _ h2 h1
   subst this
   exact ⟨rfl,safe_at (ltA_irr _)⟩
theorem pick_len(a b:List Str){n:Nat}(h1:a.length<=n)(h2:b.length<=n):∀i,(pick2 a b i).length<=n
 | 0=>h1
 | _+1=>h2
theorem parts_len(x:Str):(partsS x).length<=x.length+2:=Nat.le_trans (List.length_filter_le ..) (split_len x)
section
variable{w:World}{A:Around}{s:Shared}{g:Heap}{n:Nat}
theorem fs_turn{A:Around}{s:Shared}{h₀ g₀ g:Heap}{xt:List Addr}{L:Addr}{N:List Str}{vs:List (Option Value)}{mu:List (Addr×Obj)}{It S:Addr}{items:List Value}(X:Stat g)(hA:Ok A (n+2))(hi:∀v∈items,∃x t,v=.str x t) :
 MapTurn pw w A s h₀ g₀ g xt L N vs mu It S (.ref 342) items (fun i g' ys=>ys=items.take i):=by
 intro i x g' ys h tk oI c hx kg hJ F
 obtain ⟨y,t,rfl⟩:=hi x (List.mem_of_getElem? hx)
 refine call_c F (fspath_gives (X.up kg) F.keep hA y t) fun g₂ h' t' v k2 F e=>?_
 subst e
 refine ⟨g₂,h',t',rfl,k2,F,?_⟩
 show ys++[Value.str y t]=items.take (i+1)
 rw [List.take_add_one,hx,hJ];rfl
theorem two_k{g:Heap}{zs:List Value}{a b:List Str}(h:Dts g zs [.list (a.map .str),.list (b.map .str)]){G:Prop}(k:∀a1 a2 ka kb ta tb,zs=[.ref a1,.ref a2]->g.get? a1=some (lstObj (strValues ta) ka)->g.get? a2=some (lstObj (strValues tb) kb)->ta.map (·.1)=a->tb.map (·.1)=b->G):G :=
 let ⟨a1,a2,ka,kb,ta,tb,e,h1,h2,h3,h4⟩:=two_lists h
 k a1 a2 ka kb ta tb e h1 h2 h3 h4
theorem pick_k{g:Heap}{a1 a2:Addr}{ka kb:Nat}{ta tb:List (Str×Tok)}(h1:g.get? a1=some (lstObj (strValues ta) ka))(h2:g.get? a2=some (lstObj (strValues tb) kb)){i:Nat}{v:Value}(hv:([.ref a1,.ref a2]:List Value)[i]?=some v){G:Prop}
 (k:∀l t n,v=.ref l->g.get? l=some (lstObj (strValues t) n)->t.map (·.1)=pick2 (ta.map (·.1)) (tb.map (·.1)) i->G):G :=
 let ⟨l,t,n,e,f,z⟩:=pick_at h1 h2 hv
 k l t n e f z
theorem strV_k{T:List (Str×Tok)}{i:Nat}{v:Value}(h:(strValues T)[i]?=some v){G:Prop}(k:∀c t,v=.str c t->(T.map (·.1))[i]?=some c->G):G :=
 let ⟨c,t,e,f⟩:=strV_at h
 k c t e f
theorem str_ext'{c d:Str}(q:c.cps.toList=d.cps.toList):c=d:=by
 obtain ⟨c⟩:=c
 obtain ⟨d⟩:=d
 exact congrArg Str.mk (Array.toList_inj.mp q)
theorem strs2{p q:Str}{t1 t2:Tok}{i:Nat}{v:Value}(h:([.str p t1,.str q t2]:List Value)[i]?=some v){U:Str->Prop}(hp:U p)(hq:U q){G:Prop}(k:∀x tx,v=.str x tx->([p,q]:List Str)[i]?=some x->U x->G):G:=by
 rcases i with _|_|i
 · simp at h;exact k p t1 h.symm rfl hp
 · simp at h;exact k q t2 h.symm rfl hq
 · simp at h
theorem at2{p q x:Str}{i:Nat}(h:([p,q]:List Str)[i]?=some x){U:Str->Prop}(hp:U p)(hq:U q):U x:=by
 rcases i with _|_|i
 · simp at h;exact h▸hp
 · simp at h;exact h▸hq
 · simp at h
noncomputable abbrev gCommon:List Str:=["tuple","map","fspath","isinstance","bytes","min","max","enumerate"]
theorem filt_good{l:List Str}{i:Nat}{c:Str}(hc:l[i]?=some c)(q:goodS c=true):((l.take (i+1)).filter goodS)=((l.take i).filter goodS)++[c]:=by rw [take_nx hc,List.filter_append];simp [q]
theorem filt_bad{l:List Str}{i:Nat}{c:Str}(hc:l[i]?=some c)(q:goodS c=false):((l.take (i+1)).filter goodS)=((l.take i).filter goodS):=by rw [take_nx hc,List.filter_append];simp [q]
theorem common_core(X:Stat g)(kg:Le g s.heap)(hA:Ok A (n+7))(l:Addr)(k:Nat)(p q:Str)(t1 t2:Tok)(hl:g.get? l=some (lstObj [.str p t1,.str q t2] k))(hp:Txt.startswith p "/"=true)(hq:Txt.startswith q "/"=true)
 (hp2:p.length<=1000) (hq2:q.length<=1000) (hj:JoinOk "/" (comL (partsS p) (partsS q))=true) (hj2:(Txt.join "/" (comL (partsS p) (partsS q))).length<=100000) {P:Heap->Heap->Value->Prop} (hP:∀g' h' t,P g' h' (.str (commonT p q) t)) :
 Gives pw w A (.call (.ref 375) ⟨[.ref l],[]⟩) s [] g P:=by
 refine Gives.goC 16 [.ref l] ["paths"] nCommon gCommon ["sep","curdir"] [some (.ref l),none,none,none,none,none,none,none,none] rfl X kg hA rfl rfl (by decide +kernel) (fun n x hx=>?_) rfl (fun j x hx=>?_) fun h₁ env A' t' hA' C hcl hC hIs hL F=>absQ fun QQ hQ=>?_
 · simp only [List.mem_cons,List.not_mem_nil,or_false] at hx
   subst hx
   exact .inl (by decide +kernel)
 · rcases j with _|_|_|_|_|_|_|_|_|j
   all_goals first
    | (simp only [List.getElem?_cons_succ,List.getElem?_cons_zero,Option.some.injEq] at hx;subst hx;rfl)
    | simp at hx
 have c1:env.cells.lookup ("sep":Str)=some (s.heap.objs.size+1):=by rw [hcl];rfl
 have c2:env.cells.lookup ("curdir":Str)=some (s.heap.objs.size+1+1):=by rw [hcl];rfl
 have K1:=hC _ (.head _) _ c1
 have K2:=hC _ (.tail _ (.head _)) _ c2
 obtain ⟨o1,hd1,F⟩:=F.cell (hIs _ _ c1).1 (by rw [hL];exact (hIs _ _ c1).2) (none_above kg (by exact zz43)) (fun p hp=>nomatch hp)
 obtain ⟨o2,hd2,F⟩:=F.cell (hIs _ _ c2).1 (by rw [hL];exact (hIs _ _ c2).2) (none_above kg (by exact zz44)) (fun p hp=>by
  rw [List.mem_singleton.mp hp];show s.heap.objs.size+1≠s.heap.objs.size+1+1;exact zz45)
 let c:Fr w nCommon gCommon:=⟨A',env,s.gens,s.drawn,s.os,s.heap,[],g,C,hA'.handled⟩
 have hQ:∀g' h' t' v,Out s.heap [] g g' h'->P g' h' v->QQ (.ret v) (c.st h' t'):=fun g' h' t' v o p=>hQ _ _ ⟨g',h',t',rfl,o,p⟩
 refine Fr.xDoc (c:=c) fun t=>?_
 refine Fr.xLetK (c:=c) 0 fun Qv hQv=>C1 (N_tuple C X F.keep (.head _) (C2 (N_map C X F.keep (.tail _ (.head _)) (N_fspath C X F.keep (.tail _ (.tail _ (.head _))) ((Fr.nV (c:=c) 0 F).use fun _ t=>⟨trivial,?_⟩)))))
 refine newMap (s:=c.st h₁ t) F hl fun M T It g₁ h k1 eM eT hit hlow F=>⟨trivial,?_⟩
 have X₁:=X.up k1
 refine tuple_map hA'.handled (fun i g' ys=>ys=([.str p t1,.str q t2]:List Value).take i) eM eT (k1 _ _ hl) (show 2<=1000 by decide) F hit rfl (fun S=>fs_turn X₁ hA'.in1.in1.in1.in1 (by simp)) fun D g₂' g₂ ys h t k2 k3 hys eD F=>hQv _ _ _ _ _ _ F ?_
 have hys':ys=[.str p t1,.str q t2]:=hys
 rw [hys'] at eD
 have X₂:=X₁.up k2
 intro V h t F
 refine Fr.xIf0 (c:=c) (Fr.tNotT (Fr.tTruT (Fr.nV 0 F) F.keep eD (show 2<2^40 by decide) rfl)) fun t=>?_
 refine Fr.xIfF (c:=c) (e:=.Call (.Name "isinstance" _) [.Subscript (.Name "paths" _) (.Constant (.int 0) _ _) _,.Name "bytes" _] [] _) (fun Er Q t q=>wpAny_isTrue_value (C2 (N_isinstance (s:=c.st h t) C X₂ F.keep (.tail _ (.tail _ (.tail _ (.head _)))) ((Fr.ixT (i:=0) (Fr.nV 0 F) Fr.kI F.keep eD rfl (by decide)).use fun _ t=>N_bytes C X₂ F.keep (.tail _ (.tail _ (.tail _ (.tail _ (.head _))))) ⟨trivial,IsiPair.str_bytes (wpAny_truthy_bool (q _))⟩)))) fun t=>?_
 refine wpAny_execs_cons (wpAny_Assign_Name (Fr.kS.use fun _ t=>stC (s:=c.st h t) (pre:=[(_,o2)]) (post:=[]) K1 F rfl hd1 fun h o1' hd1' F=>?_))
 refine wpAny_execs_cons (wpAny_Assign_Name (Fr.kS.use fun _ t=>stC (s:=c.st h t) (pre:=[]) (post:=[_]) K2 F rfl hd2 fun h o2' hd2' F=>Fr.xNil (c:=c) ?_))
 refine Fr.S.freeze (c:=c) F (Nat.le_trans (Nat.le_succ _) (Nat.le_succ _)) fun g₃ k4 e2 F=>Fr.S.freeze F (Nat.le_succ _) fun g₄ k5 e1 F=>?_
 have e2:=k5 _ _ e2
 have eD4:=k5 _ _ (k4 _ _ eD)
 have X₄:=(X₂.up k4).up k5
 refine Fr.asV (c:=c) F ?_
 intro V F
 refine wpAny_execs_cons (Try_ (Fr.xCompT (c:=c) (items:=[.str p t1,.str q t2]) (cl:=[("sep",s.heap.objs.size+1)]) 1 ["path"] [] (fun i g' ys=>Dts g' ys ((([p,q]:List Str).take i).map fun x=>.list ((Txt.split x "/").map .str))) (by rw [hcl];rfl) F (Fr.nV 0 F) eD4 (by show 2<=sizeLine;decide) .nil (Fr.ct0 hA'.handled ?_) ?_))
 · intro i v s1 g' us ys I oI C' D' h cx hi kg' hys ci V F hus T1 hT1 t
   have K1':=cellIn (C:=C') K1 (sc:=⟨.function,[(".0",.local),("path",.local),("sep",.free)],false,false,[]⟩) (cl:=[("sep",s.heap.objs.size+1)]) rfl rfl rfl
   refine strs2 hi (U:=fun x=>x.length<=1000) hp2 hq2 fun x tx ev hx hxl=>?_
   refine Mstr ((Fr.nV 0 F (List.getElem?_set_self hus)).use fun _ t=>⟨ev,splitM ((Fr.nC (c:=ci) K1' F.keep (kg' _ _ e1) hd1').use fun _ t=>⟨_,_,rfl,by decide +kernel,fun l' k' hl'=>?_⟩) (Nat.le_trans hxl (by decide))⟩)
   refine F.made (lstObj (strValues l') 0) fun g₅ k6 e5 F=>hT1 _ g₅ _ _ k6 F ?_
   rw [take_nx hx,List.map_append]
   exact (hys.up k6).snoc (.list e5 (hl'▸dts_strs l'))
 intro g₅' g₅ D5 ys k6 k6' hys eD5 V h t F
 have hds5:Dts g₅ ys [.list ((Txt.split p "/").map .str),.list ((Txt.split q "/").map .str)]:=hys.up k6'
 have X₅:=X₄.up k6
 have eD5':=k6 _ _ eD4
 refine wpAny_execs_cons (Try_ (wpAny_execs_cons (Assign_Tuple (evSet (N:=nCommon) (h₀:=c.h₀) (xt:=c.xt) (g₀:=c.g₀) (L:=env.locals) (l:=D) (items:=[.str p t1,.str q t2]) (cl:=[("sep",s.heap.objs.size+1)]) (Nn:=["p"]) (Gl:=[]) hA'.handled (by decide +kernel) (by rw [hcl];rfl) C (show 1<=2 by decide) ((Fr.nV (c:=c) 0 F).use fun _ t=>⟨rfl,g₅,_,_,F,eD5',?_,?_⟩)))))
 · intro i v s1 g' us so I oI C' D' h tk hi kg' hus Cc F
   have K1':=cellIn (C:=C') K1 (sc:=⟨.function,[(".0",.local),("p",.local),("sep",.free)],false,false,[]⟩) (cl:=[("sep",s.heap.objs.size+1)]) rfl rfl rfl
   refine strs2 hi (U:=fun x=>Txt.startswith x "/"=true) hp hq fun x tx ev hx hxs=>?_
   refine stI Cc F 0 rfl fun h' F=>tests0 ⟨rfl,?_⟩
   refine Mstr (ldI Cc F 0 rfl (List.getElem?_set_self (hus▸Nat.zero_lt_one)) ⟨ev,SB.startswith (ldC K1' F.keep (kg' _ _ (k6 _ _ e1)) hd1' ⟨_,_,rfl,?_⟩)⟩)
   exact ⟨by rw [hxs],g',_,_,_,rfl,Le.rfl',F⟩
 intro g₆ D6 h t k7 eD6 F
 have X₆:=X₅.up k7
 refine asSet (s:=c.st h t) hA'.handled F eD6 fun h F=>assignInOrder_cons (assign_Name (Fr.sto (c:=c) 2 F ?_))
 intro V h t F
 refine assignInOrder_nil (wpAny_execs_nil ?_)
 have hds6:=hds5.up k7
 have eD56:=k7 _ _ eD5
 have e26:=k7 _ _ (k6 _ _ e2)
 have hyl:ys.length=2:=hds5.len
 refine Fr.xCompL (c:=c) (cl:=[("curdir",s.heap.objs.size+1+1)]) 1 ["s"] [] (fun i g' zs=>Dts g' zs ((([partsS p,partsS q]:List (List Str)).take i).map fun x=>.list (x.map .str))) (by rw [hcl];rfl) F (Fr.nV 1 F) eD56 (by rw [hyl];decide) .nil (Fr.ct0 hA'.handled ?_) ?_
 · intro i v s1 g' us zs I oI C' D' h cx hi kg' hzs ci V F hus T1 hT1 t
   have K2':=cellIn (C:=C') K2 (sc:=⟨.function,[(".0",.local),("s",.local),("curdir",.free)],false,false,[]⟩) (cl:=[("curdir",s.heap.objs.size+1+1)]) rfl rfl rfl
   refine Dts.getP (f:=fun x=>.list ((Txt.split x "/").map .str)) (xs:=[p,q]) hds6 hi fun x hx hdx=>?_
   have hxl:x.length<=1000:=at2 (U:=fun x=>x.length<=1000) hx hp2 hq2
   obtain ⟨lx,xs,kx,ev,hlx,hdxs⟩:=hdx.listInv
   have hsl:xs.length<=16777216:=by
    have h1:=hdxs.len
    have h2:=split_len x
    rw [List.length_map] at h1
    exact zz89 hxl h1 h2
   have hv:V[0]?=some (some v):=List.getElem?_set_self hus
   refine Fr.eCompL (c:=ci) (cl:=[("curdir",s.heap.objs.size+1+1)]) ["c"] [] (fun i g' ws=>Dts g' ws ((((Txt.split x "/").take i).filter goodS).map .str)) rfl F ((Fr.nV 0 F hv).eq ev) (kg' _ _ hlx) (by rw [sizeLine_eq];exact zz90 hsl) .nil (Fr.ct hA'.handled ?_) ?_
   · intro i2 v2 s2 g2 us2 ws I2 oI2 C2 D2 h cx2 hi2 kg2 hws c3 V3 F hus2 T2 hT2 G kT kF
     have K2'':=cellIn (C:=C2) K2' (sc:=⟨.function,[(".0",.local),("c",.local),("curdir",.free)],false,false,[]⟩) (cl:=[("curdir",s.heap.objs.size+1+1)]) rfl rfl rfl
     refine hdxs.getP hi2 fun y hy hdy=>?_
     obtain ⟨ty,ev2⟩:=hdy.strInv
     have hyl:y.length<=16777216:=by
      have:=split_each x y (List.mem_of_getElem? hy)
      exact zz91 hxl this
     have hv:V3[0]?=some (some v2):=List.getElem?_set_self hus2
     have E0 {p1:Pos}:=(Fr.nV (c:=c3) (x:="c") (pos:=p1) 0 F hv).eq ev2
     refine dite (goodS y=true) (fun q=>?_) fun q=>?_
     · refine kT ((Fr.tAnd (Fr.taAnd (Fr.tTruS E0 hyl rfl) (Fr.tNeS E0 (Fr.toS (Fr.nC K2'' F.keep (kg2 _ _ (kg' _ _ e26)) hd2')) rfl))).to q) fun t=>E0.use fun _ t=>hT2 _ _ _ _ Le.rfl' F ?_
       rw [filt_good hy q,List.map_append]
       exact hws.snoc (.str _ _)
     · have q:goodS y=false:=by simpa using q
       exact kF ((Fr.tAnd (Fr.taAnd (Fr.tTruS E0 hyl rfl) (Fr.tNeS E0 (Fr.toS (Fr.nC K2'' F.keep (kg2 _ _ (kg' _ _ e26)) hd2')) rfl))).to q) (by rw [filt_bad hy q];exact hws)
   · intro g7 g8 D8 ws h t k8 k8' hws eD8 F
     refine hT1 _ g8 _ _ k8 F ?_
     rw [take_nx (show ([partsS p,partsS q]:List (List Str))[i]?=some (partsS x) from by have:=congrArg (Option.map partsS) hx;rwa [←List.getElem?_map] at this),List.map_append]
     refine (hzs.up k8).snoc (.list eD8 ?_)
     rw [show xs.length=(Txt.split x "/").length by have h1:=hdxs.len;rwa [List.length_map] at h1,List.take_length] at hws
     exact hws.up k8'
 intro g₇' g₇ D7 zs k8 k8' hzs eD7 V h t F
 rw [hyl] at hzs
 have X₇:=X₆.up k8
 refine two_k (hzs.up k8') fun a1 a2 ka kb ta tb ez ha1 ha2 hta htb=>?_
 rw [ez] at eD7
 have hu:A'.in1.in1.units+3<cLine:=by have:=hA'.c;show A'.units+1+1+3<cLine;exact zz92 this
 refine Fr.xLetK (c:=c) 4 fun Qv hQv=>C1 (N_min (s:=c.st h t) C X₇ F.keep (.tail _ (.tail _ (.tail _ (.tail _ (.tail _ (.head _)))))) ((Fr.nV (c:=c) 1 F).use fun _ t=>⟨trivial,minL (s:=c.st h t) hA'.handled _ (cmpLt ha1 ha2 hta htb hu) F eD7 (show 0<2 by decide) fun v h t hv F=>pick_k ha1 ha2 hv fun l1 T1 k1' ev1 el1 f1=>?_⟩))
 rw [ev1]
 refine hQv _ _ _ _ _ _ F ?_
 intro V h t F
 refine Fr.xLetK (c:=c) 5 fun Qv hQv=>C1 (N_max (s:=c.st h t) C X₇ F.keep (.tail _ (.tail _ (.tail _ (.tail _ (.tail _ (.tail _ (.head _))))))) ((Fr.nV (c:=c) 1 F).use fun _ t=>⟨trivial,maxL (s:=c.st h t) hA'.handled _ (cmpGt ha1 ha2 hta htb hu) F eD7 (show 0<2 by decide) fun v2 h t hv2 F=>pick_k ha1 ha2 hv2 fun l2 T2 k2' ev2 el2 f2=>?_⟩))
 rw [ev2]
 refine hQv _ _ _ _ _ _ F ?_
 intro V h t F
 rw [hta,htb] at f1 f2
 have hlo:=lo_hi (partsS p) (partsS q)
 have hp3:=parts_len p
 have hq3:=parts_len q
 have hS1:=pick_len (partsS p) (partsS q) (n:=100000) (by exact zz93 hp2 hp3) (by exact zz93 hq2 hq3) (argBest (btLt (partsS p) (partsS q)) 1)
 have hS2:=pick_len (partsS p) (partsS q) (n:=100000) (by exact zz93 hp2 hp3) (by exact zz93 hq2 hq3) (argBest (btGt (partsS p) (partsS q)) 1)
 refine genK (pick2 (partsS p) (partsS q) (argBest (btLt (partsS p) (partsS q)) 1)) fun S1 eS1=>genK (pick2 (partsS p) (partsS q) (argBest (btGt (partsS p) (partsS q)) 1)) fun S2 eS2=>?_
 rw [eS1,eS2] at hlo
 rw [eS1] at hS1
 rw [eS2] at hS2
 have f1:T1.map (·.1)=S1:=f1.trans eS1
 have f2:T2.map (·.1)=S2:=f2.trans eS2
 rw [←hlo.1] at hj hj2
 have hT1:T1.length=S1.length:=by rw [←f1,List.length_map]
 have hT2:T2.length=S2.length:=by rw [←f2,List.length_map]
 refine Fr.xAsg (c:=c) 6 F (Fr.nV 4 F) ?_
 intro _ V h t F
 refine Fr.xSeq (c:=c) (fun K=>∀g₈ lc kc tc u1 u2 h t,Le g₇ g₈->g₈.get? lc=some (lstObj (strValues tc) kc)->tc.map (·.1)=comL S1 S2->c.S g₈ [some (.ref D),some (.ref D7),some (.bool true),u1,some (.ref l1),some (.ref l2),some (.ref lc),u2,none] [] h->K h t) (fun K hK=>?_) fun g₈ lc kc tc u1 u2 h t k9 elc ftc F=>?_
 · refine wpAny_execs_cons (For_ (C1 (N_enumerate (s:=c.st h t) C X₇ F.keep (.tail _ (.tail _ (.tail _ (.tail _ (.tail _ (.tail _ (.tail _ (.head _)))))))) ((Fr.nV (c:=c) 4 F).use fun _ t=>⟨trivial,each_enum (s:=c.st h t) (fun i g' V' mu'=>∀G:List (Option Value)->List (Addr×Obj)->Prop,(∀u1 u2,S1.take i=S2.take i->G [some (.ref D),some (.ref D7),some (.bool true),u1,some (.ref l1),some (.ref l2),some (.ref l1),u2,none] [])->G V' mu') hA'.handled F el1 (fun G q=>q _ _ rfl) ?_ ?_⟩))))
   · intro i v tv g' g'' V' mu' e it oe oi h tk hi kg' hJ kg''
     apply hJ
     intro u1 u2 htk F
     refine absT fun TT hTT=>?_
     refine strV_k hi fun cc tcc ev hc=>?_
     rw [f1] at hc
     have hlt:i<S1.length:=(List.getElem?_eq_some_iff.mp hc).1
     have hlt2:=hlo.2 i hlt htk
     obtain ⟨d,td,hd1,hd2⟩:=strV_have (T:=T2) (i:=i) (by rw [hT2];exact hlt2)
     rw [f2] at hd2
     refine Fr.ao (c:=c) (is:=[7,3]) (.cons rfl (.cons rfl .nil)) rfl F fun h t F=>?_
     refine Fr.asV (c:=c) F ?_
     intro V F
     have E0 {p1:Pos}:=(Fr.nV (c:=c) (x:="c") (pos:=p1) 3 F).eq ev
     have Ix {p1 p2 p3:Pos}:=Fr.ixN (c:=c) (p:=p2) (pos:=p3) (Fr.nV (x:="s2") (pos:=p1) 5 F) (Fr.nI (x:="i") 7 F) F.keep (kg'' _ _ (kg' _ _ el2)) hd1 (by lia)
     refine dite (cc=d) (fun q=>?_) fun q=>?_
     · refine Fr.xIf0 (Fr.tNeS E0 (Fr.toS Ix) (by rw [q];simp)) fun t=>Fr.xNil (hTT _ _ (turnE_next Le.rfl' F fun G k=>k _ _ ?_))
       rw [take_nx hc,take_nx hd2,htk,q]
     · refine Fr.xIfT (Fr.tNeS E0 (Fr.toS Ix) (by have:cc.cps.toList≠d.cps.toList:=fun z=>q (str_ext' z);simp [this])) fun t=>wpAny_execs_cons (wpAny_Assign_Name (lsl_take (h₀:=c.h₀) (xt:=c.xt) (g₀:=c.g₀) (L:=env.locals) (N:=nCommon) ((Fr.nV (c:=c) 4 F).use fun _ t=>(Fr.nI 7 F).use fun _ t=>?_)))
       refine ⟨l1,strValues T1,k1',i,_,g'',_,_,rfl,rfl,by rw [show (strValues T1).length=T1.length by simp [strValues]];exact zz94 hS1 hT1,kg'' _ _ (kg' _ _ el1),F,fun D9 g₉ h k9 eD9 F=>?_⟩
       refine Fr.sto (c:=c) 6 F ?_
       intro V h t F
       refine Fr.xBrk (c:=c) (hTT _ _ (turnE_brk (Fr.nNext (hK g₉ D9 0 (T1.take i) _ _ h t ((kg'.tr kg'').tr k9) (by rw [eD9];simp [strValues,List.map_take]) ?_ (St.sub F (List.nil_sublist _))))))
       rw [List.map_take,f1]
       exact (comL_stop htk hc hd2 q).symm
   · intro g' V' mu' h t kg' hJ
     apply hJ
     intro u1 u2 htk F
     refine Fr.nNext (hK g' l1 k1' T1 u1 u2 h t kg' (kg' _ _ el1) ?_ F)
     rw [show (strValues T1).length=S1.length by simp [strValues,hT1],List.take_length] at htk
     rw [f1]
     exact (comL_whole htk).symm
 have e1':=k9 _ _ (k8 _ _ (k7 _ _ (k6 _ _ e1)))
 refine Fr.asV (c:=c) F ?_
 intro V F
 refine Fr.xLetK (c:=c) 8 fun Qv hQv=>IfExp_ ((Fr.tTruB (c:=c) (Fr.nV 2 F)) _ _ _ fun t=>?_)
 rw [if_pos rfl]
 refine (Fr.nC (c:=c) K1 F.keep e1' hd1').use fun _ t=>hQv _ _ _ _ _ _ F ?_
 intro V h t F
 refine wpAny_execs_cons (wpAny_Return_some (wpAny_BinOp ((Fr.nV (c:=c) 8 F).use fun _ t=>Call_method1 rfl rfl rfl ((Fr.nC (c:=c) K1 F.keep e1' hd1').use fun _ t=>SB.join ((Fr.nV (c:=c) 6 F).use fun _ t=>⟨lc,tc,rfl,⟨_,F.keep _ _ elc,rfl,_,rfl⟩,_,ftc,hj,fun t5 k5=>SB.add (fun t'' k=>?_) ?_⟩)))))
 · have hT:commonT p q=("/":Str)++Txt.join "/" (comL S1 S2):=by rw [commonT,hlo.1]
   exact hQ _ _ _ _ F.out (hT▸hP _ _ _)
 · show _<=16777216
   rw [slash_len];exact zz95 hj2
theorem common_gives(X:Stat g)(kg:Le g s.heap)(hA:Ok A (n+7))(l:Addr)(k:Nat)(p q:Str)(t1 t2:Tok)(hl:g.get? l=some (lstObj [.str p t1,.str q t2] k))(hp:Txt.startswith p "/"=true)(hq:Txt.startswith q "/"=true)
 (hp2:p.length<=1000) (hq2:q.length<=1000) (hj:JoinOk "/" (comL (partsS p) (partsS q))=true) (hj2:(Txt.join "/" (comL (partsS p) (partsS q))).length<=100000) :
 Gives pw w A (.call (.ref 375) ⟨[.ref l],[]⟩) s [] g (fun _ _ v=>∃t,v=.str (commonT p q) t) :=
 common_core X kg hA l k p q t1 t2 hl hp hq hp2 hq2 hj hj2 fun _ _ t=>⟨t,rfl⟩
end
noncomputable def nameList:List (List Nat):=[[0],[0,0],[10],[153]]++(List.range 256).map fun x=>[160,x]
structure GoodPl(p:Pl):Prop where
 len:p.length<=9
 nm:∀n∈p,n∈nameList
theorem GoodPl.init{p:Pl}{n:List Nat}(h:GoodPl (p++[n])):GoodPl p:=⟨by have:=h.len;simp at this;exact zz332 this,fun m hm=>h.nm m (by simp [hm])⟩
theorem GoodPl.take{p:Pl}(h:GoodPl p)(i:Nat):GoodPl (p.take i):=⟨by have:=h.len;rw [List.length_take];lia,fun m hm=>h.nm m (List.mem_of_mem_take hm)⟩
theorem GoodPl.tail{p:Pl}{n:List Nat}(h:GoodPl (n::p)):GoodPl p:=⟨by have:=h.len;simp at this;exact zz332 this,fun m hm=>h.nm m (.tail _ hm)⟩
theorem name_cases{n:List Nat}(h:n∈nameList):(n=[0]\/n=[0,0]\/n=[10]\/n=[153])\/∃x<256,n=[160,x]:=by
 unfold nameList at h
 rcases List.mem_append.mp h with h|h
 · simp only [List.mem_cons,List.not_mem_nil,or_false] at h
   exact .inl h
 · obtain ⟨x,hx,rfl⟩:=List.mem_map.mp h
   exact .inr ⟨x,List.mem_range.mp hx,rfl⟩
theorem OctOk_all:∀n∈nameList,OctOk n:=by
 intro n h
 rcases name_cases h with (rfl|rfl|rfl|rfl)|⟨x,hx,rfl⟩
 · exact ⟨by decide,by decide⟩
 · exact ⟨by decide,by decide⟩
 · exact ⟨by decide,by decide⟩
 · exact ⟨by decide,by decide⟩
 · refine ⟨by simp,fun k hk=>?_⟩
   simp only [List.mem_cons,List.not_mem_nil,or_false] at hk
   exact zz333 hx hk
theorem name_ne{n:List Nat}(h:n∈nameList):n≠[]:=by
 rcases name_cases h with (rfl|rfl|rfl|rfl)|⟨x,hx,rfl⟩<;>simp
noncomputable def dg(i:Nat):Nat:=if i<10 then 48+i else 55+i
noncomputable def o2(k:Nat):List Nat:=[dg (k/16),dg (k%16)]
theorem octT_cl:∀k<256,(octT k).cps.toList=o2 k:=by decide +kernel
noncomputable def hx(ns:List Nat):List Nat:=ns.flatMap o2
theorem join_cl0:∀xs:List Str,(Str.join "" xs).cps.toList=xs.flatMap (·.cps.toList)
 | []=>rfl
 | [x]=>by simp [Str.join]
 | x::y::r=>by
  show (x++""++Str.join "" (y::r)).cps.toList=_
  rw [Str.cps_append,Str.cps_append,Array.toList_append,Array.toList_append,join_cl0 (y::r),List.flatMap_cons]
  have:("":Str).cps.toList=[]:=by decide +kernel
  rw [this,List.append_nil]
  simp only [List.flatMap_cons]
theorem slash_cl:("/":Str).cps.toList=[47]:=by decide +kernel
theorem join_cl:∀(x:Str) (xs:List Str),(Str.join "/" (x::xs)).cps.toList=x.cps.toList++xs.flatMap (fun y=>47::y.cps.toList)
 | x,[]=>by simp [Str.join]
 | x,y::r=>by
  show (x++"/"++Str.join "/" (y::r)).cps.toList=_
  rw [Str.cps_append,Str.cps_append,Array.toList_append,Array.toList_append,join_cl y r,slash_cl,List.flatMap_cons]
  simp
theorem txt_join(sep:Str)(xs:List Str):Txt.join sep xs=Str.join sep xs:=StrLaws.glued_eq_join sep xs
theorem hexW_cl{ns:List Nat}(h:OctOk ns):(hexW ns).cps.toList=hx ns:=by
 unfold hexW hx
 rw [txt_join,join_cl0,List.flatMap_map]
 have:∀(l:List Nat),(∀k∈l,k<256)->l.flatMap (fun a=>(octT a).cps.toList)=l.flatMap o2:=by
  intro l
  induction l with
  | nil=>intro _;rfl
  | cons k l ih=>intro hl;rw [List.flatMap_cons,List.flatMap_cons,octT_cl k (hl k (.head _)),ih fun x hx=>hl x (.tail _ hx)]
 exact this ns h.oct
noncomputable def wl(p:Pl):List Nat:=p.flatMap fun n=>47::hx n
theorem W_cl{p:Pl}(h:∀n∈p,OctOk n):(writtenT p).cps.toList=if p=[] then [47] else wl p:=by
 unfold writtenT
 rw [Str.cps_append,Array.toList_append,slash_cl,txt_join]
 cases p with
 | nil=>rfl
 | cons n p =>
  rw [List.map_cons,join_cl,if_neg (by simp),hexW_cl (h n (.head _)),wl,List.flatMap_cons,List.flatMap_map]
  have:∀(l:Pl),(∀k∈l,OctOk k)->l.flatMap (fun a=>47::(hexW a).cps.toList)=l.flatMap fun n=>47::hx n:=by
   intro l
   induction l with
   | nil=>intro _;rfl
   | cons k l ih=>intro hl;rw [List.flatMap_cons,List.flatMap_cons,hexW_cl (hl k (.head _)),ih fun x hx=>hl x (.tail _ hx)]
  rw [this p fun k hk=>h k (.tail _ hk)]
  rfl
theorem GoodPl.oct{p:Pl}(h:GoodPl p):∀n∈p,OctOk n:=fun n hn=>OctOk_all n (h.nm n hn)
theorem hx_len(ns:List Nat):(hx ns).length=2*ns.length:=by
 induction ns with
 | nil=>rfl
 | cons k r ih=>unfold hx at *;rw [List.flatMap_cons,List.length_append,ih,List.length_cons];simp [o2];exact zz334
theorem dg_range{i:Nat}(h:i<16):48<=dg i/\dg i<71:=by unfold dg;split<;>lia
theorem hx_range{ns:List Nat}(h:∀k∈ns,k<256):∀c∈hx ns,48<=c/\c<71:=by
 intro c hc
 obtain ⟨k,hk,hc⟩:=List.mem_flatMap.mp hc
 have:=h k hk
 simp only [o2,List.mem_cons,List.not_mem_nil,or_false] at hc
 rcases hc with rfl|rfl
 · exact dg_range (by exact zz57 this)
 · exact dg_range (by exact zz58)
theorem wl_len{p:Pl}(h:∀n∈p,OctOk n):(wl p).length<=5*p.length:=by
 induction p with
 | nil=>simp [wl]
 | cons n p ih =>
  have:=ih fun k hk=>h k (.tail _ hk)
  have h2:=(h n (.head _)).short
  unfold wl at *
  rw [List.flatMap_cons,List.length_append,List.length_cons,hx_len,List.length_cons];exact zz335 this h2
theorem len_cl(x:Str):x.length=x.cps.toList.length:=by simp [Str.length]
theorem W_len{p:Pl}(h:GoodPl p):(writtenT p).length<=60:=by
 rw [len_cl,W_cl h.oct]
 have:=wl_len h.oct
 have:=h.len
 split
 · simp
 · lia
theorem strOk_of{x:Str}{B:Nat}(h:∀c∈x.cps.toList,c<B)(hB:B<=0x110000):PyData.strOk x=true:=by
 unfold PyData.strOk
 rw [Array.all_eq_true']
 intro c hc
 have:=h c (Array.mem_toList_iff.mpr hc)
 simp;exact zz336 hB this
theorem wl_range{p:Pl}(h:∀n∈p,OctOk n):∀c∈wl p,47<=c/\c<71:=by
 intro c hc
 obtain ⟨n,hn,hc⟩:=List.mem_flatMap.mp hc
 rcases List.mem_cons.mp hc with rfl|hc
 · exact zz337
 · have:=hx_range (h n hn).oct c hc;exact zz338 this
theorem W_ok{p:Pl}(h:GoodPl p):PyData.strOk (writtenT p)=true:=by
 refine strOk_of (B:=71) (fun c hc=>?_) (by decide)
 rw [W_cl h.oct] at hc
 split at hc
 · simp at hc;exact zz339 hc
 · exact (wl_range h.oct c hc).2
theorem H_ok{n:List Nat}(h:n∈nameList):PyData.strOk (hexW n)=true:=by
 refine strOk_of (B:=71) (fun c hc=>?_) (by decide)
 rw [hexW_cl (OctOk_all n h)] at hc
 exact (hx_range (OctOk_all n h).oct c hc).2
noncomputable def Sl(s:List Nat):Prop:=s=[]\/∃r,s=47::r
theorem cons_lt(a b:Nat)(r t:List Nat):(a::r<b::t)↔(a<b\/(a=b/\r<t)):=by
 rw [List.cons_lt_cons_iff]
theorem dg_lt{i j:Nat}(hi:i<16)(hj:j<16):(dg i<dg j↔i<j)/\(dg i=dg j↔i=j):=by
 unfold dg;split<;>split<;>constructor<;>constructor<;>intro h<;>lia
theorem o2_lt{k m:Nat}(hk:k<256)(hm:m<256)(s t:List Nat):(o2 k++s<o2 m++t)↔(k<m\/(k=m/\s<t)):=by
 have h1:=dg_lt (i:=k/16) (j:=m/16) (by exact zz57 hk) (by exact zz57 hm)
 have h2:=dg_lt (i:=k%16) (j:=m%16) (by exact zz58) (by exact zz58)
 simp only [o2,List.cons_append,List.nil_append]
 rw [cons_lt,cons_lt,h1.1,h1.2,h2.1,h2.2]
 constructor
 · rintro (q|⟨q,q2|⟨q2,q3⟩⟩)
   · exact .inl (by exact zz340 q)
   · exact .inl (by exact zz341 q q2)
   · exact .inr ⟨by exact zz342 q q2,q3⟩
 · rintro (q|⟨rfl,q⟩)
   · rcases Nat.lt_or_ge (k/16) (m/16) with z|z
     · exact .inl z
     · exact .inr ⟨by exact zz343 q z,.inl (by exact zz344 q z)⟩
   · exact .inr ⟨rfl,.inr ⟨rfl,q⟩⟩
theorem hx_lt:∀{ns ms:List Nat} (hn:∀k∈ns,k<256) (hm:∀k∈ms,k<256) {s t:List Nat},Sl s->Sl t->((hx ns++s<hx ms++t)↔(ns<ms\/(ns=ms/\s<t)))
 | [],[],_,_,s,t,_,_=>by simp [hx]
 | [],m::ms,_,hm,s,t,hs,_=>by
  have h16:=dg_range (i:=m/16) (by have:=hm m (.head _);exact zz57 this)
  simp only [hx,List.flatMap_nil,List.nil_append,List.flatMap_cons,o2,List.cons_append]
  rcases hs with rfl|⟨r,rfl⟩
  · simp
  · rw [cons_lt]
    constructor
    · intro _;exact .inl (by simp)
    · intro _;exact .inl (by exact zz345 h16)
 | n::ns,[],hn,_,s,t,_,ht=>by
  have h16:=dg_range (i:=n/16) (by have:=hn n (.head _);exact zz57 this)
  simp only [hx,List.flatMap_nil,List.nil_append,List.flatMap_cons,o2,List.cons_append]
  rcases ht with rfl|⟨r,rfl⟩
  · simp
  · rw [cons_lt]
    constructor
    · rintro (q|⟨q,_⟩)<;>lia
    · rintro (q|⟨q,_⟩)
      · simp at q
      · cases q
 | n::ns,m::ms,hn,hm,s,t,hs,ht=>by
  have ih:=hx_lt (ns:=ns) (ms:=ms) (fun k hk=>hn k (.tail _ hk)) (fun k hk=>hm k (.tail _ hk)) hs ht
  unfold hx at ih ⊢
  rw [List.flatMap_cons,List.flatMap_cons,List.append_assoc,List.append_assoc,o2_lt (hn n (.head _)) (hm m (.head _)),ih,cons_lt]
  constructor
  · rintro (q|⟨rfl,q|⟨rfl,q⟩⟩)
    · exact .inl (.inl q)
    · exact .inl (.inr ⟨rfl,q⟩)
    · exact .inr ⟨rfl,q⟩
  · rintro ((q|⟨rfl,q⟩)|⟨q,q2⟩)
    · exact .inl q
    · exact .inr ⟨rfl,.inl q⟩
    · cases q;exact .inr ⟨rfl,.inr ⟨rfl,q2⟩⟩
theorem wl_sl(p:Pl):Sl (wl p):=by
 cases p with
 | nil=>exact .inl rfl
 | cons n p=>exact .inr ⟨_,by rw [wl,List.flatMap_cons];rfl⟩
theorem wl_lt:∀{p q:Pl} (hp:∀n∈p,OctOk n) (hq:∀n∈q,OctOk n),((wl p<wl q)↔p<q)
 | [],[],_,_=>by simp [wl]
 | [],m::q,_,_=>by simp [wl]
 | n::p,[],_,_=>by simp [wl]
 | n::p,m::q,hp,hq=>by
  have ih:=wl_lt (p:=p) (q:=q) (fun k hk=>hp k (.tail _ hk)) (fun k hk=>hq k (.tail _ hk))
  have e:∀(a:List Nat) (b:Pl),wl (a::b)=47::(hx a++wl b):=fun a b=>by rw [wl,List.flatMap_cons];rfl
  rw [e,e,cons_lt,hx_lt (hp n (.head _)).oct (hq m (.head _)).oct (wl_sl p) (wl_sl q),ih,List.cons_lt_cons_iff]
  simp
theorem W_lt{p q:Pl}(hp:GoodPl p)(hq:GoodPl q):decide ((writtenT p).cps.toList<(writtenT q).cps.toList)=decide (p<q):=by
 apply decide_eq_decide.mpr
 rw [W_cl hp.oct,W_cl hq.oct]
 have key:∀(n:List Nat) (r:Pl),n∈nameList->∃c r',47<c/\wl (n::r)=47::c::r':=by
  intro n r hn
  have h0:=name_ne hn
  have h1:=(OctOk_all n hn).oct
  cases n with
  | nil=>exact absurd rfl h0
  | cons k ns =>
   have:=dg_range (i:=k/16) (by have:=h1 k (.head _);exact zz57 this)
   refine ⟨dg (k/16),dg (k%16)::(hx ns++wl r),by exact zz345 this,?_⟩
   rw [wl,List.flatMap_cons,hx,List.flatMap_cons]
   rfl
 cases p with
 | nil =>
  cases q with
  | nil=>simp
  | cons m q =>
   obtain ⟨c,r',hc,e⟩:=key m q (hq.nm m (.head _))
   rw [if_pos rfl,if_neg (by simp),e,cons_lt]
   simp
 | cons n p =>
  cases q with
  | nil =>
   obtain ⟨c,r',hc,e⟩:=key n p (hp.nm n (.head _))
   rw [if_neg (by simp),if_pos rfl,e,cons_lt]
   simp
  | cons m q=>rw [if_neg (by simp),if_neg (by simp)];exact wl_lt hp.oct hq.oct
theorem W_start(p:Pl):Txt.startswith (writtenT p) "/"=true:=by
 have h:∃r,(writtenT p).cps.toList=47::r:=by
  unfold writtenT
  rw [Str.cps_append,Array.toList_append,slash_cl]
  exact ⟨_,rfl⟩
 obtain ⟨r,h⟩:=h
 unfold Txt.startswith
 have hl:(writtenT p).length=r.length+1:=by rw [len_cl,h];rfl
 rw [StrLaws.subAt_eq,h,slash_len,slash_cl,hl]
 simp
theorem lt_irr(l:List Nat):¬l<l:=List.lt_irrefl l
theorem W_inj{p q:Pl}(hp:GoodPl p)(hq:GoodPl q)(e:writtenT p=writtenT q):p=q:=by
 have h1:=W_lt hp hq
 have h2:=W_lt hq hp
 rw [e] at h1 h2
 have h1:¬p<q:=fun z=>by
  rw [decide_eq_true z,decide_eq_true_iff] at h1
  exact lt_irr _ h1
 have h2:¬q<p:=fun z=>by
  rw [decide_eq_true z,decide_eq_true_iff] at h2
  exact lt_irr _ h2
 exact List.le_antisymm (List.not_lt.mp h2) (List.not_lt.mp h1)
theorem hexW_inj{n m:List Nat}(hn:n∈nameList)(hm:m∈nameList)(e:hexW n=hexW m):n=m:=by
 have o1:=OctOk_all n hn
 have o2:=OctOk_all m hm
 have e:(hexW n).cps.toList=(hexW m).cps.toList:=by rw [e]
 rw [hexW_cl o1,hexW_cl o2] at e
 have h1:=hx_lt o1.oct o2.oct (s:=[]) (t:=[]) (.inl rfl) (.inl rfl)
 have h2:=hx_lt o2.oct o1.oct (s:=[]) (t:=[]) (.inl rfl) (.inl rfl)
 rw [List.append_nil,List.append_nil,e] at h1
 rw [List.append_nil,List.append_nil,e] at h2
 have h1:¬n<m:=fun z=>lt_irr _ (h1.mpr (.inl z))
 have h2:¬m<n:=fun z=>lt_irr _ (h2.mpr (.inl z))
 exact List.le_antisymm (List.not_lt.mp h2) (List.not_lt.mp h1)
theorem cut_uniq:∀{a b s t:List Nat},47∉a->47∉b->Sl s->Sl t->a++s=b++t->a=b/\s=t
 | [],[],_,_,_,_,_,_,e=>⟨rfl,e⟩
 | [],y::b,s,t,_,hb,hs,_,e=>by
  rcases hs with rfl|⟨r,rfl⟩
  · simp at e
  · simp only [List.nil_append,List.cons_append,List.cons.injEq] at e
    exact absurd (by rw [e.1];exact .head _) hb
 | x::a,[],s,t,ha,_,_,ht,e=>by
  rcases ht with rfl|⟨r,rfl⟩
  · simp at e
  · simp only [List.nil_append,List.cons_append,List.cons.injEq] at e
    exact absurd (by rw [e.1];exact .head _) ha
 | x::a,y::b,s,t,ha,hb,hs,ht,e=>by
  simp only [List.cons_append,List.cons.injEq] at e
  obtain ⟨e1,e2⟩:=cut_uniq (fun h=>ha (.tail _ h)) (fun h=>hb (.tail _ h)) hs ht e.2
  exact ⟨by rw [e.1,e1],e2⟩
noncomputable def fl(xs:List Str):List Nat:=xs.flatMap fun y=>47::y.cps.toList
theorem fl_cons(x:Str)(xs:List Str):fl (x::xs)=47::(x.cps.toList++fl xs):=by unfold fl;rw [List.flatMap_cons];rfl
theorem fl_sl(xs:List Str):Sl (fl xs):=by
 cases xs with
 | nil=>exact .inl rfl
 | cons x xs=>exact .inr ⟨_,fl_cons x xs⟩
theorem fl_uniq:∀{xs ys:List Str},(∀x∈xs,47∉x.cps.toList)->(∀x∈ys,47∉x.cps.toList)->fl xs=fl ys->xs=ys
 | [],[],_,_,_=>rfl
 | [],y::ys,_,_,e=>by rw [fl_cons] at e;cases e
 | x::xs,[],_,_,e=>by rw [fl_cons] at e;cases e
 | x::xs,y::ys,hx,hy,e=>by
  rw [fl_cons,fl_cons] at e
  obtain ⟨e1,e2⟩:=cut_uniq (hx x (.head _)) (hy y (.head _)) (fl_sl xs) (fl_sl ys) (List.cons.inj e).2
  rw [str_ext e1,fl_uniq (fun z h=>hx z (.tail _ h)) (fun z h=>hy z (.tail _ h)) e2]
theorem fl_join(x:Str)(xs:List Str):47::(Str.join "/" (x::xs)).cps.toList=fl (x::xs):=by rw [join_cl,fl_cons];rfl
theorem split_ne(x y:Str):Txt.split x y≠[]:=by
 unfold Txt.split
 split
 · simp
 · split
   · simp
   · rw [StrLaws.partsBetween_eq]
     obtain ⟨p,r,e⟩:=StrLaws.partsFrom_ne x y.length 0 (Builtin.Str.occurrences x y 0 x.length (x.length+1))
     rw [e];simp
theorem split_is{x:Str}{q:Str}{qs:List Str}(hf:∀y∈q::qs,47∉y.cps.toList)(e:x.cps.toList=(Str.join "/" (q::qs)).cps.toList):Txt.split x "/"=q::qs:=by
 have hs:("/":Str)=⟨#[47]⟩:=str_ext slash_cl
 have h1:∀p∈Txt.split x "/",47∉p.cps.toList:=by rw [hs];exact StrLaws.split_free x 47
 have h2:=StrLaws.join_split x "/"
 cases hS:Txt.split x "/" with
 | nil =>
  exact absurd hS (split_ne x "/")
 | cons a S =>
  rw [hS] at h1 h2
  refine fl_uniq h1 hf ?_
  rw [←fl_join,←fl_join,h2,e]
theorem free_hex{n:List Nat}(h:OctOk n):47∉(hexW n).cps.toList:=by
 rw [hexW_cl h]
 intro z
 have:=hx_range h.oct 47 z
 exact zz346 this
theorem goodS_hex{n:List Nat}(h:OctOk n)(hn:n≠[]):goodS (hexW n)=true:=by
 have e:=hexW_cl h
 have hl:(hexW n).length=2*n.length:=by rw [len_cl,e,hx_len]
 have hpos:0<n.length:=List.length_pos_iff.mpr hn
 unfold goodS
 rw [hl,Bool.and_eq_true]
 refine ⟨by simp;lia,?_⟩
 rw [bne_iff_ne,e]
 intro z
 have hd:(".": Str).cps.toList=[46]:=by decide +kernel
 rw [hd] at z
 have:=congrArg List.length z
 rw [hx_len] at this
 simp at this
 exact zz347 this
theorem W_parts{p:Pl}(h:GoodPl p):partsS (writtenT p)=p.map hexW:=by
 unfold partsS
 cases p with
 | nil =>
  have e:(writtenT [])="/":=str_ext (by rw [W_cl (p:=[]) (by simp),if_pos rfl,slash_cl])
  rw [e]
  decide +kernel
 | cons n p =>
  have hs:Txt.split (writtenT (n::p)) "/"=("":Str)::(n::p).map hexW:=by
   refine split_is (fun y hy=>?_) ?_
   · rcases List.mem_cons.mp hy with rfl|hy
     · decide +kernel
     · obtain ⟨m,hm,rfl⟩:=List.mem_map.mp hy
       exact free_hex (h.oct m hm)
   · have:=fl_join "" ((n::p).map hexW)
     rw [fl_cons] at this
     have e0:("":Str).cps.toList=[]:=by decide +kernel
     rw [e0,List.nil_append] at this
     rw [(List.cons.inj this).2,W_cl h.oct,if_neg (by simp)]
     have key:∀(l:Pl),(∀k∈l,OctOk k)->wl l=fl (l.map hexW):=by
      intro l
      induction l with
      | nil=>intro _;rfl
      | cons k l ih =>
       intro hl
       rw [List.map_cons,fl_cons,hexW_cl (hl k (.head _)),←ih fun x hx=>hl x (.tail _ hx),wl,List.flatMap_cons];rfl
     exact key _ h.oct
  rw [hs,List.filter_cons,if_neg (by decide +kernel),List.filter_eq_self]
  intro y hy
  obtain ⟨m,hm,rfl⟩:=List.mem_map.mp hy
  exact goodS_hex (h.oct m hm) (name_ne (h.nm m hm))
noncomputable def preP:Pl->Pl->Pl
 | x::xs,y::ys=>if x=y then x::preP xs ys else []
 | _,_=>[]
theorem preP_iff:∀(p o:Pl),preP p o=o↔p.take o.length=o
 | [],[]=>by simp [preP]
 | [],_::_=>by simp [preP]
 | _::_,[]=>by simp [preP]
 | x::xs,y::ys=>by
  simp only [preP,List.length_cons,List.take_succ_cons,List.cons.injEq]
  by_cases e:x=y
  · subst e;simp [preP_iff xs ys]
  · simp [e]
theorem preP_good{p o:Pl}(h:GoodPl p):GoodPl (preP p o):=by
 have key:∀(a b:Pl),(preP a b).length<=a.length/\∀n∈preP a b,n∈a:=by
  intro a
  induction a with
  | nil=>intro b;cases b<;>simp [preP]
  | cons x xs ih =>
   intro b
   cases b with
   | nil=>simp [preP]
   | cons y ys =>
    simp only [preP]
    by_cases e:x=y
    · rw [if_pos e]
      obtain ⟨h1,h2⟩:=ih ys
      refine ⟨by simpa using h1,fun n hn=>?_⟩
      rcases List.mem_cons.mp hn with rfl|hn
      · exact .head _
      · exact .tail _ (h2 n hn)
    · rw [if_neg e];simp
 have:=h.len
 exact ⟨Nat.le_trans (key p o).1 h.len,fun n hn=>h.nm n ((key p o).2 n hn)⟩
theorem com_map:∀{p o:Pl},(∀n∈p,n∈nameList)->(∀n∈o,n∈nameList)->comL (p.map hexW) (o.map hexW)=(preP p o).map hexW
 | [],[],_,_=>rfl
 | [],_::_,_,_=>rfl
 | _::_,[],_,_=>rfl
 | x::p,y::o,hp,ho=>by
  have ih:=com_map (p:=p) (o:=o) (fun n hn=>hp n (.tail _ hn)) (fun n hn=>ho n (.tail _ hn))
  rw [List.map_cons,List.map_cons,comL,preP]
  by_cases e:x=y
  · subst e;rw [if_pos rfl,if_pos rfl,List.map_cons,ih]
  · rw [if_neg e,if_neg fun z=>e (hexW_inj (hp x (.head _)) (ho y (.head _)) z)];rfl
theorem W_com{p o:Pl}(hp:GoodPl p)(ho:GoodPl o):comL (partsS (writtenT p)) (partsS (writtenT o))=(preP p o).map hexW:=by
 rw [W_parts hp,W_parts ho]
 exact com_map hp.nm ho.nm
theorem W_common{p o:Pl}(hp:GoodPl p)(ho:GoodPl o):commonT (writtenT p) (writtenT o)=writtenT (preP p o):=by
 rw [commonT,W_com hp ho];rfl
theorem W_joinOk{p:Pl}(h:GoodPl p):JoinOk "/" (p.map hexW)=true/\(Txt.join "/" (p.map hexW)).length<=60:=by
 constructor
 · unfold JoinOk
   have hl:=h.len
   rw [StrLaws.joinFits (B:=4) (fun y hy=>by
    obtain ⟨n,hn,rfl⟩:=List.mem_map.mp hy
    exact hexW_len (h.oct n hn)) (by rw [List.length_map,slash_len];exact zz348 hl)]
   rfl
 · have h1:=W_len h
   unfold writtenT at h1
   rw [Str.length_append,slash_len] at h1
   exact zz349 h1
theorem wl_snoc(p:Pl)(n:List Nat):wl (p++[n])=wl p++47::hx n:=by unfold wl;rw [List.flatMap_append];simp
theorem rfind_is{x:Str}{A B:List Nat}(h:x.cps.toList=A++47::B)(hB:47∉B):Txt.rfind x "/"=(A.length:Int):=by
 have hs:("/":Str)=⟨#[47]⟩:=str_ext slash_cl
 unfold Txt.rfind
 rw [hs]
 have hat:∀i,StrLaws.At x ⟨#[47]⟩ x.length i↔x.cps.toList[i]?=some 47:=fun i=>StrLaws.subAt_one x 47 i
 have hA:x.cps.toList[A.length]?=some 47:=by rw [h];simp
 rcases StrLaws.last_spec x ⟨#[47]⟩ with ⟨e,hn⟩|⟨i,e,hi,hn⟩
 · exact absurd ((hat _).mpr hA) (hn _)
 · rw [e]
   have hi:=(hat i).mp hi
   have h1:¬i<A.length:=fun z=>hn _ z ((hat _).mpr hA)
   have h2:¬A.length<i:=fun z=>by
    rw [h,List.getElem?_append_right (by exact zz350 z)] at hi
    obtain ⟨m,hm⟩:∃m,i-A.length=m+1:=⟨i-A.length-1,by exact zz351 z⟩
    rw [hm,List.getElem?_cons_succ] at hi
    exact hB (List.mem_of_getElem? hi)
   show (i:Int)=_
   exact zz352 h1 h2
theorem cl_mk(l:List Nat):(⟨l.toArray⟩:Str).cps.toList=l:=rfl
theorem head_is{x:Str}{A B:List Nat}(h:x.cps.toList=A++47::B)(hB:47∉B):(headS x).cps.toList=A++[47]/\(tailS x).cps.toList=B:=by
 unfold headS tailS
 rw [rfind_is h hB]
 have hl:x.cps.toList.length=A.length+1+B.length:=by rw [h];simp;exact zz140
 constructor
 · have:=StrLaws.sliceText_to (x:=x) (j:=(A.length:Int)+1) ⟨by exact zz353,by rw [hl];exact zz354⟩
   rw [show Txt.slice x none (some ((A.length:Int)+1))=StrLaws.sliceText x none (some ((A.length:Int)+1)) from rfl,this,cl_mk,h]
   rw [List.drop_zero,show ((A.length:Int)+1-0).toNat=A.length+1 by lia,List.take_append,List.take_of_length_le (l:=A) (by exact zz43)]
   simp
 · have:=StrLaws.sliceText_from (x:=x) (i:=(A.length:Int)+1) ⟨by exact zz353,by rw [hl];exact zz354⟩
   rw [show Txt.slice x (some ((A.length:Int)+1)) none=StrLaws.sliceText x (some ((A.length:Int)+1)) none from rfl,this,cl_mk,h]
   rw [show ((A.length:Int)+1).toNat=A.length+1 by lia,show ((((A++47::B).length:Nat):Int)-((A.length:Int)+1)).toNat=B.length by simp;lia,List.drop_append,List.drop_of_length_le (l:=A) (by exact zz43)]
   simp
theorem mul_cl{k:Nat}:(Txt.mul "/" (k:Int)).cps.toList=List.replicate k 47:=by
 unfold Txt.mul
 have hf:∀(m:Nat) (acc:Array Nat),((List.replicate m ("/":Str).cps).foldl (·++·) acc).toList=acc.toList++List.replicate m 47:=by
  intro m
  induction m with
  | zero=>intro acc;simp
  | succ m ih=>intro acc;rw [List.replicate_succ,List.foldl_cons,ih,Array.toList_append,slash_cl,List.replicate_succ];simp
 by_cases h1:(k:Int)<1
 · have:k=0:=by exact zz355 h1
   subst this
   rw [if_pos h1];rfl
 · rw [if_neg h1]
   by_cases h2:k=1
   · subst h2;rw [if_pos (by decide),slash_cl];rfl
   · have hk:((k:Int)==1||("/":Str).length==0)=false:=by
      rw [slash_len]
      have:((k:Int)==1)=false:=by simp;exact zz356 h2
      rw [this];rfl
     rw [if_neg (by rw [hk];decide)]
     show (List.foldl (fun a b=>a++b) (#[]:Array Nat) (List.replicate (k:Int).toNat ("/":Str).cps)).toList=_
     rw [hf];simp
theorem rstrip_is{x:Str}{A:List Nat}{c:Nat}(h:x.cps.toList=A++[c]++[47])(hc:c≠47):(Txt.rstripChars x "/").cps.toList=A++[c]:=by
 have hl:x.length=A.length+2:=by rw [len_cl,h];simp
 have hg:∀d:Nat,("/":Str).cps.contains d=(d==47):=fun d=>by
  have:("/":Str).cps=#[47]:=by decide +kernel
  rw [this]
  by_cases e:d=47<;>simp [e]
 have ht:((x.cps.toList.drop 0).reverse.takeWhile (("/":Str).cps.contains)).length=1:=by
  rw [List.drop_zero,h]
  simp only [List.reverse_append,List.reverse_cons,List.reverse_nil,List.nil_append,List.cons_append,List.takeWhile_cons,hg]
  simp [hc]
 have hhi:stripHi (("/":Str).cps.contains) true x 0=A.length+1:=by unfold stripHi;rw [if_pos rfl,ht,hl];rfl
 unfold Txt.rstripChars Txt.stripBy stripSame PySem.stripped
 rw [show stripLo (("/":Str).cps.contains) false x=0 from rfl,hhi,hl]
 rw [if_neg (by simp),StrLaws.strSub_toList,h]
 rw [List.drop_zero,List.append_assoc,List.take_append,List.take_of_length_le (l:=A) (by exact zz357)]
 simp
theorem W_split{p:Pl}{n:List Nat}(h:GoodPl (p++[n])):splitS (writtenT (p++[n]))=writtenT p/\tailS (writtenT (p++[n]))=hexW n:=by
 have hn:OctOk n:=h.oct n (by simp)
 have hp:=h.init
 have hcl:(writtenT (p++[n])).cps.toList=wl p++47::hx n:=by rw [W_cl h.oct,if_neg (by simp),wl_snoc]
 have hfree:47∉hx n:=fun z=>by have:=hx_range hn.oct 47 z;exact zz346 this
 obtain ⟨e1,e2⟩:=head_is hcl hfree
 refine ⟨?_,str_ext (by rw [e2,hexW_cl hn])⟩
 have hlen:(headS (writtenT (p++[n]))).length=(wl p).length+1:=by rw [len_cl,e1];simp
 unfold splitS
 rw [hlen,mul_cl,e1]
 have h0:((wl p).length+1==0)=false:=by simp
 rw [h0,Bool.false_or]
 rcases p.eq_nil_or_concat with rfl|⟨p',m,rfl⟩
 · rw [if_pos (by simp [wl])]
   exact str_ext (by rw [e1,W_cl (p:=[]) (by simp),if_pos rfl];rfl)
 · rw [List.concat_eq_append] at *
   have hm:OctOk m:=hp.oct m (by simp)
   have hmn:m≠[]:=name_ne (hp.nm m (by simp))
   obtain ⟨A,c,hA⟩:∃A c,hx m=A++[c]:=by
    rcases (hx m).eq_nil_or_concat with z|⟨A,c,z⟩
    · have:=congrArg List.length z
      rw [hx_len] at this
      have:=List.length_pos_iff.mpr hmn
      simp at *
      lia
    · exact ⟨A,c,by rw [z,List.concat_eq_append]⟩
   have hc:=hx_range hm.oct c (by rw [hA];simp)
   have hw:wl (p'++[m])=(wl p'++47::A)++[c]:=by rw [wl_snoc,hA];simp
   rw [if_neg]
   · refine str_ext ?_
     rw [rstrip_is (A:=wl p'++47::A) (c:=c) (by rw [e1,hw]) (by exact zz358 hc),W_cl hp.oct,if_neg (by simp),hw]
   · intro z
     have z:=eq_of_beq z
     have hmem:c∈List.replicate ((wl (p'++[m])).length+1) 47:=by rw [←z,hw];simp
     have:=List.eq_of_mem_replicate hmem
     exact zz359 hc this
theorem ends_cl{x:Str}{A:List Nat}{c:Nat}(h:x.cps.toList=A++[c]):Txt.endswith x "/"=(c==47):=by
 have hl:x.length=A.length+1:=by rw [len_cl,h];simp
 unfold Txt.endswith
 rw [StrLaws.subAt_eq,h,slash_len,slash_cl,hl]
 simp
theorem W_join{p:Pl}{n:List Nat}(h:GoodPl (p++[n])):joinS (writtenT p) (hexW n)=writtenT (p++[n]):=by
 have hn:OctOk n:=h.oct n (by simp)
 have hnn:n≠[]:=name_ne (h.nm n (by simp))
 have hp:=h.init
 have hst:Txt.startswith (hexW n) "/"=false:=by
  unfold Txt.startswith
  rw [StrLaws.subAt_eq,slash_cl,hexW_cl hn,slash_len,List.drop_zero]
  cases n with
  | nil=>exact absurd rfl hnn
  | cons k r =>
   have:=dg_range (i:=k/16) (by have:=hn.oct k (.head _);exact zz57 this)
   rw [hx,List.flatMap_cons,o2]
   have:(dg (k/16)==47)=false:=by simp;exact zz360 this
   simp [this]
 have hcl:(writtenT (p++[n])).cps.toList=wl p++47::hx n:=by rw [W_cl h.oct,if_neg (by simp),wl_snoc]
 unfold joinS
 rw [hst]
 rcases p.eq_nil_or_concat with rfl|⟨p',m,rfl⟩
 · have e:=W_cl (p:=[]) (by simp)
   rw [if_pos rfl] at e
   have hl:(writtenT []).length=1:=by rw [len_cl,e];rfl
   rw [hl,if_neg (by decide),ends_cl (A:=[]) (c:=47) e,if_pos (by decide)]
   exact str_ext (by rw [Str.cps_append,Array.toList_append,e,hexW_cl hn,hcl];rfl)
 · rw [List.concat_eq_append] at *
   have hm:OctOk m:=hp.oct m (by simp)
   have hmn:m≠[]:=name_ne (hp.nm m (by simp))
   obtain ⟨A,c,hA⟩:∃A c,hx m=A++[c]:=by
    rcases (hx m).eq_nil_or_concat with z|⟨A,c,z⟩
    · have:=congrArg List.length z
      rw [hx_len] at this
      have:=List.length_pos_iff.mpr hmn
      simp at *
      lia
    · exact ⟨A,c,by rw [z,List.concat_eq_append]⟩
   have hc:=hx_range hm.oct c (by rw [hA];simp)
   have hw:wl (p'++[m])=(wl p'++47::A)++[c]:=by rw [wl_snoc,hA];simp
   have e:=W_cl hp.oct
   rw [if_neg (by simp)] at e
   have hl:(writtenT (p'++[m])).length≠0:=by rw [len_cl,e,hw];simp
   have h1:((writtenT (p'++[m])).length==0)=false:=by simpa using hl
   have h2:(c==47)=false:=by simp;exact zz360 hc
   rw [h1,if_neg (by decide),ends_cl (e.trans hw),h2,if_neg (by decide)]
   exact str_ext (by rw [Str.cps_append,Array.toList_append,Str.cps_append,Array.toList_append,e,hexW_cl hn,slash_cl,hcl];rfl)
noncomputable def nameB(n:List Nat):Bool :=
 ((hexA (octA n)).findIdx? (fun y=>decide (y≥128))==none)&&((hexA (octA n))[0]?==some ((hexA (octA n))[0]?.getD 0))&&!(decide ((hexA (octA n))[0]?.getD 0≥128))&&decide (2<=(hexA (octA n)).size)&&decide ((hexA (octA n)).size<=1000) &&
 decide ((ascA (hexA (octA n))).size<=1000)&&decide ((upA (octA n)).size<=1000)&&decide ((hexT n).length<=100)&&JoinOk "" ((upA (octA n)).toList.map fun c=>⟨#[c.toNat]⟩)&&((hexT n).cps.toList==(hexW n).cps.toList)
theorem names_b:nameList.all nameB=true:=by decide +kernel
theorem NameOk_all:∀n∈nameList,NameOk n:=by
 intro n hn
 have h:=List.all_eq_true.mp names_b n hn
 have ho:=OctOk_all n hn
 unfold nameB at h
 simp only [Bool.and_eq_true,beq_iff_eq,Bool.not_eq_true',decide_eq_true_eq] at h
 obtain ⟨⟨⟨⟨⟨⟨⟨⟨⟨h1,h2⟩,h3⟩,h4⟩,h5⟩,h6⟩,h7⟩,h8⟩,h9⟩,h10⟩:=h
 exact ⟨⟨h1,h2,h3,⟨_,(Nat.sub_add_cancel h4).symm⟩,h5,h6⟩,ho.oct,h7,h8,ho.short,h9⟩
theorem hexT_eq{n:List Nat}(hn:n∈nameList):hexT n=hexW n:=by
 have h:=List.all_eq_true.mp names_b n hn
 unfold nameB at h
 simp only [Bool.and_eq_true,beq_iff_eq] at h
 exact str_ext h.2
theorem W_path{p:Pl}(h:GoodPl p):pathT p=writtenT p:=by
 have key:∀(k:Nat) (p:Pl),p.length=k->GoodPl p->pathT p=writtenT p:=by
  intro k
  induction k with
  | zero =>
   intro p hk h
   rw [List.length_eq_zero_iff.mp hk]
   exact str_ext (by rw [W_cl (p:=[]) (by simp),if_pos rfl];exact slash_cl)
  | succ k ih =>
   intro p hk h
   rcases p.eq_nil_or_concat with rfl|⟨p',m,rfl⟩
   · cases hk
   · rw [List.concat_eq_append] at *
     rw [pathT_snoc,ih p' (by simpa using hk) h.init,hexT_eq (h.nm m (by simp))]
     exact W_join h
 exact key _ p rfl h
theorem canLay_strs:∀l:List Str,(∀x∈l,PyData.strOk x=true)->PyData.canLayAll0 (l.map PyData.str)=true
 | [],_=>rfl
 | x::xs,h=>by simp only [List.map_cons,PyData.canLayAll0,PyData.canLay0,h x (.head _),canLay_strs xs fun y hy=>h y (.tail _ hy),Bool.and_self]
theorem shaped_strs(l:List Str)(h:∀x∈l,PyData.strOk x=true):SeqAt.shaped (.list (l.map .str))=true:=by
 have h1:(PyData.list (l.map .str)).canLay0=true:=by simp only [PyData.canLay0];exact canLay_strs l h
 have h2:(PyData.list (l.map PyData.str)).depth<=1:=by
  simp only [PyData.depth]
  have:=depth_map (f:=PyData.str) (n:=0) (fun _=>Nat.le_refl _) l
  exact zz96 this
 simp only [SeqAt.shaped,h1,Bool.true_and,decide_eq_true_eq]
 exact zz97 h2
noncomputable abbrev dTexts(r:List Pl):PyData:=.list (r.map fun p=>.str (writtenT p))
theorem W_eq{p q:Pl}(hp:GoodPl p)(hq:GoodPl q):((writtenT p)==(writtenT q))=decide (p=q):=by
 by_cases e:p=q
 · subst e;simp
 · simp only [e,decide_false]
   exact beq_eq_false_iff_ne.mpr fun q'=>e (W_inj hp hq q')
section
variable{w:World}{A:Around}{s:Shared}{g:Heap}{n:Nat}
theorem hungP(X:Stat g)(kg:Le g s.heap)(hA:Ok A (n+4))(p o nw:Pl)(t1 t2 t3:Tok)(hp:GoodPl p)(ho:GoodPl o)(hn:GoodPl nw)(hu:p.take o.length=o)(hr:GoodPl (nw++p.drop o.length)) :
 Gives pw w A (.call (.ref 404) ⟨[.str (writtenT p) t1,.str (writtenT o) t2,.str (writtenT nw) t3],[]⟩) s [] g (fun _ _ x=>∃t,x=.str (writtenT (nw++p.drop o.length)) t):=by
 have hl:o.length<=p.length:=by
  have:=congrArg List.length hu
  rw [List.length_take] at this;exact Nat.le_trans (Nat.le_of_eq this.symm) (Nat.min_le_right ..)
 have root:∀{q:Pl},GoodPl q->(("/":Str)==writtenT q)=decide (q=[]):=fun {q} hq=>by
  have e:("/":Str)=writtenT []:=by decide +kernel
  rw [e]
  have:=W_eq (p:=[]) (q:=q) ⟨by simp,fun _ h=>nomatch h⟩ hq
  rw [this]
  by_cases z:q=[]<;>simp [z,Eq.comm]
 have snoc:∀i,i<p.length->p.take (i+1)=p.take i++[p.getD i []]:=fun i hi=>by
  rw [List.take_add_one,List.getElem?_eq_getElem hi];simp [hi]
 have snoc2:∀i,o.length+i<p.length->nw++(p.drop o.length).take (i+1)=(nw++(p.drop o.length).take i)++[p.getD (o.length+i) []]:=fun i hi=>by
  rw [List.take_add_one,List.getElem?_drop,List.getElem?_eq_getElem hi];simp [hi]
 have good2:∀i,GoodPl (nw++(p.drop o.length).take i):=fun i=>by
  have e:nw++(p.drop o.length).take i=(nw++p.drop o.length).take (nw.length+i):=by simp [List.take_append,List.take_of_length_le]
  rw [e];exact hr.take _
 have key:=hung_gives (w:=w) (n:=n) X kg hA (writtenT p) (writtenT o) (writtenT nw) t1 t2 t3 (fun i=>writtenT (p.take (p.length-i))) (fun i=>writtenT (nw++(p.drop o.length).take (p.length-o.length-i))) (p.length-o.length) (by have:=hp.len;exact zz98 this) (by simp)
  (fun i hi=>?_) ?_ (fun i hi=>?_) (by simp) (fun m hm=>?_) (fun m hm=>?_)
 · refine key.mono fun g' h' v hv=>?_
   obtain ⟨t,rfl⟩:=hv
   refine ⟨t,?_⟩
   have:(p.drop o.length).take (p.length-o.length-0)=p.drop o.length:=by rw [List.take_of_length_le (by rw [List.length_drop];exact zz99)]
   simp only [this]
 · constructor
   · rw [W_eq ho (hp.take _),root (hp.take _)]
     have h1:¬o=p.take (p.length-i):=fun q=>by
      have:=congrArg List.length q
      rw [List.length_take] at this;lia
     have h2:¬p.take (p.length-i)=[]:=fun q=>by
      have:=congrArg List.length q
      rw [List.length_take] at this
      simp at this;exact zz100 hi this
     simp [h1,h2]
   · have e:=snoc (p.length-(i+1)) (by exact zz101 hi)
     rw [show p.length-(i+1)+1=p.length-i by exact zz102 hi] at e
     simp only [e]
     exact (W_split (by rw [←e];exact hp.take _)).1.symm
 · rw [W_eq ho (hp.take _)]
   have:o=p.take (p.length-(p.length-o.length)):=by rw [show p.length-(p.length-o.length)=o.length by exact zz103 hl,hu]
   simp [←this]
 · refine ⟨Nat.le_trans (W_len (hp.take _)) (by decide),Nat.le_trans (W_len (good2 _)) (by decide),?_⟩
   by_cases hz:i=p.length
   · subst hz
     simp only [Nat.sub_self,List.take_zero]
     decide +kernel
   · have e:=snoc (p.length-(i+1)) (by exact zz104 hi hz)
     rw [show p.length-(i+1)+1=p.length-i by exact zz105 hi hz] at e
     simp only [e]
     rw [(W_split (by rw [←e];exact hp.take _)).2]
     exact Nat.le_trans (hexW_len (OctOk_all _ ((hp.take (p.length-i)).nm _ (by rw [e];simp)))) (by decide)
 · have e:=snoc (p.length-(m+1)) (by exact zz101 hm)
   rw [show p.length-(m+1)+1=p.length-m by exact zz102 hm] at e
   simp only [e]
   rw [(W_split (by rw [←e];exact hp.take _)).2]
   have e2:=snoc2 (p.length-o.length-(m+1)) (by exact zz106 hm)
   rw [show p.length-o.length-(m+1)+1=p.length-o.length-m by exact zz107 hm,show o.length+(p.length-o.length-(m+1))=p.length-(m+1) by exact zz108 hm] at e2
   rw [e2]
   exact (W_join (by rw [←e2];exact good2 _)).symm
 · have:tails (fun i=>writtenT (p.take (p.length-i))) m=((List.range m).map fun i=>tailS (writtenT (p.take (p.length-i)))).map .str:=by simp [tails]
   rw [this]
   refine shaped_strs _ fun x hx=>?_
   obtain ⟨i,hi,rfl⟩:=List.mem_map.mp hx
   have hi':i<m:=List.mem_range.mp hi
   have e:=snoc (p.length-(i+1)) (by exact zz109 hm hi')
   rw [show p.length-(i+1)+1=p.length-i by exact zz110 hm hi'] at e
   rw [e,(W_split (by rw [←e];exact hp.take _)).2]
   exact H_ok ((hp.take (p.length-i)).nm _ (by rw [e];simp))
noncomputable abbrev nCar:List Str:=["paths","deed","old","new","rows","path","under"]
noncomputable abbrev gCar:List Str:=["commonpath","_law_hung"]
theorem carried_core(X:Stat g)(kg:Le g s.heap)(hA:Ok A (n+8))(d:Int)(td to tn:Tok)(r:List Pl)(o nw:Pl){l:Addr}{items:List Value}{k:Nat}(hl:g.get? l=some (lstObj items k))(hds:Dts g items (r.map fun p=>.str (writtenT p)))(hr:r.length<=1000)(hg:∀p∈r,GoodPl p)(ho:GoodPl o)(hn:GoodPl nw)
 (hx:∀p∈r,p.take o.length=o->GoodPl (nw++p.drop o.length)) {P:Heap->Heap->Value->Prop} (hP:∀g' h' x,Dt g' x (dTexts (doneR d o nw r))->P g' h' x) :
 Gives pw w A (.call (.ref 411) ⟨[.ref l,.int d td,.str (writtenT o) to,.str (writtenT nw) tn],[]⟩) s [] g P:=by
 refine Gives.fr 22 [.ref l,.int d td,.str (writtenT o) to,.str (writtenT nw) tn] ["paths","deed","old","new"] ["rows","path","under"] nCar gCar rfl X kg hA rfl (BindsTo.of_eq rfl) rfl rfl (by decide +kernel) ?_
 intro h₁ t' env A' QQ C hA' c V F hQ
 have hlen:=mapD_len hds
 refine Fr.xNilO 4 F ?_
 intro a ha V h t F
 refine wpAny_execs_cons (Fr.xForL 5 F (Fr.nV 0 F) hl (fun i g' V' mu'=>∀G:List (Option Value)->List (Addr×Obj)->Prop,(∀xs j u1 u2,Dts g' xs ((doneR d o nw (r.take i)).map fun p=>.str (writtenT p))->G [some (.ref l),some (.int d td),some (.str (writtenT o) to),some (.str (writtenT nw) tn),some (.ref a),u1,u2] [(a,lstObj xs j)])->G V' mu') (fun G q=>q [] 0 _ _ .nil) ?_ ?_)
 · intro i v g' V' mu' I oI h t TT hi kg' hJ
   apply hJ
   intro xs j u1 u2 hxs _ hT V F
   refine hds.getP hi fun p hp hdt=>hdt.strK fun tp ev=>?_
   have hpm:=List.mem_of_getElem? hp
   have hpg:=hg p hpm
   have hxl:xs.length<=10000:=by
    have h1:=mapD_len hxs
    have h2:=doneR_len d o nw (r.take i)
    rw [List.length_take] at h2
    lia
   have E5 {h:Heap} {g':Heap} {V:List (Option Value)} {mu:List (Addr×Obj)} {p1:Pos} (F:c.S g' V mu h) (hv:V[5]?=some (some v)):=(Fr.nV (x:="path") (pos:=p1) 5 F hv).eq ev
   have X':=X.up kg'
   have hcom:=W_com hpg ho
   refine Fr.xLetK 6 fun Qv hQv=>wpAny_Compare1 (C1 (N_commonpath C X' F.keep (.head _) (lstE (sp1 ((E5 F rfl).use fun _ t=>sp1 ((Fr.nV 2 F).use fun _ t=>sp0 (newLst (s:=c.st h t) F fun D g₂ h k2 eD F=>⟨⟨_,F.keep _ _ ((X'.up k2).fnAt 16 rfl)⟩,?_⟩)))))))
   refine call_c (s:=c.st h _) F (common_gives (X'.up k2) F.keep hA' D 0 (writtenT p) (writtenT o) tp to eD (W_start p) (W_start o) (Nat.le_trans (W_len hpg) (by decide)) (Nat.le_trans (W_len ho) (by decide)) (by rw [hcom];exact (W_joinOk (preP_good hpg)).1) (by rw [hcom];exact Nat.le_trans (W_joinOk (preP_good hpg)).2 (by decide))) fun g₃ h t v2 k3 F e=>?_
   obtain ⟨tc,e⟩:=e
   rw [e,W_common hpg ho]
   have eU0:((writtenT (preP p o)).cps.toList==(writtenT o).cps.toList)=decide (p.take o.length=o):=by
    rw [Bool.eq_iff_iff]
    simp only [beq_iff_eq,decide_eq_true_eq,←preP_iff]
    exact ⟨fun q=>W_inj (preP_good hpg) ho (str_ext q),fun q=>by rw [q]⟩
   refine genK (decide (p.take o.length=o)) fun U eU=>(Fr.nV 2 F).use fun _ t=>PySem.P.eq_str ?_
   rw [eU0.trans eU]
   refine hQv _ _ _ _ _ _ F ?_
   intro V h t F
   have k23:=k2.tr k3
   have X₃:=X'.up k23
   have e1:done1 d o nw p=(if (!U)||d==2 then [p] else [])++(if U&&decide (0<d) then [nw++p.drop o.length] else []):=by rw [←eU];rfl
   refine Fr.xSeq (c:=c) (fun K=>∀xs j h t,Dts g₃ xs ((doneR d o nw (r.take i)++(if (!U)||d==2 then [p] else [])).map fun p=>.str (writtenT p))->c.S g₃ V [(I,oI),(a,lstObj xs j)] h->K h t) (fun K hK=>?_) fun xs j h t hxs F=>?_
   · refine Fr.xIfB (Fr.tOr (Fr.tNot (Fr.tTruB (Fr.nV 6 F))) (Fr.tEqI (Fr.nI 1 F) Fr.kI rfl)) (fun q t=>?_) fun q t=>?_
     · refine Fr.xAppE (pre:=[(I,oI)]) (Fr.nV 4 F) F (Nat.le_trans hxl (by decide)) (E5 F rfl) fun _ h t F=>Fr.xNil (Fr.nNext (hK _ _ h t ?_ F))
       rw [if_pos q,List.map_append]
       exact (hxs.up k23).snoc (.str _ _)
     · exact Fr.xNil (Fr.nNext (hK xs j h t (by rw [if_neg (by rw [q];decide),List.append_nil];exact hxs.up k23) F))
   have hxl2:xs.length<=16777216:=by
    have h1:=mapD_len hxs
    have h2:=doneR_len d o nw (r.take i)
    have h3:(if (!U)||d==2 then [p] else []).length<=1:=by split<;>simp
    rw [List.length_append] at h1
    rw [List.length_take] at h2
    lia
   refine Fr.xIfB (Fr.tAnd (Fr.taAnd (Fr.tTruB (Fr.nV 6 F)) (Fr.tGt (Fr.nI 1 F) Fr.kI rfl))) (fun q t=>?_) fun q t=>?_
   · have hu:p.take o.length=o:=of_decide_eq_true (eU.trans (Bool.and_eq_true_iff.mp q).1)
     refine Fr.xApp (pre:=[(I,oI)]) (P:=fun _ x=>∃t,x=.str (writtenT (nw++p.drop o.length)) t) (Fr.nV 4 F) F hxl2 (fun Er Q t q=>C3 (N_law_hung (s:=c.st h t) C X₃ F.keep (.tail _ (.head _)) ((E5 F rfl).use fun _ t=>(Fr.nV 2 F).use fun _ t=>(Fr.nV 3 F).use fun _ t=>⟨⟨_,F.keep _ _ (X₃.fnAt 21 rfl)⟩,call_c (s:=c.st h t) F (hungP (n:=n+3) X₃ F.keep hA' p o nw tp to tn hpg ho hn hu (hx p hpm hu)) fun g₄ h t v k4 F e=>q _ _ _ _ k4 e F⟩))) fun v g₄ h t k4 ex F=>?_
     refine Fr.xNil (hT.go (k23.tr k4) F fun G k=>k (xs++[v]) _ _ _ ?_)
     rw [doneR_next hp,e1,if_pos (c:=(U&&decide (0<d))=true) q,←List.append_assoc,List.map_append]
     exact (hxs.up k4).snoc (let ⟨t,e⟩:=ex;e▸.str _ _)
   · refine Fr.xNil (hT.go k23 F fun G k=>k xs _ _ _ ?_)
     rw [doneR_next hp,e1,q,if_neg (c:=false=true) (by decide),List.append_nil]
     exact hxs
 · intro g' V' mu' h t kg' hJ
   apply hJ
   intro xs j u1 u2 hxs F
   rw [hlen,List.take_length] at hxs
   refine F.freeze ha fun g₂ k2 eD F=>?_
   exact Fr.xRet (c:=c) (Fr.nV 4 F) fun _ t=>hQ _ _ _ _ F.out (hP _ _ _ (.list eD (hxs.up k2)))
theorem carried_gives(X:Stat g)(kg:Le g s.heap)(hA:Ok A (n+8))(v:Value)(d:Int)(td to tn:Tok)(r:List Pl)(o nw:Pl)(hv:Dt g v (dTexts r))(hr:r.length<=1000)(hg:∀p∈r,GoodPl p)(ho:GoodPl o)(hn:GoodPl nw)
 (hx:∀p∈r,p.take o.length=o->GoodPl (nw++p.drop o.length)) :
 Gives pw w A (.call (.ref 411) ⟨[v,.int d td,.str (writtenT o) to,.str (writtenT nw) tn],[]⟩) s [] g (fun g' _ x=>Dt g' x (dTexts (doneR d o nw r))):=by
 obtain ⟨l,items,k,rfl,hl,hds⟩:=hv.listInv
 exact carried_core X kg hA d td to tn r o nw hl hds hr hg ho hn hx fun _ _ _ x=>x
end
noncomputable def stmMMake:Stmt:=nth (inside (nth pw.main.body 3)) 5
noncomputable def bodyMMake:List Stmt:=bodyOf stmMMake
noncomputable def scopeMMake:Scope:=scopeOf stmMMake
noncomputable def fdMMake:FuncData:={name:="_make",qualname:="Match._make",params:=parOf stmMMake,body:=.stmts bodyMMake,scope:=scopeMMake,globals:=3,closure:=[],defaults:=.none,kwdefaults:=.none,doc:=.str (docIn bodyMMake) 293,pyModule:=.str "cpy313.difflib" 194,annotations:=some 92,code:=.ref 88,closureTuple:=.none,builtins:=0}
noncomputable abbrev smCls:Obj:=excClassObj "SequenceMatcher" "SequenceMatcher" 242 241 [.type "object"] [.type "object"] true [] [] false none none none none (some (.str "SequenceMatcher" 389)) (some (.str "SequenceMatcher" 397)) (some (.bool true)) "object.__new__"
noncomputable def mtCls:Obj:=⟨.type "type",none,.cls ⟨"Match",[.type "tuple"],[.ref 135,.type "tuple",.type "object"],134,"Match",false,[],[],false,none,false⟩,#[some (.ref 65),none,some (.str "Match" 253),some (.str "Match" 261),some .none,some (.bool false)]⟩
noncomputable def smHas:List (Str×Value):=[("__init__",.ref 160),("set_seqs",.ref 167),("set_seq1",.ref 174),("set_seq2",.ref 181),("_SequenceMatcher__chain_b",.ref 188),("find_longest_match",.ref 196),("get_matching_blocks",.ref 203),("get_opcodes",.ref 210)]
noncomputable def attrs:List Str:=["isjunk","a","b","autojunk","matching_blocks","opcodes","fullbcount","b2j","bjunk","bpopular"]
noncomputable def hooks:List Str:=["__getattribute__","__getattr__","__setattr__"]
noncomputable def smLacks:List Str:=hooks++attrs
noncomputable def mtHas:List (Str×Option Value):=[("__new__",some (.ref 136)),("_make",some (.ref 91)),("__init__",none),("__call__",none),("__iter__",none),("__len__",none),("__lt__",none),("__eq__",none),("__getitem__",none),("__getattribute__",none),("__getattr__",none),("__hash__",none),("__bool__",none),("__del__",none)]
noncomputable def obList2:List (Addr×Obj):=[(242,smCls),(135,mtCls),(136,{cls:=.type "staticmethod",data:=.fields #[.ref 82]}),(91,{cls:=.type "classmethod",dict:=some 90,data:=.fields #[.ref 89,.bool false]}),(89,fnObj fdMMake)]
structure Sm(g:Heap):Prop extends Stat g where
 ob2:∀p∈obList2,g.get? p.1=some p.2
 ns:∃m,g.Ns 241 m/\(∀p∈smHas,m p.1=some p.2)/\∀x∈smLacks,m x=none
 mns:∃m,g.Ns 134 m/\∀p∈mtHas,m p.1=p.2
 mkrec:g.CodeRec fdMMake.code fdMMake.qualname
theorem Sm.up{g g':Heap}(X:Sm g)(k:Le g g'):Sm g' :=
 ⟨X.toStat.up k,fun p hp=>k _ _ (X.ob2 p hp),let ⟨m,a,b⟩:=X.ns;⟨m,a.keeps k,b⟩,let ⟨m,a,b⟩:=X.mns;⟨m,a.keeps k,b⟩,X.mkrec.keeps k⟩
theorem Sm.cls{g:Heap}(X:Sm g):g.get? 242=some smCls:=X.ob2 _ (.head _)
noncomputable def At(o:Obj)(m:Str->Option Value):Prop:=∃es ep,o.data=.dict es ep/\StrKeys es/\UniqKeys es/\∀n,nsFind es n=m n
theorem At.ns1{h:Heap}{d:Addr}{o:Obj}{m:Str->Option Value}(x:At o m)(e:h.get? d=some o):h.Ns1 d m:=let ⟨es,ep,a,b,c,f⟩:=x;⟨o,es,ep,e,a,b,c,f⟩
theorem At.of{h:Heap}{d:Addr}{m:Str->Option Value}(x:h.Ns1 d m):∃o,h.get? d=some o/\At o m:=let ⟨o,es,ep,e,r⟩:=x;⟨o,e,es,ep,r⟩
noncomputable def AtV(vs:List Value)(m:Str->Option Value):Prop:=∀x,m x=(attrs.idxOf? x).bind fun i=>vs[i]?
noncomputable abbrev instO(dx:Addr):Obj:={cls:=.ref 242,dict:=some dx,data:=.plain}
structure Me(h:Heap)(x dx:Addr)(vs:List Value):Prop where
 me:h.get? x=some (instO dx)
 ne:dx≠x
 at_:∃m,h.Ns1 dx m/\AtV vs m
theorem Me.inst{h:Heap}{x dx:Addr}{vs:List Value}(I:Me h x dx vs):∃m,h.Inst x 242 m/\AtV vs m:=by
 obtain ⟨m,a,b⟩:=I.at_
 exact ⟨m,⟨_,I.me,rfl,fun c=>by simp,.inr ⟨dx,rfl,I.ne,a⟩⟩,b⟩
theorem Me.up{h h':Heap}{x dx:Addr}{vs:List Value}(I:Me h x dx vs)(k:Le h h'):Me h' x dx vs:=⟨k _ _ I.me,I.ne,let ⟨m,a,b⟩:=I.at_;⟨m,a.at fun o e=>k _ _ e,b⟩⟩
section
variable{w:World}{A:Around}{E:Value->Shared->Prop}{s:Shared}{env:Env}{x dx:Addr}{vs:List Value}{g:Heap}
theorem none_obj:∀n∈attrs,typeLookup (.type "object") n=pure none:=by
 intro n hn
 simp only [attrs,List.mem_cons,List.not_mem_nil,or_false] at hn
 rcases hn with rfl|rfl|rfl|rfl|rfl|rfl|rfl|rfl|rfl|rfl<;>(rw [typeLookup_type,builtinLookup_eq_fast];kernel_rfl)
theorem lacks_of{m:Str->Option Value}(h:∀x∈smLacks,m x=none){n:Str}(hn:n∈attrs):m n=none:=h n (List.mem_append_right _ hn)
theorem attr_idx{i:Nat}{n:Str}(hi:attrs[i]?=some n):attrs.idxOf? n=some i:=by
 have hl:i<10:=(List.getElem?_eq_some_iff.mp hi).1
 have:∀j<10,∀n,attrs[j]?=some n->attrs.idxOf? n=some j:=by
  intro j hj n hn
  have hn':n=(attrs[j]?).getD default:=by rw [hn];rfl
  subst hn'
  revert j;decide +kernel
 exact this i hl n hi
theorem getA{expr:Bool}{v:Value}{Q:Value->Shared->Prop}(i:Nat){n:Str}(hn:attrs[i]?=some n)(X:Sm g)(kg:Le g s.heap)(I:Me s.heap x dx vs)(hv:vs[i]?=some v)(hh:handedOut v=pure v)(hq:Q v {s with toks:=s.toks+1}) :
 wpAny (model pw w) A (getAttr (.ref x) n expr) Q E s:=by
 obtain ⟨m,a,b,c⟩:=X.ns
 obtain ⟨mA,i1,i2⟩:=I.inst
 obtain ⟨h,gg,d,t,os⟩:=s
 have hm:n∈attrs:=List.mem_of_getElem? hn
 exact load_attr (kg _ _ X.cls) (a.keeps kg) (c "__getattribute__" (by decide +kernel)) (lacks_of c hm) (none_obj n hm) i1 (by rw [i2,attr_idx hn];exact hv) hh hq
theorem getE{o:Expr}{pos:Pos}{Q:Value->Shared->Prop}{n:Str}(hb:attributeBase o n env (eval o env)=eval o env)
 (h:wpAny (model pw w) A (eval o env) (fun ov s₁=>wpAny (model pw w) A (getAttr ov n true) Q E s₁) E s):wpAny (model pw w) A (eval (.Attribute o n pos) env) Q E s:=by
 rw [arm_eval_Attribute,hb]
 refine wpAny_bind (wpAny_mono h (fun ov s₁ h₁=>wpAny_bind (wpAny_standAt (wpAny_bind (wpAny_holding (wpAny_mono h₁ (fun r s₂ h₂=>wpAny_bind (wpAny_letTemporaryGo (wpAny_pure h₂))) fun _ _ e=>e))))) fun _ _ e=>e)
end
noncomputable def put(vs:List Value)(i:Nat)(v:Value):List Value:=if i<vs.length then vs.set i v else vs++[v]
theorem put_get{vs:List Value}{i:Nat}{v:Value}(hi:i<=vs.length)(j:Nat):(put vs i v)[j]?=if j=i then some v else vs[j]?:=by
 unfold put
 split
 · rename_i h
   rw [List.getElem?_set]
   by_cases e:j=i
   · subst e;simp [h]
   · simp [e,Ne.symm e]
 · rename_i h
   have:i=vs.length:=by exact zz7 hi h
   subst this
   by_cases e:j=vs.length
   · subst e;simp
   · rw [if_neg e]
     by_cases l:j<vs.length
     · rw [List.getElem?_append_left l]
     · rw [List.getElem?_eq_none (by simp;exact zz416 e l),List.getElem?_eq_none (by exact zz417 l)]
theorem AtV.put{vs:List Value}{m:Str->Option Value}(a:AtV vs m){i:Nat}{n:Str}{v:Value}(hn:attrs[i]?=some n)(hi:i<=vs.length):AtV (put vs i v) (fun y=>if y=n then some v else m y):=by
 intro y
 dsimp only
 split
 · rename_i e
   subst e
   rw [attr_idx hn,Option.bind_some,put_get hi,if_pos rfl]
 · rename_i e
   rw [a y]
   cases q:attrs.idxOf? y with
   | none=>rfl
   | some j =>
    rw [Option.bind_some,Option.bind_some,put_get hi,if_neg]
    intro e'
    subst e'
    have z:attrs[j]?=some y:=by
     have q':=q
     rw [List.idxOf?,List.findIdx?_eq_some_iff_getElem] at q'
     obtain ⟨l,a1,_⟩:=q'
     rw [List.getElem?_eq_getElem l,eq_of_beq a1]
    rw [hn] at z
    exact e (Option.some.inj z.symm)
theorem AtV.within{vs:List Value}{m:Str->Option Value}(a:AtV vs m):Within m attrs:=by
 intro y hy
 rw [a y] at hy
 cases q:attrs.idxOf? y with
 | none=>rw [q] at hy;exact absurd rfl hy
 | some j =>
  rw [List.idxOf?,List.findIdx?_eq_some_iff_getElem] at q
  obtain ⟨l,a1,_⟩:=q
  rw [←eq_of_beq a1];exact List.getElem_mem l
theorem St.turn'{h₀ g₀ g h h₁:Heap}{xt:List Addr}{L:Addr}{N:List Str}{vs:List (Option Value)}{a:Addr}{o o':Obj}{pre post:List (Addr×Obj)}(F:St h₀ xt g₀ g L N vs (pre++(a,o)::post) h)
 (hk:∀b o,b≠a->h.get? b=some o->h₁.get? b=some o) (ho:h₁.get? a=some o'):St h₀ xt g₀ g L N vs (pre++(a,o')::post) h₁:=by
 have ma:=F.mt (a,o) (by simp)
 have nd:=F.nd
 rw [List.map_append,List.map_cons] at nd
 have n1:∀p∈pre,p.1≠a:=fun p hp q=>(List.nodup_append.mp nd).2.2 p.1 (List.mem_map_of_mem hp) a (.head _) q
 have n2:∀p∈post,p.1≠a:=fun p hp q=>(List.nodup_cons.mp (List.nodup_append.mp nd).2.1).1 (by have z:p.1∈post.map (·.1):=List.mem_map_of_mem hp;rwa [q] at z)
 refine ⟨F.len,let ⟨m,x,y⟩:=F.ns;⟨m,x.at' fun o e=>hk _ o (Ne.symm ma.2.1) e,y⟩,fun b q hb e=>hk b q (fun z=>?_) (F.base b q hb e),fun b q e=>hk b q (fun z=>?_) (F.keep b q e),F.low,F.outg,fun p hp=>?_,by rw [List.map_append,List.map_cons];exact nd,F.mono,F.fresh⟩
 · subst z
   rcases ma.2.2.2 with z|z
   · exact hb z
   · exact absurd (Heap.lt_size e) (Nat.not_lt.mpr z)
 · subst z;rw [ma.2.2.1] at e;cases e
 · rcases List.mem_append.mp hp with q|q
   · have P:=F.mt p (List.mem_append_left _ q)
     exact ⟨hk _ _ (n1 p q) P.1,P.2⟩
   · rcases List.mem_cons.mp q with rfl|q
     · exact ⟨ho,ma.2⟩
     · have P:=F.mt p (List.mem_append_right _ (.tail _ q))
       exact ⟨hk _ _ (n2 p q) P.1,P.2⟩
section
variable{w:World}{A:Around}{E:Value->Shared->Prop}{s:Shared}{env:Env}{x dx:Addr}{vs:List Value}{g:Heap}
theorem setA{v:Value}{Q:Unit->Shared->Prop}(i:Nat){n:Str}(hn:attrs[i]?=some n)(X:Sm g)(kg:Le g s.heap)(I:Me s.heap x dx vs)(hi:i<=vs.length)
 (hq:∀h' o k,h'.get? dx=some o->Me h' x dx (put vs i v)->(∀b o,b≠dx->s.heap.get? b=some o->h'.get? b=some o)->Q () {s with heap:=h',toks:=k}) :
 wpAny (model pw w) A (setAttr (.ref x) n v) Q E s:=by
 obtain ⟨m,a,b,c⟩:=X.ns
 obtain ⟨mA,i1,i2⟩:=I.inst
 have I₀:=I
 obtain ⟨h,gg,d,t,os⟩:=s
 have hm:n∈attrs:=List.mem_of_getElem? hn
 have hx:x≠242:=fun e=>by
  have z:=kg _ _ X.cls
  rw [←e] at z
  have:=I.me.symm.trans z
  exact absurd (congrArg Obj.dict (Option.some.inj this)) (by simp)
 refine store_attr PySem.F.store_object (kg _ _ X.cls) (a.keeps kg) (c "__setattr__" (by decide +kernel)) (lacks_of c hm) (none_obj n hm) hx i1 (fun h' tk' I' hk hsame=>?_) i2.within (by rw [sizeLine_eq];decide)
 obtain ⟨o₁,z1,z2,z3,z4,z5⟩:=hsame _ I.me
 have e₁:o₁=instO dx:=by
  obtain ⟨c1,c2,c3,c4⟩:=o₁
  have:=z5 dx rfl
  dsimp only at z2 z3 z4 this
  rw [z2,z3,z4,this]
 subst e₁
 obtain ⟨oi,j1,j2,j3,j4⟩:=I'
 rw [z1] at j1;cases j1
 have ns':h'.Ns1 dx (fun y=>if y=n then some v else mA y):=by
  rcases j4 with ⟨q,_⟩|⟨d',q1,q2,q3⟩
  · cases q
  · cases q1;exact q3
 obtain ⟨od,y1,y2⟩:=At.of ns'
 refine hq h' od tk' y1 ⟨z1,I.ne,_,ns',i2.put hn hi⟩ fun b o hb e=>?_
 by_cases hbx:b=x
 · subst hbx
   have e':h.get? b=some o:=e
   have hm':h.get? b=some (instO dx):=I₀.me
   rw [hm'] at e';cases e';exact z1
 · exact hk b o hbx (fun o₀ d' e1 e2=>by
    have e1':h.get? x=some o₀:=e1
    have hm':h.get? x=some (instO dx):=I₀.me
    rw [hm'] at e1';cases e1';cases e2;exact hb) e
theorem methA{name:Str}{f:Addr}{fd:FuncData}{pl:Sem Bool}{Q:Value×List Value->Shared->Prop}(X:Sm g)(kg:Le g s.heap)(I:Me s.heap x dx vs)(hf:(name,Value.ref f)∈smHas)(hna:name∉attrs)(hfo:g.get? f=some (fnObj fd))
 {y:Option Value} (hB:typeLookup (.type "object") name=pure y) (hq:Q (.ref f,[.ref x]) s):wpAny (model pw w) A (getMethod (.ref x) name pl) Q E s:=by
 obtain ⟨m,a,b,c⟩:=X.ns
 obtain ⟨mA,i1,i2⟩:=I.inst
 obtain ⟨h,gg,d,t,os⟩:=s
 have hs:mA name=none:=by
  rw [i2]
  cases q:attrs.idxOf? name with
  | none=>rfl
  | some j =>
   rw [List.idxOf?,List.findIdx?_eq_some_iff_getElem] at q
   obtain ⟨l,a1,_⟩:=q
   exact absurd (eq_of_beq a1▸List.getElem_mem l) hna
 exact method_of (kg _ _ X.cls) (a.keeps kg) (c "__getattribute__" (by decide +kernel)) (c "__getattr__" (by decide +kernel)) (b _ hf) (kg _ _ hfo) rfl hB i1 hs hq
theorem methE{o:Expr}{name:Str}{apos pos:Pos}{args:List Expr}{Q:Value->Shared->Prop}(hb:attributeBase o name env (eval o env)=eval o env)
 (hform:methodCallForm (args.length+([]:List Keyword).length) (backTo pos (starEach args env)) (backToKw pos (keywordEach [] env))=true) (hl:(apos.endLine==pos.line)=true)
 (h:wpAny (model pw w) A (eval o env) (fun ov s₁=>∀pl,wpAny (model pw w) A (getMethod ov name pl) (fun p s₂=>wpAny (model pw w) A (callWith pos p.1 p.2 (backTo pos (starEach args env)) []) Q E s₂) E s₁) E s) :
 wpAny (model pw w) A (eval (.Call (.Attribute o name apos) args [] pos) env) Q E s:=by
 rw [arm_eval_Call,hb]
 refine wpAny_bind (wpAny_mono h (fun ov s₁ h₁=>?_) fun _ _ e=>e)
 refine wpAny_bind (wpAny_standAt ?_)
 have hpos:methodCallPos true o env apos pos=pure pos:=by unfold methodCallPos;simp [hl]
 unfold methodCall
 rw [hform]
 refine wpAny_bind (wpAny_holding (wpAny_mono (h₁ _) (fun p s₂ h₂=>?_) fun _ _ e=>e))
 exact wpAny_bind (wpAny_of_eq hpos h₂)
theorem ME0{o:Expr}{name:Str}{apos pos:Pos}{Q:Value->Shared->Prop}(hb:attributeBase o name env (eval o env)=eval o env)(hl:(apos.endLine==pos.line)=true)
 (h:wpAny (model pw w) A (eval o env) (fun ov s₁=>∀pl,wpAny (model pw w) A (getMethod ov name pl) (fun p s₂=>Callee s₂.heap p.1/\wpAny (model pw w) A (call p.1 p.2) Q E s₂) E s₁) E s) :
 wpAny (model pw w) A (eval (.Call (.Attribute o name apos) [] [] pos) env) Q E s :=
 methE hb rfl hl (wpAny_mono h (fun ov s₁ h₁ pl=>wpAny_mono (h₁ pl) (fun p s₂ h₂=>callWith_any rfl (args0 (by rw [List.append_nil];exact h₂))) fun _ _ e=>e) fun _ _ e=>e)
theorem ME1{o a:Expr}{name:Str}{apos pos:Pos}{Q:Value->Shared->Prop}(hb:attributeBase o name env (eval o env)=eval o env)(hl:(apos.endLine==pos.line)=true)
 (h:wpAny (model pw w) A (eval o env) (fun ov s₁=>∀pl,wpAny (model pw w) A (getMethod ov name pl) (fun p s₂=>wpAny (model pw w) A (eval a env) (fun v s₃=>Callee s₃.heap p.1/\wpAny (model pw w) A (call p.1 (p.2++[v])) Q E s₃) E s₂) E s₁) E s)
 (he:autoParam (starEach [a] env=[(false,eval a env)]) au0) :
 wpAny (model pw w) A (eval (.Call (.Attribute o name apos) [a] [] pos) env) Q E s :=
 methE hb (by rw [he];rfl) hl (wpAny_mono h (fun ov s₁ h₁ pl=>wpAny_mono (h₁ pl) (fun p s₂ h₂=>by
  rw [he]
  exact callWith_any rfl (evalArgs_plain (spliced_cons (wpAny_mono h₂ (fun v s₃ h₃=>spliced_nil h₃) fun _ _ e=>e)))) fun _ _ e=>e) fun _ _ e=>e)
theorem ME2{o a b:Expr}{name:Str}{apos pos:Pos}{Q:Value->Shared->Prop}(hb:attributeBase o name env (eval o env)=eval o env)(hl:(apos.endLine==pos.line)=true)
 (h:wpAny (model pw w) A (eval o env) (fun ov s₁=>∀pl,wpAny (model pw w) A (getMethod ov name pl) (fun p s₂=>wpAny (model pw w) A (eval a env) (fun v s₃=>wpAny (model pw w) A (eval b env) (fun u s₄=>Callee s₄.heap p.1/\wpAny (model pw w) A (call p.1 (p.2++[v,u])) Q E s₄) E s₃) E s₂) E s₁) E s)
 (he:autoParam (starEach [a,b] env=[(false,eval a env),(false,eval b env)]) au0) :
 wpAny (model pw w) A (eval (.Call (.Attribute o name apos) [a,b] [] pos) env) Q E s :=
 methE hb (by rw [he];rfl) hl (wpAny_mono h (fun ov s₁ h₁ pl=>wpAny_mono (h₁ pl) (fun p s₂ h₂=>by
  rw [he]
  exact callWith_any rfl (evalArgs_plain (spliced_cons (wpAny_mono h₂ (fun v s₃ h₃=>spliced_cons (wpAny_mono h₃ (fun u s₄ h₄=>spliced_nil h₄) fun _ _ e=>e)) fun _ _ e=>e)))) fun _ _ e=>e) fun _ _ e=>e)
theorem ME4{o a b c d:Expr}{name:Str}{apos pos:Pos}{Q:Value->Shared->Prop}(hb:attributeBase o name env (eval o env)=eval o env)(hl:(apos.endLine==pos.line)=true)
 (h:wpAny (model pw w) A (eval o env) (fun ov s₁=>∀pl,wpAny (model pw w) A (getMethod ov name pl) (fun p s₂=>wpAny (model pw w) A (eval a env) (fun v s₃=>wpAny (model pw w) A (eval b env) (fun u s₄ =>
  wpAny (model pw w) A (eval c env) (fun y s₅=>wpAny (model pw w) A (eval d env) (fun z s₆=>Callee s₆.heap p.1/\wpAny (model pw w) A (call p.1 (p.2++[v,u,y,z])) Q E s₆) E s₅) E s₄) E s₃) E s₂) E s₁) E s)
 (he:autoParam (starEach [a,b,c,d] env=[(false,eval a env),(false,eval b env),(false,eval c env),(false,eval d env)]) au0) :
 wpAny (model pw w) A (eval (.Call (.Attribute o name apos) [a,b,c,d] [] pos) env) Q E s :=
 methE hb (by rw [he];rfl) hl (wpAny_mono h (fun ov s₁ h₁ pl=>wpAny_mono (h₁ pl) (fun p s₂ h₂=>by
  rw [he]
  exact callWith_any rfl (evalArgs_plain (spliced_cons (wpAny_mono h₂ (fun v s₃ h₃=>spliced_cons (wpAny_mono h₃ (fun u s₄ h₄=>spliced_cons (wpAny_mono h₄ (fun y s₅ h₅=>spliced_cons (wpAny_mono h₅ (fun z s₆ h₆=>spliced_nil h₆) fun _ _ e=>e)) fun _ _ e=>e)) fun _ _ e=>e)) fun _ _ e=>e)))) fun _ _ e=>e) fun _ _ e=>e)
end
section
variable{M:Model}{A:Around}{E:Value->Shared->Prop}{s:Shared}{env:Env}
theorem Asg2{t1 t2 value:Expr}{pos:Pos}{Q:Flow->Shared->Prop}
 (h:wpAny M A (eval value env) (fun v s₁=>wpAny M A (assign t1 env v) (fun _ s₂=>wpAny M A (assign t2 env v) (fun _ s₃=>Q .next s₃) E s₂) E s₁) E s)
 (hs:autoParam (swappedStores [t1,t2] value env=pure none) au0) (ha:autoParam (assignEach [t1,t2] env=[(false,assign t1 env),(false,assign t2 env)]) au0):wpAny M A (exec (.Assign [t1,t2] value pos) env) Q E s:=by
 rw [arm_exec_Assign]
 refine wpAny_bind (wpAny_standAt (wpAny_bind (wpAny_pure ?_)))
 rw [if_neg (by decide)]
 refine wpAny_bind (wpAny_mono h (fun v s₁ h₁=>?_) fun _ _ e=>e)
 rw [hs,ha]
 refine wpAny_bind (wpAny_pure ?_)
 show wpAny M A (assignAll v [assign t1 env,assign t2 env]>>=fun _=>pure Flow.next) Q E s₁
 refine wpAny_bind ?_
 refine wpAny_bind (wpAny_holding (wpAny_mono h₁ (fun _ s₂ h₂=>?_) fun _ _ e=>e))
 exact wpAny_mono h₂ (fun _ s₃ h₃=>wpAny_pure h₃) fun _ _ e=>e
theorem Asg3{t1 t2 t3 value:Expr}{pos:Pos}{Q:Flow->Shared->Prop}
 (h:wpAny M A (eval value env) (fun v s₁=>wpAny M A (assign t1 env v) (fun _ s₂=>wpAny M A (assign t2 env v) (fun _ s₃=>wpAny M A (assign t3 env v) (fun _ s₄=>Q .next s₄) E s₃) E s₂) E s₁) E s)
 (hs:autoParam (swappedStores [t1,t2,t3] value env=pure none) au0) (ha:autoParam (assignEach [t1,t2,t3] env=[(false,assign t1 env),(false,assign t2 env),(false,assign t3 env)]) au0):wpAny M A (exec (.Assign [t1,t2,t3] value pos) env) Q E s:=by
 rw [arm_exec_Assign]
 refine wpAny_bind (wpAny_standAt (wpAny_bind (wpAny_pure ?_)))
 rw [if_neg (by decide)]
 refine wpAny_bind (wpAny_mono h (fun v s₁ h₁=>?_) fun _ _ e=>e)
 rw [hs,ha]
 refine wpAny_bind (wpAny_pure ?_)
 show wpAny M A (assignAll v [assign t1 env,assign t2 env,assign t3 env]>>=fun _=>pure Flow.next) Q E s₁
 refine wpAny_bind ?_
 refine wpAny_bind (wpAny_holding (wpAny_mono h₁ (fun _ s₂ h₂=>?_) fun _ _ e=>e))
 refine wpAny_bind (wpAny_holding (wpAny_mono h₂ (fun _ s₃ h₃=>?_) fun _ _ e=>e))
 exact wpAny_mono h₃ (fun _ s₄ h₄=>wpAny_pure h₄) fun _ _ e=>e
theorem asgA{o:Expr}{attr:Str}{pos:Pos}{v:Value}{Q:Unit->Shared->Prop}(h:wpAny M A (eval o env) (fun ov s₂=>wpAny M A (setAttr ov attr v) (fun _=>Q ()) E s₂) E s):wpAny M A (assign (.Attribute o attr pos) env v) Q E s:=by
 intro Γ p hΓ
 simp only [assign_Attribute,Sem.wp_bind',Sem.wp_holding,Sem.wp_cmd_standAt,Sem.wp_release,Sem.wp_pure']
 exact Sem.wp_mono M Γ _ (fun ov _ s₂ h₂=>h₂ Γ _ hΓ) (fun _ _ _ h'=>h') _ _ (h Γ p hΓ)
theorem asgN{x:Str}{pos:Pos}{v:Value}{Q:Unit->Shared->Prop}(h:wpAny M A (storeName env x v) Q E s):wpAny M A (assign (.Name x pos) env v) Q E s:=by
 rw [arm_assign_Name]
 exact wpAny_bind (wpAny_standAt (wpAny_bindName h))
theorem Asg1{o value:Expr}{attr:Str}{pos pos':Pos}{Q:Flow->Shared->Prop}
 (h:wpAny M A (eval value env) (fun v s₁=>wpAny M A (eval o env) (fun ov s₂=>wpAny M A (setAttr ov attr v) (fun _=>Q .next) E s₂) E s₁) E s)
 (hs:autoParam (swapsWith value (some (.Attribute o attr pos')) pos.line env=pure false) au0):wpAny M A (exec (.Assign [.Attribute o attr pos'] value pos) env) Q E s:=plainObj_wpAny_Assign_Attribute h hs
end
section
variable{w:World}{A:Around}{E:Value->Shared->Prop}{s:Shared}{env:Env}{x dx:Addr}{vs:List Value}{h₀ g₀ g:Heap}{xt:List Addr}{L:Addr}{N:List Str}{vals:List (Option Value)}{pre post:List (Addr×Obj)}{od:Obj}
noncomputable def AtO(o:Obj)(vs:List Value):Prop:=∃m,At o m/\AtV vs m
theorem Me.of{h:Heap}(hx:g.get? x=some (instO dx))(F:St h₀ xt g₀ g L N vals (pre++(dx,od)::post) h)(a:AtO od vs):Me h x dx vs:=by
 have ma:=F.mt (dx,od) (by simp)
 obtain ⟨m,a1,a2⟩:=a
 exact ⟨F.keep _ _ hx,fun e=>by rw [e,hx] at ma;exact absurd ma.2.2.1 (by simp),m,a1.ns1 ma.1,a2⟩
theorem Me.ato{h:Heap}{o:Obj}(I:Me h x dx vs)(e:h.get? dx=some o):AtO o vs:=by
 obtain ⟨m,a,b⟩:=I.at_
 obtain ⟨o',e',a'⟩:=At.of a
 rw [e] at e';cases e'
 exact ⟨m,a',b⟩
theorem sA{v:Value}{Q:Unit->Shared->Prop}(i:Nat){n:Str}(hn:attrs[i]?=some n)(X:Sm g)(hx:g.get? x=some (instO dx))(F:St h₀ xt g₀ g L N vals (pre++(dx,od)::post) s.heap)(a:AtO od vs)(hi:i<=vs.length)
 (hq:∀h' o k,AtO o (put vs i v)->St h₀ xt g₀ g L N vals (pre++(dx,o)::post) h'->Q () {s with heap:=h',toks:=k}):wpAny (model pw w) A (setAttr (.ref x) n v) Q E s :=
 setA i hn X F.keep (Me.of hx F a) hi fun h' o k e I hk=>hq h' o k (I.ato e) (F.turn' hk e)
end
end Mine.Internal
namespace Mine.Internal
open PySem PySem.W PyProof.Rows PySem.Calls PySem.Spec
namespace Fr
variable{w:World}{N Gl:List Str}{c:Fr w N Gl}{g:Heap}{V:List (Option Value)}{mu:List (Addr×Obj)}{h:Heap}{t:Nat}{e a b o:Expr}{x:Str}{pos p:Pos}{rest body:List Stmt}{Q:Flow->Shared->Prop}
theorem attr{o:Expr}{n:Str}{ob dx:Addr}{vs:List Value}{v:Value}(i:Nat)(H:c.E h o (fun _=>.ref ob))(X:Sm g)(kg:Le g h)(I:Me h ob dx vs)(hb:autoParam (attributeBase o n c.env (eval o c.env)=eval o c.env) au0)(hn:autoParam (attrs[i]?=some n) au0)
 (hv:autoParam (vs[i]?=some v) au0) (hh:autoParam (handedOut v=pure v) au0):c.E h (.Attribute o n pos) (fun _=>v) :=
 fun Er Q t q=>getE hb (H Er _ t fun k t1=>getA i hn X kg I hv hh (q 0 _))
theorem attrO{n:Str}{ob dx:Addr}{od:Obj}{vs:List Value}{v:Value}{pre post:List (Addr×Obj)}(i:Nat)(He:c.E h o (fun _=>.ref ob))(X:Sm g)(hx:g.get? ob=some (instO dx))(F:c.S g V (pre++(dx,od)::post) h)(a:AtO od vs)
 (hb:autoParam (attributeBase o n c.env (eval o c.env)=eval o c.env) au0) (hn:autoParam (attrs[i]?=some n) au0) (hv:autoParam (vs[i]?=some v) au0) (hh:autoParam (handedOut v=pure v) au0):c.E h (.Attribute o n pos) (fun _=>v) :=
 attr i He X F.keep (Me.of hx F a) hb hn hv hh
theorem ne_sys(hz:1<c.h₀.objs.size)(F:c.S g V mu h):h.objs.size≠sysModules:=fun e=>by
 have h1:c.h₀.objs.size<=1:=Nat.le_trans (lowSz F) (Nat.le_of_eq e)
 exact absurd hz (Nat.not_lt.mpr h1)
end Fr
theorem Gives.frN{w:World}{A:Around}{s:Shared}{g:Heap}{P:Heap->Heap->Value->Prop}{fa:Addr}{fd:FuncData}{body:List Stmt}{args:Args}{n:Nat}{xt:List Addr}
 (i:Nat) (as:List Value) (ps rest N Gl:List Str) (mu:List (Addr×Obj)) (hi:fnList[i]?=some (fa,fd)) (X:Stat g) (kg:Le g s.heap) (hA:Ok A (n+1))
 (hbody:fd.body=.stmts body) (hbind:BindsTo s fd args (ps.zip as)) (hl:ps.length=as.length) (hN:ps++rest=N) (hc:chk fd ps rest Gl=true)
 (hmu:∀p∈mu,s.heap.get? p.1=some p.2/\g.get? p.1=none/\p.1∈xt) (hnd:(mu.map (·.1)).Nodup)
 (H:∀(h₁:Heap) (t':Nat) (env:Env) (A':Around) (QQ:Flow->Shared->Prop) (cx:Cx env N Gl) (hA':Ok A' n),let c:Fr w N Gl:=⟨A',env,s.gens,s.drawn,s.os,s.heap,xt,g,cx,hA'.handled⟩;let V:=as.map some++rest.map fun _=>none;
  c.S g V mu h₁->(∀g' h' t',Out s.heap xt g g' h'->P g' h' .none->QQ .next (c.st h' t'))->c.X body QQ h₁ t') :
 Gives pw w A (.call (.ref fa) args) s xt g P:=by
 subst hN
 refine Gives.enter as ps rest Gl mu (kg _ _ (X.fnAt i hi)) rfl (X.lim.keeps kg) ((X.cdAt i hi).keeps kg) hA hbody hbind hl hc kg hmu hnd fun h₁ env A' t' hA' C F=>absQ fun QQ hQ=>?_
 exact H h₁ t' env A' QQ C hA' F fun g' h' t' o p=>hQ _ _ ⟨g',h',t',rfl,o,p⟩
end Mine.Internal
namespace Mine.Internal
open PySem PySem.W PyProof.Rows PySem.Calls PySem.Spec Builtin Builtin.ObjectAttr
noncomputable abbrev dcO(es:List DictEntry)(n:Nat):Obj:={cls:=.type "dict",data:=.dict es.toArray n}
noncomputable abbrev bmO(id:String)(a:Addr):Obj:={cls:=.type "builtin_function_or_method",data:=.fields #[.builtin id,.ref a]}
section
variable{es:List DictEntry}{n:Nat}{prog:Program}{w:World}{A:Around}{E:Value->Shared->Prop}{h:Heap}{g:Array GenState}{d:Drawn}{t:Nat}{os:OsState}{a:Addr}{o:Obj}
theorem slot_mg:Slot "method_descriptor" "__get__" "method_descriptor.__get__" :=
 .of (owner:="method_descriptor") (n:="__get__") (by rw [typeLookup_type,builtinLookup_eq_fast];kernel_rfl) (by decide +kernel) (by decide +kernel) (by decide +kernel) (by first|exact .inl (by decide +kernel)|exact .inr (by decide +kernel)) (by rw [isSubtype_type];kernel_rfl)
theorem md_set:typeLookup (.type "method_descriptor") "__set__"=pure none:=by rw [typeLookup_type,builtinLookup_eq_fast];kernel_rfl
theorem md_del:typeLookup (.type "method_descriptor") "__delete__"=pure none:=by rw [typeLookup_type,builtinLookup_eq_fast];kernel_rfl
theorem entry_mg:entryFor table "method_descriptor.__get__"=some Builtin.«method_descriptor.__get__»:=entryFor_of_tree (by kernel_rfl)
theorem args_mg(a b c:Value):argsOk "method_descriptor.__get__" ⟨[a,b,c],[]⟩:=by unfold argsOk;kernel_rfl
theorem own_get:isSubtype (.type "dict") (.type (".".intercalate ("dict.get".cutAt '.').dropLast))=pure true:=by
 rw [isSubtype_type];kernel_rfl
theorem dget_bind{R:Result->Shared->Prop}(hx:h.get? a=some (dcO es n))(hq:R (.ok (.ret (.ref h.objs.size))) ⟨h.push (bmO "dict.get" a),g,d,t,os⟩) :
 codeAny (model prog w) A (.call (.builtin "method_descriptor.__get__") ⟨[.builtin "dict.get",.ref a,.type "dict"],[]⟩) R ⟨h,g,d,t,os⟩:=by
 have hT:(⟨h,g,d,t,os⟩:Shared).TypeIs (.ref a) "dict":=⟨_,hx,rfl⟩
 have hT5:(⟨h,g,d,t,os⟩:Shared).TypeIs (.builtin "dict.get") "method_descriptor":=PySem.F.type_dict_get
 refine codeAny_call_builtin slot_mg.plain entry_mg (slot_mg.check _ _ _ _ _ _ _ _ hT5 (args_mg _ _ _) ?_)
 unfold Builtin.«method_descriptor.__get__»
 have f1:=own_get
 repeat (any_goals (first|assumption|wp_step))
theorem dget_entry{tk:Tok}{Q:Fin->Shared->Prop}(hx:h.get? a=some (dcO es n))(hq:Q (.done (.ret (.ref h.objs.size))) ⟨h.push (bmO "dict.get" a),g,d,t,os⟩) :
 wpAny (model prog w) A (Builtin.«object.__getattribute__» ⟨[.ref a,.str "get" tk],[]⟩) Q E ⟨h,g,d,t,os⟩:=by
 have hT:(⟨h,g,d,t,os⟩:Shared).TypeIs (.ref a) "dict":=⟨_,hx,rfl⟩
 have f4:=PySem.F.slot_dict_get.lookup
 have f5:=PySem.F.type_dict_get
 have f6:=slot_mg.lookup
 have f7:=md_set
 have f8:=md_del
 repeat (any_goals (first|assumption|with_reducible refine wpAny_loadPart_at hx ?_|wp_step))
 refine dget_bind hx ?_
 repeat (any_goals (first|assumption|wp_step))
theorem dget_call{tk:Tok}{R:Result->Shared->Prop}(hx:h.get? a=some (dcO es n))(hq:R (.ok (.ret (.ref h.objs.size))) ⟨h.push (bmO "dict.get" a),g,d,t,os⟩) :
 codeAny (model prog w) A (.call (.builtin "dict.__getattribute__") ⟨[.ref a,.str "get" tk],[]⟩) R ⟨h,g,d,t,os⟩ :=
 codeAny_call_builtin PySem.F.slot_dict_getattribute.plain PySem.F.entry_dict_ga (PySem.F.slot_dict_getattribute.check _ _ _ _ _ _ _ _ (show (⟨h,g,d,t,os⟩:Shared).TypeIs (.ref a) "dict" from ⟨_,hx,rfl⟩) (PySem.F.args_dict_getattribute_2 _ _) (dget_entry hx hq))
theorem attr_get{Q:Value->Shared->Prop}(hx:h.get? a=some (dcO es n))(hq:Q (.ref h.objs.size) ⟨h.push (bmO "dict.get" a),g,d,t+1,os⟩) :
 wpAny (model prog w) A (getAttr (.ref a) "get" true) Q E ⟨h,g,d,t,os⟩:=by
 have hT:(⟨h,g,d,t,os⟩:Shared).TypeIs (.ref a) "dict":=⟨_,hx,rfl⟩
 have f2:=PySem.F.slot_dict_getattribute.lookup
 have f3:=PySem.F.slot_dict_getattribute.bind (.ref a)
 unfold getAttr
 refine wpAny_bind (wpAny_mkText ?_)
 unfold getAttrBy
 refine wpAny_holding (wpAny_bind (wpAny_typeOf (T:="dict") ⟨_,hx,rfl⟩ ?_))
 repeat (any_goals (first|assumption|wp_step))
 refine dget_call hx ?_
 exact wpAny_pure hq
end
end Mine.Internal
namespace Mine.Internal
open PySem PySem.W PyProof.Rows PySem.Calls PySem.Spec Builtin Builtin.ObjectAttr
section
variable{M:Model}{A:Around}{E:Value->Shared->Prop}{s:Shared}{Q:Value->Shared->Prop}
end
section
variable{prog:Program}{w:World}{A:Around}{E:Value->Shared->Prop}{s:Shared}
theorem sub_dm:isSubtype (.type "dict") (.type "module")=pure false:=by rw [isSubtype_type];kernel_rfl
theorem sig_dget:Manifest.signature? "dict.get"=some ⟨.positional,"dict.get","get",.self,[⟨"key",.posOnly,true⟩,⟨"default",.posOnly,false⟩]⟩:=by
 rw [signature?_of (id:="dict.get") (n:=['t','e','g']) (o:=['t','c','i','d']) (by kernel_rfl) PySem.F.owner_dict];kernel_rfl
theorem kind_dget:builtinKind "dict.get"=some .method:=by kernel_rfl
theorem check_bget{d:Addr}{key dflt:Value}{Q:Unit->Shared->Prop}{es:List DictEntry}{n:Nat}(hdd:s.heap.get? d=some (dcO es n))(hq:Q () s) :
 wpAny (model prog w) A (checkBoundCall "dict.get" ⟨[.ref d,key,dflt],[]⟩) Q E s:=by
 have hT:s.TypeIs (.ref d) "dict":=⟨_,hdd,rfl⟩
 unfold checkBoundCall
 rw [sig_dget]
 dsimp only
 rw [kind_dget]
 dsimp only
 rw [if_neg (by decide)]
 refine wpAny_bind (wpAny_isInstance hT sub_dm ?_)
 rw [if_neg (by decide +kernel)]
 refine wpAny_bind ?_
 unfold isType loadHead
 refine wpAny_bind (wpAny_loadPart hdd ?_)
 refine wpAny_pure ?_
 rw [if_neg (by simp)]
 refine wpAny_bind (wpAny_typeOf hT ?_)
 refine wpAny_of_eq (a:=()) ?_ hq
 kernel_rfl
theorem call_bget{m d:Addr}{key dflt:Value}{Q:Value->Shared->Prop}(ho:s.heap.get? m=some (bmO "dict.get" d)){es:List DictEntry}{n:Nat}(hdd:s.heap.get? d=some (dcO es n))
 (hq:∀A',wpAny (model prog w) A' (Builtin.«dict.get» ⟨[.ref d,key,dflt],[]⟩) (fun f s'=>match f with|.done (.ret v)=>Q v s'|_=>False) E s):wpAny (model prog w) A (call (.ref m) [key,dflt]) Q E s:=by
 refine wpAny_call (codeAny_of_tree ?_)
 show wpAny _ _ (callAny (.ref m) _) _ _ _
 unfold callAny
 refine wpAny_bind (wpAny_load ho ?_)
 dsimp only
 rw [if_pos (by decide)]
 show wpAny _ _ (do checkBoundCall "dict.get" ⟨[.ref d,key,dflt],[]⟩;again (.builtin "dict.get" ⟨[.ref d,key,dflt],[]⟩)) _ _ _
 refine wpAny_bind (check_bget hdd ?_)
 refine wpAny_pure ⟨rfl,codeAny_builtin PySem.F.entry_dict_get (wpAny_mono (hq _) (fun f s' z=>?_) fun e s' z=>z)⟩
 rcases f with (_|_|_|_)|_<;>first|exact z|exact z.elim
end
end Mine.Internal
namespace Mine.Internal
open PySem PySem.W PyProof.Rows PySem.Calls PySem.Spec Builtin Builtin.ObjectAttr
section
variable{led:Bool}{prog:Program}{w:World}{A:Around}{E:Value->Shared->Prop}{h:Heap}{g:Array GenState}{d:Drawn}{t:Nat}{os:OsState}{a:Addr}
theorem own_con:isSubtype (.type "set") (.type (".".intercalate ("set.__contains__".cutAt '.').dropLast))=pure true:=by
 rw [isSubtype_type];kernel_rfl
theorem scon_bind{R:Result->Shared->Prop}(hx:h.get? a=some (setO0 led))(hq:R (.ok (.ret (.ref h.objs.size))) ⟨h.push (bmO "set.__contains__" a),g,d,t,os⟩) :
 codeAny (model prog w) A (.call (.builtin "method_descriptor.__get__") ⟨[.builtin "set.__contains__",.ref a,.type "set"],[]⟩) R ⟨h,g,d,t,os⟩:=by
 have hT:(⟨h,g,d,t,os⟩:Shared).TypeIs (.ref a) "set":=⟨_,hx,rfl⟩
 have hT5:(⟨h,g,d,t,os⟩:Shared).TypeIs (.builtin "set.__contains__") "method_descriptor":=PySem.F.type_set_contains
 refine codeAny_call_builtin slot_mg.plain entry_mg (slot_mg.check _ _ _ _ _ _ _ _ hT5 (args_mg _ _ _) ?_)
 unfold Builtin.«method_descriptor.__get__»
 have f1:=own_con
 repeat (any_goals (first|assumption|wp_step))
theorem scon_entry{tk:Tok}{Q:Fin->Shared->Prop}(hx:h.get? a=some (setO0 led))(hq:Q (.done (.ret (.ref h.objs.size))) ⟨h.push (bmO "set.__contains__" a),g,d,t,os⟩) :
 wpAny (model prog w) A (Builtin.«object.__getattribute__» ⟨[.ref a,.str "__contains__" tk],[]⟩) Q E ⟨h,g,d,t,os⟩:=by
 have hT:(⟨h,g,d,t,os⟩:Shared).TypeIs (.ref a) "set":=⟨_,hx,rfl⟩
 have f4:=PySem.F.slot_set_contains.lookup
 have f5:=PySem.F.type_set_contains
 have f6:=slot_mg.lookup
 have f7:=md_set
 have f8:=md_del
 repeat (any_goals (first|assumption|with_reducible refine wpAny_loadPart_at hx ?_|wp_step))
 refine scon_bind hx ?_
 repeat (any_goals (first|assumption|wp_step))
theorem scon_call{tk:Tok}{R:Result->Shared->Prop}(hx:h.get? a=some (setO0 led))(hq:R (.ok (.ret (.ref h.objs.size))) ⟨h.push (bmO "set.__contains__" a),g,d,t,os⟩) :
 codeAny (model prog w) A (.call (.builtin "set.__getattribute__") ⟨[.ref a,.str "__contains__" tk],[]⟩) R ⟨h,g,d,t,os⟩ :=
 codeAny_call_builtin PySem.F.slot_set_getattribute.plain PySem.F.entry_set_ga (PySem.F.slot_set_getattribute.check _ _ _ _ _ _ _ _ (show (⟨h,g,d,t,os⟩:Shared).TypeIs (.ref a) "set" from ⟨_,hx,rfl⟩) (PySem.F.args_set_getattribute_2 _ _) (scon_entry hx hq))
theorem attr_con{Q:Value->Shared->Prop}(hx:h.get? a=some (setO0 led))(hq:Q (.ref h.objs.size) ⟨h.push (bmO "set.__contains__" a),g,d,t+1,os⟩) :
 wpAny (model prog w) A (getAttr (.ref a) "__contains__" true) Q E ⟨h,g,d,t,os⟩:=by
 have hT:(⟨h,g,d,t,os⟩:Shared).TypeIs (.ref a) "set":=⟨_,hx,rfl⟩
 have f2:=PySem.F.slot_set_getattribute.lookup
 have f3:=PySem.F.slot_set_getattribute.bind (.ref a)
 unfold getAttr
 refine wpAny_bind (wpAny_mkText ?_)
 unfold getAttrBy
 refine wpAny_holding (wpAny_bind (wpAny_typeOf (T:="set") ⟨_,hx,rfl⟩ ?_))
 repeat (any_goals (first|assumption|wp_step))
 refine scon_call hx ?_
 exact wpAny_pure hq
end
section
variable{led:Bool}{prog:Program}{w:World}{A:Around}{E:Value->Shared->Prop}{s:Shared}
theorem sub_sm:isSubtype (.type "set") (.type "module")=pure false:=by rw [isSubtype_type];kernel_rfl
theorem sig_scon:Manifest.signature? "set.__contains__"=some ⟨.oneArg,"set.__contains__","__contains__",.self,[⟨"object",.posOnly,true⟩]⟩:=by
 rw [signature?_of (id:="set.__contains__") (n:=['_','_','s','n','i','a','t','n','o','c','_','_']) (o:=['t','e','s']) (by kernel_rfl) PySem.F.owner_set];kernel_rfl
theorem kind_scon:builtinKind "set.__contains__"=some .method:=by kernel_rfl
theorem check_scon{d:Addr}{key:Value}{Q:Unit->Shared->Prop}(hdd:s.heap.get? d=some (setO0 led))(hq:Q () s) :
 wpAny (model prog w) A (checkBoundCall "set.__contains__" ⟨[.ref d,key],[]⟩) Q E s:=by
 have hT:s.TypeIs (.ref d) "set":=⟨_,hdd,rfl⟩
 unfold checkBoundCall
 rw [sig_scon]
 dsimp only
 rw [kind_scon]
 dsimp only
 rw [if_neg (by decide)]
 refine wpAny_bind (wpAny_isInstance hT sub_sm ?_)
 rw [if_neg (by decide +kernel)]
 refine wpAny_bind ?_
 unfold isType loadHead
 refine wpAny_bind (wpAny_loadPart hdd ?_)
 refine wpAny_pure ?_
 rw [if_neg (by simp)]
 refine wpAny_bind (wpAny_typeOf hT ?_)
 refine wpAny_of_eq (a:=()) ?_ hq
 kernel_rfl
theorem call_scon{m d:Addr}{key:Value}{Q:Value->Shared->Prop}(ho:s.heap.get? m=some (bmO "set.__contains__" d))(hdd:s.heap.get? d=some (setO0 led))
 (hq:∀A',wpAny (model prog w) A' (Builtin.«frozenset.__contains__» ⟨[.ref d,key],[]⟩) (fun f s'=>match f with|.done (.ret v)=>Q v s'|_=>False) E s):wpAny (model prog w) A (call (.ref m) [key]) Q E s:=by
 refine wpAny_call (codeAny_of_tree ?_)
 show wpAny _ _ (callAny (.ref m) _) _ _ _
 unfold callAny
 refine wpAny_bind (wpAny_load ho ?_)
 dsimp only
 rw [if_pos (by decide)]
 show wpAny _ _ (do checkBoundCall "set.__contains__" ⟨[.ref d,key],[]⟩;again (.builtin "set.__contains__" ⟨[.ref d,key],[]⟩)) _ _ _
 refine wpAny_bind (check_scon hdd ?_)
 refine wpAny_pure ⟨Code.quiet_builtin _ (by decide +kernel),codeAny_builtin entry_set_contains (wpAny_mono (hq _) (fun f s' z=>?_) fun e s' z=>z)⟩
 rcases f with (_|_|_|_)|_<;>first|exact z|exact z.elim
theorem scon_run{d:Addr}{x:Str}{t:Tok}{Q:PySem.Fin->Shared->Prop}(hdd:s.heap.get? d=some (setO0 led))(hq:Q (.done (.ret (.bool false))) {s with toks:=s.toks+1}) :
 wpAny (model prog w) A (Builtin.«frozenset.__contains__» ⟨[.ref d,.str x t],[]⟩) Q E s:=by
 have hS:s.heap.SetOf (strKind prog w) d (fun _=>false) 0:=⟨_,#[],0,_,hdd,⟨rfl,rfl,rfl⟩,rfl,fun e he=>by simp at he,fun k=>by simp,by decide,by rfl,rfl⟩
 have hkey:(strKind prog w).is x (.str x t)=true:=by show Value.isStrOf x (.str x t)=true;simp [Value.isStrOf]
 unfold Builtin.«frozenset.__contains__» Builtin.Frozenset.oneOther
 simp only [List.isEmpty_nil,bind_assoc]
 unfold Builtin.Frozenset.addrOf Builtin.Frozenset.withSetAsKey setContains
 refine wpAny_bind (wpAny_pure ?_)
 try dsimp only
 refine wpAny_bind (wpAny_pure ?_)
 try dsimp only
 refine wpAny_bind (wpAny_tryCatch ?_)
 refine wpAny_holding ?_
 refine wpAny_bind ((strKind prog w).pyHash hkey ?_)
 refine wpAny_bind (wpAny_setFind_of (s:={s with toks:=s.toks+1}) hkey (by rfl) hS fun r hr=>?_)
 refine wpAny_pure ?_
 show wpAny _ _ (ret (Value.bool r.isSome)) _ _ _
 rw [hr]
 exact wpAny_pure hq
theorem junk{m d:Addr}{x:Str}{t:Tok}{Q:Value->Shared->Prop}(ho:s.heap.get? m=some (bmO "set.__contains__" d))(hdd:s.heap.get? d=some (setO0 led))(hq:Q (.bool false) {s with toks:=s.toks+1}) :
 wpAny (model prog w) A (call (.ref m) [.str x t]) Q E s:=call_scon ho hdd fun A'=>scon_run hdd hq
end
end Mine.Internal
namespace Mine.Internal
open PySem PySem.W PyProof.Rows PySem.Calls PySem.Spec Builtin Builtin.ObjectAttr
section
variable{prog:Program}{w:World}{A:Around}{E:Value->Shared->Prop}{s:Shared}{K:Type}[DecidableEq K]{knd:KeyKind prog w K}{d:Addr}{es:List DictEntry}{n:Nat}{k:K}{key v:Value}
theorem dc_type(ho:s.heap.get? d=some (dcO es n)):s.TypeIs (.ref d) "dict":=⟨_,ho,rfl⟩
theorem dc_map(ho:s.heap.get? d=some (dcO es n))(hk:KeysOf knd es.toArray):s.heap.MapOf knd d (fun k=>findBy knd.is es.toArray k):=⟨_,es.toArray,n,ho,⟨rfl,rfl,rfl⟩,rfl,hk,fun _=>rfl⟩
noncomputable def Lacks(knd:KeyKind prog w K)(es:List DictEntry)(k:K):Prop:=∀e∈es,knd.is k e.key=false
theorem Lacks.find(h:Lacks knd es k):(es.toArray.findIdx? fun e=>knd.is k e.key)=none:=by
 rw [List.findIdx?_toArray,List.findIdx?_eq_none_iff]
 exact h
theorem set_new{Q:Unit->Shared->Prop}(hkey:knd.is k key=true)(ho:s.heap.get? d=some (dcO es n))(hk:KeysOf knd es.toArray)(hn:Lacks knd es k)(hz:es.length<=1000)
 (hq:∀h',Heap.SameBut d s.heap h'->h'.get? d=some (dcO (es++[⟨knd.hash k,key,v⟩]) (n+1))->Q () {s with heap:=h',toks:=s.toks+1}) :
 wpAny (model prog w) A (dictSet d key v) Q E s:=by
 unfold dictSet
 try with_reducible refine wpAny_holding ?_
 refine wpAny_bind (knd.pyHash hkey ?_)
 unfold dictSetHashed
 try with_reducible refine wpAny_holding ?_
 refine wpAny_bind (wpAny_dictFind_of (s:={s with toks:=s.toks+1}) hkey ho rfl hk ?_)
 rw [hn.find]
 refine wpAny_bind (wpAny_rule (wpAny_updateDictKeys (hz:=by rw [sizeLine_eq,List.size_toArray];exact zz24 hz) (s:={s with toks:=s.toks+1}) ho rfl (hq _ (Heap.SameBut.update ..) ?_)))
 rw [Heap.get?_update_self _ ho rfl]
 simp [Obj.mapDictKeys]
theorem setdef_new{Q:Value->Shared->Prop}(hkey:knd.is k key=true)(ho:s.heap.get? d=some (dcO es n))(hk:KeysOf knd es.toArray)(hn:Lacks knd es k)(hz:es.length<=1000)
 (hq:∀h',Heap.SameBut d s.heap h'->h'.get? d=some (dcO (es++[⟨knd.hash k,key,v⟩]) (n+1))->Q v {s with heap:=h',toks:=s.toks+1}) :
 wpAny (model prog w) A (dictSetDefault d key v) Q E s:=by
 unfold dictSetDefault
 try with_reducible refine wpAny_holding ?_
 refine wpAny_bind (knd.pyHash hkey ?_)
 refine wpAny_bind (wpAny_dictFind_of (s:={s with toks:=s.toks+1}) hkey ho rfl hk ?_)
 rw [hn.find]
 refine wpAny_bind (wpAny_rule (wpAny_bind (wpAny_updateDictKeys (hz:=by rw [sizeLine_eq,List.size_toArray];exact zz24 hz) (s:={s with toks:=s.toks+1}) ho rfl (wpAny_pure (hq _ (Heap.SameBut.update ..) ?_)))))
 rw [Heap.get?_update_self _ ho rfl]
 simp [Obj.mapDictKeys]
theorem setItem_new{Q:Unit->Shared->Prop}(hkey:knd.is k key=true)(ho:s.heap.get? d=some (dcO es n))(hk:KeysOf knd es.toArray)(hn:Lacks knd es k)(hz:es.length<=1000)
 (hq:∀h',Heap.SameBut d s.heap h'->h'.get? d=some (dcO (es++[⟨knd.hash k,key,v⟩]) (n+1))->Q () {s with heap:=h',toks:=s.toks+1}) :
 wpAny (model prog w) A (setItem (.ref d) key v) Q E s:=by
 have hT:=dc_type ho
 unfold setItem
 try with_reducible refine wpAny_holding ?_
 refine wpAny_bind (wpAny_sequenceKey hT (by decide) ?_)
 refine wpAny_bind (wpAny_callSpecial?_slot (name:=Str.ofString "__setitem__") hT slot_dict_setitem
  (wpAny_call_entry slot_dict_setitem hT entry_dict_setitem ?_ (args_dict_setitem _ _ _)))
 show wpAny _ _ (Builtin.Dict.notOrdered "__setitem__" ⟨[.ref d,key,v],[]⟩>>=_) _ _ s
 refine wpAny_bind (wpAny_notOrdered_dict hT ?_)
 show wpAny _ _ (dictSet d key v>>=_) _ _ s
 exact wpAny_bind (set_new hkey ho hk hn hz fun h' hs' hm'=>wpAny_pure ⟨.none,rfl,wpAny_pure (hq h' hs' hm')⟩)
theorem M_setdef{pos:Pos}{x y:Sem Value}{Q:Value->Shared->Prop}(ho:s.heap.get? d=some (dcO es n))(hd:d≠sysModules)
 (h:wpAny (model prog w) A x (fun key s₁=>wpAny (model prog w) A y (fun v s₂=>∃k es n,knd.is k key=true/\s₂.heap.get? d=some (dcO es n)/\KeysOf knd es.toArray/\Lacks knd es k/\es.length<=1000 /\
  ∀h',Heap.SameBut d s₂.heap h'->h'.get? d=some (dcO (es++[⟨knd.hash k,key,v⟩]) (n+1))->Q v {s₂ with heap:=h',toks:=s₂.toks+1}) E s₁) E s) :
 MethodOnS prog w A E "setdefault" (.ref d) pos [(false,x),(false,y)] Q s:=by
 refine ⟨"dict","dict.setdefault",PySem.F.plainAttrs_dict,PySem.F.slot_dict_setdefault,PySem.F.type_dict_setdefault,dc_type ho,fun a e=>by cases e;exact ⟨_,ho,rfl⟩,?_⟩
 refine method2_meetsIn PySem.F.slot_dict_setdefault PySem.F.entry_dict_setdefault (wpAny_mono h (fun key s₁ h₁=>wpAny_mono h₁ (fun v s₂ h₂=>?_) fun _ _ e=>e) fun _ _ e=>e)
 obtain ⟨k,es,n,hkey,ho,hk,hn,hz,hq⟩:=h₂
 refine ⟨dc_type ho,PySem.F.args_dict_setdefault_3 _ _ _,(fun A R s=>s=s₂/\R=wants Q E),MeetsIn.of_wp fun A R s ⟨e1,e2⟩=>?_,rfl,rfl⟩
 subst e1 e2
 have hd':(d==sysModules)=false:=by simpa using hd
 unfold Builtin.«dict.setdefault»
 refine wpAny_bind ?_
 unfold Builtin.Dict.keyAndDefault
 refine wpAny_bind (wpAny_notOrdered_dict (dc_type ho) ?_)
 show wpAny _ _ (pure (d,key,some v)) _ _ s
 refine wpAny_pure ?_
 show wpAny _ _ (if (d==sysModules)=true then _ else (dictSetDefault d key v>>=_)) _ _ s
 rw [if_neg (by rw [hd'];exact Bool.false_ne_true)]
 exact wpAny_bind (setdef_new hkey ho hk hn hz fun h' a b=>wpAny_pure ⟨v,rfl,hq h' a b⟩)
theorem dget_run{dflt:Value}{Q:PySem.Fin->Shared->Prop}(hd:d≠sysModules)(hkey:knd.is k key=true)(ho:s.heap.get? d=some (dcO es n))(hk:KeysOf knd es.toArray)
 (hq:Q (.done (.ret ((findBy knd.is es.toArray k).getD dflt))) {s with toks:=s.toks+1}) :
 wpAny (model prog w) A (Builtin.«dict.get» ⟨[.ref d,key,dflt],[]⟩) Q E s:=by
 have hd':(d==sysModules)=false:=by simpa using hd
 have hm:=dc_map (knd:=knd) ho hk
 show wpAny _ _ (dictGet d key>>=_) _ _ s
 refine wpAny_bind (wpAny_dictGet_of hkey hm ?_)
 cases hf:findBy knd.is es.toArray k with
 | some v =>
  rw [hf] at hq
  exact wpAny_pure hq
 | none =>
  rw [hf] at hq
  show wpAny _ _ (Builtin.Dict.missed d key>>=_) _ _ _
  exact wpAny_bind (wpAny_missed_other hd' (wpAny_pure hq))
theorem M_get{pos:Pos}{x y:Sem Value}{Q:Value->Shared->Prop}(ho:s.heap.get? d=some (dcO es n))(hd:d≠sysModules)
 (h:wpAny (model prog w) A x (fun key s₁=>wpAny (model prog w) A y (fun v s₂=>∃k es n,knd.is k key=true/\s₂.heap.get? d=some (dcO es n)/\KeysOf knd es.toArray /\
  Q ((findBy knd.is es.toArray k).getD v) {s₂ with toks:=s₂.toks+1}) E s₁) E s) :
 MethodOnS prog w A E "get" (.ref d) pos [(false,x),(false,y)] Q s:=by
 refine ⟨"dict","dict.get",PySem.F.plainAttrs_dict,PySem.F.slot_dict_get,PySem.F.type_dict_get,dc_type ho,fun a e=>by cases e;exact ⟨_,ho,rfl⟩,?_⟩
 refine wpAny_dict_get2 (knd:=knd) (by simpa using hd) (wpAny_mono h (fun key s₁ h₁=>wpAny_mono h₁ (fun v s₂ h₂=>?_) fun _ _ e=>e) fun _ _ e=>e)
 obtain ⟨k,es,n,hkey,ho,hk,hq⟩:=h₂
 exact ⟨k,_,hkey,dc_map ho hk,hq⟩
theorem bget{m:Addr}{dflt:Value}{Q:Value->Shared->Prop}(hm:s.heap.get? m=some (bmO "dict.get" d))(hd:d≠sysModules)(hkey:knd.is k key=true)(ho:s.heap.get? d=some (dcO es n))(hk:KeysOf knd es.toArray)
 (hq:Q ((findBy knd.is es.toArray k).getD dflt) {s with toks:=s.toks+1}):wpAny (model prog w) A (call (.ref m) [key,dflt]) Q E s:=call_bget hm ho fun A'=>dget_run hd hkey ho hk hq
end
end Mine.Internal
namespace Mine.Internal
open PySem PySem.W PyProof.Rows PySem.Calls PySem.Spec
noncomputable def B2j(w:World)(g:Heap)(l:List (Str×Tok))(es:List DictEntry):Prop :=
 es.length=l.length/\∀(i:Nat) (x:Str) (t:Tok),l[i]?=some (x,t)->∃r k t',es[i]?=some ⟨hashStr w x,.str x t,.ref r⟩/\g.get? r=some (lstObj [.int (i:Int) t'] k)
theorem B2j.up{w:World}{g g':Heap}(k:Le g g'){l:List (Str×Tok)}{es:List DictEntry}(h:B2j w g l es):B2j w g' l es :=
 ⟨h.1,fun i x t e=>let ⟨r,q,t',a,b⟩:=h.2 i x t e;⟨r,q,t',a,k _ _ b⟩⟩
theorem B2j.at'{w:World}{g:Heap}{l:List (Str×Tok)}{es:List DictEntry}(h:B2j w g l es){e:DictEntry}(he:e∈es):∃(i:Nat) (x:Str) (t:Tok) (r:Addr),l[i]?=some (x,t)/\es[i]?=some e/\e=⟨hashStr w x,.str x t,.ref r⟩:=by
 obtain ⟨i,hi⟩:=List.mem_iff_getElem?.mp he
 have hl:i<l.length:=by have:=(List.getElem?_eq_some_iff.mp hi).1;rw [h.1] at this;exact this
 obtain ⟨r,k,t',a,b⟩:=h.2 i l[i].1 l[i].2 (by rw [List.getElem?_eq_getElem hl])
 rw [hi] at a
 exact ⟨i,l[i].1,l[i].2,r,by rw [List.getElem?_eq_getElem hl],hi,Option.some.inj a⟩
theorem B2j.keys{prog:Program}{w:World}{g:Heap}{l:List (Str×Tok)}{es:List DictEntry}(h:B2j w g l es):KeysOf (strKind prog w) es.toArray:=by
 intro e he
 rw [List.mem_toArray] at he
 obtain ⟨i,x,t,r,a,b,rfl⟩:=h.at' he
 exact ⟨x,by show Value.isStrOf x (.str x t)=true;simp [Value.isStrOf],rfl⟩
theorem B2j.lacks{prog:Program}{w:World}{g:Heap}{l:List (Str×Tok)}{es:List DictEntry}(h:B2j w g l es){x:Str}(hx:x∉l.map (·.1)):Lacks (strKind prog w) es x:=by
 intro e he
 obtain ⟨i,y,t,r,a,b,rfl⟩:=h.at' he
 show Value.isStrOf x (.str y t)=false
 have:y≠x:=fun q=>hx (by rw [←q];exact List.mem_map.mpr ⟨_,List.mem_of_getElem? a,rfl⟩)
 simp [Value.isStrOf,this]
theorem B2j.nil{w:World}{g:Heap}:B2j w g [] []:=⟨rfl,fun i x t e=>by simp at e⟩
theorem B2j.snoc{w:World}{g:Heap}{l:List (Str×Tok)}{es:List DictEntry}(h:B2j w g l es){x:Str}{t t':Tok}{r k:Nat}(hr:g.get? r=some (lstObj [.int (l.length:Int) t'] k)):B2j w g (l++[(x,t)]) (es++[⟨hashStr w x,.str x t,.ref r⟩]):=by
 refine ⟨by simp [h.1],fun i y u e=>?_⟩
 rcases Nat.lt_or_ge i l.length with q|q
 · rw [List.getElem?_append_left q] at e
   obtain ⟨r',k',t'',a,b⟩:=h.2 i y u e
   exact ⟨r',k',t'',by rw [List.getElem?_append_left (by rw [h.1];exact q)];exact a,b⟩
 · rw [List.getElem?_append_right q] at e
   have:i=l.length:=by
    have:=(List.getElem?_eq_some_iff.mp e).1
    simp at this;exact zz111 q this
   subst this
   simp at e
   obtain ⟨rfl,rfl⟩:=e
   exact ⟨r,k,t',by rw [List.getElem?_append_right (by rw [h.1];exact Nat.le_refl _),h.1];simp,hr⟩
theorem taken_new{l:List (Str×Tok)}{i:Nat}{p:Str×Tok}(hnd:(l.map (·.1)).Nodup)(hc:l[i]?=some p):p.1∉(l.take i).map (·.1):=by
 intro hm
 rw [List.map_take] at hm
 obtain ⟨j,hj⟩:=List.mem_iff_getElem?.mp hm
 have hji:j<i:=Nat.lt_of_lt_of_le (List.length_take▸(List.getElem?_eq_some_iff.mp hj).1) (Nat.min_le_left ..)
 rw [List.getElem?_take,if_pos hji] at hj
 have e2:(l.map (·.1))[i]?=some p.1:=by rw [List.getElem?_map,hc];rfl
 exact Nat.ne_of_lt hji ((List.getElem?_inj (List.getElem?_eq_some_iff.mp hj).1 hnd).mp (hj.trans e2.symm))
theorem Fr.dictOwn{w:World}{N Gl:List Str}{c:Fr w N Gl}{g:Heap}{V:List (Option Value)}{mu:List (Addr×Obj)}{h:Heap}{t:Nat}{p1:Pos}{Q Er:Value->Shared->Prop}(F:c.S g V mu h)(hz:1<c.h₀.objs.size)
 (k:∀d h',d≠sysModules->c.h₀.objs.size<=d->c.S g V ((d,dcO [] 0)::mu) h'->Q (.ref d) (c.st h' t)):wpAny (model pw w) c.A (eval (.Dict [] [] p1) c.env) Q Er (c.st h t) :=
 wpAny_Dict_empty (k _ _ (Fr.ne_sys hz F) (Fr.lowSz F) (St.own F emptyDict))
theorem strV_l{l:List (Str×Tok)}{i:Nat}{v:Value}(h:(strValues l)[i]?=some v){G:Prop}(k:∀c t,v=.str c t->l[i]?=some (c,t)->G):G:=by
 rw [strValues,List.getElem?_map] at h
 obtain ⟨p,h1,h2⟩:=Option.map_eq_some_iff.mp h
 exact k p.1 p.2 h2.symm h1
section
variable{w:World}{A:Around}{s:Shared}{g:Heap}{n:Nat}{x dx:Addr}{od:Obj}
noncomputable def nChain:List Str:=["self","b","b2j","i","elt","indices","junk","isjunk","popular","n","ntest","idxs"]
theorem chain_gives(X:Sm g)(kg:Le g s.heap)(hA:Ok A (n+2))(hx:g.get? x=some (instO dx))(hd:s.heap.get? dx=some od)(hg:g.get? dx=none){av:Value}{lb kb:Nat}(a:AtO od [.none,av,.ref lb,.bool true,.none,.none,.none])
 (l:List (Str×Tok)) (hl:g.get? lb=some (lstObj (strValues l) kb)) (hnd:(l.map (·.1)).Nodup) (hlen:l.length<200) :
 Gives pw w A (.call (.ref 188) ⟨[.ref x],[]⟩) s [dx] g (fun g' h' v=>v=.none/\∃o db dj dp es n led,h'.get? dx=some o/\AtO o [.none,av,.ref lb,.bool true,.none,.none,.none,.ref db,.ref dj,.ref dp] /\
  g'.get? db=some (dcO es n)/\db≠sysModules/\B2j w g' l es/\g'.get? dj=some (setO0 led)):=by
 refine Gives.frN 4 [.ref x] ["self"] ["b","b2j","i","elt","indices","junk","isjunk","popular","n","ntest","idxs"] nChain ["enumerate","set","len"] [(dx,od)] rfl X.toStat kg hA rfl (BindsTo.of_eq rfl) rfl rfl (by decide +kernel) (fun p hp=>by rw [List.mem_singleton.mp hp];exact ⟨hd,hg,.head _⟩) (by simp) ?_
 intro h t env A' QQ C hA' c V F hQ
 refine Fr.xAsg (c:=c) 1 F (Fr.attrO (pre:=[]) 2 (Fr.nV (c:=c) 0 F) X hx F a) ?_
 intro _ V h t F
 refine wpAny_execs_cons (Asg2 (Fr.dictOwn (c:=c) F (Nat.lt_trans (by decide) (Heap.lt_size (kg _ _ (X.fnAt 25 rfl)))) fun db h hdbs hlow F=>?_))
 refine asgA ((Fr.nV (c:=c) 0 F).use fun _ t=>sA (pre:=[_]) (post:=[]) 7 rfl X hx F a (Nat.le_refl 7) fun h o k a F=>asgN (Fr.sto (c:=c) 2 F ?_))
 intro V h t F
 refine wpAny_execs_cons (For_ (C1 (N_enumerate (s:=c.st h t) C X.toStat F.keep (.head _) ((Fr.nV (c:=c) 1 F).use fun _ t=>⟨trivial,each_enum (s:=c.st h t) (fun i g' V' mu'=>∀G:List (Option Value)->List (Addr×Obj)->Prop,(∀es u1 u2 u3,Sm g'->B2j w g' (l.take i) es->G [some (.ref x),some (.ref lb),some (.ref db),u1,u2,u3,none,none,none,none,none,none] [(db,dcO es i),(dx,o)])->G V' mu') hA'.handled F hl (fun G q=>q _ _ _ _ X .nil) ?_ ?_⟩))))
 · intro i v tv g' g'' V' mu' e it oe oi h tk hi kg' hJ kg''
   apply hJ
   intro es u1 u2 u3 X' hB F
   refine absT fun TT hTT=>?_
   refine strV_l hi fun cc tcc ev hc=>?_
   have hil:i<l.length:=(List.getElem?_eq_some_iff.mp hc).1
   have hll:(l.take i).length=i:=by rw [List.length_take];exact Nat.min_eq_left (Nat.le_of_lt hil)
   have md:=F.mt (db,dcO es i) (.tail _ (.tail _ (.head _)))
   refine Fr.ao (c:=c) (is:=[3,4]) (.cons rfl (.cons rfl .nil)) rfl F fun h t F=>?_
   refine Fr.asV (c:=c) F ?_
   intro V F
   refine wpAny_execs_cons (wpAny_Assign_Name (Call_method2 rfl rfl rfl ((Fr.nV (c:=c) 2 F).use fun _ t=>M_setdef (knd:=strKind pw w) (es:=es) (n:=i) (F.mt (db,dcO es i) (.tail _ (.tail _ (.head _)))).1 hdbs (((Fr.nV (c:=c) 4 F).eq ev).use fun _ t=>lstE (sp0 (newOwn (s:=c.st h t) F fun r h F hr=>?_))))))
   refine ⟨cc,es,i,by show Value.isStrOf cc (.str cc tcc)=true;simp [Value.isStrOf],(F.mt (db,dcO es i) (.tail _ (.tail _ (.tail _ (.head _))))).1,(hB.up kg'').keys,(hB.up kg'').lacks (taken_new hnd hc),by rw [hB.1,hll];exact Nat.le_of_lt (Nat.lt_trans (Nat.lt_trans hil hlen) (by decide)),fun h hs he=>Fr.sto (c:=c) 5 (St.turn (pre:=[(r,lstObj [] 0),(e,oe),(it,oi)]) (post:=[(dx,o)]) F rfl hs he) ?_⟩
   intro V h t F
   refine Fr.xAppE (c:=c) (pre:=[]) (Fr.nV 5 F) F (by decide) (Fr.nI 3 F) fun k h t F=>Fr.S.freeze F hr fun g₃ k3 er F=>?_
   refine Fr.xNil (hTT _ _ (turnE_next k3 F fun G q=>q _ _ _ _ ((X'.up kg'').up k3) ?_))
   rw [take_nx hc]
   exact ((hB.up kg'').up k3).snoc (by rw [hll];exact er)
 · intro g₂ V' mu' h t kg₂ hJ
   apply hJ
   intro es u1 u2 u3 X₂ hB F
   have esl:(strValues l).length=l.length:=List.length_map ..
   rw [esl,List.take_length] at hB
   refine Fr.asV (c:=c) F ?_
   intro V F
   refine Fr.S.freeze F hlow fun g₃ k3 edb F=>?_
   refine wpAny_execs_cons (Asg2 (C0 (N_set (s:=c.st h t) C (X₂.up k3).toStat F.keep (.tail _ (.head _)) ⟨trivial,call_set_0 fun led=>?_⟩)))
   refine Fr.S.made F (setO0 led) fun g₄ k4 edj F=>?_
   have X:=(X₂.up k3).up k4
   have hx:=k4 _ _ (k3 _ _ (kg₂ _ _ hx))
   refine asgA ((Fr.nV (c:=c) 0 F).use fun _ t=>sA (pre:=[]) (post:=[]) 8 rfl X hx F a (Nat.le_refl 8) fun h o1 k a F=>asgN (Fr.sto (c:=c) 6 F ?_))
   intro V h t F
   refine Fr.xAsg (c:=c) 7 F (Fr.attrO (pre:=[]) 0 (Fr.nV (c:=c) 0 F) X hx F a) ?_
   intro _ V h t F
   refine Fr.xIf0 (fun Er Q t q=>isTrue_plain ((Fr.nV (c:=c) 7 F).use fun _ t=>truthy_none (q _))) fun t=>?_
   refine wpAny_execs_cons (Asg2 (C0 (N_set (s:=c.st h t) C X.toStat F.keep (.tail _ (.head _)) ⟨trivial,call_set_0 fun led2=>?_⟩)))
   refine Fr.S.made F (setO0 led2) fun g₅ k5 edp F=>?_
   have X:=X.up k5
   have hx:=k5 _ _ hx
   refine asgA ((Fr.nV (c:=c) 0 F).use fun _ t=>sA (pre:=[]) (post:=[]) 9 rfl X hx F a (Nat.le_refl 9) fun h o2 k a F=>asgN (Fr.sto (c:=c) 8 F ?_))
   intro V h t F
   refine Fr.xAsg (c:=c) 9 F (Fr.lenI X.toStat (.tail _ (.tail _ (.head _))) (Fr.nV (c:=c) 1 F) F.keep (k5 _ _ (k4 _ _ (k3 _ _ (kg₂ _ _ hl)))) (by rw [esl];exact Nat.le_of_lt (Nat.lt_trans hlen (by decide))) rfl) ?_
   intro _ V h t F
   refine Fr.xIf0 (Fr.tAnd (Fr.taT (Fr.tTruB (Fr.attrO (pre:=[]) 3 (Fr.nV (c:=c) 0 F) X hx F a)) (Fr.taF (Fr.tGe (Fr.nI 9 F) Fr.kI (decide_eq_false (by rw [esl];exact fun q=>absurd hlen (Nat.not_lt.mpr (Int.ofNat_le.mp q)))))))) fun t=>?_
   exact Fr.xNil (hQ _ _ _ F.out ⟨rfl,o2,db,_,_,es,_,led,(F.mt _ (.head _)).1,a,k5 _ _ (k4 _ _ edb),hdbs,((hB.up k3).up k4).up k5,k5 _ _ edj⟩)
end
end Mine.Internal
namespace Mine.Internal
open PySem PySem.W PyProof.Rows PySem.Calls PySem.Spec
section
variable{prog:Program}{w:World}{A:Around}{E:Value->Shared->Prop}{s:Shared}{env:Env}
variable{h₀ g₀ g:Heap}{xt:List Addr}{L:Addr}{N:List Str}{vs:List (Option Value)}{mu:List (Addr×Obj)}{I:Addr}{oI:Obj}
theorem St.callHas{h h' g':Heap}{o:Obj}(F:St h₀ xt g₀ g L N vs ((I,oI)::mu) h)(O:Out h [I] g g' h')(ho:h'.get? I=some o):St h₀ xt g₀ g' L N vs ((I,o)::mu) h':=by
 have F₁:=F.callBut O
 have mI:=F.mt (I,oI) (.head _)
 have hg:g'.get? I=none:=by
  cases q:g'.get? I with
  | none=>rfl
  | some x=>exact absurd (O.fresh I x q mI.2.2.1) (Nat.not_le.mpr (Heap.lt_size mI.1))
 exact ⟨F₁.len,F₁.ns,F₁.base,F₁.keep,F₁.low,F₁.outg,fun p hp=>(List.mem_cons.mp hp).elim (fun e=>by subst e;exact ⟨ho,mI.2.1,hg,mI.2.2.2⟩) fun hp=>F₁.mt p hp,F.nd,F₁.mono,F₁.fresh⟩
theorem call_x{f:Value}{args:List Value}{P:Heap->Heap->Value->Prop}{Q:Value->Shared->Prop}(F:St h₀ xt g₀ g L N vs ((I,oI)::mu) s.heap)(G:Gives prog w A (.call f ⟨args,[]⟩) s [I] g P)
 (h:∀g' h' t' v,Le g g'->(∀o,h'.get? I=some o->St h₀ xt g₀ g' L N vs ((I,o)::mu) h')->P g' h' v->Q v {s with heap:=h',toks:=t'}):wpAny (model prog w) A (call f args []) Q E s :=
 wpAny_call (G _ fun g' h' t' v o p=>h g' h' t' v o.mono (fun ob e=>F.callHas o e) p)
end
namespace Fr
variable{w:World}{N Gl:List Str}{c:Fr w N Gl}{g:Heap}{V:List (Option Value)}{h:Heap}{t:Nat}{e a b o o2:Expr}{pos p p1 p2:Pos}{rest:List Stmt}{Q:Flow->Shared->Prop}{n m:Str}{ob dx:Addr}{od:Obj}{vs:List Value}{v:Value}{pre post:List (Addr×Obj)}
theorem tIsA{l:Addr}(H1:c.E h a (fun _=>.ref l))(H2:c.E h b (fun _=>.none))(hm:autoParam (behindInMarks .Is b=false) auU):c.T h (.Compare a [.Is] [b] pos) false:=fun Er Q t q =>
 wpAny_isTrue_Compare1 (H1 _ _ t fun _ t=>H2 _ _ t fun _ t=>is_none (wpAny_truthy_bool (q _))) hm
theorem xSetA(i:Nat)(He:c.E h e (fun _=>v))(Ho:c.E h o (fun _=>.ref ob))(X:Sm g)(hx:g.get? ob=some (instO dx))(F:c.S g V (pre++(dx,od)::post) h)(at_:AtO od vs)(hi:i<=vs.length)
 (H:∀h' o' t',AtO o' (put vs i v)->c.S g V (pre++(dx,o')::post) h'->c.X rest Q h' t') (hn:autoParam (attrs[i]?=some n) au0) (hs:autoParam (swapsWith e (some (.Attribute o n p)) pos.line c.env=pure false) au0):c.X (.Assign [.Attribute o n p] e pos::rest) Q h t :=
 wpAny_execs_cons (Asg1 (He _ _ t fun _ t=>Ho _ _ t fun _ t=>sA (s:=c.st h t) (pre:=pre) (post:=post) i hn X hx F at_ hi fun h' o' k a' F'=>H h' o' k a' F') hs)
theorem xSetN{k:Nat}(i j:Nat)(Ho:∀{h od},c.S g V (pre++(dx,od)::post) h->c.E h o (fun _=>.ref ob)/\c.E h o2 (fun _=>.ref ob))(X:Sm g)(hx:g.get? ob=some (instO dx))(F:c.S g V (pre++(dx,od)::post) h)(at_:AtO od vs)(hi:i<=vs.length)(hj:j<=(put vs i .none).length)
 (H:∀h' o' t',AtO o' (put (put vs i .none) j .none)->c.S g V (pre++(dx,o')::post) h'->c.X rest Q h' t') (hn:autoParam (attrs[i]?=some n) au0) (hm:autoParam (attrs[j]?=some m) au0)
 (hs:autoParam (swappedStores [.Attribute o n p1,.Attribute o2 m p2] (.Constant .none k p) c.env=pure none) au0) (ha:autoParam (assignEach [.Attribute o n p1,.Attribute o2 m p2] c.env=[(false,assign (.Attribute o n p1) c.env),(false,assign (.Attribute o2 m p2) c.env)]) au0):c.X (.Assign [.Attribute o n p1,.Attribute o2 m p2] (.Constant .none k p) pos::rest) Q h t :=
 wpAny_execs_cons (Asg2 (kN _ _ t fun _ t=>asgA ((Ho F).1 _ _ t fun _ t=>sA (s:=c.st h t) (pre:=pre) (post:=post) i hn X hx F at_ hi fun h' o' k a' F'=>asgA ((Ho F').2 _ _ k fun _ t=>sA (s:=c.st h' t) (pre:=pre) (post:=post) j hm X hx F' a' hj fun h' o' k a' F'=>H h' o' k a' F'))) hs ha)
end Fr
section
variable{w:World}{A:Around}{s:Shared}{g:Heap}{n:Nat}{x dx:Addr}{od:Obj}
structure Chained(w:World)(g' h':Heap)(dx la lb:Addr)(l:List (Str×Tok)):Prop where
 ex:∃o db dj dp es n led,h'.get? dx=some o/\AtO o [.none,.ref la,.ref lb,.bool true,.none,.none,.none,.ref db,.ref dj,.ref dp] /\
  g'.get? db=some (dcO es n)/\db≠sysModules/\B2j w g' l es/\g'.get? dj=some (setO0 led)
theorem seq1_gives(X:Sm g)(kg:Le g s.heap)(hA:Ok A (n+1))(hx:g.get? x=some (instO dx))(hd:s.heap.get? dx=some od)(hg:g.get? dx=none){iv aj:Value}(a:AtO od [iv,.none,.none,aj])(l:Addr) :
 Gives pw w A (.call (.ref 174) ⟨[.ref x,.ref l],[]⟩) s [dx] g (fun _ h' v=>v=.none/\∃o,h'.get? dx=some o/\AtO o [iv,.ref l,.none,aj,.none,.none]):=by
 refine Gives.frN 2 [.ref x,.ref l] ["self","a"] [] ["self","a"] [] [(dx,od)] rfl X.toStat kg hA rfl (BindsTo.of_eq rfl) rfl rfl (by decide +kernel) (fun p hp=>by rw [List.mem_singleton.mp hp];exact ⟨hd,hg,.head _⟩) (by simp) ?_
 intro h t env A' QQ C hA' c V F hQ
 refine Fr.xDoc fun t=>Fr.xIf0 (Fr.tIsA (Fr.nV 1 F) (Fr.attrO (c:=c) (pre:=[]) 1 (Fr.nV 0 F) X hx F a)) fun t=>Fr.xSetA (c:=c) (pre:=[]) 1 (Fr.nV 1 F) (Fr.nV 0 F) X hx F a (show 1<=4 by decide) fun h o t a F=>?_
 exact Fr.xSetN (c:=c) (pre:=[]) 4 5 (fun F=>⟨Fr.nV 0 F,Fr.nV 0 F⟩) X hx F a (Nat.le_refl 4) (Nat.le_refl 5) fun h o t a F=>Fr.xNil (hQ _ _ _ F.out ⟨rfl,o,(F.mt _ (.head _)).1,a⟩)
theorem seq2_gives(X:Sm g)(kg:Le g s.heap)(hA:Ok A (n+3))(hx:g.get? x=some (instO dx))(hd:s.heap.get? dx=some od)(hg:g.get? dx=none){la lb kb:Nat}(a:AtO od [.none,.ref la,.none,.bool true,.none,.none])
 (l:List (Str×Tok)) (hl:g.get? lb=some (lstObj (strValues l) kb)) (hnd:(l.map (·.1)).Nodup) (hlen:l.length<200) :
 Gives pw w A (.call (.ref 181) ⟨[.ref x,.ref lb],[]⟩) s [dx] g (fun g' h' v=>v=.none/\Chained w g' h' dx la lb l):=by
 refine Gives.frN 3 [.ref x,.ref lb] ["self","b"] [] ["self","b"] [] [(dx,od)] rfl X.toStat kg hA rfl (BindsTo.of_eq rfl) rfl rfl (by decide +kernel) (fun p hp=>by rw [List.mem_singleton.mp hp];exact ⟨hd,hg,.head _⟩) (by simp) ?_
 intro h t env A' QQ C hA' c V F hQ
 have hy:typeLookup (.type "object") "_SequenceMatcher__chain_b"=pure none:=by rw [typeLookup_type,builtinLookup_eq_fast];kernel_rfl
 refine Fr.xDoc fun t=>Fr.xIf0 (Fr.tIsA (Fr.nV 1 F) (Fr.attrO (c:=c) (pre:=[]) 2 (Fr.nV 0 F) X hx F a)) fun t=>Fr.xSetA (c:=c) (pre:=[]) 2 (Fr.nV 1 F) (Fr.nV 0 F) X hx F a (show 2<=6 by decide) fun h o t a F=>?_
 refine Fr.xSetN (c:=c) (pre:=[]) 4 5 (fun F=>⟨Fr.nV 0 F,Fr.nV 0 F⟩) X hx F a (Nat.le_of_ble_eq_true rfl) (Nat.le_of_ble_eq_true rfl) fun h o t a F=>Fr.xSetA (c:=c) (pre:=[]) 6 Fr.kN (Fr.nV 0 F) X hx F a (Nat.le_refl 6) fun h o t a F=>?_
 refine wpAny_execs_cons (wpAny_Expr (ME0 rfl rfl ((Fr.nV (c:=c) 0 F).use fun _ t pl=>methA (f:=188) (fd:=fdChainB) X F.keep (Me.of (pre:=[]) hx F a) (by decide) (by decide +kernel) (X.fnAt 4 rfl) hy ⟨⟨_,F.keep _ _ (X.fnAt 4 rfl)⟩,call_x (s:=c.st h t) F (chain_gives X F.keep hA' hx (F.mt (dx,o) (.head _)).1 (F.mt (dx,o) (.head _)).2.2.1 (l:=l) a hl hnd hlen) fun g₂ h t v k₂ F₂ p=>?_⟩)) C.inter)
 obtain ⟨rfl,o₂,db,dj,dp,es,m,led,p1,p2⟩:=p
 exact Fr.xNil (c:=c) (hQ _ _ _ (St.out (F₂ o₂ p1)) ⟨rfl,o₂,db,dj,dp,es,m,led,p1,p2⟩)
theorem seqs_gives(X:Sm g)(kg:Le g s.heap)(hA:Ok A (n+4))(hx:g.get? x=some (instO dx))(hd:s.heap.get? dx=some od)(hg:g.get? dx=none){la lb kb:Nat}(a:AtO od [.none,.none,.none,.bool true])
 (l:List (Str×Tok)) (hl:g.get? lb=some (lstObj (strValues l) kb)) (hnd:(l.map (·.1)).Nodup) (hlen:l.length<200) :
 Gives pw w A (.call (.ref 167) ⟨[.ref x,.ref la,.ref lb],[]⟩) s [dx] g (fun g' h' v=>v=.none/\Chained w g' h' dx la lb l):=by
 refine Gives.frN 1 [.ref x,.ref la,.ref lb] ["self","a","b"] [] ["self","a","b"] [] [(dx,od)] rfl X.toStat kg hA rfl (BindsTo.of_eq rfl) rfl rfl (by decide +kernel) (fun p hp=>by rw [List.mem_singleton.mp hp];exact ⟨hd,hg,.head _⟩) (by simp) ?_
 intro h t env A' QQ C hA' c V F hQ
 have hy:typeLookup (.type "object") "set_seq1"=pure none:=by rw [typeLookup_type,builtinLookup_eq_fast];kernel_rfl
 have hy2:typeLookup (.type "object") "set_seq2"=pure none:=by rw [typeLookup_type,builtinLookup_eq_fast];kernel_rfl
 refine Fr.xDoc fun t=>wpAny_execs_cons (wpAny_Expr (ME1 rfl rfl ((Fr.nV (c:=c) 0 F).use fun _ t pl=>methA (f:=174) (fd:=fdSetSeq1) X F.keep (Me.of (pre:=[]) hx F a) (by decide) (by decide +kernel) (X.fnAt 2 rfl) hy ((Fr.nV (c:=c) 1 F).use fun _ t=>⟨⟨_,F.keep _ _ (X.fnAt 2 rfl)⟩,call_x (s:=c.st h t) F (seq1_gives (n:=n) X F.keep (hA'.le (by exact zz117)) hx (F.mt (dx,od) (.head _)).1 (F.mt (dx,od) (.head _)).2.2.1 a la) fun g₂ h t v k₂ F₂ p=>?_⟩))) C.inter)
 obtain ⟨rfl,o₂,p1,a⟩:=p
 have F:=F₂ o₂ p1
 have X:=X.up k₂
 have hx:=k₂ _ _ hx
 refine wpAny_execs_cons (wpAny_Expr (ME1 rfl rfl ((Fr.nV (c:=c) 0 F).use fun _ t pl=>methA (f:=181) (fd:=fdSetSeq2) X F.keep (Me.of (pre:=[]) hx F a) (by decide) (by decide +kernel) (X.fnAt 3 rfl) hy2 ((Fr.nV (c:=c) 2 F).use fun _ t=>⟨⟨_,F.keep _ _ (X.fnAt 3 rfl)⟩,call_x (s:=c.st h t) F (seq2_gives (n:=n) X F.keep (hA'.le (by exact zz118)) hx (F.mt (dx,o₂) (.head _)).1 (F.mt (dx,o₂) (.head _)).2.2.1 a l (k₂ _ _ hl) hnd hlen) fun g₃ h t v k₃ F₃ p=>?_⟩))) C.inter)
 obtain ⟨rfl,⟨o₃,db,dj,dp,es,m,led,p1,p2⟩⟩:=p
 exact Fr.xNil (c:=c) (hQ _ _ _ (St.out (F₃ o₃ p1)) ⟨rfl,o₃,db,dj,dp,es,m,led,p1,p2⟩)
theorem init_gives(X:Sm g)(kg:Le g s.heap)(hA:Ok A (n+5))(hx:g.get? x=some (instO dx))(hd:s.heap.get? dx=some od)(hg:g.get? dx=none){la lb kb:Nat}(a:AtO od [])
 (l:List (Str×Tok)) (hl:g.get? lb=some (lstObj (strValues l) kb)) (hnd:(l.map (·.1)).Nodup) (hlen:l.length<200) :
 Gives pw w A (.call (.ref 160) ⟨[.ref x,.none,.ref la,.ref lb],[]⟩) s [dx] g (fun g' h' v=>v=.none/\Chained w g' h' dx la lb l):=by
 refine Gives.frN 0 [.ref x,.none,.ref la,.ref lb,.bool true] ["self","isjunk","a","b","autojunk"] [] ["self","isjunk","a","b","autojunk"] [] [(dx,od)] rfl X.toStat kg hA rfl (BindsTo.of_defaults rfl (kg _ _ (X.obAt 2 rfl)) rfl rfl rfl) rfl rfl (by decide +kernel) (fun p hp=>by rw [List.mem_singleton.mp hp];exact ⟨hd,hg,.head _⟩) (by simp) ?_
 intro h t env A' QQ C hA' c V F hQ
 have hy:typeLookup (.type "object") "set_seqs"=pure none:=by rw [typeLookup_type,builtinLookup_eq_fast];kernel_rfl
 refine Fr.xDoc fun t=>Fr.xSetA (c:=c) (pre:=[]) 0 (Fr.nV 1 F) (Fr.nV 0 F) X hx F a (Nat.le_refl 0) fun h o t a F=>?_
 refine Fr.xSetN (c:=c) (pre:=[]) 1 2 (fun F=>⟨Fr.nV 0 F,Fr.nV 0 F⟩) X hx F a (Nat.le_refl 1) (Nat.le_refl 2) fun h o t a F=>Fr.xSetA (c:=c) (pre:=[]) 3 (Fr.nV 4 F) (Fr.nV 0 F) X hx F a (Nat.le_refl 3) fun h o t a F=>?_
 refine wpAny_execs_cons (wpAny_Expr (ME2 rfl rfl ((Fr.nV (c:=c) 0 F).use fun _ t pl=>methA (f:=167) (fd:=fdSetSeqs) X F.keep (Me.of (pre:=[]) hx F a) (by decide) (by decide +kernel) (X.fnAt 1 rfl) hy ((Fr.nV (c:=c) 2 F).use fun _ t=>(Fr.nV (c:=c) 3 F).use fun _ t=>⟨⟨_,F.keep _ _ (X.fnAt 1 rfl)⟩,call_x (s:=c.st h t) F (seqs_gives (n:=n) X F.keep (hA'.le (by exact zz119)) hx (F.mt (dx,o) (.head _)).1 (F.mt (dx,o) (.head _)).2.2.1 a l hl hnd hlen) fun g₃ h t v k₃ F₃ p=>?_⟩))) C.inter)
 obtain ⟨rfl,⟨o₃,db,dj,dp,es,m,led,p1,p2⟩⟩:=p
 exact Fr.xNil (c:=c) (hQ _ _ _ (St.out (F₃ o₃ p1)) ⟨rfl,o₃,db,dj,dp,es,m,led,p1,p2⟩)
end
end Mine.Internal
namespace Mine.Internal
open PySem PySem.W PyProof.Rows PySem.Calls PySem.Spec
structure Sm2(g:Heap):Prop extends Sm g where
 cst:∃m,g.Ns cStatics m/\m "thirdparty.any"=none
theorem Sm2.up{g g':Heap}(X:Sm2 g)(k:Le g g'):Sm2 g':=⟨X.toSm.up k,let ⟨m,a,b⟩:=X.cst;⟨m,a.keeps k,b⟩⟩
theorem nsIn_of{K:Frag}{ns:Addr}{o:Obj}{es:Array DictEntry}{ep:Nat}{m:Str->Option Value}(hk:K.lookup ns=some o)(hd:o.data=.dict es ep)(hs:StrKeys es)(hf:∀n,nsFind es n=m n)(name:Str):nsIn K ns name=some (m name):=by
 obtain ⟨oc,od,oda,osl⟩:=o
 dsimp only at hd
 subst hd
 unfold nsIn
 rw [hk]
 dsimp only
 have h:=hf name
 unfold nsFind findBy at h
 rw [←Array.find?_toList] at h
 cases q:es.toList.find? (fun e=>e.key.isStr name) with
 | some e=>rw [q] at h;rw [←h];rfl
 | none =>
  rw [q] at h
  have hr:es.toList.any (·.refKey)=false:=by
   rw [List.any_eq_false]
   intro e he
   obtain ⟨n,t,z⟩:=hs e (Array.mem_toList_iff.mp he)
   simp [DictEntry.refKey,z]
  rw [hr,if_neg (by decide),←h]
  rfl
theorem mem_lk{β:Type}:∀{l:List (Addr×β)} {a:Addr} {o:β},l.lookup a=some o->(a,o)∈l
 | [],_,_,h=>by cases h
 | (b,p)::r,a,o,h=>by
  rw [List.lookup_cons] at h
  cases q:a==b with
  | true=>rw [q] at h;cases h;rw [eq_of_beq q];exact .head _
  | false=>rw [q] at h;exact .tail _ (mem_lk h)
noncomputable def KM(oN oS:Obj):Frag:=[(135,mtCls),(134,oN),(cStatics,oS),(136,{cls:=.type "staticmethod",data:=.fields #[.ref 82]}),(91,{cls:=.type "classmethod",dict:=some 90,data:=.fields #[.ref 89,.bool false]}),(89,fnObj fdMMake),(82,fnObj fdMNew)]
structure KMok(oN oS:Obj):Prop where
 ns:∃m:Str->Option Value,(∀n,nsIn (KM oN oS) 134 n=some (m n))/\∀p∈mtHas,m p.1=p.2
 st:nsIn (KM oN oS) cStatics "thirdparty.any"=some none
theorem km_in{g:Heap}(X:Sm2 g):∃oN oS,(KM oN oS).In g/\KMok oN oS:=by
 obtain ⟨m,⟨oN,es,ep,a1,a2,a3,a4⟩,b⟩:=X.mns
 obtain ⟨mc,⟨oS,es',ep',c1,c2,c3,c4⟩,d⟩:=X.cst
 refine ⟨oN,oS,fun a o e=>?_,⟨m,fun n=>nsIn_of rfl a2 a3 a4 n,b⟩,by rw [nsIn_of (K:=KM oN oS) rfl c2 c3 c4,d]⟩
 have hm:(a,o)∈KM oN oS:=mem_lk e
 simp only [KM,List.mem_cons,List.not_mem_nil,or_false,Prod.mk.injEq] at hm
 rcases hm with ⟨rfl,rfl⟩|⟨rfl,rfl⟩|⟨rfl,rfl⟩|⟨rfl,rfl⟩|⟨rfl,rfl⟩|⟨rfl,rfl⟩|⟨rfl,rfl⟩
 · exact X.ob2 _ (.tail _ (.head _))
 · exact a1
 · exact c1
 · exact X.ob2 _ (.tail _ (.tail _ (.head _)))
 · exact X.ob2 _ (.tail _ (.tail _ (.tail _ (.head _))))
 · exact X.ob2 _ (.tail _ (.tail _ (.tail _ (.tail _ (.head _)))))
 · exact X.fnAt 8 rfl
section
variable{oN oS:Obj}
theorem own_m(h:KMok oN oS){i:Nat}{n:Str}{v:Option Value}(hi:mtHas[i]?=some (n,v)):ownIn (KM oN oS) n (.ref 135)=some v:=by
 obtain ⟨m,a,b⟩:=h.ns
 show nsIn (KM oN oS) 134 n=_
 rw [a,b _ (List.mem_of_getElem? hi)]
theorem find_new(h:KMok oN oS):findIn (KM oN oS) (.ref 135) "__new__"=some (some (.ref 136)):=by
 show alongIn (KM oN oS) _ [.ref 135,.type "tuple",.type "object"]=_
 unfold alongIn
 rw [own_m h (i:=0) rfl]
theorem find_make(h:KMok oN oS):findIn (KM oN oS) (.ref 135) "_make"=some (some (.ref 91)):=by
 show alongIn (KM oN oS) _ [.ref 135,.type "tuple",.type "object"]=_
 unfold alongIn
 rw [own_m h (i:=1) rfl]
theorem find_init(h:KMok oN oS):findIn (KM oN oS) (.ref 135) "__init__"=some (some (.builtin "object.__init__")):=by
 show alongIn (KM oN oS) _ [.ref 135,.type "tuple",.type "object"]=_
 unfold alongIn
 rw [own_m h (i:=2) rfl]
 kernel_rfl
theorem reads_m(h:KMok oN oS):readsIn (KM oN oS) 135 (.type "type")=true:=by
 unfold readsIn
 rw [h.st]
 kernel_rfl
theorem cls_new(h:KMok oN oS):findCls (KM oN oS) (.ref 135) (.type "type") "__new__"=some (.get (.builtin "staticmethod.__get__") (.ref 136) .none (.ref 135)):=by
 unfold findCls
 rw [show findIn (KM oN oS) (.type "type") "__new__"=some (some (.builtin "type.__new__")) by kernel_rfl,find_new h]
 kernel_rfl
theorem cls_make(h:KMok oN oS):findCls (KM oN oS) (.ref 135) (.type "type") "_make"=some (.get (.builtin "classmethod.__get__") (.ref 91) .none (.ref 135)):=by
 unfold findCls
 rw [show findIn (KM oN oS) (.type "type") "_make"=some none by kernel_rfl,find_make h]
 kernel_rfl
end
section
variable{M:Model}{h:Heap}{oN oS:Obj}
theorem L_type(X:(KM oN oS).In h):Looks M h (isType (.ref 135)) true:=(Looks.ld (part:=some headPart) (X 135 mtCls rfl)).andThen .now
theorem L_sub(X:(KM oN oS).In h):Looks M h (isSubtype (.ref 135) (.type "tuple")) true:=looks_mroIn X (by kernel_rfl)
theorem L_made(X:(KM oN oS).In h):Looks M h (Bind.madeBy (.ref 135)) none:=Looks.of_peek X (by kernel_rfl)
theorem L_check(X:(KM oN oS).In h)(v:Value):Looks M h (checkBuiltinCall "tuple.__new__" ⟨[.ref 135,v],[]⟩) ():=Looks.of_peek X (by kernel_rfl)
theorem L_here(X:(KM oN oS).In h):Looks M h (Bind.madeHere "tuple.__new__" (.ref 135)) ():=Looks.of_peek X (by kernel_rfl)
theorem L_init(X:(KM oN oS).In h)(k:KMok oN oS):Looks M h (typeLookup (.ref 135) "__init__") (some (.builtin "object.__init__")):=looks_findIn X (find_init k)
end
noncomputable abbrev mtO(dx:Addr)(vs:List Value):Obj:={cls:=.ref 135,dict:=some dx,data:=.seq vs.toArray}
section
variable{prog:Program}{w:World}{A:Around}{E:Value->Shared->Prop}{h:Heap}{g:Array GenState}{d:Drawn}{t:Nat}{os:OsState}{oN oS:Obj}
theorem tnew_run{T:Addr}{vs:List Value}{Q:PySem.Fin->Shared->Prop}(X:(KM oN oS).In h)(k:KMok oN oS)(hT:h.get? T=some (tupObj vs)\/∃n,h.get? T=some (lstObj vs n))(hz:vs.length<=1000)
 (hq:∀h',Le h h'->Q (.done (.ret (.ref (h'.objs.size+1)))) ⟨(h'.push emptyDict).push (mtO h'.objs.size vs),g,d,t,os⟩) :
 wpAny (model prog w) A (Builtin.«tuple.__new__» ⟨[.ref 135,.ref T],[]⟩) Q E ⟨h,g,d,t,os⟩:=by
 have l1:=L_type (M:=model prog w) X
 have l2:=L_sub (M:=model prog w) X
 have l3:=L_here (M:=model prog w) X
 have l4:=L_init (M:=model prog w) X k
 unfold Builtin.«tuple.__new__»
 repeat (any_goals (first|(fail_if_success (show wpAny _ _ (collect _) _ _ _));lk))
 show wpAny _ _ (collect _) _ _ _
 have fin:∀h',Le h h'->wpAny (model prog w) A (do
  let xs←pure vs.toArray
  let dd←alloc {cls:=.type "dict",data:=.dict #[]}
  let r←newObj (.ref 135) (.seq xs) (some dd)
  ret r) Q E ⟨h',g,d,t,os⟩:=by
  intro h' k'
  refine wpAny_bind (wpAny_pure (wpAny_bind (wpAny_alloc (wpAny_bind ?_))))
  have hC:((h'.push emptyDict).push (mtO h'.objs.size vs)).get? 135=some mtCls:=Heap.get?_push_of_some _ (Heap.get?_push_of_some _ (k' _ _ (X 135 mtCls rfl)))
  unfold newObj
  dsimp only
  rw [if_neg (by rw [List.size_toArray,sizeLine_eq];exact zz25 hz)]
  unfold newObjAsIs classHasDel
  refine wpAny_bind (wpAny_alloc (wpAny_bind (wpAny_bind (wpAny_load hC (wpAny_pure ?_)))))
  refine wpAny_pure (wpAny_pure ?_)
  show Q _ _
  rw [Heap.size_push]
  exact hq h' k'
 rcases hT with hT|⟨n,hT⟩
 · exact wpAny_collect_seq T (T:="tuple") (n:=0) (.inr rfl) hT rfl rfl (fun h' k'=>fin h' k') (by rw [sizeLine_eq];simp;exact zz24 hz)
 · exact wpAny_collect_seq T (T:="list") (n:=n) (.inl rfl) hT rfl rfl (fun h' k'=>fin h' k') (by rw [sizeLine_eq];simp;exact zz24 hz)
end
section
variable{w:World}{A:Around}{E:Value->Shared->Prop}{s:Shared}{h₀ g₀ g:Heap}{xt:List Addr}{L:Addr}{N:List Str}{vs:List (Option Value)}{mu:List (Addr×Obj)}
theorem tnew{T:Addr}{items:List Value}{Q:Value->Shared->Prop}(F:St h₀ xt g₀ g L N vs mu s.heap)(X:Sm2 g)(hT:g.get? T=some (tupObj items)\/∃n,g.get? T=some (lstObj items n))(hz:items.length<=1000)
 (hq:∀m dx g' h',Le g g'->g'.get? m=some (mtO dx items)->St h₀ xt g₀ g' L N vs mu h'->Q (.ref m) {s with heap:=h'}) :
 wpAny (model pw w) A (call (.builtin "tuple.__new__") [.ref 135,.ref T]) Q E s:=by
 obtain ⟨oN,oS,X',k⟩:=km_in X
 obtain ⟨h,gg,d,t,os⟩:=s
 have X'':(KM oN oS).In h:=X'.keeps F.keep
 have l0:=L_check (M:=model pw w) X'' (.ref T)
 refine wpAny_call (codeAny_call_builtin_code (Code.quiet_builtin _ (by decide +kernel)) (l0.here ?_))
 refine codeAny_builtin PySem.F.entry_tuple_new (tnew_run X'' k (hT.imp (fun e=>F.keep _ _ e) fun ⟨n,e⟩=>⟨n,F.keep _ _ e⟩) hz fun h' k'=>?_)
 have F₁:=(F.more k').more (fun b o e=>Heap.get?_push_of_some emptyDict e)
 obtain ⟨g',k2,e,F₂⟩:=F₁.made (mtO h'.objs.size items)
 rw [Heap.size_push] at e
 exact hq _ _ g' _ k2 e F₂
end
theorem Ok.under{A:Around}{n:Nat}{c:Code}(h:Ok A (n+1))(hw:c.weight<=8)(hu:c.cUnits<=24):Ok (A.under c) n :=
 ⟨h.handled,by have:=h.depth;show A.depth+c.weight+8*n<900;exact zz26 hw this,by have:=h.units;show A.units+c.cUnits+24*n<9800;exact zz27 hu this⟩
theorem w_tc(C:Addr)(rest:List Value):(Code.builtin "type.__call__" ⟨.ref C::rest,[]⟩).weight<=8:=by
 have:(Code.builtin "type.__call__" ⟨.ref C::rest,[]⟩).weight=1:=by rfl
 exact zz28 this
theorem u_tc(C:Addr)(rest:List Value):(Code.builtin "type.__call__" ⟨.ref C::rest,[]⟩).cUnits<=24:=by
 have:(Code.builtin "type.__call__" ⟨.ref C::rest,[]⟩).cUnits=1:=by rfl
 exact zz29 this
section
variable{w:World}{A:Around}{E:Value->Shared->Prop}{s:Shared}{env:Env}
theorem meth_type{T:String}{name:Str}{v:Value}{pl:Sem Bool}{Q:Value×List Value->Shared->Prop}(ht:typeOf (.type T)=pure (.type "type"))(hs:Manifest.isStub T=false)
 (e:findCls [] (.type T) (.type "type") name=some (.val v)) (hh:handedIn v=true) (h:Q (v,[]) {s with toks:=s.toks+1}):wpAny (model pw w) A (getMethod (.type T) name pl) Q E s:=by
 have X:Frag.In [] s.heap:=fun a o e=>by cases e
 have hstub:opaqueClassAbove (.type T)=pure none:=by unfold opaqueClassAbove;dsimp only;rw [hs];rfl
 have L0:Looks (model pw w) s.heap (typeOf (.type T)) (.type "type"):=Looks.of_pure ht
 have hg:findIn [] (.type "type") "__getattribute__"=some (some (.builtin "type.__getattribute__")):=type_tga
 unfold getMethod specialOf
 refine wpAny_bind (wpAny_bind (L0.here ((looks_findIn X hg).here ?_)))
 dsimp only
 rw [if_pos canon_tga]
 refine wpAny_bind (wpAny_mono (Q:=fun v=>Q (v,[])) (E:=E) ?_ (fun _ _ z=>wpAny_pure z) fun _ _ z=>z)
 have LO:Looks (model pw w) s.heap (opaqueClassAbove (.type T)) none:=Looks.of_pure hstub
 refine cls_open X LO L0 hg (looks_hook X (r:=none) (by rfl)) (by show subIn [] _ _=_;rfl) e
  (wpAny_pure (by show wpAny _ _ (handedOut v) _ _ _;rw [handedOut_of hh];exact wpAny_pure h))
theorem find_tnew:findCls [] (.type "tuple") (.type "type") "__new__"=some (.val (.builtin "tuple.__new__")):=by kernel_rfl
theorem ty_tuple:typeOf (.type "tuple")=pure (.type "type"):=by kernel_rfl
theorem st_tuple:Manifest.isStub "tuple"=false:=by decide +kernel
theorem hi_tnew:handedIn (.builtin "tuple.__new__")=true:=by decide +kernel
variable{g:Heap}{n:Nat}
theorem mnew_gives(X:Sm2 g)(kg:Le g s.heap)(hA:Ok A (n+1))(v1 v2 v3:Value) :
 Gives pw w A (.call (.ref 82) ⟨[.ref 135,v1,v2,v3],[]⟩) s [] g (fun g' _ v=>∃m dx,v=.ref m/\g'.get? m=some (mtO dx [v1,v2,v3])):=by
 refine Gives.go 8 [.ref 135,v1,v2,v3] ["_cls","a","b","size"] [] ["tuple"] rfl X.toStat kg hA rfl (BindsTo.of_eq rfl) rfl (by decide +kernel) fun h₁ env A' t' hA' C F=>?_
 dsimp only [List.map_cons,List.map_nil,List.append_nil,List.cons_append,List.nil_append] at F C
 refine doc_ C fun t'=>?_
 refine wpAny_execs_cons ?_
 refine wpAny_Return_some ?_
 refine ME2 rfl rfl ?_
 refine N_tuple C X.toStat F.keep (.head _) ?_
 intro pl
 dsimp only
 refine meth_type (T:="tuple") (name:="__new__") (v:=.builtin "tuple.__new__") ty_tuple st_tuple find_tnew hi_tnew ?_
 dsimp only
 refine ld0 C F ?_
 refine tupE ?_
 refine sp1 (ld1 C F ?_)
 refine sp1 (ld2 C F ?_)
 refine sp1 (ld3 C F ?_)
 refine sp0 ?_
 refine newTup F fun T g₂ h' k2 hT F=>?_
 refine ⟨trivial,?_⟩
 refine tnew F (X.up k2) (.inl hT) (by simp) fun m dx g₃ h' k3 hm F=>?_
 exact ends F ⟨m,dx,rfl,hm⟩
end
section
variable{M:Model}{h:Heap}{oN oS:Obj}
theorem L_call(X:(KM oN oS).In h):Looks M h (specialOf (.ref 135) "__call__") (some (.builtin "type.__call__")):=looks_specialIn X (by kernel_rfl)
theorem L_inst(X:(KM oN oS).In h):Looks M h (isInstance (.ref 135) (.type "type")) true:=looks_instIn X (by kernel_rfl)
theorem L_mro(X:(KM oN oS).In h):Looks M h (mroOf (.ref 135)) [.ref 135,.type "tuple",.type "object"]:=Looks.of_peek X (by kernel_rfl)
theorem L_self(X:(KM oN oS).In h):Looks M h (isSubtype (.ref 135) (.ref 135)) true:=looks_mroIn X (by kernel_rfl)
theorem L_top(X:(KM oN oS).In h):Looks M h (isSubtype (.ref 135) (.type "object")) true:=looks_mroIn X (by kernel_rfl)
end
section
variable{w:World}{A:Around}{E:Value->Shared->Prop}{s:Shared}{oN oS:Obj}
theorem slot_sg:Slot "staticmethod" "__get__" "staticmethod.__get__" :=
 .of (owner:="staticmethod") (n:="__get__") (by rw [typeLookup_type,builtinLookup_eq_fast];kernel_rfl) (by decide +kernel) (by decide +kernel) (by decide +kernel) (by first|exact .inl (by decide +kernel)|exact .inr (by decide +kernel)) (by rw [isSubtype_type];kernel_rfl)
theorem slot_cg:Slot "classmethod" "__get__" "classmethod.__get__" :=
 .of (owner:="classmethod") (n:="__get__") (by rw [typeLookup_type,builtinLookup_eq_fast];kernel_rfl) (by decide +kernel) (by decide +kernel) (by decide +kernel) (by first|exact .inl (by decide +kernel)|exact .inr (by decide +kernel)) (by rw [isSubtype_type];kernel_rfl)
theorem entry_sg:entryFor table "staticmethod.__get__"=some Builtin.«staticmethod.__get__»:=entryFor_of_tree (by kernel_rfl)
theorem entry_cg:entryFor table "classmethod.__get__"=some Builtin.«classmethod.__get__»:=entryFor_of_tree (by kernel_rfl)
theorem args_sg(a b c:Value):argsOk "staticmethod.__get__" ⟨[a,b,c],[]⟩:=by unfold argsOk;kernel_rfl
theorem args_cg(a b c:Value):argsOk "classmethod.__get__" ⟨[a,b,c],[]⟩:=by unfold argsOk;kernel_rfl
theorem sget{Q:Value->Shared->Prop}(X:(KM oN oS).In s.heap)(h:Q (.ref 82) s):wpAny (model pw w) A (call (.builtin "staticmethod.__get__") [.ref 136,.none,.ref 135]) Q E s:=by
 have ho:=X 136 {cls:=.type "staticmethod",data:=.fields #[.ref 82]} rfl
 obtain ⟨hp,g,d,t,os⟩:=s
 dsimp only at ho
 refine wpAny_call (codeAny_call_builtin slot_sg.plain entry_sg (slot_sg.check _ _ _ _ _ _ _ _ (show (⟨hp,g,d,t,os⟩:Shared).TypeIs (.ref 136) "staticmethod" from ⟨_,ho,rfl⟩) (args_sg _ _ _) ?_))
 unfold Builtin.«staticmethod.__get__»
 repeat (any_goals (first|assumption|with_reducible refine wpAny_loadPart_at ho ?_|wp_step))
noncomputable abbrev bdO:Obj:={cls:=.type "method",data:=.fields #[.ref 89,.ref 135]}
theorem cget{Q:Value->Shared->Prop}(X:(KM oN oS).In s.heap)(h:Q (.ref s.heap.objs.size) {s with heap:=s.heap.push bdO}):wpAny (model pw w) A (call (.builtin "classmethod.__get__") [.ref 91,.none,.ref 135]) Q E s:=by
 have ho:=X 91 {cls:=.type "classmethod",dict:=some 90,data:=.fields #[.ref 89,.bool false]} rfl
 obtain ⟨hp,g,d,t,os⟩:=s
 dsimp only at ho
 refine wpAny_call (codeAny_call_builtin slot_cg.plain entry_cg (slot_cg.check _ _ _ _ _ _ _ _ (show (⟨hp,g,d,t,os⟩:Shared).TypeIs (.ref 91) "classmethod" from ⟨_,ho,rfl⟩) (args_cg _ _ _) ?_))
 unfold Builtin.«classmethod.__get__»
 repeat (any_goals (first|assumption|with_reducible refine wpAny_loadPart_at ho ?_|wp_step))
variable{h₀ g₀ g:Heap}{xt:List Addr}{L:Addr}{N:List Str}{vs:List (Option Value)}{mu:List (Addr×Obj)}{n:Nat}
theorem make_attr{expr:Bool}{Q:Value->Shared->Prop}(F:St h₀ xt g₀ g L N vs mu s.heap)(X:Sm2 g)
 (h:∀a g' h' t',Le g g'->g'.get? a=some bdO->St h₀ xt g₀ g' L N vs mu h'->Q (.ref a) {s with heap:=h',toks:=t'}):wpAny (model pw w) A (getAttr (.ref 135) "_make" expr) Q E s:=by
 obtain ⟨oN,oS,X',k⟩:=km_in X
 have X'':(KM oN oS).In s.heap:=X'.keeps F.keep
 refine cls_bind X'' (reads_m k) (cls_make k) ?_
 refine cget X'' ?_
 obtain ⟨g',k2,e,F₂⟩:=F.made bdO
 refine wpAny_of_eq (a:=Value.ref s.heap.objs.size) rfl ?_
 exact h _ g' _ _ k2 e F₂
theorem match_call{v1 v2 v3:Value}{Q:Value->Shared->Prop}(hA:Ok A (n+3))(F:St h₀ xt g₀ g L N vs mu s.heap)(X:Sm2 g)
 (h:∀m dx g' h' t',Le g g'->g'.get? m=some (mtO dx [v1,v2,v3])->St h₀ xt g₀ g' L N vs mu h'->Q (.ref m) {s with heap:=h',toks:=t'}) :
 wpAny (model pw w) A (call (.ref 135) [v1,v2,v3]) Q E s:=by
 obtain ⟨oN,oS,X',k⟩:=km_in X
 have XX:(KM oN oS).In s.heap:=X'.keeps F.keep
 have hC:=XX 135 mtCls rfl
 have lc:=L_call (M:=model pw w) XX
 have li:=L_inst (M:=model pw w) XX
 have lm:=L_mro (M:=model pw w) XX
 have lb:=L_made (M:=model pw w) XX
 refine wpAny_call (codeAny_of_tree ?_)
 show wpAny _ _ (callAny (.ref 135) _) _ _ _
 refine nd_load hC ?_
 show wpAny _ _ (callAny.viaDunder (.ref 135) _) _ _ _
 unfold callAny.viaDunder
 refine wpAny_bind (lc.here ?_)
 dsimp only
 rw [tc_bind]
 refine wpAny_bind (wpAny_pure (wpAny_bind (wpAny_pure ?_)))
 refine wpAny_pure (a:=Fin.again (.call (.builtin "type.__call__") ⟨[.ref 135,v1,v2,v3],[]⟩)) (And.intro rfl ?_)
 refine codeAny_call_builtin_at (Code.quiet_builtin _ (by decide +kernel)) entry_typeCall (check_slot tc_kind tc_split li (tc_args _ _ _) ?_)
 unfold Builtin.«type.__call__»
 dsimp only
 rw [if_neg (by decide)]
 refine wpAny_bind (lm.here ?_)
 rw [if_neg (by decide)]
 refine wpAny_bind (lb.here ?_)
 dsimp only
 refine wpAny_bind ?_
 refine cls_bind XX (reads_m k) (cls_new k) ?_
 refine sget XX ?_
 refine wpAny_of_eq (a:=Value.ref 82) rfl ?_
 refine wpAny_bind (wpAny_holding ?_)
 refine call_c (s:={s with toks:=s.toks+1}) F (mnew_gives (n:=n) (s:={s with toks:=s.toks+1}) X F.keep ((hA.under (w_tc 135 [v1,v2,v3]) (u_tc 135 [v1,v2,v3])).le (by exact zz30)) v1 v2 v3) fun g₂ h₂ t₂ v k₂ F₂ p=>?_
 obtain ⟨m,dx,rfl,hm⟩:=p
 have X₂:=X'.keeps (k₂.tr F₂.keep)
 have hmm:=F₂.keep _ _ hm
 have ls:=L_self (M:=model pw w) X₂
 have lt:=L_top (M:=model pw w) X₂
 have ty:Looks (model pw w) h₂ (typeOf (.ref m)) (.ref 135):=(Looks.ld hmm).andThen .now
 have l1:Looks (model pw w) h₂ (isInstance (.ref m) (.ref 135)) true:=ty.andThen ls
 refine wpAny_bind (l1.here ?_)
 rw [if_neg (by decide)]
 refine wpAny_bind (wpAny_holding ?_)
 have l2:=L_init (M:=model pw w) X₂ k
 have l3:=L_made (M:=model pw w) X₂
 have fin:∀A'',wpAny (model pw w) A'' (call (.builtin "object.__init__") [.ref m,v1,v2,v3]) (fun v s'=>v=.none/\Q (.ref m) s') (fun _ _=>False) {s with heap:=h₂,toks:=t₂}:=by
  intro A''
  refine wpAny_call (codeAny_call_builtin oi_plain entry_oi (@check_slot (model pw w) _ _ _ "object.__init__" "object" "__init__" (.ref m) [v1,v2,v3] [] _ oi_kind oi_split (ty.andThen lt) (by unfold argsOk;kernel_rfl) ?_))
  unfold Builtin.«object.__init__»
  dsimp only
  rw [if_pos (by rfl)]
  refine wpAny_bind (ty.here ?_)
  refine wpAny_bind (l2.here ?_)
  refine wpAny_bind (l3.here ?_)
  rw [if_neg (by decide),if_neg (by decide)]
  exact wpAny_pure ⟨rfl,h m dx g₂ h₂ t₂ k₂ hm F₂⟩
 unfold callSpecial? specialOf
 refine wpAny_bind (wpAny_bind (ty.here ?_))
 refine l2.here ?_
 dsimp only
 refine wpAny_holding (wpAny_bind ?_)
 rw [oi_bind]
 refine wpAny_pure (wpAny_bind (wpAny_mono (fin _) (fun v s' z=>?_) fun _ _ z=>z.elim))
 obtain ⟨rfl,z⟩:=z
 refine wpAny_pure ?_
 dsimp only
 rw [if_neg (by decide)]
 exact wpAny_pure z
end
section
variable{oN oS:Obj}{M:Model}{h:Heap}
theorem find_len(h:KMok oN oS):findIn (KM oN oS) (.ref 135) "__len__"=some (some (.builtin "tuple.__len__")):=by
 show alongIn (KM oN oS) _ [.ref 135,.type "tuple",.type "object"]=_
 unfold alongIn
 rw [own_m h (i:=5) rfl]
 kernel_rfl
end
section
variable{w:World}{A:Around}{E:Value->Shared->Prop}{s:Shared}{oN oS:Obj}
variable{h₀ g₀ g:Heap}{xt:List Addr}{L:Addr}{N:List Str}{vs:List (Option Value)}{mu:List (Addr×Obj)}{n:Nat}
theorem tl_kind:builtinKind "tuple.__len__"=some .slot:=by decide +kernel
theorem tl_split:splitId "tuple.__len__"=some ("tuple","__len__"):=by decide +kernel
theorem tl_args(a:Value):argsOk "tuple.__len__" ⟨[a],[]⟩:=by unfold argsOk;kernel_rfl
theorem tl_plain:plainId "tuple.__len__"=true:=by decide +kernel
theorem tl_entry:entryFor table "tuple.__len__"=some Builtin.«tuple.__len__»:=entryFor_of_tree (by kernel_rfl)
theorem tl_bind(self:Value):bindSpecial (.builtin "tuple.__len__") self=pure (.builtin "tuple.__len__",[self]) :=
 (Slot.of (T:="tuple") (name:="__len__") (owner:="tuple") (n:="__len__") (by rw [typeLookup_type,builtinLookup_eq_fast];kernel_rfl) (by decide +kernel) (by decide +kernel) (by decide +kernel)
  (.inl (by decide +kernel)) (by rw [isSubtype_type];kernel_rfl)).bind self
theorem len_mt{m dx:Addr}{items:List Value}{Q:Value->Shared->Prop}(X:Sm2 g)(kg:Le g s.heap)(hm:g.get? m=some (mtO dx items))(hz:items.length<=1000)
 (hq:∀t t',Q (.int (items.length:Int) t) {s with toks:=t'}):wpAny (model pw w) A (call (.builtin "len") [.ref m]) Q E s:=by
 obtain ⟨oN,oS,X',k⟩:=km_in X
 have XX:(KM oN oS).In s.heap:=X'.keeps kg
 have hmm:=kg _ _ hm
 have ty:Looks (model pw w) s.heap (typeOf (.ref m)) (.ref 135):=(Looks.ld hmm).andThen .now
 have l0:=looks_findIn (M:=model pw w) XX (find_len k)
 have l1:=L_sub (M:=model pw w) XX
 refine call_function_entry kind_len plain_len entry_len (args_len1 _) ?_
 unfold Builtin.«len»
 refine wpAny_bind (m:=oneArg "len" _) (wpAny_pure ?_)
 refine wpAny_bind (m:=callSpecial? (.ref m) (Str.ofString "__len__")) ?_
 unfold callSpecial? specialOf
 refine wpAny_bind (wpAny_bind (ty.here (l0.here ?_)))
 dsimp only
 refine wpAny_holding (wpAny_bind ?_)
 rw [tl_bind]
 refine wpAny_pure (wpAny_bind ?_)
 refine wpAny_call (codeAny_call_builtin tl_plain tl_entry (@check_slot (model pw w) _ _ _ "tuple.__len__" "tuple" "__len__" (.ref m) [] [] _ tl_kind tl_split (ty.andThen l1) (tl_args _) ?_))
 unfold Builtin.«tuple.__len__»
 refine wpAny_bind (m:=slotArgs _ _ _) (wpAny_pure ?_)
 dsimp only
 unfold Builtin.Tuple.tupleItemsOf seqItems?
 repeat (first|with_reducible refine wpAny_loadPart hmm ?_|with_reducible refine wpAny_load hmm ?_|with_reducible refine wpAny_bind ?_|with_reducible refine wpAny_pure ?_)
 refine wpAny_mono (Q:=fun fin s'=>∃v,fin=.done (.ret v)/\v=.int (items.toArray.size:Int) s.toks/\s'={s with toks:=s.toks+1}) (E:=fun _ _=>False) (wpAny_ret_mkInt ⟨rfl,rfl⟩) (fun fin s' z=>?_) fun _ _ z=>z.elim
 obtain ⟨_,rfl,rfl,rfl⟩:=z
 dsimp only
 refine wpAny_pure ?_
 dsimp only
 refine wpAny_bind (wpAny_holding (wpAny_pure ?_))
 refine wpAny_bind (wpAny_letGo ?_)
 show wpAny _ _ (if ((items.toArray.size:Nat):Int)<0 then _ else _) _ _ _
 rw [if_neg (by exact zz0)]
 show wpAny _ _ (if ((items.toArray.size:Nat):Int)≥2^63 then _ else _) _ _ _
 rw [if_neg (by simp;exact zz31 hz)]
 refine wpAny_bind (wpAny_mkInt (wpAny_pure ⟨_,rfl,?_⟩))
 simpa using hq _ _
theorem make_gives{T:Addr}{items:List Value}(X:Sm2 g)(kg:Le g s.heap)(hA:Ok A (n+1))(hT:g.get? T=some (tupObj items))(h3:items.length=3) :
 Gives pw w A (.call (.ref 89) ⟨[.ref 135,.ref T],[]⟩) s [] g (fun g' _ v=>∃m dx,v=.ref m/\g'.get? m=some (mtO dx items)):=by
 have h89:=X.ob2 (89,fnObj fdMMake) (.tail _ (.tail _ (.tail _ (.tail _ (.head _)))))
 refine Gives.enter (fd:=fdMMake) (body:=bodyMMake) [.ref 135,.ref T] ["cls","iterable"] ["result"] ["tuple","len","TypeError"] [] (kg _ _ h89) rfl (X.lim.keeps kg) (X.mkrec.keeps kg) hA rfl (BindsTo.of_eq rfl) rfl (by decide +kernel) kg (fun p hp=>nomatch hp) .nil fun h₁ env A' t' hA' C F=>?_
 dsimp only [List.map_cons,List.map_nil,List.append_nil,List.cons_append,List.nil_append] at F C
 refine doc_ C fun t'=>?_
 refine wpAny_execs_cons ?_
 refine wpAny_Assign_Name ?_
 refine ME2 rfl rfl ?_
 refine N_tuple C X.toStat F.keep (.head _) ?_
 intro pl
 dsimp only
 refine meth_type (T:="tuple") (name:="__new__") (v:=.builtin "tuple.__new__") ty_tuple st_tuple find_tnew hi_tnew ?_
 dsimp only
 refine ld0 C F ?_
 refine ld1 C F ?_
 refine ⟨trivial,?_⟩
 refine tnew F X (.inl hT) (by exact zz32 h3) fun m dx g₃ h' k3 hm F=>?_
 refine st2 C F fun h' F=>?_
 dsimp only
 refine wpAny_execs_cons ?_
 refine wpAny_If (wpAny_isTrue_Compare1 ?_)
 refine C1 (N_len C (X.up k3).toStat F.keep (.tail _ (.head _)) ?_)
 refine ld2 C F ⟨trivial,?_⟩
 refine len_mt (X.up k3) F.keep hm (by exact zz32 h3) fun t t'=>?_
 refine wpAny_Constant_int (P.ne_int (wpAny_truthy_bool ?_))
 rw [if_neg (by simp [h3])]
 refine wpAny_execs_nil ?_
 refine wpAny_execs_cons ?_
 refine wpAny_Return_some ?_
 refine ld2 C F ?_
 exact ends F ⟨m,dx,rfl,hm⟩
theorem bd_call{a:Addr}{v:Value}{Q:Value->Shared->Prop}(ha:s.heap.get? a=some bdO)(h:∀R:Result->Shared->Prop,(∀v s',Q v s'->R (.ok (.ret v)) s')->codeAny (model pw w) A (.call (.ref 89) ⟨[.ref 135,v],[]⟩) R s):wpAny (model pw w) A (call (.ref a) [v]) Q E s:=by
 refine wpAny_call (codeAny_of_tree ?_)
 show wpAny _ _ (callAny (.ref a) _) _ _ _
 unfold callAny
 refine wpAny_bind (wpAny_load ha ?_)
 dsimp only
 rw [if_pos (by decide)]
 show wpAny _ _ (again (.call (.ref 89) ⟨[.ref 135,v],[]⟩)) _ _ _
 exact wpAny_pure ⟨rfl,h _ fun v s' z=>z⟩
end
section
variable{prog:Program}{w:World}{A:Around}{s:Shared}{env:Env}{E:Value->Shared->Prop}{N Gl:List Str}
end
structure SS where
 bi:Nat
 bj:Nat
 bk:Nat
 prev:Option (Nat×Nat)
noncomputable def ranOn(p:Option (Nat×Nat))(j:Nat):Nat:=match p with|some (j',k')=>if j'+1=j then k' else 0|none=>0
noncomputable def hit(blo bhi i j:Nat)(s:SS):SS :=
 if j<blo\/bhi<=j then {s with prev:=none}
 else if s.bk<ranOn s.prev j+1 then ⟨i+1-(ranOn s.prev j+1),j+1-(ranOn s.prev j+1),ranOn s.prev j+1,some (j,ranOn s.prev j+1)⟩
 else {s with prev:=some (j,ranOn s.prev j+1)}
noncomputable def row(A B:List Str)(blo bhi i:Nat)(s:SS):SS :=
 match (A[i]?).bind fun x=>B.idxOf? x with
 | none=>{s with prev:=none}
 | some j=>hit blo bhi i j s
noncomputable def scan(A B:List Str)(blo bhi:Nat):Nat->Nat->SS->SS
 | 0,_,s=>s
 | n+1,i,s=>scan A B blo bhi n (i+1) (row A B blo bhi i s)
theorem scan_snoc(A B:List Str)(blo bhi:Nat):∀(n i:Nat) (s:SS),scan A B blo bhi (n+1) i s=row A B blo bhi (i+n) (scan A B blo bhi n i s)
 | 0,i,s=>rfl
 | n+1,i,s=>by
  rw [scan,scan_snoc A B blo bhi n (i+1),scan,show i+1+n=i+(n+1) by exact zz120]
noncomputable def SSok(i:Nat)(s:SS):Prop:=∀j k,s.prev=some (j,k)->k<=i/\k<=j+1
theorem ranOn_le{i j:Nat}{s:SS}(h:SSok i s):ranOn s.prev j<=i/\ranOn s.prev j<=j:=by
 unfold ranOn
 cases q:s.prev with
 | none=>simp
 | some p =>
  obtain ⟨j',k'⟩:=p
  have:=h j' k' q
  dsimp only
  split<;>lia
theorem hit_ok{blo bhi i j:Nat}{s:SS}(h:SSok i s):SSok (i+1) (hit blo bhi i j s):=by
 have:=ranOn_le (j:=j) h
 intro j' k' e
 unfold hit at e
 split at e
 · cases e
 · split at e
   · simp at e;exact zz121 this e
   · simp at e;exact zz121 this e
theorem row_ok{A B:List Str}{blo bhi i:Nat}{s:SS}(h:SSok i s):SSok (i+1) (row A B blo bhi i s):=by
 unfold row
 split
 · intro j k e;cases e
 · exact hit_ok h
theorem scan_ok{A B:List Str}{blo bhi:Nat}:∀{n i:Nat} {s:SS},SSok i s->SSok (i+n) (scan A B blo bhi n i s)
 | 0,i,s,h=>h
 | n+1,i,s,h=>by
  rw [scan_snoc]
  exact row_ok (scan_ok h)
noncomputable def first(alo blo:Nat):SS:=⟨alo,blo,0,none⟩
theorem first_ok(alo blo:Nat):SSok alo (first alo blo):=fun j k e=>by cases e
noncomputable def Pv(p:Option (Nat×Nat))(es:List DictEntry):Prop:=match p with
 | none=>es=[]
 | some (j,k)=>∃t u,es=[⟨hashInt j,.int j t,.int k u⟩]
theorem Pv.keys{prog:Program}{w:World}{p:Option (Nat×Nat)}{es:List DictEntry}(h:Pv p es):KeysOf (intKind prog w) es.toArray:=by
 intro e he
 rw [List.mem_toArray] at he
 unfold Pv at h
 split at h
 · subst h;simp at he
 · rename_i j k
   obtain ⟨t,u,rfl⟩:=h
   rw [List.mem_singleton] at he
   subst he
   exact ⟨(j:Int),by show Value.isInt (j:Int) (.int (j:Int) t)=true;simp [Value.isInt],rfl⟩
theorem Pv.find{prog:Program}{w:World}{p:Option (Nat×Nat)}{es:List DictEntry}(h:Pv p es)(j:Nat)(u₀:Tok):∃u,(findBy (intKind prog w).is es.toArray ((j:Int)-1)).getD (.int 0 u₀)=.int (ranOn p j:Int) u:=by
 unfold Pv at h
 split at h
 · subst h;exact ⟨u₀,rfl⟩
 · rename_i j' k'
   obtain ⟨t,u,rfl⟩:=h
   unfold findBy ranOn
   rw [List.find?_toArray,List.find?_cons]
   show ∃u₁,(Option.map _ (match Value.isInt ((j:Int)-1) (.int (j':Int) t) with|true=>_|false=>_)).getD _=_
   dsimp only
   by_cases q:j'+1=j
   · subst q
     rw [if_pos rfl]
     have:Value.isInt (((j'+1:Nat):Int)-1) (.int (j':Int) t)=true:=by simp [Value.isInt]
     rw [this]
     exact ⟨u,rfl⟩
   · rw [if_neg q]
     have:Value.isInt ((j:Int)-1) (.int (j':Int) t)=false:=by simp [Value.isInt];exact zz122 q
     rw [this]
     exact ⟨u₀,rfl⟩
theorem idx_at{B:List Str}{x:Str}{j:Nat}(h:B.idxOf? x=some j):B[j]?=some x:=by
 rw [List.idxOf?,List.findIdx?_eq_some_iff_getElem] at h
 obtain ⟨l,a1,_⟩:=h
 rw [List.getElem?_eq_getElem l,eq_of_beq a1]
theorem idx_of{B:List Str}(hn:B.Nodup){x:Str}{j:Nat}(h:B[j]?=some x):B.idxOf? x=some j:=by
 cases q:B.idxOf? x with
 | none =>
  rw [List.idxOf?,List.findIdx?_eq_none_iff] at q
  have:=q x (List.mem_of_getElem? h)
  simp at this
 | some i =>
  have e:=idx_at q
  have:=(List.getElem?_inj (List.getElem?_eq_some_iff.mp e).1 hn).mp (e.trans h.symm)
  rw [this]
theorem B2j.find{prog:Program}{w:World}{g:Heap}{l:List (Str×Tok)}{es:List DictEntry}(h:B2j w g l es)(hn:(l.map (·.1)).Nodup)(x:Str) :
 ((l.map (·.1)).idxOf? x=none/\findBy (strKind prog w).is es.toArray x=none)\/∃j r k t,(l.map (·.1)).idxOf? x=some j/\findBy (strKind prog w).is es.toArray x=some (.ref r)/\g.get? r=some (lstObj [.int (j:Int) t] k):=by
 unfold findBy
 rw [List.find?_toArray]
 cases q:es.find? (fun e=>(strKind prog w).is x e.key) with
 | some e =>
  refine .inr ?_
  obtain ⟨i,y,t,r,a,b,rfl⟩:=h.at' (List.mem_of_find?_eq_some q)
  have z:=List.find?_some q
  have z':(y==x)=true:=z
  have:=eq_of_beq z'
  subst this
  obtain ⟨r',k,t',a',b'⟩:=h.2 i y t a
  rw [b] at a'
  have er:r=r':=by simpa using a'
  subst er
  exact ⟨i,r,k,t',idx_of hn (by rw [List.getElem?_map,a];rfl),rfl,b'⟩
 | none =>
  refine .inl ⟨?_,rfl⟩
  cases q2:(l.map (·.1)).idxOf? x with
  | none=>rfl
  | some i =>
   have e:=idx_at q2
   rw [List.getElem?_map] at e
   obtain ⟨⟨y,t⟩,a,rfl⟩:=Option.map_eq_some_iff.mp e
   obtain ⟨r,k,t',b,_⟩:=h.2 i y t a
   have:=List.find?_eq_none.mp q _ (List.mem_of_getElem? b)
   exact absurd (show (strKind prog w).is y (.str y t)=true by show Value.isStrOf y (.str y t)=true;simp [Value.isStrOf]) this
theorem int_is{prog:Program}{w:World}{k:Int}{t:Tok}:(intKind prog w).is k (.int k t)=true:=by show Value.isInt k (.int k t)=true;simp [Value.isInt]
theorem str_is{prog:Program}{w:World}{k:Str}{t:Tok}:(strKind prog w).is k (.str k t)=true:=by show Value.isStrOf k (.str k t)=true;simp [Value.isStrOf]
section
variable{M:Model}{A:Around}{E:Value->Shared->Prop}{s:Shared}{env:Env}
theorem keep_bm{m d:Addr}{i:String}{R:Keeper->Shared->Prop}(ho:s.heap.get? m=some (bmO i d))(r:R .machine s):wpAny M A (keeperOf (.ref m)) R E s:=wpAny_bind (wpAny_load ho (wpAny_pure r))
theorem C1b{id:Str}{p pos:Pos}{a:Expr}{Q:Value->Shared->Prop}(h:wpAny M A (eval (.Name id p) env) (fun f s₁=>∃m,f=.ref m/\wpAny M A (eval a env) (fun v s₂=>∃d i,s₂.heap.get? m=some (bmO i d)/\wpAny M A (call f [v]) Q E s₂) E s₁) E s)
 (he:autoParam (starEach [a] env=[(false,eval a env)]) au0):wpAny M A (eval (.Call (.Name id p) [a] [] pos) env) Q E s:=by
 rw [arm_eval_Call_Name',he]
 refine wpAny_bind (wpAny_mono h (fun f s₁ h₁=>?_) fun _ _ e=>e)
 obtain ⟨m,rfl,h₁⟩:=h₁
 refine callWith_k rfl (wpAny_mono (Q:=fun x s₂=>∃d i,s₂.heap.get? m=some (bmO i d)/\wpAny M A (call (.ref m) x.pos x.kw) Q E s₂) (evalArgs_plain (spliced_cons (wpAny_mono h₁ (fun v s₂ h₂=>spliced_nil h₂) fun _ _ e=>e))) (fun x s₂ ⟨d,i,ho,hc⟩=>⟨⟨.machine,.inl rfl,fun R r=>?_⟩,hc⟩) fun _ _ e=>e)
 exact keep_bm ho r
theorem C2b{id:Str}{p pos:Pos}{a b:Expr}{Q:Value->Shared->Prop}(h:wpAny M A (eval (.Name id p) env) (fun f s₁=>∃m,f=.ref m/\wpAny M A (eval a env) (fun v s₂=>wpAny M A (eval b env) (fun u s₃=>∃d i,s₃.heap.get? m=some (bmO i d)/\wpAny M A (call f [v,u]) Q E s₃) E s₂) E s₁) E s)
 (he:autoParam (starEach [a,b] env=[(false,eval a env),(false,eval b env)]) au0):wpAny M A (eval (.Call (.Name id p) [a,b] [] pos) env) Q E s:=by
 rw [arm_eval_Call_Name',he]
 refine wpAny_bind (wpAny_mono h (fun f s₁ h₁=>?_) fun _ _ e=>e)
 obtain ⟨m,rfl,h₁⟩:=h₁
 refine callWith_k rfl (wpAny_mono (Q:=fun x s₂=>∃d i,s₂.heap.get? m=some (bmO i d)/\wpAny M A (call (.ref m) x.pos x.kw) Q E s₂) (evalArgs_plain (spliced_cons (wpAny_mono h₁ (fun v s₂ h₂=>spliced_cons (wpAny_mono h₂ (fun u s₃ h₃=>spliced_nil h₃) fun _ _ e=>e)) fun _ _ e=>e))) (fun x s₂ ⟨d,i,ho,hc⟩=>⟨⟨.machine,.inl rfl,fun R r=>?_⟩,hc⟩) fun _ _ e=>e)
 exact keep_bm ho r
theorem asgS{o i:Expr}{pos:Pos}{v:Value}{Q:Unit->Shared->Prop}(h:wpAny M A (eval o env) (fun ov s₁=>wpAny M A (eval i env) (fun iv s₂=>wpAny M A (setItem ov iv v) (fun _=>Q ()) E s₂) E s₁) E s):wpAny M A (assign (.Subscript o i pos) env v) Q E s:=by
 rw [arm_assign_Subscript]
 exact wpAny_bind (wpAny_holding (wpAny_mono h (fun ov s₁ h₁=>wpAny_bind (wpAny_holding (wpAny_mono h₁ (fun iv s₂ h₂=>wpAny_bind (wpAny_standAt (wpAny_bind (wpAny_holding (wpAny_mono h₂ (fun _ s₃ h₃=>wpAny_release h₃) fun _ _ e=>e))))) fun _ _ e=>e))) fun _ _ e=>e))
theorem C3k{id:Str}{p pos:Pos}{a b c:Expr}{Q:Value->Shared->Prop} (h:wpAny M A (eval (.Name id p) env) (fun f s₁=>∃m,f=.ref m/\wpAny M A (eval a env) (fun v s₂=>wpAny M A (eval b env) (fun u s₃=>wpAny M A (eval c env) (fun x s₄ =>
 (∃oc od cd sl,s₄.heap.get? m=some ⟨oc,od,.cls cd,sl⟩)/\Looks M s₄.heap (specialOf (.ref m) "__call__") (some (.builtin "type.__call__"))/\wpAny M A (call f [v,u,x]) Q E s₄) E s₃) E s₂) E s₁) E s)
 (he:autoParam (starEach [a,b,c] env=[(false,eval a env),(false,eval b env),(false,eval c env)]) au0):wpAny M A (eval (.Call (.Name id p) [a,b,c] [] pos) env) Q E s:=by
 rw [arm_eval_Call_Name',he]
 refine wpAny_bind (wpAny_mono h (fun f s₁ h₁=>?_) fun _ _ e=>e)
 obtain ⟨m,rfl,h₁⟩:=h₁
 refine callWith_k rfl (wpAny_mono (Q:=fun x s₂=>(∃oc od cd sl,s₂.heap.get? m=some ⟨oc,od,.cls cd,sl⟩)/\Looks M s₂.heap (specialOf (.ref m) "__call__") (some (.builtin "type.__call__"))/\wpAny M A (call (.ref m) x.pos x.kw) Q E s₂) (evalArgs_plain (spliced_cons (wpAny_mono h₁ (fun v s₂ h₂=>spliced_cons (wpAny_mono h₂ (fun u s₃ h₃=>spliced_cons (wpAny_mono h₃ (fun z s₄ h₄=>spliced_nil h₄) fun _ _ e=>e)) fun _ _ e=>e)) fun _ _ e=>e))) (fun x s₂ ⟨⟨oc,od,cd,sl,ho⟩,hl,hc⟩=>⟨⟨.machine,.inl rfl,fun R r=>?_⟩,hc⟩) fun _ _ e=>e)
 exact wpAny_bind (wpAny_load ho (wpAny_bind (hl.here (wpAny_pure r))))
end
section
variable{w:World}{A:Around}{E:Value->Shared->Prop}{s:Shared}{env:Env}
theorem addZ{a b:Int}{c:Nat}{t u:Tok}{Q:Value->Shared->Prop}(e:a+b=(c:Int))(h:Q (.int (c:Int) s.toks) {s with toks:=s.toks+1}):wpAny (model pw w) A (binaryOp .Add (.int a t) (.int b u)) Q E s :=
 wpAny_add_int (by rw [e];exact h)
theorem attrG{a:Addr}{es:List DictEntry}{n:Nat}{Q:Value->Shared->Prop}(ho:s.heap.get? a=some (dcO es n))(hq:Q (.ref s.heap.objs.size) {s with heap:=s.heap.push (bmO "dict.get" a),toks:=s.toks+1}) :
 wpAny (model pw w) A (getAttr (.ref a) "get" true) Q E s:=by
 obtain ⟨h,g,d,t,os⟩:=s
 exact attr_get ho hq
theorem attrC{a:Addr}{led:Bool}{Q:Value->Shared->Prop}(ho:s.heap.get? a=some (setO0 led))(hq:Q (.ref s.heap.objs.size) {s with heap:=s.heap.push (bmO "set.__contains__" a),toks:=s.toks+1}) :
 wpAny (model pw w) A (getAttr (.ref a) "__contains__" true) Q E s:=by
 obtain ⟨h,g,d,t,os⟩:=s
 exact attr_con ho hq
end
end Mine.Internal
namespace Mine.Internal
open PySem PySem.W PyProof.Rows PySem.Calls PySem.Spec
namespace Fr
variable{w:World}{N Gl:List Str}{c:Fr w N Gl}{g:Heap}{V:List (Option Value)}{mu:List (Addr×Obj)}{h:Heap}{t:Nat}{e a b o:Expr}{x:Str}{pos p:Pos}{rest body:List Stmt}{Q:Flow->Shared->Prop}
theorem attrCon{dj:Addr}{led:Bool}{Qv Er:Value->Shared->Prop}(F:c.S g V mu h)(He:c.E h o (fun _=>.ref dj))(ej:g.get? dj=some (setO0 led))
 (k:∀bm g' h' t',Le g g'->g'.get? bm=some (bmO "set.__contains__" dj)->c.S g' V mu h'->Qv (.ref bm) (c.st h' t')) (hb:autoParam (attributeBase o "__contains__" c.env (eval o c.env)=eval o c.env) au0):wpAny (model pw w) c.A (eval (.Attribute o "__contains__" pos) c.env) Qv Er (c.st h t):=by
 refine getE hb (He _ _ t fun _ t1=>attrC (s:=c.st h t1) (F.keep _ _ ej) ?_)
 obtain ⟨g',k',e,F'⟩:=St.made F (bmO "set.__contains__" dj)
 exact k _ g' _ _ k' e F'
theorem attrGet{d:Addr}{es:List DictEntry}{n:Nat}{Qv Er:Value->Shared->Prop}(F:c.S g V mu h)(He:c.E h o (fun _=>.ref d))(ej:g.get? d=some (dcO es n))
 (k:∀bm g' h' t',Le g g'->g'.get? bm=some (bmO "dict.get" d)->c.S g' V mu h'->Qv (.ref bm) (c.st h' t')) (hb:autoParam (attributeBase o "get" c.env (eval o c.env)=eval o c.env) au0):wpAny (model pw w) c.A (eval (.Attribute o "get" pos) c.env) Qv Er (c.st h t):=by
 refine getE hb (He _ _ t fun _ t1=>attrG (s:=c.st h t1) (F.keep _ _ ej) ?_)
 obtain ⟨g',k',e,F'⟩:=St.made F (bmO "dict.get" d)
 exact k _ g' _ _ k' e F'
theorem xGet{d:Addr}{es:List DictEntry}{n:Nat}(i:Nat)(F:c.S g V mu h)(He:c.E h o (fun _=>.ref d))(ej:g.get? d=some (dcO es n))
 (H:∀bm,let V':=V.set i (some (.ref bm));∀g' h' t',Le g g'->g'.get? bm=some (bmO "dict.get" d)->c.S g' V' mu h'->c.X rest Q h' t') (hb:autoParam (attributeBase o "get" c.env (eval o c.env)=eval o c.env) au0)
 {pa:Pos} (hs:autoParam (swapsWith (.Attribute o "get" pa) (some (.Name x p)) pos.line c.env=pure false) au0) (hx:autoParam (N[i]?=some x) au0):c.X (.Assign [.Name x p] (.Attribute o "get" pa) pos::rest) Q h t :=
 xLet i (attrGet F He ej (fun bm g' h' t' k e F'=>⟨h',t',g',V,mu,rfl,F',fun h2 t2 F2=>H bm g' h2 t2 k e F2⟩) hb) hs hx
theorem xDictF{p1:Pos}(i:Nat)(F:c.S g V mu h)(hz:1<c.h₀.objs.size)
 (H:∀d,d≠sysModules->let V':=V.set i (some (.ref d));∀g' h' t',Le g g'->g'.get? d=some (dcO [] 0)->c.S g' V' mu h'->c.X rest Q h' t')
 (hs:autoParam (swapsWith (.Dict [] [] p1) (some (.Name x p)) pos.line c.env=pure false) au0) (hx:autoParam (N[i]?=some x) au0):c.X (.Assign [.Name x p] (.Dict [] [] p1) pos::rest) Q h t:=by
 refine xLet i (wpAny_Dict_empty ?_) hs hx
 obtain ⟨g',k',e,F'⟩:=St.made F (dcO [] 0)
 exact ⟨_,_,g',V,mu,rfl,F',fun h2 t2 F2=>H _ (ne_sys hz F) g' h2 t2 k' e F2⟩
theorem xDictO{p1:Pos}(i:Nat)(F:c.S g V mu h)(hz:1<c.h₀.objs.size)
 (H:∀d,d≠sysModules->c.h₀.objs.size<=d->let V':=V.set i (some (.ref d));∀h' t',c.S g V' ((d,dcO [] 0)::mu) h'->c.X rest Q h' t')
 (hs:autoParam (swapsWith (.Dict [] [] p1) (some (.Name x p)) pos.line c.env=pure false) au0) (hx:autoParam (N[i]?=some x) au0):c.X (.Assign [.Name x p] (.Dict [] [] p1) pos::rest) Q h t:=by
 refine xLet i (wpAny_Dict_empty ?_) hs hx
 exact ⟨_,_,g,V,_,rfl,St.own F (dcO [] 0),fun h2 t2 F2=>H _ (ne_sys hz F) (lowSz F) h2 t2 F2⟩
theorem tJunk{bm dj:Addr}{led:Bool}{y:Str}{ty:Tok}{pp:Pos}(Hf:c.E h (.Name x pp) (fun _=>.ref bm))(He:c.E h e (fun _=>.str y ty))(hb:h.get? bm=some (bmO "set.__contains__" dj))(hd:h.get? dj=some (setO0 led))
 (he:autoParam (starEach [e] c.env=[(false,eval e c.env)]) au0) (hi:autoParam (isTrue (.Call (.Name x pp) [e] [] pos) c.env (eval (.Call (.Name x pp) [e] [] pos) c.env)=(do let v←eval (.Call (.Name x pp) [e] [] pos) c.env;standAt pos;holding [v] (truthy v))) au0) :
 c.T h (.Call (.Name x pp) [e] [] pos) false:=fun Er Q t q =>
 wpAny_isTrue_value (C1b (Hf _ _ t fun _ t1=>⟨bm,rfl,He _ _ t1 fun _ t2=>⟨dj,"set.__contains__",hb,junk hb hd (wpAny_truthy_bool (q _))⟩⟩) he) hi
theorem dictGet{d:Addr}{es:List DictEntry}{n:Nat}{o k1 k2:Expr}{y:Str}{ty:Tok}{v0 v:Value}{pa:Pos}(Ho:c.E h o (fun _=>.ref d))(H1:c.E h k1 (fun _=>.str y ty))(H2:c.E h k2 (fun _=>v0))(hd:h.get? d=some (dcO es n))(dbs:d≠sysModules)
 (hk:KeysOf (strKind pw w) es.toArray) (e:(findBy (strKind pw w).is es.toArray y).getD v0=v) (hb:autoParam (attributeBase o "get" c.env (eval o c.env)=eval o c.env) au0) (hs:autoParam (starEach [k1,k2] c.env=[(false,eval k1 c.env),(false,eval k2 c.env)]) au0) (hl:autoParam ((pa.endLine==pos.line)=true) au0) :
 c.E h (.Call (.Attribute o "get" pa) [k1,k2] [] pos) (fun _=>v):=fun Er Q t q =>
 Call_method2 hb hs hl (Ho _ _ t fun _ t=>M_get (knd:=strKind pw w) hd dbs (H1 _ _ t fun _ t=>H2 _ _ t fun _ t=>⟨y,es,n,str_is,hd,hk,by rw [e];exact q 0 _⟩))
end Fr
end Mine.Internal
namespace Mine.Internal
open PySem PySem.W PyProof.Rows PySem.Calls PySem.Spec
structure Ready(w:World)(g h:Heap)(x dx la lb db dj dp:Addr)(TA TB:List (Str×Tok))(mb oc:Value):Prop where
 hx:g.get? x=some (instO dx)
 me:Me h x dx [.none,.ref la,.ref lb,.bool true,mb,oc,.none,.ref db,.ref dj,.ref dp]
 a:∃k,g.get? la=some (lstObj (strValues TA) k)
 b:∃k,g.get? lb=some (lstObj (strValues TB) k)
 b2:∃es n,g.get? db=some (dcO es n)/\B2j w g TB es
 dbs:db≠sysModules
 jk:∃led,g.get? dj=some (setO0 led)
 nb:(TB.map (·.1)).Nodup
 szA:TA.length<200
 szB:TB.length<200
noncomputable def HiOk(v:Value)(len n:Nat):Prop:=(∃t,v=.int (n:Int) t)\/(v=.none/\n=len)
structure Stop(A B:List Str)(alo ahi blo bhi:Nat)(S:SS):Prop where
 bef:alo<S.bi->blo<S.bj->A[S.bi-1]?≠B[S.bj-1]?
 aft:S.bi+S.bk<ahi->S.bj+S.bk<bhi->A[S.bi+S.bk]?≠B[S.bj+S.bk]?
 li:S.bi+S.bk<=A.length
 lj:S.bj+S.bk<=B.length
section
variable{w:World}{A:Around}{s:Shared}{g:Heap}{n:Nat}{x dx la lb db dj dp:Addr}{TA TB:List (Str×Tok)}{mb oc:Value}
noncomputable abbrev nFind:List Str:=["self","alo","ahi","blo","bhi","a","b","b2j","isbjunk","besti","bestj","bestsize","j2len","nothing","i","j2lenget","newj2len","j","k"]
noncomputable abbrev gFind:List Str:=["len","range","Match"]
theorem B2j.findK{prog:Program}{g:Heap}{l:List (Str×Tok)}{es:List DictEntry}(h:B2j w g l es)(hn:(l.map (·.1)).Nodup)(x:Str){G:Prop}
 (k1:(l.map (·.1)).idxOf? x=none->findBy (strKind prog w).is es.toArray x=none->G)
 (k2:∀j r k t,(l.map (·.1)).idxOf? x=some j->findBy (strKind prog w).is es.toArray x=some (.ref r)->g.get? r=some (lstObj [.int (j:Int) t] k)->j<l.length->G):G:=by
 rcases h.find (prog:=prog) hn x with ⟨a,b⟩|⟨j,r,k,t,a,b,c⟩
 · exact k1 a b
 · exact k2 j r k t a b c (by have:=(List.getElem?_eq_some_iff.mp (idx_at a)).1;simpa using this)
theorem strV{T:List (Str×Tok)}{i:Nat}{p:Str×Tok}(h:T[i]?=some p):(strValues T)[i]?=some (.str p.1 p.2):=by rw [strValues,List.getElem?_map,h];rfl
theorem lenV{T:List (Str×Tok)}(h:T.length<200):(strValues T).length<=16777216:=by simp [strValues];exact zz115 h
theorem lenE{T:List (Str×Tok)}{n:Nat}(h:n=T.length):((strValues T).length:Int)=(n:Int):=by simp [strValues,h]
theorem lt60{a b m:Nat}(h1:b<=m)(h2:m<200)(h3:a<=b):a<2^60:=by lia
theorem lt40{a m:Nat}(h1:a<m)(h2:m<200):a<2^40:=by lia
theorem pred{n:Nat}(h:0<n):(n:Int)-1=((n-1:Nat):Int):=by exact zz123 h
theorem lt_of{α:Type}{l:List α}{i:Nat}{y:α}(h:l[i]?=some y):i<l.length:=(List.getElem?_eq_some_iff.mp h).1
theorem le_map{α β:Type}{l:List α}{f:α->β}{n:Nat}(h:n<=(l.map f).length):n<=l.length:=by rwa [List.length_map] at h
theorem str_ne{A B:List (Str×Tok)}{i j:Nat}{y z:Str×Tok}(h:(A.map (·.1))[i]?≠(B.map (·.1))[j]?)(hy:A[i]?=some y)(hz:B[j]?=some z):(y.1.cps.toList==z.1.cps.toList)=false:=by
 rw [List.getElem?_map,List.getElem?_map,hy,hz] at h
 rw [beq_eq_false_iff_ne]
 exact fun e=>h (congrArg some (str_ext e))
theorem row_none{A B:List Str}{blo bhi i:Nat}{s:SS}{y:Str}(ha:A[i]?=some y)(hb:B.idxOf? y=none):row A B blo bhi i s=⟨s.bi,s.bj,s.bk,none⟩:=by unfold row;rw [ha];show (match B.idxOf? y with|none=>_|some j=>_)=_;rw [hb]
theorem row_some{A B:List Str}{blo bhi i j:Nat}{s:SS}{y:Str}(ha:A[i]?=some y)(hb:B.idxOf? y=some j):row A B blo bhi i s=hit blo bhi i j s:=by unfold row;rw [ha];show (match B.idxOf? y with|none=>_|some j=>_)=_;rw [hb]
theorem hit_out{blo bhi i j:Nat}{s:SS}(h:j<blo\/bhi<=j):hit blo bhi i j s=⟨s.bi,s.bj,s.bk,none⟩:=by unfold hit;rw [if_pos h]
theorem hit_up{blo bhi i j q:Nat}{s:SS}(h1:¬j<blo)(h2:¬bhi<=j)(e:ranOn s.prev j=q)(h:s.bk<q+1):hit blo bhi i j s=⟨i+1-(q+1),j+1-(q+1),q+1,some (j,q+1)⟩:=by subst e;unfold hit;rw [if_neg (by exact zz124 h1 h2),if_pos h]
theorem hit_same{blo bhi i j q:Nat}{s:SS}(h1:¬j<blo)(h2:¬bhi<=j)(e:ranOn s.prev j=q)(h:¬s.bk<q+1):hit blo bhi i j s=⟨s.bi,s.bj,s.bk,some (j,q+1)⟩:=by subst e;unfold hit;rw [if_neg (by exact zz124 h1 h2),if_neg h]
theorem Fr.bgetP{N Gl:List Str}{c:Fr w N Gl}{h:Heap}{t:Nat}{m d:Addr}{es:List DictEntry}{n j:Nat}{p:Option (Nat×Nat)}{tk dk:Tok}{Qv Er:Value->Shared->Prop}(hm:h.get? m=some (bmO "dict.get" d))(hd:d≠sysModules)(ho:h.get? d=some (dcO es n))(hpv:Pv p es)
 (hq:∀u t',Qv (.int (ranOn p j:Int) u) (c.st h t')):wpAny (model pw w) c.A (call (.ref m) [.int ((j:Int)-1) tk,.int 0 dk]) Qv Er (c.st h t):=by
 refine bget (knd:=intKind pw w) (k:=(j:Int)-1) (s:=c.st h t) hm hd int_is ho hpv.keys ?_
 obtain ⟨u,e⟩:=hpv.find (prog:=pw) (w:=w) j dk
 rw [e]
 exact hq u _
theorem mt_call{N:List Str}{h₀ g₀:Heap}{xt:List Addr}{L:Addr}{vs:List (Option Value)}{mu:List (Addr×Obj)}{v1 v2 v3:Value}{Qv:Value->Shared->Prop}{E:Value->Shared->Prop}(hA:Ok A (n+3))(F:St h₀ xt g₀ g L N vs mu s.heap)(X:Sm2 g)
 (k:∀m dx g' h' t',Le g g'->g'.get? m=some (mtO dx [v1,v2,v3])->St h₀ xt g₀ g' L N vs mu h'->Qv (.ref m) {s with heap:=h',toks:=t'}) :
 (∃oc od cd sl,s.heap.get? 135=some ⟨oc,od,.cls cd,sl⟩)/\Looks (model pw w) s.heap (specialOf (.ref 135) "__call__") (some (.builtin "type.__call__"))/\wpAny (model pw w) A (call (.ref 135) [v1,v2,v3]) Qv E s:=by
 obtain ⟨oN,oS,X',_⟩:=km_in X
 have XX:(KM oN oS).In s.heap:=X'.keeps F.keep
 exact ⟨⟨_,_,_,_,XX 135 mtCls rfl⟩,L_call (M:=model pw w) XX,match_call (n:=n) hA F X k⟩
theorem find_core(X:Sm2 g)(kg:Le g s.heap)(hA:Ok A (n+5))(me:Me s.heap x dx [.none,.ref la,.ref lb,.bool true,mb,oc,.none,.ref db,.ref dj,.ref dp]){ka kb:Nat}(ea:g.get? la=some (lstObj (strValues TA) ka))(eb:g.get? lb=some (lstObj (strValues TB) kb))
 {es:List DictEntry} {en:Nat} (edb:g.get? db=some (dcO es en)) (hB:B2j w g TB es) (dbs:db≠sysModules) {led:Bool} (ej:g.get? dj=some (setO0 led)) (nb:(TB.map (·.1)).Nodup) (szA:TA.length<200) (szB:TB.length<200)
 {args:Args} {alo ahi blo bhi:Nat} {v1 v2:Value} {t1 t2:Tok}
 (hb:BindsTo s fdFind args (([("self":Str),("alo":Str),("ahi":Str),("blo":Str),("bhi":Str)]).zip [.ref x,.int (alo:Int) t1,v1,.int (blo:Int) t2,v2])) (h1:HiOk v1 TA.length ahi) (h2:HiOk v2 TB.length bhi)
 (la1:ahi<=TA.length) (lb1:bhi<=TB.length) (la0:alo<=TA.length) {SC:Nat->SS} (hS0:SC 0=first alo blo) (hS:∀k,SC (k+1)=row (TA.map (·.1)) (TB.map (·.1)) blo bhi (alo+k) (SC k)) (hSo:∀k,SSok (alo+k) (SC k))
 (hs:Stop (TA.map (·.1)) (TB.map (·.1)) alo ahi blo bhi (SC (ahi-alo))) {P:Heap->Heap->Value->Prop}
 (hP:∀g' h' m d3 t1 t2 t3,g'.get? m=some (mtO d3 [.int ((SC (ahi-alo)).bi:Int) t1,.int ((SC (ahi-alo)).bj:Int) t2,.int ((SC (ahi-alo)).bk:Int) t3])->P g' h' (.ref m)) :
 Gives pw w A (.call (.ref 196) args) s [] g P:=by
 have hz:1<s.heap.objs.size:=Nat.lt_trans (by decide) (Heap.lt_size (kg _ _ (X.fnAt 25 rfl)))
 refine Gives.fr 5 [.ref x,.int (alo:Int) t1,v1,.int (blo:Int) t2,v2] ["self","alo","ahi","blo","bhi"] ["a","b","b2j","isbjunk","besti","bestj","bestsize","j2len","nothing","i","j2lenget","newj2len","j","k"] nFind gFind rfl X.toStat kg hA rfl hb rfl rfl (by decide +kernel) ?_
 intro h₁ t' env A' QQ cx hA' c V F hQ
 refine Fr.xDoc fun t'=>?_
 refine wpAny_execs_cons (Assign_Tuple (tupE ?_))
 have up {h:Heap} {V:List (Option Value)} {mu:List (Addr×Obj)} {g':Heap} (F:c.S g' V mu h):Le s.heap h:=fun b o e=>F.base b o (fun z=>nomatch z) e
 refine sp1 ((Fr.attr (c:=c) 1 (Fr.nV 0 F) X.toSm F.keep (me.up (up F))).use fun _ t=>?_)
 refine sp1 ((Fr.attr (c:=c) 2 (Fr.nV 0 F) X.toSm F.keep (me.up (up F))).use fun _ t=>?_)
 refine sp1 ((Fr.attr (c:=c) 7 (Fr.nV 0 F) X.toSm F.keep (me.up (up F))).use fun _ t=>?_)
 refine sp1 (Fr.attrCon F (Fr.attr 8 (Fr.nV 0 F) X.toSm F.keep (me.up (up F))) ej fun bm g2 h' t' k2 ebm F=>?_)
 refine sp0 ?_
 refine newTup F fun T g₃ h' k3 eT F=>?_
 refine asT hA'.handled F eT fun h' F=>?_
 refine assignInOrder_cons (assign_Name (stI cx F 5 rfl fun h' F=>?_))
 refine assignInOrder_cons (assign_Name (stI cx F 6 rfl fun h' F=>?_))
 refine assignInOrder_cons (assign_Name (stI cx F 7 rfl fun h' F=>?_))
 refine assignInOrder_cons (assign_Name (stI cx F 8 rfl fun h' F=>assignInOrder_nil ?_))
 dsimp only
 refine Fr.asV (c:=c) F ?_
 intro V F
 have k₃:=k2.tr k3
 have X₃:=X.up k₃
 have ebm:=k3 _ _ ebm
 refine Fr.xSeq (c:=c) (fun K=>∀u h t,c.S g₃ (V.set 2 (some (.int (ahi:Int) u))) [] h->K h t) (fun K hK=>?_) fun u1 h' t F=>?_
 · refine h1.elim (fun ⟨u,e⟩=>?_) fun ⟨e,q⟩=>?_
   · exact Fr.xIf0 (Fr.tIsN ((Fr.nV 2 F).eq e) rfl (.inl ⟨_,_,rfl⟩)) fun t=>Fr.nNext (hK u _ _ (Fr.S.same F (congrArg (fun v=>some (some v)) e)))
   · exact Fr.xIfT (Fr.tIsN ((Fr.nV 2 F).eq e) rfl (.inr (.inl rfl))) fun t=>Fr.xAsg 2 F (Fr.lenI X₃.toStat (.head _) (Fr.nV 5 F) F.keep (k₃ _ _ ea) (lenV szA) (lenE q)) fun k h' t' F=>Fr.xNil (Fr.nNext (hK _ _ _ F))
 refine Fr.asV (c:=c) F ?_
 intro V F
 refine Fr.xSeq (c:=c) (fun K=>∀u h t,c.S g₃ (V.set 4 (some (.int (bhi:Int) u))) [] h->K h t) (fun K hK=>?_) fun u2 h' t F=>?_
 · refine h2.elim (fun ⟨u,e⟩=>?_) fun ⟨e,q⟩=>?_
   · exact Fr.xIf0 (Fr.tIsN ((Fr.nV 4 F).eq e) rfl (.inl ⟨_,_,rfl⟩)) fun t=>Fr.nNext (hK u _ _ (Fr.S.same F (congrArg (fun v=>some (some v)) e)))
   · exact Fr.xIfT (Fr.tIsN ((Fr.nV 4 F).eq e) rfl (.inr (.inl rfl))) fun t=>Fr.xAsg 4 F (Fr.lenI X₃.toStat (.head _) (Fr.nV 6 F) F.keep (k₃ _ _ eb) (lenV szB) (lenE q)) fun k h' t' F=>Fr.xNil (Fr.nNext (hK _ _ _ F))
 refine Fr.xTup3 9 10 11 F (Fr.nI 1 F) (Fr.nI 3 F) Fr.kI ?_
 intro b1 b2 b3 V g₄ h' t k4 F
 refine Fr.xDictF 12 F hz ?_
 intro d0 hd0 V g₅ h' t k5 ed0 F
 refine Fr.xNilF 13 F ?_
 intro no1 V g₆ h' t k6 eno F
 have k₆:=(k₃.tr k4).tr (k5.tr k6)
 have X₆:=X.up k₆
 refine Fr.xForR (c:=c) (m:=alo) (n:=ahi) 14 X₆.toStat (.tail _ (.head _)) (Fr.nI 1 F) (Fr.nI 2 F) F (lt60 la0 szA (Nat.le_refl _)) (lt60 la1 szA (Nat.le_refl _))
  (fun i g' V' mu'=>∀G:List (Option Value)->List (Addr×Obj)->Prop,(∀S d es n b1 b2 b3 u14 u15 u16 u17 u18,SC i=S->g'.get? d=some (dcO es n)->d≠sysModules->Pv S.prev es->G [some (.ref x),some (.int (alo:Int) t1),some (.int (ahi:Int) u1),some (.int (blo:Int) t2),some (.int (bhi:Int) u2),some (.ref la),some (.ref lb),some (.ref db),some (.ref bm),some (.int (S.bi:Int) b1),some (.int (S.bj:Int) b2),some (.int (S.bk:Int) b3),some (.ref d),some (.ref no1),u14,u15,u16,u17,u18] [])->G V' mu') ?_ ?_ ?_
 · exact fun g' k G q=>q _ d0 [] 0 b1 b2 b3 none none none none none hS0 (k _ _ (k6 _ _ ed0)) hd0 rfl
 · intro i ti g' V' mu' I oI h t TT hi kg' hJ
   apply hJ
   intro S d es' n' b1 b2 b3 u14 u15 u16 u17 u18 hSS ed hdd hpv
   intro _ hT V F
   refine Fr.xGet 15 F (Fr.nV 12 F) ed ?_
   intro gm V g₈ h t k8 egm F
   refine Fr.xDictO 16 F hz ?_
   intro nd hnd hnl V h t F
   have hiA:alo+i<TA.length:=by exact zz125 la1 hi
   refine getK hiA fun y hy=>?_
   have hy1:(TA.map (·.1))[alo+i]?=some y.1:=by rw [List.getElem?_map,hy];rfl
   have kk:=(k₆.tr kg').tr k8
   refine Fr.xSeq (c:=c) (fun K=>∀R b1 b2 b3 u17 u18 es2 n2 g₂ h t,SC (i+1)=R->Pv R.prev es2->Le g₈ g₂->c.S g₂ [some (.ref x),some (.int (alo:Int) t1),some (.int (ahi:Int) u1),some (.int (blo:Int) t2),some (.int (bhi:Int) u2),some (.ref la),some (.ref lb),some (.ref db),some (.ref bm),some (.int (R.bi:Int) b1),some (.int (R.bj:Int) b2),some (.int (R.bk:Int) b3),some (.ref d),some (.ref no1),some (.int ((alo+i:Nat):Int) ti),some (.ref gm),some (.ref nd),u17,u18] [(nd,dcO es2 n2),(I,oI)] h->K h t) (fun K hK=>?_) fun R b1 b2 b3 u17 u18 es2 n2 g₂ h t eR hpv2 k9 F=>?_
   · have look {l:Addr} (e:(findBy (strKind pw w).is es.toArray y.1).getD (.ref no1)=.ref l):=Fr.dictGet (c:=c) (pos:=⟨316,21,316,43⟩) (pa:=⟨316,21,316,28⟩) (Fr.nV (pos:=⟨316,21,316,24⟩) (x:="b2j") 7 F) (Fr.ixN (p:=⟨316,31,316,32⟩) (pos:=⟨316,29,316,33⟩) (Fr.nV (pos:=⟨316,29,316,30⟩) (x:="a") 5 F) (Fr.nI (x:="i") 14 F) F.keep (kk _ _ ea) (strV hy) (lt40 hiA szA)) (Fr.nV (pos:=⟨316,35,316,42⟩) (x:="nothing") 13 F) (F.keep _ _ (kk _ _ edb)) dbs hB.keys e
     refine hB.findK (prog:=pw) nb y.1 (fun hix hf=>?_) fun j r kr tj hix hf er hjB=>?_
     · refine wpAny_execs_cons (Fr.xForL 17 F (look (by rw [hf];rfl)) (k8 _ _ (kg' _ _ eno)) (fun _ g' V' mu'=>∀G:Heap->List (Option Value)->List (Addr×Obj)->Prop,G g₈ V [(nd,dcO [] 0),(I,oI)]->G g' V' mu') (fun G q=>q) (fun k v _ _ _ _ _ _ _ _ hv=>nomatch hv) ?_)
       intro g' V' mu' h t _ hJ
       apply hJ
       intro F
       exact Fr.nNext (hK ⟨S.bi,S.bj,S.bk,none⟩ b1 b2 b3 _ _ [] 0 g₈ h t ((hS i).trans (hSS▸row_none hy1 hix)) rfl Le.rfl' F)
     · have eh:SC (i+1)=hit blo bhi (alo+i) j S:=(hS i).trans (hSS▸row_some hy1 hix)
       have er':=kk _ _ er
       refine wpAny_execs_cons (Fr.xForL 17 F (look (by rw [hf];rfl)) er' (fun ii g' V' mu'=>match ii with
        | 0=>∀G:Heap->List (Option Value)->List (Addr×Obj)->Prop,G g₈ V [(nd,dcO [] 0),(I,oI)]->G g' V' mu'
        | _+1=>∀G:List (Option Value)->List (Addr×Obj)->Prop,(∀R b1 b2 b3 u17 u18 es2 n2,SC (i+1)=R->Pv R.prev es2->G [some (.ref x),some (.int (alo:Int) t1),some (.int (ahi:Int) u1),some (.int (blo:Int) t2),some (.int (bhi:Int) u2),some (.ref la),some (.ref lb),some (.ref db),some (.ref bm),some (.int (R.bi:Int) b1),some (.int (R.bj:Int) b2),some (.int (R.bk:Int) b3),some (.ref d),some (.ref no1),some (.int ((alo+i:Nat):Int) ti),some (.ref gm),some (.ref nd),u17,u18] [(nd,dcO es2 n2),(I,oI)])->G V' mu') (fun G q=>q) ?_ ?_)
       · intro k v g' V' mu' I2 oI2 h t TT hv kg2 hJ
         cases k with
         | succ k=>exact nomatch hv
         | zero =>
         have ev:v=.int (j:Int) tj:=(Option.some.inj hv).symm
         apply hJ
         intro hBk hT2 V F
         have Ej {V:List (Option Value)} {h:Heap} {mu:List (Addr×Obj)} {pos:Pos} (hv:V[17]?=some (some v)) (F:c.S g₈ V mu h):=Fr.toI ((Fr.nV (pos:=pos) (x:="j") 17 F hv).eq ev)
         refine dite (j<blo) (fun hlo=>?_) fun hlo=>?_
         · exact Fr.xIfT (Fr.tLt (Ej rfl F) (Fr.nI 3 F) (decide_eq_true (Int.ofNat_lt.mpr hlo))) fun t=>Fr.xCont (hT2 _ _ _ _ _ Le.rfl' F fun G q=>q ⟨S.bi,S.bj,S.bk,none⟩ b1 b2 b3 _ _ [] 0 (eh.trans (hit_out (.inl hlo))) rfl).2
         refine Fr.xIf0 (Fr.tLt (Ej rfl F) (Fr.nI 3 F) (decide_eq_false fun z=>hlo (Int.ofNat_lt.mp z))) fun t=>?_
         refine dite (bhi<=j) (fun hhi=>?_) fun hhi=>?_
         · exact Fr.xIfT (Fr.tGe (Ej rfl F) (Fr.nI 4 F) (decide_eq_true (Int.ofNat_le.mpr hhi))) fun t=>Fr.xBrk (hBk _ _ _ _ _ Le.rfl' (St.sub F (List.sublist_cons_self _ _)) (Fr.nNext (hK ⟨S.bi,S.bj,S.bk,none⟩ b1 b2 b3 _ _ [] 0 g₈ _ _ (eh.trans (hit_out (.inr hhi))) rfl Le.rfl' (St.sub F (List.sublist_cons_self _ _)))))
         refine Fr.xIf0 (Fr.tGe (Ej rfl F) (Fr.nI 4 F) (decide_eq_false fun z=>hhi (Int.ofNat_le.mp z))) fun t=>?_
         refine wpAny_execs_cons (Asg2 (wpAny_BinOp (C2b ((Fr.nV 15 F).use fun _ t=>⟨gm,rfl,(Fr.subI (Ej rfl F) Fr.kI (r:=(j:Int)-1) rfl).use fun _ t=>Fr.kI.use fun _ t=>⟨d,"dict.get",F.keep _ _ egm,?_⟩⟩))))
         refine Fr.bgetP (F.keep _ _ egm) hdd (F.keep _ _ (k8 _ _ ed)) hpv fun ur t=>?_
         refine Fr.kI.use fun _ t=>addZ (c:=ranOn S.prev j+1) rfl ?_
         have hr:=ranOn_le (j:=j) (hSS▸hSo i)
         refine asgN (Fr.sto (c:=c) 18 F ?_)
         intro V h t F
         refine asgS ((Fr.nV 16 F).use fun _ t=>(Ej rfl F).use fun kj t=>?_)
         refine setItem_new (knd:=intKind pw w) (k:=(j:Int)) int_is (F.mt (nd,dcO [] 0) (.tail _ (.head _))).1 (fun e he=>nomatch he) (fun e he=>nomatch he) (by decide) fun h' hs he=>?_
         have F:c.S g₈ V [(I2,oI2),(nd,dcO [⟨hashInt j,.int j kj,.int (ranOn S.prev j+1:Nat) _⟩] 1),(I,oI)] h':=St.turn (pre:=[(I2,oI2)]) (post:=[(I,oI)]) F rfl hs he
         refine dite (S.bk<ranOn S.prev j+1) (fun hb=>?_) fun hb=>?_
         · refine Fr.xIfT (Fr.tGt (Fr.nI 18 F) (Fr.nI 11 F) (decide_eq_true (Int.ofNat_lt.mpr hb))) fun t=>?_
           refine Fr.xTup3 9 10 11 F (Fr.addI (r:=((alo+i+1-(ranOn S.prev j+1):Nat):Int)) (Fr.subI (Fr.nI 14 F) (Fr.nI 18 F) rfl) Fr.kI (by exact zz126 hr)) (Fr.addI (r:=((j+1-(ranOn S.prev j+1):Nat):Int)) (Fr.subI (Ej rfl F) (Fr.nI 18 F) rfl) Fr.kI (by exact zz127 hr)) (Fr.nI 18 F) ?_
           intro c1 c2 c3 V g₉ h t k9 F
           exact Fr.xNil (hT2.go k9 F fun G q=>q ⟨_,_,_,_⟩ c1 c2 c3 _ _ _ _ (eh.trans (hit_up hlo hhi rfl hb)) ⟨_,_,rfl⟩)
         · exact Fr.xIf0 (Fr.tGt (Fr.nI 18 F) (Fr.nI 11 F) (decide_eq_false fun z=>hb (Int.ofNat_lt.mp z))) fun t=>hT2.go Le.rfl' F fun G q=>q ⟨S.bi,S.bj,S.bk,some (j,ranOn S.prev j+1)⟩ b1 b2 b3 _ _ _ _ (eh.trans (hit_same hlo hhi rfl hb)) ⟨_,_,rfl⟩
       · intro g' V' mu' h t kg2 hJ
         apply hJ
         intro R b1 b2 b3 u17 u18 es2 n2 eR hp F
         exact Fr.nNext (hK R b1 b2 b3 u17 u18 es2 n2 g' h t eR hp kg2 F)
   refine Fr.xAsg 12 F (Fr.nV 16 F) ?_
   intro _ V h t F
   refine F.freeze hnl fun g₁₀ k10 end' F=>?_
   exact hT.go (k8.tr (k9.tr k10)) F fun G q=>q R nd es2 n2 b1 b2 b3 _ _ _ _ _ eR end' hnd hpv2
 intro g' V' mu' h t kg' hJ
 apply hJ
 intro S d es' n' b1 b2 b3 u14 u15 u16 u17 u18 hSS ed hdd hpv
 intro F
 refine Fr.asV (c:=c) F ?_
 intro V F
 rw [hSS] at hs hP
 have kk:=k₆.tr kg'
 have ebm₇:=((((k4.tr k5).tr k6).tr kg') _ _ ebm)
 have djk {h:Heap} (F:c.S g' V [] h):=F.keep _ _ (kk _ _ ej)
 have atB1 {h:Heap} (F:c.S g' V [] h) (c2:blo<S.bj) {z:Str×Tok} (hz:TB[S.bj-1]?=some z) {p1 p2 p3 p4 p5:Pos}:=Fr.ixB (c:=c) (pos:=p1) (p:=p2) (i:=S.bj-1) (Fr.nV (x:="b") (pos:=p3) 6 F) (Fr.subI (pos:=p2) (Fr.nI (x:="bestj") (pos:=p4) 10 F) (Fr.kI (pos:=p5) (k:=0) (n:=1)) (pred (Nat.zero_lt_of_lt c2))) F.keep (kk _ _ eb) (strV hz) (lt40 (lt_of hz) szB)
 have atB2 {h:Heap} (F:c.S g' V [] h) {z:Str×Tok} (hz:TB[S.bj+S.bk]?=some z) {p1 p2 p3 p4 p5:Pos}:=Fr.ixB (c:=c) (pos:=p1) (p:=p2) (i:=S.bj+S.bk) (Fr.nV (x:="b") (pos:=p3) 6 F) (Fr.addI (pos:=p2) (Fr.nI (x:="bestj") (pos:=p4) 10 F) (Fr.nI (x:="bestsize") (pos:=p5) 11 F) rfl) F.keep (kk _ _ eb) (strV hz) (lt40 (lt_of hz) szB)
 have lA:=le_map hs.li
 have lB:=le_map hs.lj
 have ends1 {h:Heap} {es:List Expr} (F:c.S g' V [] h) {p1 p2 p3 p4 p5 p6 p7:Pos} (K:alo<S.bi->blo<S.bj->∀y z,TA[S.bi-1]?=some y->TB[S.bj-1]?=some z->c.TA h es p7 false) :
  c.TA h (.Compare (.Name "besti" p1) [.Gt] [.Name "alo" p2] p3::.Compare (.Name "bestj" p4) [.Gt] [.Name "blo" p5] p6::es) p7 false:=by
  refine dite (alo<S.bi) (fun c1=>?_) fun c1=>Fr.taF (Fr.tGt (Fr.nI 9 F) (Fr.nI 1 F) (decide_eq_false fun z=>c1 (Int.ofNat_lt.mp z)))
  refine Fr.taT (Fr.tGt (Fr.nI 9 F) (Fr.nI 1 F) (decide_eq_true (Int.ofNat_lt.mpr c1))) ?_
  refine dite (blo<S.bj) (fun c2=>?_) fun c2=>Fr.taF (Fr.tGt (Fr.nI 10 F) (Fr.nI 3 F) (decide_eq_false fun z=>c2 (Int.ofNat_lt.mp z)))
  refine Fr.taT (Fr.tGt (Fr.nI 10 F) (Fr.nI 3 F) (decide_eq_true (Int.ofNat_lt.mpr c2))) ?_
  exact getK (i:=S.bi-1) (by exact zz128 lA c1) fun y hy=>getK (i:=S.bj-1) (by exact zz128 lB c2) fun z hz=>K c1 c2 y z hy hz
 have ends2 {h:Heap} {es:List Expr} (F:c.S g' V [] h) {p1 p2 p3 p4 p5 p6 p7 p8 p9 q1 q2:Pos} (K:S.bi+S.bk<ahi->S.bj+S.bk<bhi->∀y z,TA[S.bi+S.bk]?=some y->TB[S.bj+S.bk]?=some z->c.TA h es p7 false) :
  c.TA h (.Compare (.BinOp (.Name "besti" p1) .Add (.Name "bestsize" p8) p9) [.Lt] [.Name "ahi" p2] p3::.Compare (.BinOp (.Name "bestj" p4) .Add (.Name "bestsize" q1) q2) [.Lt] [.Name "bhi" p5] p6::es) p7 false:=by
  refine dite (S.bi+S.bk<ahi) (fun c1=>?_) fun c1=>Fr.taF (Fr.tLt (Fr.addI (Fr.nI 9 F) (Fr.nI 11 F) rfl) (Fr.nI 2 F) (decide_eq_false fun z=>c1 (Int.ofNat_lt.mp z)))
  refine Fr.taT (Fr.tLt (Fr.addI (Fr.nI 9 F) (Fr.nI 11 F) rfl) (Fr.nI 2 F) (decide_eq_true (Int.ofNat_lt.mpr c1))) ?_
  refine dite (S.bj+S.bk<bhi) (fun c2=>?_) fun c2=>Fr.taF (Fr.tLt (Fr.addI (Fr.nI 10 F) (Fr.nI 11 F) rfl) (Fr.nI 4 F) (decide_eq_false fun z=>c2 (Int.ofNat_lt.mp z)))
  refine Fr.taT (Fr.tLt (Fr.addI (Fr.nI 10 F) (Fr.nI 11 F) rfl) (Fr.nI 4 F) (decide_eq_true (Int.ofNat_lt.mpr c2))) ?_
  exact getK (i:=S.bi+S.bk) (by exact zz129 la1 c1) fun y hy=>getK (i:=S.bj+S.bk) (by exact zz129 lb1 c2) fun z hz=>K c1 c2 y z hy hz
 refine Fr.xWh0 F (fun h F=>Fr.tAnd (ends1 F fun c1 c2 y z hy hz=>?_)) fun h t F=>?_
 · exact Fr.taT (Fr.tNotF (Fr.tJunk (Fr.nV 8 F) (atB1 F c2 hz) (F.keep _ _ ebm₇) (djk F))) (Fr.taF (Fr.tEqS (Fr.ixB (Fr.nV 5 F) (Fr.subI (Fr.nI 9 F) Fr.kI (pred (Nat.zero_lt_of_lt c1))) F.keep (kk _ _ ea) (strV hy) (lt40 (lt_of hy) szA)) (atB1 F c2 hz) (str_ne (hs.bef c1 c2) hy hz)))
 refine Fr.xWh0 F (fun h F=>Fr.tAnd (ends2 F fun c1 c2 y z hy hz=>?_)) fun h t F=>?_
 · exact Fr.taT (Fr.tNotF (Fr.tJunk (Fr.nV 8 F) (atB2 F hz) (F.keep _ _ ebm₇) (djk F))) (Fr.taF (Fr.tEqS (Fr.ixB (i:=S.bi+S.bk) (Fr.nV 5 F) (Fr.addI (Fr.nI 9 F) (Fr.nI 11 F) rfl) F.keep (kk _ _ ea) (strV hy) (lt40 (lt_of hy) szA)) (atB2 F hz) (str_ne (hs.aft c1 c2) hy hz)))
 refine Fr.xWh0 F (fun h F=>Fr.tAnd (ends1 F fun c1 c2 y z hy hz=>?_)) fun h t F=>?_
 · exact Fr.taF (Fr.tJunk (Fr.nV 8 F) (atB1 F c2 hz) (F.keep _ _ ebm₇) (djk F))
 refine Fr.xWh0 F (fun h F=>Fr.tAnd (ends2 F fun c1 c2 y z hy hz=>?_)) fun h t F=>?_
 · exact Fr.taF (Fr.tJunk (Fr.nV 8 F) (atB2 F hz) (F.keep _ _ ebm₇) (djk F))
 refine wpAny_execs_cons (wpAny_Return_some (C3k (N_Match cx (X.up kk).toStat F.keep (.tail _ (.tail _ (.head _))) ⟨135,rfl,?_⟩)))
 refine (Fr.nV (c:=c) 9 F).use fun _ t=>(Fr.nV (c:=c) 10 F).use fun _ t=>(Fr.nV (c:=c) 11 F).use fun _ t=>?_
 refine mt_call (n:=n) (hA'.le (Nat.le_succ _)) F (X.up kk) fun m d3 g₈ h' t' k8 hm F=>?_
 exact hQ _ _ _ _ F.out (hP _ _ _ _ _ _ _ hm)
noncomputable def FindP(S:SS)(g:Heap)(v:Value):Prop:=∀G:Value->Prop,(∀m d3 t1 t2 t3,g.get? m=some (mtO d3 [.int (S.bi:Int) t1,.int (S.bj:Int) t2,.int (S.bk:Int) t3])->G (.ref m))->G v
theorem find_k(X:Sm2 g)(kg:Le g s.heap)(hA:Ok A (n+5))(Rd:Ready w g s.heap x dx la lb db dj dp TA TB mb oc){args:Args}{alo ahi blo bhi:Nat}{v1 v2:Value}{t1 t2:Tok}{S:SS}(eS:scan (TA.map (·.1)) (TB.map (·.1)) blo bhi (ahi-alo) alo (first alo blo)=S)
 (hb:BindsTo s fdFind args (([("self":Str),("alo":Str),("ahi":Str),("blo":Str),("bhi":Str)]).zip [.ref x,.int (alo:Int) t1,v1,.int (blo:Int) t2,v2])) (h1:HiOk v1 TA.length ahi) (h2:HiOk v2 TB.length bhi)
 (la1:ahi<=TA.length) (lb1:bhi<=TB.length) (la0:alo<=TA.length) (hs:Stop (TA.map (·.1)) (TB.map (·.1)) alo ahi blo bhi S):Gives pw w A (.call (.ref 196) args) s [] g (fun g' _ v=>FindP S g' v):=by
 obtain ⟨hx,me,⟨ka,ea⟩,⟨kb,eb⟩,⟨es,en,edb,hB⟩,dbs,⟨led,ej⟩,nb,szA,szB⟩:=Rd
 subst eS
 exact find_core X kg hA me ea eb edb hB dbs ej nb szA szB hb h1 h2 la1 lb1 la0 (SC:=fun k=>scan (TA.map (·.1)) (TB.map (·.1)) blo bhi k alo (first alo blo)) rfl (fun k=>scan_snoc ..) (fun k=>scan_ok (first_ok alo blo)) hs
  fun g' h' m d3 t1 t2 t3 e G k=>k m d3 t1 t2 t3 e
end
section
variable{oN oS:Obj}
theorem find_iter(h:KMok oN oS):findIn (KM oN oS) (.ref 135) "__iter__"=some (some (.builtin "tuple.__iter__")):=by
 show alongIn (KM oN oS) _ [.ref 135,.type "tuple",.type "object"]=_
 unfold alongIn
 rw [own_m h (i:=4) rfl]
 kernel_rfl
theorem ti_kind:builtinKind "tuple.__iter__"=some .slot:=by decide +kernel
theorem ti_split:splitId "tuple.__iter__"=some ("tuple","__iter__"):=by decide +kernel
theorem ti_args(a:Value):argsOk "tuple.__iter__" ⟨[a],[]⟩:=by unfold argsOk;kernel_rfl
theorem ti_plain:plainId "tuple.__iter__"=true:=by decide +kernel
theorem ti_bind(self:Value):bindSpecial (.builtin "tuple.__iter__") self=pure (.builtin "tuple.__iter__",[self]):=slot_tuple_iter.bind self
end
section
variable{w:World}{A:Around}{E:Value->Shared->Prop}{s:Shared}
variable{h₀ g₀ g:Heap}{xt:List Addr}{L:Addr}{N:List Str}{vs:List (Option Value)}{mu:List (Addr×Obj)}{n:Nat}
theorem iter_mt{m dx:Addr}{items:List Value}{Q:Value->Shared->Prop}(X:Sm2 g)(kg:Le g s.heap)(hm:g.get? m=some (mtO dx items))
 (hQ:Q (.ref s.heap.objs.size) {s with heap:=s.heap.push (titObj m)}):wpAny (model pw w) A (pyIter (.ref m)) Q E s:=by
 obtain ⟨oN,oS,X',k⟩:=km_in X
 have XX:(KM oN oS).In s.heap:=X'.keeps kg
 have hmm:=kg _ _ hm
 have ty:Looks (model pw w) s.heap (typeOf (.ref m)) (.ref 135):=(Looks.ld hmm).andThen .now
 have l0:=looks_findIn (M:=model pw w) XX (find_iter k)
 have l1:=L_sub (M:=model pw w) XX
 unfold pyIter specialOf
 refine wpAny_bind (wpAny_bind (ty.here (l0.here ?_)))
 dsimp only
 unfold callSpecialIfBoundUnlessNone?
 refine wpAny_bind (wpAny_holding (wpAny_bind ?_))
 unfold bindSpecialIfBound? specialOf
 refine wpAny_bind (wpAny_bind (ty.here (l0.here ?_)))
 dsimp only
 have fin:wpAny (model pw w) A (call (.builtin "tuple.__iter__") [.ref m]) (fun v s'=>v=.ref s.heap.objs.size/\s'={s with heap:=s.heap.push (titObj m)}) E s:=by
  refine wpAny_call (codeAny_call_builtin ti_plain entry_tuple_iter (@check_slot (model pw w) _ _ _ "tuple.__iter__" "tuple" "__iter__" (.ref m) [] [] _ ti_kind ti_split (ty.andThen l1) (ti_args _) ?_))
  show wpAny _ _ (do ret (←newFields "tuple_iterator" [.ref m,rawInt 0])) _ _ s
  exact wpAny_bind (wpAny_newObj_type (wpAny_pure ⟨rfl,rfl⟩))
 have body:∀E,wpAny (model pw w) A (do
  let b←bindSpecial (.builtin "tuple.__iter__") (.ref m)
  pure (some b):Sem (Option (Value×List Value))) (fun r s'=>r=some (.builtin "tuple.__iter__",[.ref m])/\s'=s) E s:=by
  intro E
  rw [ti_bind]
  exact wpAny_bind (wpAny_pure (wpAny_pure ⟨rfl,rfl⟩))
 refine wpAny_bind (wpAny_askSetting ?_)
 have rest:wpAny (model pw w) A (match (some (Value.builtin "tuple.__iter__",[Value.ref m]):Option (Value×List Value)) with
  | some (g,first)=>if (g==Value.none)=true then do
   let r←(do rule "iter.none";raiseError "TypeError" s!"'{← typeNameOf (Value.ref m)}' object is not iterable":Sem Value)
   pure (some r)
   else do
    let r←call g first
    pure (some r)
  | none=>pure none) (fun a s'=>a=some (.ref s.heap.objs.size)/\s'={s with heap:=s.heap.push (titObj m)}) E s:=by
  dsimp only
  rw [if_neg (by decide)]
  exact wpAny_bind (wpAny_mono fin (fun v s' z=>wpAny_pure ⟨by rw [z.1],z.2⟩) fun _ _ z=>z)
 have last:wpAny (model pw w) A (match (some (Value.builtin "tuple.__iter__",[Value.ref m]):Option (Value×List Value)) with
  | some (g,first)=>if (g==Value.none)=true then do
   let r←(do rule "iter.none";raiseError "TypeError" s!"'{← typeNameOf (Value.ref m)}' object is not iterable":Sem Value)
   pure (some r)
   else do
    let r←call g first
    pure (some r)
  | none=>pure none) (fun a s'=>wpAny (model pw w) A (match a with
   | some it=>do
    match←specialOf it "__next__" with
    | none=>do rule "iter.non-iterator";raiseError "TypeError" s!"iter() returned non-iterator of type '{← typeNameOf it}'"
    | some _=>pure it
   | none=>do
    match←bindSpecialIfBound? (.ref m) "__getitem__" with
    | none=>do rule "iter.not-iterable";raiseError "TypeError" s!"'{← typeNameOf (.ref m)}' object is not iterable"
    | some _=>do rule "iter.getitem-fallback";newFields "iterator" [.ref m,←mkInt 0]) Q E s') E s:=by
  refine wpAny_mono rest (fun a s' z=>?_) fun _ _ z=>z
  obtain ⟨rfl,rfl⟩:=z
  dsimp only
  refine wpAny_bind (wpAny_specialOf (T:="tuple_iterator") ⟨_,Heap.get?_push_size _ rfl,rfl⟩ slot_tupleiter_next.lookup ?_)
  exact wpAny_pure hQ
 split
 · refine wpAny_mono (body E) (fun r s' z=>?_) fun _ _ z=>z
   obtain ⟨rfl,rfl⟩:=z
   exact last
 · refine wpAny_tryCatch (wpAny_mono (body fun _ _=>False) (fun r s' z=>?_) fun _ _ z=>z.elim)
   obtain ⟨rfl,rfl⟩:=z
   exact last
noncomputable abbrev titA(m i:Nat):Obj:={cls:=.type "tuple_iterator",data:=.fields #[.ref m,.int (i:Int) 0]}
theorem nxt_item{it m:Addr}{i:Nat}{o:Obj}{items:List Value}{k:Nat}{x:Value}{Q:Option Value->Shared->Prop}(hit:s.heap.get? it=some (titA m i))(ho:s.heap.get? m=some o)(hd:o.data=.seq items.toArray k)(hx:items[i]?=some x)
 (hQ:∀h',h'.get? it=some (titA m (i+1))->Heap.SameBut it s.heap h'->Q (some x) {s with heap:=h'}):wpAny (model pw w) A (pyNext (.ref it)) Q E s:=by
 have hT:s.TypeIs (.ref it) "tuple_iterator":=⟨_,hit,rfl⟩
 unfold pyNext
 refine wpAny_bind (wpAny_attempt (wpAny_callSpecial?_slot (name:=Str.ofString "__next__") hT slot_tupleiter_next
  (wpAny_call_entry slot_tupleiter_next hT entry_tupleiter_next ?_ (args_tupleiter_next _))))
 show wpAny _ _ (field (.ref it) 0>>=_) _ _ s
 refine wpAny_bind (wpAny_field hit rfl (x:=.ref m) rfl ?_)
 show wpAny _ _ (if (Value.ref m==Value.none)=true then _ else _) _ _ s
 rw [if_neg (show ¬((Value.ref m==Value.none)=true) from Bool.false_ne_true)]
 show wpAny _ _ (field (.ref it) 1>>=_) _ _ s
 refine wpAny_bind (wpAny_field hit rfl (x:=.int (i:Int) 0) rfl ?_)
 show wpAny _ _ (seqItems? (.ref m)>>=_) _ _ s
 refine wpAny_bind (wpAny_seqItems ho hd ?_)
 simp only [Int.toNat_natCast,List.getElem?_toArray,hx]
 refine wpAny_bind (wpAny_setField hit rfl (by simp) (wpAny_pure ⟨x,rfl,wpAny_pure (hQ _ ?_ (Heap.SameBut.update ..))⟩))
 rw [Heap.get?_update_self _ hit rfl]
 simp [Obj.mapFields,rawInt]
theorem nxt_end{it m:Addr}{i:Nat}{o:Obj}{items:List Value}{k:Nat}{Q:Option Value->Shared->Prop}(hh:A.handled=none)(hit:s.heap.get? it=some (titA m i))(ho:s.heap.get? m=some o)(hd:o.data=.seq items.toArray k)(hx:items[i]?=none)
 (hQ:∀h',Heap.ExtBut it s.heap h'->Q none {s with heap:=h'}):wpAny (model pw w) A (pyNext (.ref it)) Q E s:=by
 have hT:s.TypeIs (.ref it) "tuple_iterator":=⟨_,hit,rfl⟩
 unfold pyNext
 refine wpAny_bind (wpAny_attempt (wpAny_callSpecial?_slot (name:=Str.ofString "__next__") hT slot_tupleiter_next
  (wpAny_call_entry slot_tupleiter_next hT entry_tupleiter_next ?_ (args_tupleiter_next _))))
 show wpAny _ _ (field (.ref it) 0>>=_) _ _ s
 refine wpAny_bind (wpAny_field hit rfl (x:=.ref m) rfl ?_)
 show wpAny _ _ (if (Value.ref m==Value.none)=true then _ else _) _ _ s
 rw [if_neg (show ¬((Value.ref m==Value.none)=true) from Bool.false_ne_true)]
 show wpAny _ _ (field (.ref it) 1>>=_) _ _ s
 refine wpAny_bind (wpAny_field hit rfl (x:=.int (i:Int) 0) rfl ?_)
 show wpAny _ _ (seqItems? (.ref m)>>=_) _ _ s
 refine wpAny_bind (wpAny_seqItems ho hd ?_)
 simp only [Int.toNat_natCast,List.getElem?_toArray,hx]
 refine wpAny_bind (wpAny_rule (wpAny_bind (wpAny_setField hit rfl (by simp) ?_)))
 show wpAny _ _ (newExc (.type "StopIteration") []>>=_) _ _ _
 refine wpAny_bind ?_
 simp only [newExc,newTuple]
 refine wpAny_bind (wpAny_newObj_type ?_ (by size_fits))
 refine wpAny_bind (m:=firstArgMember _ _) (wpAny_of_eq (a:=Value.none) (by first|rfl|(simp only [firstArgMember];rfl)) ?_)
 refine wpAny_newObj_type ?_ (by size_fits)
 simp only [raiseNew]
 refine wpAny_bind (wpAny_handled ?_)
 first|rw [show A.in1.handled=none from hh]|rw [hh]
 refine wpAny_bind (wpAny_pure (wpAny_throw ?_))
 refine wpAny_bind (wpAny_isInstance (T:="StopIteration") (b:=true) ⟨_,Heap.get?_push_size _ rfl,rfl⟩ isSubtype_stop ?_)
 exact wpAny_pure (hQ _ (((Heap.SameBut.update ..).extBut.push _).push _))
theorem unp_mt{m dx:Addr}{v1 v2 v3:Value}{Q:List Value->Shared->Prop}(hh:A.handled=none)(X:Sm2 g)(F:St h₀ xt g₀ g L N vs mu s.heap)(hm:g.get? m=some (mtO dx [v1,v2,v3]))
 (h:∀h',St h₀ xt g₀ g L N vs mu h'->Q [v1,v2,v3] {s with heap:=h'}):wpAny (model pw w) A (unpackItems (.ref m) 3 none) Q E s:=by
 obtain ⟨oN,oS,X',k⟩:=km_in X
 have XX:(KM oN oS).In s.heap:=X'.keeps F.keep
 have hmm:=F.keep _ _ hm
 have ty:Looks (model pw w) s.heap (typeOf (.ref m)) (.ref 135):=(Looks.ld hmm).andThen .now
 have l0:=looks_findIn (M:=model pw w) XX (find_iter k)
 have hlt:m≠s.heap.objs.size:=Nat.ne_of_lt (Heap.lt_size hmm)
 unfold unpackItems
 refine wpAny_bind ?_
 unfold notIterableAtAll specialOf
 refine wpAny_bind (wpAny_bind (ty.here (l0.here ?_)))
 dsimp only
 rw [if_pos (by rfl)]
 refine wpAny_pure ?_
 rw [if_neg (by decide)]
 refine wpAny_bind (wpAny_holding (iter_mt X F.keep hm ?_))
 have e0:(s.heap.push (titObj m)).get? s.heap.objs.size=some (titA m 0):=Heap.get?_push_size _ rfl
 have k0:Le s.heap (s.heap.push (titObj m)):=fun b o e=>Heap.get?_push_of_some _ e
 have hne:∀b o,s.heap.get? b=some o->b≠s.heap.objs.size:=fun b o e=>Nat.ne_of_lt (Heap.lt_size e)
 generalize s.heap.objs.size=it at hlt e0 hne ⊢
 have m0:=k0 _ _ hmm
 refine wpAny_bind (wpAny_holding ?_)
 show wpAny _ _ (pyNext (.ref it)>>=_) _ _ _
 refine wpAny_bind (nxt_item e0 m0 rfl (x:=v1) rfl fun h1 e1 s1=>?_)
 dsimp only
 refine wpAny_bind (wpAny_holding ?_)
 show wpAny _ _ (pyNext (.ref it)>>=_) _ _ _
 refine wpAny_bind (nxt_item e1 ((s1.2 m hlt).trans m0) rfl (x:=v2) rfl fun h2 e2 s2=>?_)
 dsimp only
 refine wpAny_bind (wpAny_holding ?_)
 show wpAny _ _ (pyNext (.ref it)>>=_) _ _ _
 have m2:=(s2.2 m hlt).trans ((s1.2 m hlt).trans m0)
 refine wpAny_bind (nxt_item e2 m2 rfl (x:=v3) rfl fun h3 e3 s3=>?_)
 dsimp only
 refine wpAny_bind (wpAny_holding ?_)
 show wpAny _ _ (pure []) _ _ _
 refine wpAny_pure (wpAny_pure (wpAny_pure (wpAny_pure ?_)))
 rw [if_neg (by simp)]
 refine wpAny_bind (wpAny_holding (nxt_end hh e3 ((s3.2 m hlt).trans m2) rfl rfl fun h4 e4=>?_))
 simp only [Option.isSome_none,Bool.false_eq_true,if_false]
 refine wpAny_pure (h h4 (F.more fun b o e=>?_))
 have hb:b≠it:=hne b o e
 exact e4 b o hb ((s3.2 b hb).trans ((s2.2 b hb).trans ((s1.2 b hb).trans (k0 _ _ e))))
end
end Mine.Internal
namespace Mine.Internal
open PySem PySem.W PyProof.Rows PySem.Calls PySem.Spec
open PySem.AutoSeq1 (wpAny_loadPart')
open PySem.SeqAt
section
variable{w:World}{A:Around}{E:Value->Shared->Prop}
theorem mlt_run{hp:Heap}{g:Array GenState}{d:Drawn}{tk:Nat}{os:OsState}{l b dx dx':Addr}{items items2:Array Value}(e lt:Nat->Bool){R:Bool->Prop}
 (lsub:∀(A:Around) (Q:Bool->Shared->Prop) (E:Value->Shared->Prop),Q true ⟨hp,g,d,tk,os⟩->wpAny (model pw w) A (isSubtype (.ref 135) (.type "tuple")) Q E ⟨hp,g,d,tk,os⟩)
 (hl:hp.get? l=some {cls:=.ref 135,dict:=some dx,data:=.seq items 0,slots:=#[]}) (hb:hp.get? b=some {cls:=.ref 135,dict:=some dx',data:=.seq items2 0,slots:=#[]})
 (he:∀j (h1:j<items.size) (h2:j<items2.size),EqAt A ⟨hp,g,d,tk,os⟩ items[j] items2[j] (e j)/\(e j=false->LtAt A ⟨hp,g,d,tk,os⟩ items[j] items2[j] (lt j)))
 (h:R (lexB e lt items.size items2.size (min items.size items2.size) 0)) :
 wpAny (model pw w) A (Builtin.«tuple.__lt__» ⟨[.ref l,.ref b],[]⟩) (fun fin s'=>∃v,fin=.done (.ret v)/\s'=⟨hp,g,d,tk,os⟩/\∃c,v=.bool c/\R c) E ⟨hp,g,d,tk,os⟩:=by
 have hZ:(items.toList.zip items2.toList).length=min items.size items2.size:=by simp
 unfold Builtin.«tuple.__lt__»
 wp_walk using wpAny_loadPart' hl,wpAny_loadPart' hb,lsub,wpAny_forIn_list _ (fun rest b s'=>b.1=none/\s'=⟨hp,g,d,tk,os⟩/\∃i k,rest=(items.toList.zip items2.toList).drop i/\i+k=min items.size items2.size /\
  R (lexB e lt items.size items2.size k i)) _
 case turn =>
  rintro ⟨y,x⟩ rest b s' ⟨hb',rfl,i,k,hz,hk,hR⟩
  have hlt:i<(items.toList.zip items2.toList).length:=by
   rcases Nat.lt_or_ge i (items.toList.zip items2.toList).length with h'|h'
   · exact h'
   · rw [List.drop_of_length_le h'] at hz;cases hz
  have hm:i<min items.size items2.size:=hZ▸hlt
  have h1:i<items.size:=Nat.lt_of_lt_of_le hm (Nat.min_le_left _ _)
  have h2:i<items2.size:=Nat.lt_of_lt_of_le hm (Nat.min_le_right _ _)
  rw [List.drop_eq_getElem_cons hlt] at hz
  injection hz with hyx hrest
  have hy:y=items[i]:=by have:=congrArg Prod.fst hyx;simpa using this
  have hx:x=items2[i]:=by have:=congrArg Prod.snd hyx;simpa using this
  subst hy hx
  obtain ⟨k,rfl⟩:∃k',k=k'+1:=⟨k-1,by exact zz33 hk hm⟩
  unfold lexB at hR
  obtain ⟨he1,hl1⟩:=he i h1 h2
  refine wpAny_bind (he1 pw w _ _ ?_)
  cases hy:e i with
  | true =>
   rw [hy] at hR
   wp_walk
   exact ⟨rfl,rfl,i+1,k,hrest,by exact zz34 hk,by simpa using hR⟩
  | false =>
   rw [hy] at hR
   repeat (first|(refine wpAny_bind (hl1 hy pw w _ _ ?_))|wp_step)
   exact ⟨_,rfl,rfl,_,rfl,by simpa using hR⟩
 case fin =>
  rintro ⟨b1,b2⟩ s' ⟨hb',rfl,i,k,hz,hk,hR⟩
  simp only at hb'
  subst hb'
  have hge:min items.size items2.size<=i:=by
   rcases Nat.lt_or_ge i (items.toList.zip items2.toList).length with h'|h'
   · rw [List.drop_eq_getElem_cons h'] at hz;cases hz
   · exact hZ▸h'
  have hk0:k=0:=by exact zz35 hk hge
  subst hk0
  unfold lexB at hR
  wp_walk
  exact ⟨_,rfl,rfl,_,rfl,by simpa [Builtin.Tuple.tupleCompareSizes] using hR⟩
 case h =>
  exact ⟨rfl,rfl,0,_,rfl,by exact zz36,h⟩
end
end Mine.Internal
namespace Mine.Internal
open PySem PySem.W PyProof.Rows PySem.Calls PySem.Spec
open PySem.SeqAt
section
variable{oN oS:Obj}
theorem find_lt(h:KMok oN oS):findIn (KM oN oS) (.ref 135) "__lt__"=some (some (.builtin "tuple.__lt__")):=by
 show alongIn (KM oN oS) _ [.ref 135,.type "tuple",.type "object"]=_
 unfold alongIn
 rw [own_m h (i:=6) rfl]
 kernel_rfl
theorem lt_kind:builtinKind "tuple.__lt__"=some .slot:=by decide +kernel
theorem lt_split:splitId "tuple.__lt__"=some ("tuple","__lt__"):=by decide +kernel
theorem lt_args(a b:Value):argsOk "tuple.__lt__" ⟨[a,b],[]⟩:=by unfold argsOk;kernel_rfl
theorem lt_plain:plainId "tuple.__lt__"=true:=by decide +kernel
theorem lt_bind(self:Value):bindSpecial (.builtin "tuple.__lt__") self=pure (.builtin "tuple.__lt__",[self]) :=
 (Slot.of (T:="tuple") (name:="__lt__") (owner:="tuple") (n:="__lt__") (by rw [typeLookup_type,builtinLookup_eq_fast];kernel_rfl) (by decide +kernel) (by decide +kernel) (by decide +kernel)
  (.inl (by decide +kernel)) (by rw [isSubtype_type];kernel_rfl)).bind self
theorem lt_entry:entryFor table "tuple.__lt__"=some Builtin.«tuple.__lt__»:=entryFor_of_tree (by kernel_rfl)
end
noncomputable def triLt(p q:Nat×Nat×Nat):Bool:=if p.1=q.1 then (if p.2.1=q.2.1 then decide (p.2.2<q.2.2) else decide (p.2.1<q.2.1)) else decide (p.1<q.1)
section
variable{w:World}{A:Around}{E:Value->Shared->Prop}{s:Shared}{g:Heap}
noncomputable def IsM(g:Heap)(v:Value)(p:Nat×Nat×Nat):Prop:=∃m dx t1 t2 t3,v=.ref m/\g.get? m=some (mtO dx [.int (p.1:Int) t1,.int (p.2.1:Int) t2,.int (p.2.2:Int) t3])
theorem IsM.up{g g':Heap}{v:Value}{p:Nat×Nat×Nat}(h:IsM g v p)(k:Le g g'):IsM g' v p:=let ⟨m,dx,a,b,c,e,f⟩:=h;⟨m,dx,a,b,c,e,k _ _ f⟩
theorem eqN(a b:Nat){A:Around}{s:Shared}{t u:Tok}:EqAt A s (.int (a:Int) t) (.int (b:Int) u) (decide (a=b)):=fun prog w E Q hq=>wpAny_eqBool_int (by
 have:((a:Int)==(b:Int))=decide (a=b):=by by_cases e:a=b<;>simp [e]<;>exact zz37 e
 rw [this];exact hq)
theorem ltN(a b:Nat){A:Around}{s:Shared}{t u:Tok}:LtAt A s (.int (a:Int) t) (.int (b:Int) u) (decide (a<b)):=fun prog w E Q hq=>by
 have:=P.lt_int (prog:=prog) (w:=w) (A:=A) (E:=E) (s:=s) (a:=(a:Int)) (b:=(b:Int)) (t:=t) (u:=u) (Q:=Q) (by
  have:decide ((a:Int)<(b:Int))=decide (a<b):=by simp only [Int.ofNat_lt]
  rw [this];exact hq)
 exact this
theorem keyLt_mt{v v':Value}{p q:Nat×Nat×Nat}{Q:Bool->Shared->Prop}(X:Sm2 g)(kg:Le g s.heap)(h1:IsM g v p)(h2:IsM g v' q)(hu:A.units+30<cLine)(h:Q (triLt p q) s) :
 wpAny (model pw w) A (keyLt' oneType' v v') Q E s:=by
 obtain ⟨m,dx,t1,t2,t3,rfl,hm⟩:=h1
 obtain ⟨m',dx',u1,u2,u3,rfl,hm'⟩:=h2
 obtain ⟨oN,oS,X',k⟩:=km_in X
 obtain ⟨hp,gg,d,tk,os⟩:=s
 have XX:(KM oN oS).In hp:=X'.keeps kg
 have hmm:=kg _ _ hm
 have hmm':=kg _ _ hm'
 have ty:Looks (model pw w) hp (typeOf (.ref m)) (.ref 135):=(Looks.ld hmm).andThen .now
 have l0:=looks_findIn (M:=model pw w) XX (find_lt k)
 have l1:=L_sub (M:=model pw w) XX
 rw [keyLt'_oneType,oneLt'_eq]
 simp only [if_true]
 refine wpAny_bind (wpAny_cRoomFor (by exact zz38 hu) ?_)
 have fin:wpAny (model pw w) A (call (.builtin "tuple.__lt__") [.ref m,.ref m']) (fun v s'=>v=.bool (triLt p q)/\s'=⟨hp,gg,d,tk,os⟩) E ⟨hp,gg,d,tk,os⟩:=by
  refine wpAny_call (codeAny_call_builtin lt_plain lt_entry (@check_slot (model pw w) _ _ _ "tuple.__lt__" "tuple" "__lt__" (.ref m) [.ref m'] [] _ lt_kind lt_split (ty.andThen l1) (lt_args _ _) ?_))
  refine wpAny_mono (mlt_run (w:=w) (R:=fun c=>c=triLt p q) (fun j=>match j with|0=>decide (p.1=q.1)|1=>decide (p.2.1=q.2.1)|_=>decide (p.2.2=q.2.2))
   (fun j=>match j with|0=>decide (p.1<q.1)|1=>decide (p.2.1<q.2.1)|_=>decide (p.2.2<q.2.2)) (fun A Q E z=>l1 A Q E _ (fun _ _ e=>e) z) hmm hmm' ?_ ?_) (fun fin s' z=>?_) fun _ _ z=>z
  · intro j j1 j2
    have j3:j<3:=j1
    obtain rfl|rfl|rfl:j=0\/j=1\/j=2:=by exact zz39 j3
    · exact ⟨eqN p.1 q.1,fun _=>ltN p.1 q.1⟩
    · exact ⟨eqN p.2.1 q.2.1,fun _=>ltN p.2.1 q.2.1⟩
    · exact ⟨eqN p.2.2 q.2.2,fun _=>ltN p.2.2 q.2.2⟩
  · show lexB _ _ 3 3 3 0=_
    simp only [lexB,triLt]
    by_cases e1:p.1=q.1
    · by_cases e2:p.2.1=q.2.1
      · by_cases e3:p.2.2=q.2.2
        · simp [e1,e2,e3]
        · simp [e1,e2,e3]
      · simp [e1,e2]
    · simp [e1]
  · obtain ⟨v,rfl,rfl,c,rfl,rfl⟩:=z
    exact ⟨rfl,rfl⟩
 have body:∀E,wpAny (model pw w) A (do
  let b←bindSpecial (.builtin "tuple.__lt__") (.ref m)
  pure (some b):Sem (Option (Value×List Value))) (fun r s'=>r=some (.builtin "tuple.__lt__",[.ref m])/\s'=⟨hp,gg,d,tk,os⟩) E ⟨hp,gg,d,tk,os⟩:=by
  intro E
  rw [lt_bind]
  exact wpAny_bind (wpAny_pure (wpAny_pure ⟨rfl,rfl⟩))
 refine wpAny_bind ?_
 unfold callSpecialIfBound?
 refine wpAny_holding (wpAny_bind ?_)
 unfold bindSpecialIfBound? specialOf
 refine wpAny_bind (wpAny_bind (ty.here (l0.here ?_)))
 dsimp only
 refine wpAny_bind (wpAny_askSetting ?_)
 split
 · refine wpAny_mono (body E) (fun r s' z=>?_) fun _ _ z=>z
   obtain ⟨rfl,rfl⟩:=z
   dsimp only
   refine wpAny_bind (wpAny_mono fin (fun v s' z=>?_) fun _ _ z=>z)
   obtain ⟨rfl,rfl⟩:=z
   refine wpAny_pure ?_
   exact wpAny_truthy_bool h
 · refine wpAny_tryCatch (wpAny_mono (body fun _ _=>False) (fun r s' z=>?_) fun _ _ z=>z.elim)
   obtain ⟨rfl,rfl⟩:=z
   dsimp only
   refine wpAny_bind (wpAny_mono fin (fun v s' z=>?_) fun _ _ z=>z)
   obtain ⟨rfl,rfl⟩:=z
   refine wpAny_pure ?_
   exact wpAny_truthy_bool h
end
end Mine.Internal
namespace Mine.Internal
open PySem PySem.W PyProof.Rows PySem.Calls PySem.Spec
theorem sortedHeap_at{h:Heap}{a:Addr}{vs:List Value}{n:Nat}(ho:h.get? a=some (lstObj vs n))(out:Array Value):∃e,(sortedHeap h a vs out).get? a=some (seqObj "list" out e):=by
 unfold sortedHeap
 have h1:=get?_update_seq ho (fun _=>#[])
 exact ⟨_,get?_update_seq (Heap.get?_push_of_some _ (Heap.get?_push_of_some _ h1)) (fun _=>out)⟩
theorem sortedHeap_ne{h:Heap}{a:Addr}{vs:List Value}{out:Array Value}{b:Addr}{o:Obj}(hb:b≠a)(e:h.get? b=some o):(sortedHeap h a vs out).get? b=some o:=by
 unfold sortedHeap
 rw [Heap.get?_update_ne _ _ _ _ hb]
 exact Heap.get?_push_of_some _ (Heap.get?_push_of_some _ (by rw [Heap.get?_update_ne _ _ _ _ hb];exact e))
noncomputable def IsMs(g:Heap):List Value->List (Nat×Nat×Nat)->Prop
 | [],[]=>True
 | v::vs,p::ps=>IsM g v p/\IsMs g vs ps
 | _,_=>False
theorem IsMs.len{g:Heap}:∀{vs:List Value} {ps:List (Nat×Nat×Nat)},IsMs g vs ps->vs.length=ps.length
 | [],[],_=>rfl
 | _::_,_::_,h=>by simp [IsMs.len h.2]
 | [],_::_,h=>h.elim
 | _::_,[],h=>h.elim
theorem IsMs.up{g g':Heap}(k:Le g g'):∀{vs:List Value} {ps:List (Nat×Nat×Nat)},IsMs g vs ps->IsMs g' vs ps
 | [],[],_=>trivial
 | _::_,_::_,h=>⟨h.1.up k,IsMs.up k h.2⟩
 | [],_::_,h=>h.elim
 | _::_,[],h=>h.elim
theorem IsMs.get{g:Heap}:∀{vs:List Value} {ps:List (Nat×Nat×Nat)} {i:Nat} {v:Value},IsMs g vs ps->vs[i]?=some v->∃p,ps[i]?=some p/\IsM g v p
 | v::_,p::_,0,_,h,e=>by cases e;exact ⟨p,rfl,h.1⟩
 | _::_,_::_,i+1,_,h,e=>IsMs.get (i:=i) h.2 e
 | [],[],_,_,_,e=>by simp at e
 | [],_::_,_,_,h,_=>h.elim
 | _::_,[],_,_,h,_=>h.elim
theorem IsMs.snoc{g:Heap}{v:Value}{p:Nat×Nat×Nat}(hv:IsM g v p):∀{vs:List Value} {ps:List (Nat×Nat×Nat)},IsMs g vs ps->IsMs g (vs++[v]) (ps++[p])
 | [],[],_=>⟨hv,trivial⟩
 | _::_,_::_,h=>⟨h.1,IsMs.snoc hv h.2⟩
 | [],_::_,h=>h.elim
 | _::_,[],h=>h.elim
theorem IsMs.of_get{g:Heap}:∀{vs:List Value} {ps:List (Nat×Nat×Nat)},vs.length=ps.length->(∀(i:Nat) (v:Value) (p:Nat×Nat×Nat),vs[i]?=some v->ps[i]?=some p->IsM g v p)->IsMs g vs ps
 | [],[],_,_=>trivial
 | v::_,p::_,h,f=>⟨f 0 v p rfl rfl,IsMs.of_get (by simpa using h) fun i v p a b=>f (i+1) v p a b⟩
theorem triLt_eq(a b:Nat×Nat×Nat):triLt a b=decide ([a.1,a.2.1,a.2.2]<[b.1,b.2.1,b.2.2]):=by
 unfold triLt
 by_cases h1:a.1=b.1
 · by_cases h2:a.2.1=b.2.1
   · simp [List.cons_lt_cons_iff,h1,h2]
   · simp [List.cons_lt_cons_iff,h1,h2]
 · simp [List.cons_lt_cons_iff,h1]
theorem triLt_weak:WeakB triLt:=by
 rw [show triLt=fun a b=>decide ([a.1,a.2.1,a.2.2]<[b.1,b.2.1,b.2.2]) from funext fun a=>funext fun b=>triLt_eq a b]
 exact weakB_map (fun a:Nat×Nat×Nat=>[a.1,a.2.1,a.2.2]) weak_names
section
variable{w:World}{A:Around}{E:Value->Shared->Prop}{s:Shared}{env:Env}{h₀ g₀ g:Heap}{xt:List Addr}{L:Addr}{N:List Str}{vs:List (Option Value)}{pre post:List (Addr×Obj)}{n:Nat}
theorem sort_mt{a:Addr}{items:List Value}{j:Nat}{ps:List (Nat×Nat×Nat)}{pos:Pos}{Q:Value->Shared->Prop}(hA:Ok A n)(X:Sm2 g)(F:St h₀ xt g₀ g L N vs (pre++(a,lstObj items j)::post) s.heap)(hm:IsMs g items ps)(h64:ps.length<64)
 (h:∀out ps' e h',ps'.Perm ps->ps'.Pairwise (fun a b=>triLt b a=false)->IsMs g out ps'->St h₀ xt g₀ g L N vs (pre++(a,lstObj out e)::post) h'->Q .none {s with heap:=h'}) :
 MethodOnS pw w A E "sort" (.ref a) pos [] Q s:=by
 have ho:=(F.mt (a,lstObj items j) (by simp)).1
 have ag:=(F.mt (a,lstObj items j) (by simp)).2.2.1
 have hlen:=hm.len
 have getd:∀i,i<items.length->IsM g (items.getD i Value.none) (ps.getD i (0,0,0)):=fun i hi=>by
  obtain ⟨p,hp,hm'⟩:=hm.get (i:=i) (v:=items[i]) (by simp [hi])
  have hi2:i<ps.length:=by exact zz40 hlen hi
  have e1:items.getD i Value.none=items[i]:=by simp [hi]
  have e2:ps.getD i (0,0,0)=ps[i]:=by simp [hi2]
  rw [e1,e2]
  rw [List.getElem?_eq_getElem hi2] at hp;cases hp;exact hm'
 have keep:∀h',(∀b o,b≠a->s.heap.get? b=some o->h'.get? b=some o)->Le g h':=fun h' k b o e=>k b o (fun q=>by rw [q,ag] at e;cases e) (F.keep _ _ e)
 refine ⟨"list","list.sort",PySem.F.plainAttrs_list,slot_list_sort,by show builtinType _=_;rw [builtinType_eq_fast];kernel_rfl,⟨_,ho,rfl⟩,fun b e=>by cases e;exact ⟨_,ho,rfl⟩,?_⟩
 refine callWith_any rfl (args0 ⟨trivial,?_⟩)
 refine wpAny_call_entry slot_list_sort ⟨_,ho,rfl⟩ entry_list_sort (srt_tree (T:=.ref 135) ho (by exact zz41 h64 hlen) (fun h' k v hv=>?_) rfl (by rfl) (fun i j=>triLt (ps.getD i (0,0,0)) (ps.getD j (0,0,0))) ⟨fun a=>triLt_weak.refl _,fun a b c=>triLt_weak.trans _ _ _,fun a b=>triLt_weak.asym _ _⟩ (fun i j h' C hi hj kp hC=>?_) fun p hp hu=>?_) (args_list_sort _)
 · obtain ⟨i,hi⟩:=List.getElem?_of_mem hv
   obtain ⟨p,hp,m,dx,t1,t2,t3,rfl,e⟩:=hm.get hi
   exact ((Looks.ld (keep h' k _ _ e)).andThen .now)
 · exact keyLt_mt X (keep h' kp) (getd i hi) (getd j hj) (by have:=hA.c;show A.units+1+30<cLine;exact zz42 this) hC
 · obtain ⟨e,he⟩:=sortedHeap_at (vs:=items) ho (List.toArray (p.toList.map fun i=>items.getD i Value.none))
   have F':=F.turn' (h₁:=sortedHeap s.heap a items (List.toArray (p.toList.map fun i=>items.getD i Value.none))) (fun b o hb q=>sortedHeap_ne hb q) he
   have hpl:=perm_list hp
   refine ⟨_,rfl,h _ (p.toList.map fun i=>ps.getD i (0,0,0)) e _ ?_ (sort_pair (0,0,0) (by have:=hp.size_eq;simpa using this) hu) (IsMs.of_get (by simp) fun i v q hv hq=>?_) F'⟩
   · have:=hpl.map fun i=>ps.getD i (0,0,0)
     rw [hlen,map_getD_range] at this
     exact this
   · rw [List.getElem?_map] at hv hq
     cases z:p.toList[i]? with
     | none=>rw [z] at hv;cases hv
     | some j' =>
      rw [z] at hv hq
      simp only [Option.map_some,Option.some.injEq] at hv hq
      subst hv hq
      exact getd j' (by have:=hpl.mem_iff.mp (List.mem_of_getElem? z);simpa using this)
end
end Mine.Internal
namespace Mine.Internal
open PySem
noncomputable abbrev Run:=Nat×Nat×Nat
noncomputable def upd(b r:Run):Run:=if b.2.2<r.2.2 then r else b
noncomputable def best(alo blo:Nat)(rs:List Run):Run:=rs.foldl upd (alo,blo,0)
noncomputable def Bef(r r':Run):Prop:=r.1+r.2.2<=r'.1/\r.2.1+r.2.2<=r'.2.1/\(r.1+r.2.2<r'.1\/r.2.1+r.2.2<r'.2.1)
structure Box(A B:List Str)(alo ahi blo bhi:Nat)(rs:List Run):Prop where
 ha:ahi<=A.length
 hb:bhi<=B.length
 la:alo<=ahi
 lb:blo<=bhi
 sep:rs.Pairwise Bef
 inn:∀r∈rs,alo<=r.1/\r.1+r.2.2<=ahi/\blo<=r.2.1/\r.2.1+r.2.2<=bhi/\0<r.2.2
 on:∀r∈rs,∀t<r.2.2,A[r.1+t]?=B[r.2.1+t]?
 all:∀i j,alo<=i->i<ahi->blo<=j->j<bhi->A[i]?=B[j]?->∃r∈rs,∃t<r.2.2,i=r.1+t/\j=r.2.1+t
theorem pw_or{α:Type}{R:α->α->Prop}:∀{l:List α} {a b:α},l.Pairwise R->a∈l->b∈l->a=b\/R a b\/R b a
 | x::l,a,b,h,ha,hb=>by
  obtain ⟨h1,h2⟩:=List.pairwise_cons.mp h
  rcases List.mem_cons.mp ha with e1|ha'<;>rcases List.mem_cons.mp hb with e2|hb'
  · exact .inl (e1.trans e2.symm)
  · exact .inr (.inl (e1▸h1 b hb'))
  · exact .inr (.inr (e2▸h1 a ha'))
  · exact pw_or h2 ha' hb'
theorem scan_add(A B:List Str)(blo bhi:Nat):∀(m n i:Nat) (s:SS),scan A B blo bhi (m+n) i s=scan A B blo bhi n (i+m) (scan A B blo bhi m i s)
 | 0,n,i,s=>by simp [scan]
 | m+1,n,i,s=>by
  rw [show m+1+n=(m+n)+1 by exact zz366,scan,scan_add A B blo bhi m n (i+1),scan,show i+1+m=i+(m+1) by exact zz120]
noncomputable def SS.run(s:SS):Run:=(s.bi,s.bj,s.bk)
theorem row_gap{A B:List Str}{blo bhi i:Nat}{s:SS}(h:∀j,blo<=j->j<bhi->j<B.length->A[i]?≠B[j]?):row A B blo bhi i s={s with prev:=none}:=by
 unfold row
 cases q:(A[i]?).bind fun x=>B.idxOf? x with
 | none=>rfl
 | some j =>
  obtain ⟨x,hx,hj⟩:=Option.bind_eq_some_iff.mp q
  have e:=idx_at hj
  show hit blo bhi i j s=_
  unfold hit
  have hl:=(List.getElem?_eq_some_iff.mp e).1
  rw [if_pos]
  rcases Nat.lt_or_ge j blo with z|z
  · exact .inl z
  · rcases Nat.lt_or_ge j bhi with z2|z2
    · exact absurd (hx.trans e.symm) (h j z z2 hl)
    · exact .inr z2
theorem scan_gap{A B:List Str}{blo bhi:Nat}:∀{m i:Nat} {s:SS},(∀t<m,∀j,blo<=j->j<bhi->j<B.length->A[i+t]?≠B[j]?)->(scan A B blo bhi m i s).run=s.run/\(0<m->(scan A B blo bhi m i s).prev=none)
 | 0,i,s,_=>⟨rfl,fun h=>absurd h (by exact zz367)⟩
 | m+1,i,s,h=>by
  have h0:row A B blo bhi i s={s with prev:=none}:=row_gap (by simpa using h 0 (by exact zz368))
  have ih:=scan_gap (m:=m) (i:=i+1) (s:={s with prev:=none}) (fun t ht=>by rw [show i+1+t=i+(t+1) by exact zz120];exact h (t+1) (by exact zz369 ht))
  rw [scan,h0]
  refine ⟨ih.1,fun _=>?_⟩
  cases m with
  | zero=>rfl
  | succ m=>exact ih.2 (by exact zz368)
theorem row_hit{A B:List Str}{blo bhi i j:Nat}{x:Str}{s:SS}(hn:B.Nodup)(ha:A[i]?=some x)(hb:B[j]?=some x):row A B blo bhi i s=hit blo bhi i j s:=by
 unfold row
 rw [ha]
 show (match B.idxOf? x with|none=>_|some j=>_)=_
 rw [idx_of hn hb]
theorem scan_run{A B:List Str}{blo bhi:Nat}(hn:B.Nodup){r:Run}{s:SS}(hon:∀t<r.2.2,A[r.1+t]?=B[r.2.1+t]?)(h1:blo<=r.2.1)(h2:r.2.1+r.2.2<=bhi)(h3:bhi<=B.length)(h0:ranOn s.prev r.2.1=0) :
 ∀m≤r.2.2,(scan A B blo bhi m r.1 s).run=upd s.run (r.1,r.2.1,m)/\(scan A B blo bhi m r.1 s).prev=if m=0 then s.prev else some (r.2.1+m-1,m)
 | 0,_=>by simp [scan,upd]
 | m+1,hm=>by
  obtain ⟨e1,e2⟩:=scan_run hn hon h1 h2 h3 h0 m (by exact zz231 hm)
  rw [scan_snoc]
  have hlt:r.2.1+m<B.length:=by exact zz370 h2 h3 hm
  have hb:B[r.2.1+m]?=some B[r.2.1+m]:=List.getElem?_eq_getElem hlt
  have ha:A[r.1+m]?=some B[r.2.1+m]:=(hon m (by exact zz232 hm)).trans hb
  rw [row_hit hn ha hb]
  generalize scan A B blo bhi m r.1 s=S at e1 e2 ⊢
  have hr:ranOn S.prev (r.2.1+m)=m:=by
   rw [e2]
   split
   · rename_i z;subst z;simpa using h0
   · rename_i z
     unfold ranOn
     dsimp only
     rw [if_pos (by exact zz371 z)]
  unfold hit
  rw [if_neg (by exact zz372 h1 h2 hm),hr]
  have ebk:S.bk=(upd s.run (r.1,r.2.1,m)).2.2:=by rw [←e1];rfl
  by_cases c:S.bk<m+1
  · rw [if_pos c]
    refine ⟨?_,by simp⟩
    have c2:s.bk<m+1:=by
     rw [ebk] at c
     unfold upd SS.run at c
     dsimp only at c
     split at c<;>first|lia|(dsimp only at c;lia)
    show (r.1+m+1-(m+1),r.2.1+m+1-(m+1),m+1)=_
    unfold upd SS.run
    rw [if_pos c2,show r.1+m+1-(m+1)=r.1 by exact zz373,show r.2.1+m+1-(m+1)=r.2.1 by exact zz373]
  · rw [if_neg c]
    refine ⟨?_,by simp⟩
    show S.run=_
    rw [e1]
    rw [ebk] at c
    unfold upd SS.run at c ⊢
    dsimp only at c ⊢
    split at c
    · dsimp only at c;lia
    · rename_i z;dsimp only at c;rw [if_neg z,if_neg c]
theorem scan_all{A B:List Str}{blo bhi:Nat}(hn:B.Nodup)(hb:bhi<=B.length){ahi:Nat}:∀(rs:List Run) (i:Nat) (s:SS),i<=ahi->rs.Pairwise Bef ->
 (∀r∈rs,i<=r.1/\r.1+r.2.2<=ahi/\blo<=r.2.1/\r.2.1+r.2.2<=bhi/\0<r.2.2)->(∀r∈rs,∀t<r.2.2,A[r.1+t]?=B[r.2.1+t]?) ->
 (∀i' j,i<=i'->i'<ahi->blo<=j->j<bhi->A[i']?=B[j]?->∃r∈rs,∃t<r.2.2,i'=r.1+t/\j=r.2.1+t) ->
 (∀r∈rs,r.1=i->ranOn s.prev r.2.1=0)->(scan A B blo bhi (ahi-i) i s).run=rs.foldl upd s.run
 | [],i,s,hi,_,_,_,all,_=>by
  refine (scan_gap (fun t ht j h1 h2 h3 e=>?_)).1
  obtain ⟨r,hr,_⟩:=all (i+t) j (by exact zz374) (by exact zz375 ht) h1 h2 e
  cases hr
 | r::rs,i,s,hi,sep,inn,on,all,hp=>by
  obtain ⟨i1,i2,i3,i4,i5⟩:=inn r (.head _)
  obtain ⟨s1,s2⟩:=List.pairwise_cons.mp sep
  have hsplit:ahi-i=(r.1-i)+(r.2.2+(ahi-(r.1+r.2.2))):=by exact zz376 i1 i2
  rw [hsplit,scan_add,scan_add,show i+(r.1-i)=r.1 by exact zz377 i5 hsplit]
  have gap:=scan_gap (A:=A) (B:=B) (blo:=blo) (bhi:=bhi) (m:=r.1-i) (i:=i) (s:=s) (fun t ht j h1 h2 h3 e=>by
   obtain ⟨r',hr',u,hu,e1,e2⟩:=all (i+t) j (by exact zz374) (by exact zz378 hsplit ht) h1 h2 e
   rcases List.mem_cons.mp hr' with rfl|hr'
   · exact zz379 e1 ht
   · have:=(s1 r' hr').1;exact zz380 ht e1 this)
  have h0:ranOn (scan A B blo bhi (r.1-i) i s).prev r.2.1=0:=by
   by_cases c:r.1=i
   · rw [show r.1-i=0 by exact zz381 c];exact hp r (.head _) c
   · rw [gap.2 (by exact zz382 i5 hsplit c)];rfl
  obtain ⟨e1,e2⟩:=scan_run hn (r:=r) (on r (.head _)) i3 i4 hb h0 r.2.2 (Nat.le_refl _)
  have ih:=scan_all (A:=A) (blo:=blo) hn hb (ahi:=ahi) rs (r.1+r.2.2) (scan A B blo bhi r.2.2 r.1 (scan A B blo bhi (r.1-i) i s)) i2 s2
   (fun r' hr'=>by have:=inn r' (.tail _ hr');have:=(s1 r' hr').1;lia) (fun r' hr'=>on r' (.tail _ hr'))
   (fun i' j h1 h2 h3 h4 e=>by
    obtain ⟨r',hr',t,ht,e1,e2⟩:=all i' j (by exact zz383 hsplit h1 h2) h2 h3 h4 e
    rcases List.mem_cons.mp hr' with rfl|hr'
    · lia
    · exact ⟨r',hr',t,ht,e1,e2⟩)
   (fun r' hr' e=>by
    have:=s1 r' hr'
    unfold Bef at this
    rw [e2,if_neg (by exact zz138 i5)]
    unfold ranOn
    dsimp only
    rw [if_neg (by exact zz384 i5 e this)])
  rw [ih,e1,gap.1]
  rfl
theorem best_mem(alo blo:Nat):∀(rs:List Run) (b:Run),rs.foldl upd b=b\/rs.foldl upd b∈rs
 | [],_=>.inl rfl
 | r::rs,b=>by
  rw [List.foldl_cons]
  rcases best_mem alo blo rs (upd b r) with h|h
  · rw [h]
    unfold upd
    split
    · exact .inr (.head _)
    · exact .inl rfl
  · exact .inr (.tail _ h)
theorem best_pos:∀(rs:List Run) (b:Run),(∃r∈rs,0<r.2.2)->0<(rs.foldl upd b).2.2:=by
 have mono:∀(rs:List Run) (b:Run),b.2.2<=(rs.foldl upd b).2.2:=by
  intro rs
  induction rs with
  | nil=>intro b;exact Nat.le_refl _
  | cons r rs ih =>
   intro b
   rw [List.foldl_cons]
   refine Nat.le_trans ?_ (ih _)
   unfold upd;split<;>lia
 intro rs
 induction rs with
 | nil=>rintro b ⟨r,hr,_⟩;cases hr
 | cons r rs ih =>
  rintro b ⟨r',hr',hp⟩
  rw [List.foldl_cons]
  rcases List.mem_cons.mp hr' with rfl|hr'
  · refine Nat.lt_of_lt_of_le ?_ (mono rs _)
    unfold upd;split<;>lia
  · exact ih _ ⟨r',hr',hp⟩
section
variable{A B:List Str}{alo ahi blo bhi:Nat}{rs:List Run}
theorem Box.scan(hn:B.Nodup)(h:Box A B alo ahi blo bhi rs):(scan A B blo bhi (ahi-alo) alo (first alo blo)).run=best alo blo rs :=
 scan_all hn h.hb rs alo (first alo blo) h.la h.sep (fun r hr=>h.inn r hr) h.on (fun i j a b c d e=>h.all i j a b c d e) fun r _ _=>rfl
theorem Box.cases(h:Box A B alo ahi blo bhi rs):(rs=[]/\best alo blo rs=(alo,blo,0))\/(best alo blo rs∈rs/\0<(best alo blo rs).2.2):=by
 cases rs with
 | nil=>exact .inl ⟨rfl,rfl⟩
 | cons r rs =>
  have hp:=best_pos (r::rs) (alo,blo,0) ⟨r,.head _,(h.inn r (.head _)).2.2.2.2⟩
  rcases best_mem alo blo (r::rs) (alo,blo,0) with e|e
  · unfold best;rw [e] at hp;exact absurd hp (by simp)
  · exact .inr ⟨e,hp⟩
theorem Box.stop(hn:B.Nodup)(h:Box A B alo ahi blo bhi rs):Stop A B alo ahi blo bhi (Mine.Internal.scan A B blo bhi (ahi-alo) alo (first alo blo)):=by
 have e:=h.scan hn
 generalize Mine.Internal.scan A B blo bhi (ahi-alo) alo (first alo blo)=S at e
 have ei:S.bi=(best alo blo rs).1:=by rw [←e];rfl
 have ej:S.bj=(best alo blo rs).2.1:=by rw [←e];rfl
 have ek:S.bk=(best alo blo rs).2.2:=by rw [←e];rfl
 have h1:=h.ha
 have h2:=h.hb
 have h3:=h.la
 have h4:=h.lb
 rcases h.cases with ⟨rfl,eb⟩|⟨hm,hp⟩
 · rw [eb] at ei ej ek
   dsimp only at ei ej ek
   refine ⟨fun c=>by lia,fun c1 c2 e=>?_,by exact zz385 h1 h3 ei ek,by exact zz385 h2 h4 ej ek⟩
   obtain ⟨r,hr,_⟩:=h.all _ _ (by exact zz386 ei) c1 (by exact zz386 ej) c2 e
   cases hr
 · generalize best alo blo rs=b at ei ej ek hm hp
   obtain ⟨b1,b2,b3,b4,b5⟩:=h.inn b hm
   refine ⟨fun c1 c2 e=>?_,fun c1 c2 e=>?_,by exact zz387 h1 ei ek b2,by exact zz387 h2 ej ek b4⟩
   · obtain ⟨r,hr,t,ht,e1,e2⟩:=h.all (S.bi-1) (S.bj-1) (by exact zz281 c1) (by exact zz388 ei b2 c1) (by exact zz281 c2) (by exact zz388 ej b4 c2) e
     rcases pw_or h.sep hr hm with q|q|q
     · subst q;exact zz389 c2 e2 ej
     · unfold Bef at q;exact zz390 ei ej ht e1 e2 q
     · unfold Bef at q;exact zz391 ej c2 e2 q
   · obtain ⟨r,hr,t,ht,e1,e2⟩:=h.all _ _ (by exact zz392 ei b1) c1 (by exact zz392 ej b3) c2 e
     rcases pw_or h.sep hr hm with q|q|q
     · subst q;exact zz393 ht e2 ej ek
     · unfold Bef at q;exact zz394 ej ht e2 q
     · unfold Bef at q;exact zz395 ei ej ek e1 e2 q
theorem Box.split{l r:List Run}{b:Run}(h:Box A B alo ahi blo bhi (l++b::r)):Box A B alo b.1 blo b.2.1 l/\Box A B (b.1+b.2.2) ahi (b.2.1+b.2.2) bhi r:=by
 have hm:b∈l++b::r:=by simp
 obtain ⟨b1,b2,b3,b4,b5⟩:=h.inn b hm
 have h1:=h.ha
 have h2:=h.hb
 obtain ⟨p1,p2,p3⟩:=List.pairwise_append.mp h.sep
 obtain ⟨p4,p5⟩:=List.pairwise_cons.mp p2
 have pl:∀x∈l,Bef x b:=fun x hx=>p3 x hx b (.head _)
 constructor
 · refine ⟨by exact zz396 b2 h1,by exact zz396 b4 h2,b1,b3,p1,fun x hx=>?_,fun x hx=>h.on x (by simp [hx]),fun i j c1 c2 c3 c4 e=>?_⟩
   · have:=h.inn x (by simp [hx])
     have:=pl x hx
     unfold Bef at this
     lia
   · obtain ⟨x,hx,t,ht,e1,e2⟩:=h.all i j c1 (by exact zz397 b2 c2) c3 (by exact zz397 b4 c4) e
     rcases List.mem_append.mp hx with hx|hx
     · exact ⟨x,hx,t,ht,e1,e2⟩
     · rcases List.mem_cons.mp hx with rfl|hx
       · lia
       · have:=p4 x hx;unfold Bef at this;lia
 · refine ⟨h1,h2,by exact zz398 b2,by exact zz398 b4,p5,fun x hx=>?_,fun x hx=>h.on x (by simp [hx]),fun i j c1 c2 c3 c4 e=>?_⟩
   · have:=h.inn x (by simp [hx])
     have:=p4 x hx
     unfold Bef at this
     lia
   · obtain ⟨x,hx,t,ht,e1,e2⟩:=h.all i j (by exact zz399 b1 c1) c2 (by exact zz399 b3 c3) c4 e
     rcases List.mem_append.mp hx with hx|hx
     · have:=pl x hx;unfold Bef at this;lia
     · rcases List.mem_cons.mp hx with rfl|hx
       · lia
       · exact ⟨x,hx,t,ht,e1,e2⟩
theorem Box.nil_of(h:Box A B alo ahi blo bhi rs)(c:¬(alo<ahi/\blo<bhi)):rs=[]:=by
 cases rs with
 | nil=>rfl
 | cons r rs =>
  have:=h.inn r (.head _)
  lia
end
end Mine.Internal
namespace Mine.Internal
open PySem PySem.W PyProof.Rows PySem.Calls PySem.Spec
noncomputable def Zip{α:Type}(P:Value->α->Prop)(vs:List Value)(as:List α):Prop:=vs.length=as.length/\∀(i:Nat) (v:Value) (a:α),vs[i]?=some v->as[i]?=some a->P v a
theorem Zip.nil{α:Type}{P:Value->α->Prop}:Zip P [] []:=⟨rfl,fun i v a h=>by simp at h⟩
theorem Zip.mono{α:Type}{P P':Value->α->Prop}(h:∀v a,P v a->P' v a){vs:List Value}{as:List α}(z:Zip P vs as):Zip P' vs as:=⟨z.1,fun i v a e f=>h _ _ (z.2 i v a e f)⟩
theorem Zip.snoc{α:Type}{P:Value->α->Prop}{vs:List Value}{as:List α}{v:Value}{a:α}(z:Zip P vs as)(h:P v a):Zip P (vs++[v]) (as++[a]):=by
 refine ⟨by simp [z.1],fun i u b e f=>?_⟩
 rcases Nat.lt_or_ge i vs.length with q|q
 · rw [List.getElem?_append_left q] at e
   rw [List.getElem?_append_left (by rw [←z.1];exact q)] at f
   exact z.2 i u b e f
 · rw [List.getElem?_append_right q] at e
   rw [List.getElem?_append_right (by rw [←z.1];exact q),←z.1] at f
   have:i-vs.length=0:=by
    have:=(List.getElem?_eq_some_iff.mp e).1
    simp at this;exact zz400 this
   rw [this] at e f
   cases e;cases f;exact h
theorem Zip.last{α:Type}{P:Value->α->Prop}{vs:List Value}{as:List α}(z:Zip P vs as)(h:vs≠[]):∃vs' v as' a,vs=vs'++[v]/\as=as'++[a]/\Zip P vs' as'/\P v a:=by
 have h2:as≠[]:=fun q=>by subst q;exact h (List.length_eq_zero_iff.mp z.1)
 refine ⟨vs.dropLast,vs.getLast h,as.dropLast,as.getLast h2,(List.dropLast_concat_getLast h).symm,(List.dropLast_concat_getLast h2).symm,⟨by simp [z.1],fun i v a e f=>?_⟩,?_⟩
 · rw [List.getElem?_dropLast] at e f
   split at e
   · split at f
     · exact z.2 i v a e f
     · cases f
   · cases e
 · refine z.2 (vs.length-1) _ _ ?_ ?_
   · rw [List.getLast_eq_getElem,List.getElem?_eq_getElem]
   · rw [z.1,List.getLast_eq_getElem,List.getElem?_eq_getElem]
theorem Zip.get{α:Type}{P:Value->α->Prop}{vs:List Value}{as:List α}(z:Zip P vs as){i:Nat}{v:Value}(h:vs[i]?=some v):∃a,as[i]?=some a/\P v a:=by
 have hl:i<as.length:=by have:=(List.getElem?_eq_some_iff.mp h).1;rw [z.1] at this;exact this
 exact ⟨as[i],List.getElem?_eq_getElem hl,z.2 i v _ h (List.getElem?_eq_getElem hl)⟩
noncomputable def IsT(g:Heap)(v:Value)(p:Run):Prop:=∃T t1 t2 t3,v=.ref T/\g.get? T=some (tupObj [.int (p.1:Int) t1,.int (p.2.1:Int) t2,.int (p.2.2:Int) t3])
noncomputable def IsQ(A B:List Str)(g:Heap)(v:Value)(rs:List Run):Prop:=∀G:Prop,(∀T alo ahi blo bhi t1 t2 t3 t4,v=.ref T->g.get? T=some (tupObj [.int ((alo:Nat):Int) t1,.int ((ahi:Nat):Int) t2,.int ((blo:Nat):Int) t3,.int ((bhi:Nat):Int) t4])->Box A B alo ahi blo bhi rs->G)->G
theorem IsQ.of{A B:List Str}{g:Heap}{v:Value}{rs:List Run}{alo ahi blo bhi:Nat}(h:∃T t1 t2 t3 t4,v=.ref T/\g.get? T=some (tupObj [.int ((alo:Nat):Int) t1,.int ((ahi:Nat):Int) t2,.int ((blo:Nat):Int) t3,.int ((bhi:Nat):Int) t4]))(bx:Box A B alo ahi blo bhi rs):IsQ A B g v rs:=by
 obtain ⟨T,t1,t2,t3,t4,e,f⟩:=h
 exact fun G q=>q T alo ahi blo bhi t1 t2 t3 t4 e f bx
theorem IsT.up{g g':Heap}(k:Le g g'){v:Value}{p:Run}(h:IsT g v p):IsT g' v p:=let ⟨T,a,b,c,e,f⟩:=h;⟨T,a,b,c,e,k _ _ f⟩
theorem IsQ.up{A B:List Str}{g g':Heap}(k:Le g g'){v:Value}{rs:List Run}(h:IsQ A B g v rs):IsQ A B g' v rs:=fun G q=>h G fun T a b c d t1 t2 t3 t4 e f z=>q T a b c d t1 t2 t3 t4 e (k _ _ f) z
noncomputable def work(rss:List (List Run)):Nat:=(rss.map fun rs=>2*rs.length+1).sum
theorem work_snoc(rss:List (List Run))(rs:List Run):work (rss++[rs])=work rss+(2*rs.length+1):=by simp [work]
theorem work_len:∀rss:List (List Run),rss.length<=work rss
 | []=>Nat.zero_le _
 | rs::r=>by have:=work_len r;simp only [work,List.map_cons,List.sum_cons,List.length_cons] at this ⊢;exact zz401 this
section
variable{prog:Program}{w:World}{A:Around}{s:Shared}{env:Env}{E:Value->Shared->Prop}
variable{h₀ g₀ g:Heap}{xt:List Addr}{L:Addr}{N:List Str}{vs:List (Option Value)}{mu:List (Addr×Obj)}
end
theorem perm_uniq{α:Type}{blt:α->α->Bool}(tri:∀a b,blt a b=false->blt b a=false->a=b):∀{l l':List α},l.Perm l'->l.Pairwise (fun a b=>blt b a=false)->l'.Pairwise (fun a b=>blt b a=false)->l=l'
 | [],l',h,_,_=>(List.Perm.nil_eq h)
 | a::l,[],h,_,_=>by have:=h.length_eq;simp at this
 | a::l,b::l',h,h1,h2=>by
  obtain ⟨p1,p2⟩:=List.pairwise_cons.mp h1
  obtain ⟨q1,q2⟩:=List.pairwise_cons.mp h2
  have ha:a∈b::l':=h.subset (.head _)
  have hb:b∈a::l:=h.symm.subset (.head _)
  have e:a=b:=by
   rcases List.mem_cons.mp ha with e|ha
   · exact e
   · rcases List.mem_cons.mp hb with e|hb
     · exact e.symm
     · exact tri a b (q1 a ha) (p1 b hb)
  subst e
  rw [perm_uniq tri h.cons_inv p2 q2]
theorem triLt_tri(a b:Nat×Nat×Nat)(h1:triLt a b=false)(h2:triLt b a=false):a=b:=by
 obtain ⟨a1,a2,a3⟩:=a
 obtain ⟨b1,b2,b3⟩:=b
 unfold triLt at h1 h2
 dsimp only at h1 h2
 have:a1=b1:=by
  by_cases e:a1=b1
  · exact e
  · rw [if_neg e] at h1;rw [if_neg (Ne.symm e)] at h2
    simp at h1 h2;exact zz18 h1 h2
 subst this
 rw [if_pos rfl] at h1 h2
 have:a2=b2:=by
  by_cases e:a2=b2
  · exact e
  · rw [if_neg e] at h1;rw [if_neg (Ne.symm e)] at h2
    simp at h1 h2;exact zz18 h1 h2
 subst this
 rw [if_pos rfl] at h1 h2
 simp at h1 h2
 have:a3=b3:=by exact zz18 h1 h2
 rw [this]
theorem runs_sorted{R:List Run}(h:R.Pairwise Bef)(hp:∀r∈R,0<r.2.2):R.Pairwise (fun a b=>triLt b a=false):=by
 refine List.Pairwise.imp_of_mem (fun {a b} ha hb hab=>?_) h
 have:=hp a ha
 unfold Bef at hab
 unfold triLt
 rw [if_neg (by exact zz19 hab this)]
 simp;exact zz20 hab
end Mine.Internal
namespace Mine.Internal
open PySem PySem.W PyProof.Rows PySem.Calls PySem.Spec
namespace Fr
variable{w:World}{N Gl:List Str}{c:Fr w N Gl}{g:Heap}{V:List (Option Value)}{mu:List (Addr×Obj)}{h:Heap}{t:Nat}{e a b o:Expr}{x:Str}{pos p:Pos}{rest body:List Stmt}{Q:Flow->Shared->Prop}
theorem asMs{elts:List Expr}{k:Nat}{tp:Pos}{m dx:Addr}{v1 v2 v3:Value}{Qu:Unit->Shared->Prop}{Er:Value->Shared->Prop}(is:List Nat)(X:Sm2 g)(F:c.S g V mu h)(ht:g.get? m=some (mtO dx [v1,v2,v3]))(hm:Mtch N elts is)
 (H:let V':=setAll V is [v1,v2,v3];∀h' t',c.S g V' mu h'->Qu () (c.st h' t')) (hl:autoParam (elts.length=3) au0) (hn:autoParam ((assignEach elts c.env).length=3) au0) (hs:autoParam ((assignEach elts c.env).findIdx? (·.1)=none) au0) :
 wpAny (model pw w) c.A (assign (.Tuple elts k tp) c.env (.ref m)) Qu Er (c.st h t):=by
 rw [assign_Tuple]
 refine wpAny_bind (wpAny_standAt ?_)
 unfold unpack
 rw [hn,hs]
 exact wpAny_bind (wpAny_holding (unp_mt (s:=c.st h t) c.hd X F ht fun h' F'=>ao hm hl F' H))
end Fr
theorem Zip.lastK{α:Type}{P:Value->α->Prop}{vs:List Value}{as:List α}(z:Zip P vs as)(h:vs≠[]){G:Prop}(k:∀vs' v as' a,vs=vs'++[v]->as=as'++[a]->Zip P vs' as'->P v a->G):G :=
 let ⟨vs',v,as',a,e1,e2,z',p⟩:=z.last h
 k vs' v as' a e1 e2 z' p
theorem IsQ.k{A B:List Str}{g:Heap}{v:Value}{rs:List Run}(h:IsQ A B g v rs){G:Prop}(k:∀T alo ahi blo bhi t1 t2 t3 t4,v=.ref T->g.get? T=some (tupObj [.int ((alo:Nat):Int) t1,.int ((ahi:Nat):Int) t2,.int ((blo:Nat):Int) t3,.int ((bhi:Nat):Int) t4])->Box A B alo ahi blo bhi rs->G):G:=h _ k
theorem IsMs.getK{g:Heap}{vs:List Value}{ps:List (Nat×Nat×Nat)}{i:Nat}{v:Value}(h:IsMs g vs ps)(hv:vs[i]?=some v){G:Value->Prop}(k:∀p m dx t1 t2 t3,ps[i]?=some p->g.get? m=some (mtO dx [.int (p.1:Int) t1,.int (p.2.1:Int) t2,.int (p.2.2:Int) t3])->G (.ref m)):G v:=by
 obtain ⟨p,hp,m,dx,t1,t2,t3,rfl,e⟩:=h.get hv
 exact k p m dx t1 t2 t3 hp e
theorem Zip.getK{g:Heap}{vs:List Value}{as:List Run}(z:Zip (IsT g) vs as){i:Nat}{v:Value}(h:vs[i]?=some v){G:Prop}(k:∀p,as[i]?=some p->∀T t1 t2 t3,v=.ref T->g.get? T=some (tupObj [.int (p.1:Int) t1,.int (p.2.1:Int) t2,.int (p.2.2:Int) t3])->G):G :=
 let ⟨p,hp,T,t1,t2,t3,e,eT⟩:=z.get h
 k p hp T t1 t2 t3 e eT
end Mine.Internal
namespace Mine.Internal
open PySem PySem.W PyProof.Rows PySem.Calls PySem.Spec
noncomputable def pvR(R:List Run):Nat->Run
 | 0=>(0,0,0)
 | i+1=>R.getD i (0,0,0)
noncomputable abbrev nBlk:List Str:=["self","la","lb","queue","matching_blocks","alo","ahi","blo","bhi","i","j","k","x","i1","j1","k1","non_adjacent","i2","j2","k2"]
noncomputable abbrev gBlk:List Str:=["len","list","map","Match"]
theorem Box.k{A B:List Str}{alo ahi blo bhi:Nat}{rs:List Run}{S:SS}(bx:Box A B alo ahi blo bhi rs)(nb:B.Nodup)(eS:Mine.Internal.scan A B blo bhi (ahi-alo) alo (first alo blo)=S){G:Prop}(k0:rs=[]->S.bk=0->G)
 (k1:∀l r,rs=l++(S.bi,S.bj,S.bk)::r->0<S.bk->Box A B alo S.bi blo S.bj l->Box A B (S.bi+S.bk) ahi (S.bj+S.bk) bhi r->G):G:=by
 have er:=bx.scan nb
 rw [eS] at er
 have hc:=bx.cases
 rw [←er] at hc
 rcases hc with ⟨a,b⟩|⟨a,b⟩
 · exact k0 a (congrArg (fun p=>p.2.2) b)
 · obtain ⟨l,r,e⟩:=List.append_of_mem a
   subst e
   obtain ⟨bl,br⟩:=bx.split
   exact k1 l r rfl b bl br
theorem pvR_step{R:List Run}{i:Nat}{p r:Run}(hsep:R.Pairwise Bef)(hpos:∀r∈R,0<r.2.2)(hp:pvR R i=p)(hr:R[i]?=some r){G:Prop}(k0:i=0->p=(0,0,0)->G)(k1:∀i',i=i'+1->R[i']?=some p->Bef p r->0<p.2.2->G):G:=by
 cases i with
 | zero=>exact k0 rfl hp.symm
 | succ i' =>
  have hil:=(List.getElem?_eq_some_iff.mp hr).1
  have hi':i'<R.length:=Nat.lt_of_succ_lt hil
  have ep:R[i']?=some p:=by
   rw [←hp];show R[i']?=some (R.getD i' (0,0,0))
   rw [List.getD_eq_getElem?_getD,List.getElem?_eq_getElem hi'];rfl
  have hpw:=List.pairwise_iff_getElem.mp hsep i' (i'+1) hi' hil (Nat.lt_succ_self _)
  have e1:R[i']=p:=by rw [List.getElem?_eq_getElem hi'] at ep;exact Option.some.inj ep
  have e2:R[i'+1]=r:=by rw [List.getElem?_eq_getElem hil] at hr;exact Option.some.inj hr
  rw [e1,e2] at hpw
  exact k1 i' rfl ep hpw (hpos p (List.mem_of_getElem? ep))
theorem pvR_next{R:List Run}{i:Nat}{r:Run}(hr:R[i]?=some r):pvR R (i+1)=r:=by show R.getD i (0,0,0)=r;rw [List.getD_eq_getElem?_getD,hr];rfl
theorem pvR_last{R:List Run}(q:0<R.length):R[R.length-1]?=some (pvR R R.length):=by
 obtain ⟨n',hn'⟩:∃n',R.length=n'+1:=⟨R.length-1,by exact zz130 q⟩
 rw [hn']
 show R[n'+1-1]?=some (R.getD n' (0,0,0))
 rw [show n'+1-1=n' by exact zz131,List.getD_eq_getElem?_getD,List.getElem?_eq_getElem (by exact zz132 hn')];rfl
theorem take_last{R:List Run}(q:0<R.length):R.take (R.length-1)++[pvR R R.length]=R:=by
 have:=List.take_add_one (l:=R) (i:=R.length-1)
 rw [pvR_last q,show R.length-1+1=R.length by exact zz133 q,List.take_length] at this
 exact this.symm
theorem merge_same{p r:Run}(e:p=(0,0,0))(h:p.1+p.2.2=r.1/\p.2.1+p.2.2=r.2.1):r=(p.1,p.2.1,p.2.2+r.2.2):=by
 subst e
 obtain ⟨a,b,d⟩:=r
 simp at h ⊢
 exact ⟨h.1.symm,h.2.symm⟩
theorem perm_step{mp:List Run}{rss' rss1 rss2:List (List Run)}{l r R:List Run}{b:Run}(hperm:(mp++(rss'++[l++b::r]).flatten).Perm R)(hp1:rss1.flatten.Perm (rss'.flatten++l))(hp2:rss2.flatten.Perm (rss1.flatten++r)):(mp++[b]++rss2.flatten).Perm R:=by
 refine List.Perm.trans ?_ hperm
 have p1:(mp++[b]++rss2.flatten).Perm (mp++[b]++((rss'.flatten++l)++r)):=List.Perm.append_left _ (hp2.trans (List.Perm.append_right _ hp1))
 refine p1.trans ?_
 rw [List.append_assoc,List.flatten_append]
 refine List.Perm.append_left _ ?_
 have pm:=(List.perm_middle (a:=b) (l₁:=rss'.flatten++l) (l₂:=r)).symm
 simpa [List.append_assoc] using pm
section
variable{w:World}{A:Around}{s:Shared}{g:Heap}{n₀:Nat}{x dx la lb db dj dp:Addr}{TA TB:List (Str×Tok)}
theorem blocks_core(X:Sm2 g)(kg:Le g s.heap)(hA:Ok A (n₀+8)){oc:Value}(Rd:∀{g' h:Heap},Le g g'->Me h x dx [.none,.ref la,.ref lb,.bool true,.none,oc,.none,.ref db,.ref dj,.ref dp]->Ready w g' h x dx la lb db dj dp TA TB .none oc)(hx:g.get? x=some (instO dx)){od:Obj}(hod:s.heap.get? dx=some od)
 (hat:AtO od [.none,.ref la,.ref lb,.bool true,.none,oc,.none,.ref db,.ref dj,.ref dp]) {ka kb:Nat} (ea:g.get? la=some (lstObj (strValues TA) ka)) (eb:g.get? lb=some (lstObj (strValues TB) kb)) (nb:(TB.map (·.1)).Nodup) (szA:TA.length<200) (szB:TB.length<200) (hdx:g.get? dx=none) {R:List Run}
 (hbox:Box (TA.map (·.1)) (TB.map (·.1)) 0 TA.length 0 TB.length R) (hR:R.length<60) {P:Heap->Heap->Value->Prop} (hP:∀g' h' D ys k,g'.get? D=some (lstObj ys k)->IsMs g' ys (R++[(TA.length,TB.length,0)])->P g' h' (.ref D)) :
 Gives pw w A (.call (.ref 203) ⟨[.ref x],[]⟩) s [dx] g P:=by
 refine Gives.frM 6 [.ref x] ["self"] ["la","lb","queue","matching_blocks","alo","ahi","blo","bhi","i","j","k","x","i1","j1","k1","non_adjacent","i2","j2","k2"] nBlk gBlk [(dx,od)] rfl X.toStat kg hA rfl (BindsTo.of_eq rfl) rfl rfl (by decide +kernel) (fun p hp=>by rw [List.mem_singleton.mp hp];exact ⟨hod,hdx,.head _⟩) (by simp) ?_
 intro h₁ t' env A' QQ cx hA' c V F hQ
 refine Fr.xDoc fun t'=>?_
 have self {g' h:Heap} {V:List (Option Value)} {pre post:List (Addr×Obj)} (k:Le g g') (hv:V[0]?=some (some (.ref x))) (F:c.S g' V (pre++(dx,od)::post) h) (i:Nat) {n:Str} {v:Value} {p1 p2:Pos} (hn:attrs[i]?=some n) (he:([.none,.ref la,.ref lb,.bool true,.none,oc,.none,.ref db,.ref dj,.ref dp]:List Value)[i]?=some v)
  (hb:attributeBase (.Name "self" p1) n c.env (eval (.Name "self" p1) c.env)=eval (.Name "self" p1) c.env) (hh:handedOut v=pure v):c.E h (.Attribute (.Name "self" p1) n p2) (fun _=>v):=Fr.attrO i (Fr.nV 0 F hv) (X.up k).toSm (k _ _ hx) F hat hb hn he hh
 refine Fr.xIf0 (Fr.tNotN (self (pre:=[]) Le.rfl' rfl F 4 rfl rfl rfl rfl) rfl (.inr (.inl rfl))) fun t=>?_
 refine Fr.xTup2 1 2 F (Fr.lenI X.toStat (.head _) (self (pre:=[]) Le.rfl' rfl F 1 rfl rfl rfl rfl) F.keep ea (lenV szA) (lenE rfl)) (Fr.lenI X.toStat (.head _) (self (pre:=[]) Le.rfl' rfl F 2 rfl rfl rfl rfl) F.keep eb (lenV szB) (lenE rfl)) ?_
 intro tla tlb V g₂ h t k2 F
 refine Fr.xLet 3 (lstE (sp1 ((Fr.tup4 F Fr.kI (Fr.nI 1 F) Fr.kI (Fr.nI 2 F)).use fun v g₃ h t k3 ev F=>sp0 (newOwn (s:=c.st h t) F (fun qa h F hqa=>⟨h,_,g₃,_,_,rfl,F,?_⟩))))) 
 intro h t F
 refine Fr.asV (c:=c) F ?_
 intro V F
 refine Fr.xNilO 4 F ?_
 intro ma hma V h t F
 have kk₃:=k2.tr k3
 have X₃:=X.up kk₃
 refine Fr.xWh (fun n g' V' mu'=>∀G:List (Option Value)->List (Addr×Obj)->Prop,(∀qv rss mv mp qj mj u5 u6 u7 u8 u9 u10 u11 u12,n=work rss->n<=200->Zip (IsQ (TA.map (·.1)) (TB.map (·.1)) g') qv rss->IsMs g' mv mp->(mp++rss.flatten).Perm R ->
  G [some (.ref x),some (.int (TA.length:Int) tla),some (.int (TB.length:Int) tlb),some (.ref qa),some (.ref ma),u5,u6,u7,u8,u9,u10,u11,u12,none,none,none,none,none,none,none] [(ma,lstObj mv mj),(qa,lstObj qv qj),(dx,od)])->G V' mu') (work [R]) F ?_ ?_
 · exact fun G q=>q [v] [R] [] [] 0 0 none none none none none none none none rfl (by simp [work];exact zz134 hR) (Zip.snoc (vs:=[]) (as:=[]) .nil (IsQ.of (alo:=0) (blo:=0) ev hbox)) trivial (by simp)
 intro n g' V' mu' h t TT kg' hJ
 apply hJ
 intro qv rss mv mp qj mj u5 u6 u7 u8 u9 u10 u11 u12 en hn200 hq hmv hperm hT F G kT kF
 have hql:qv.length<=200:=by rw [hq.1];exact Nat.le_trans (work_len rss) (en▸hn200)
 have tq (r:Bool) (hr:(!qv.isEmpty)=r):=Fr.tTruL (Fr.nV (pos:=⟨358,14,358,19⟩) (x:="queue") 3 F) (F.mt (qa,lstObj qv qj) (.tail _ (.head _))).1 (Nat.le_trans hql (by decide)) hr
 refine dite (qv=[]) (fun hqe=>kF (tq false (by rw [hqe];rfl)) fun t=>?_) fun hqe=>kT (tq true (by cases qv with|nil=>exact absurd rfl hqe|cons=>rfl)) fun t=>?_
 rotate_left
 · refine hq.lastK hqe fun qv' v rss' rs e1 e2 hq' hQv=>?_
   refine hQv.k fun T1 alo ahi blo bhi t1 t2 t3 t4 ev eT1 bx=>?_
   have F:c.S g' _ [(ma,lstObj mv mj),(qa,lstObj (qv'++[.ref T1]) qj),(dx,od)] h:=(e1.trans (congrArg (fun v=>qv'++[v]) ev))▸F
   rw [e2] at hperm en
   rw [work_snoc] at en
   have hql:(qv'++[Value.ref T1]).length<=200:=by rw [e1] at hql;simpa using hql
   have hql2:qv'.length<=16777216:=by simp at hql;exact zz135 hql
   have kk:=kk₃.tr kg'
   refine wpAny_execs_cons (Assign_Tuple (popS (h₀:=c.h₀) (xt:=c.xt) (g₀:=c.g₀) (L:=c.env.locals) (N:=nBlk) (a:=qa) (xs:=qv') (y:=.ref T1) (j:=qj) (pre:=[(ma,lstObj mv mj)]) (post:=[(dx,od)]) (Nat.le_trans hql (by decide)) ((Fr.nV 3 F).use fun _ t=>⟨rfl,g',_,F,fun h j' F=>Fr.asTs [5,6,7,8] F eT1 (.cons rfl (.cons rfl (.cons rfl (.cons rfl .nil)))) ?_⟩)))
   intro V h t F
   have lA:=le_map bx.ha
   have lB:=le_map bx.hb
   have hy:typeLookup (.type "object") "find_longest_match"=pure none:=by rw [typeLookup_type,builtinLookup_eq_fast];kernel_rfl
   have me':Me h x dx _:=Me.of (pre:=[(ma,lstObj mv mj),(qa,lstObj qv' j')]) (kk _ _ hx) F hat
   have X':=X.up kk
   refine genK (Mine.Internal.scan (TA.map (·.1)) (TB.map (·.1)) blo bhi (ahi-alo) alo (first alo blo)) fun S eS=>?_
   refine wpAny_execs_cons (Asg2 (ME4 rfl rfl ((Fr.nV 0 F).use fun _ t pl=>methA (f:=196) (fd:=fdFind) X'.toSm F.keep me' (by decide) (by decide +kernel) (X'.fnAt 5 rfl) hy
    ((Fr.nV 5 F).use fun _ t=>(Fr.nV 6 F).use fun _ t=>(Fr.nV 7 F).use fun _ t=>(Fr.nV 8 F).use fun _ t=>⟨⟨_,F.keep _ _ (X'.fnAt 5 rfl)⟩,?_⟩))))
   refine call_c F (find_k (n:=n₀) X' F.keep (hA'.le (Nat.add_le_add_left (by decide) n₀)) (Rd kk me') eS (BindsTo.of_defaults rfl (F.keep _ _ (X'.obAt 1 rfl)) rfl rfl rfl) (.inl ⟨_,rfl⟩) (.inl ⟨_,rfl⟩) lA lB (Nat.le_trans bx.la lA) (eS▸bx.stop nb)) fun g₅ h t v k5 F e=>?_
   apply e
   intro m d3 r1 r2 r3 hm
   refine Fr.asMs (c:=c) [9,10,11] (X'.up k5) F hm (.cons rfl (.cons rfl (.cons rfl .nil))) ?_
   intro V h t F
   refine asgN (Fr.sto 12 F ?_)
   intro V h t F
   refine bx.k nb eS (fun er0 hk0=>?_) fun l r er hk bl br=>?_
   · refine Fr.xIf0 (Fr.tTruI (Fr.nI 11 F) (by rw [hk0];rfl)) fun t=>Fr.xNil (hT (work rss') _ _ _ _ _ (by exact zz136 en) k5 F fun G q=>q qv' rss' mv mp _ _ _ _ _ _ _ _ _ _ rfl (by exact zz137 hn200 en) (hq'.mono fun v a h=>h.up k5) (hmv.up k5) ?_)
     rw [er0] at hperm
     simpa using hperm
   refine Fr.xIfT (Fr.tTruI (Fr.nI 11 F) (by simp;exact zz138 hk)) fun t=>?_
   rw [er] at hperm en
   have hml:mv.length<=200:=by
    have h1:=hperm.length_eq
    have h2:=hmv.len
    simp at h1;exact zz139 hR h2 h1
   refine Fr.xApp (pre:=[]) (Fr.nV 4 F) F (Nat.le_trans hml (by decide)) ((Fr.nV 12 F).mV F) fun v g₆ h t k6 ev F=>?_
   have hmv6:IsMs g₆ (mv++[v]) (mp++[(S.bi,S.bj,S.bk)]):=(hmv.up (k5.tr k6)).snoc ⟨m,d3,r1,r2,r3,ev,k6 _ _ hm⟩
   have hlen:(l++(S.bi,S.bj,S.bk)::r).length=l.length+1+r.length:=by simp;exact zz140
   have hq6:=hq'.mono fun v a h=>IsQ.up (k5.tr k6) h
   rw [hlen] at en
   refine Fr.xSeq (c:=c) (fun K=>∀qv1 rss1 qj1 g₇ h t,Le g₆ g₇->Zip (IsQ (TA.map (·.1)) (TB.map (·.1)) g₇) qv1 rss1->rss1.flatten.Perm (rss'.flatten++l)->work rss1<=work rss'+(2*l.length+1)->c.S g₇ V [(ma,lstObj (mv++[v]) (mj+1)),(qa,lstObj qv1 qj1),(dx,od)] h->K h t) (fun K hK=>?_) fun qv1 rss1 qj1 g₇ h t k7 hq1 hp1 hw1 F=>?_
   · refine Fr.xIfD (Fr.tAnd (Fr.taTwo (Fr.tLtN (Fr.nI 5 F) (Fr.nI 9 F)) (Fr.tLtN (Fr.nI 7 F) (Fr.nI 10 F)))) (fun cc t=>?_) fun cc t=>?_
     · exact Fr.xApp (pre:=[(ma,lstObj (mv++[v]) (mj+1))]) (Fr.nV 3 F) F hql2 (Fr.tup4 F (Fr.nI 5 F) (Fr.nI 9 F) (Fr.nI 7 F) (Fr.nI 10 F)) fun v g₇ h t k7 ev F=>Fr.xNil (Fr.nNext (hK (qv'++[v]) (rss'++[l]) _ g₇ h t k7 ((hq6.mono fun v a h=>IsQ.up k7 h).snoc (IsQ.of ev bl)) (by simp) (by rw [work_snoc];exact Nat.le_refl _) F))
     · exact Fr.xNil (Fr.nNext (hK qv' rss' _ g₆ h t Le.rfl' hq6 (by rw [bl.nil_of cc];simp) (Nat.le_add_right _ _) F))
   have hq1l:qv1.length<=300:=by rw [hq1.1];exact Nat.le_trans (work_len rss1) (by exact zz141 hn200 en hw1)
   refine Fr.xSeq (c:=c) (fun K=>∀qv2 rss2 qj2 g₈ h t,Le g₇ g₈->Zip (IsQ (TA.map (·.1)) (TB.map (·.1)) g₈) qv2 rss2->rss2.flatten.Perm (rss1.flatten++r)->work rss2<=work rss1+(2*r.length+1)->c.S g₈ V [(ma,lstObj (mv++[v]) (mj+1)),(qa,lstObj qv2 qj2),(dx,od)] h->K h t) (fun K hK=>?_) fun qv2 rss2 qj2 g₈ h t k8 hq2 hp2 hw2 F=>?_
   · refine Fr.xIfD (Fr.tAnd (Fr.taTwo (Fr.tLtN (Fr.addI (r:=((S.bi+S.bk:Nat):Int)) (Fr.nI 9 F) (Fr.nI 11 F) rfl) (Fr.nI 6 F)) (Fr.tLtN (Fr.addI (r:=((S.bj+S.bk:Nat):Int)) (Fr.nI 10 F) (Fr.nI 11 F) rfl) (Fr.nI 8 F)))) (fun cc t=>?_) fun cc t=>?_
     · exact Fr.xApp (pre:=[(ma,lstObj (mv++[v]) (mj+1))]) (Fr.nV 3 F) F (Nat.le_trans hq1l (by decide)) (Fr.tup4 F (Fr.addI (r:=((S.bi+S.bk:Nat):Int)) (Fr.nI 9 F) (Fr.nI 11 F) rfl) (Fr.nI 6 F) (Fr.addI (r:=((S.bj+S.bk:Nat):Int)) (Fr.nI 10 F) (Fr.nI 11 F) rfl) (Fr.nI 8 F)) fun v g₈ h t k8 ev F=>Fr.xNil (Fr.nNext (hK (qv1++[v]) (rss1++[r]) _ g₈ h t k8 ((hq1.mono fun v a h=>IsQ.up k8 h).snoc (IsQ.of ev br)) (by simp) (by rw [work_snoc];exact Nat.le_refl _) F))
     · exact Fr.xNil (Fr.nNext (hK qv1 rss1 _ g₇ h t Le.rfl' hq1 (by rw [br.nil_of cc];simp) (Nat.le_add_right _ _) F))
   have k78:=k7.tr k8
   exact Fr.xNil (Fr.xNil (hT (work rss2) _ _ _ _ _ (by exact zz142 en hw1 hw2) (k5.tr (k6.tr k78)) F fun G q=>q qv2 rss2 (mv++[v]) (mp++[(S.bi,S.bj,S.bk)]) _ _ _ _ _ _ _ _ _ _ rfl (by exact zz143 hn200 en hw1 hw2) hq2 (hmv6.up k78) (perm_step hperm hp1 hp2)))
 have hperm:mp.Perm R:=by
  have e:rss=[]:=List.length_eq_zero_iff.mp (by rw [←hq.1,hqe];rfl)
  rw [e] at hperm
  simpa using hperm
 have F:c.S g' _ [(ma,lstObj mv mj),(dx,od)] h:=St.sub F (.cons_cons _ (.cons _ (List.Sublist.refl _)))
 have kk₄:=kk₃.tr kg'
 have X₄:=X.up kk₄
 have hpos:∀r∈R,0<r.2.2:=fun r hr=>(hbox.inn r hr).2.2.2.2
 refine wpAny_execs_cons (wpAny_Expr (Call_method0 rfl rfl ((Fr.nV 4 F).use fun _ t=>sort_mt (pre:=[]) (post:=[(dx,od)]) (n:=n₀+7) hA' X₄ F hmv (by have:=hperm.length_eq;exact zz144 hR this) fun out ps' e h hp1 hp2 hout F=>?_)) cx.inter)
 have hout:IsMs g' out R:=perm_uniq triLt_tri (hp1.trans hperm) hp2 (runs_sorted hbox.sep hpos)▸hout
 refine Fr.S.freeze (c:=c) F hma fun g₅ k5 ema F=>?_
 have kk₅:=kk₄.tr k5
 refine wpAny_execs_cons (Asg3 (Fr.kI.use fun z t=>asgN (Fr.sto 13 F ?_)))
 intro V h t F
 refine asgN (Fr.sto 14 F ?_)
 intro V h t F
 refine asgN (Fr.sto 15 F ?_)
 intro V h t F
 refine Fr.xNilO (c:=c) 16 F ?_
 intro na hna V h t F
 refine Fr.xForT F (Fr.nV 4 F) ema (fun i g' V' mu'=>∀G:List (Option Value)->List (Addr×Obj)->Prop,(∀p nv nj c1 c2 c3 u17 u18 u19,pvR R i=p->Zip (IsT g') nv (R.take (i-1))->G [some (.ref x),some (.int (TA.length:Int) tla),some (.int (TB.length:Int) tlb),some (.ref qa),some (.ref ma),u5,u6,u7,u8,u9,u10,u11,u12,some (.int (p.1:Int) c1),some (.int (p.2.1:Int) c2),some (.int (p.2.2:Int) c3),some (.ref na),u17,u18,u19] [(na,lstObj nv nj),(dx,od)])->G V' mu') ?_ ?_ ?_
 · exact fun G q=>q (0,0,0) [] 0 z z z none none none rfl .nil
 · intro i v g' V' mu' I oI h t TT hv kg' hJ
   apply hJ
   intro p nv nj c1 c2 c3 u17 u18 u19 hp hnv _ hT F
   apply IsMs.getK (hout.up (k5.tr kg')) hv
   intro r m d3 r1 r2 r3 hr hm
   have hil:=(List.getElem?_eq_some_iff.mp hr).1
   have hnl:nv.length<=16777216:=by have:=hnv.1;rw [List.length_take] at this;lia
   refine Fr.asMs [17,18,19] (X.up (kk₅.tr kg')) F hm (.cons rfl (.cons rfl (.cons rfl .nil))) ?_
   intro V h t F
   refine Fr.xIfD (Fr.tAnd (Fr.taTwo (Fr.tEqN (Fr.addI (r:=((p.1+p.2.2:Nat):Int)) (Fr.nI 13 F) (Fr.nI 15 F) rfl) (Fr.nI 17 F)) (Fr.tEqN (Fr.addI (r:=((p.2.1+p.2.2:Nat):Int)) (Fr.nI 14 F) (Fr.nI 15 F) rfl) (Fr.nI 18 F)))) (fun cc t=>?_) fun cc t=>?_
   · refine pvR_step hbox.sep hpos hp hr (fun hi0 ep=>?_) fun i' hi' ep hb hpk=>absurd hb (by unfold Bef;exact zz145 cc)
     refine Fr.xAug (r:=((p.2.2+r.2.2:Nat):Int)) 15 F (Fr.nI 19 F) rfl ?_
     intro z V h t F
     exact Fr.xNil (hT.go Le.rfl' F fun G q=>q (p.1,p.2.1,p.2.2+r.2.2) nv nj c1 c2 _ _ _ _ ((pvR_next hr).trans (merge_same ep cc)) (by rw [hi0] at hnv ⊢;exact hnv))
   · refine Fr.xSeq (c:=c) (fun K=>∀nv nj g₆ h t,Le g' g₆->Zip (IsT g₆) nv (R.take (i+1-1))->c.S g₆ V [(I,oI),(na,lstObj nv nj),(dx,od)] h->K h t) (fun K hK=>?_) fun nv nj g₆ h t k6 hnv F=>?_
     · refine pvR_step hbox.sep hpos hp hr (fun hi0 ep=>?_) fun i' hi' ep hb hpk=>?_
       · exact Fr.xIf0 (Fr.tTruI (Fr.nI 15 F) (by rw [ep];rfl)) fun t=>Fr.nNext (hK nv nj g' h t Le.rfl' (by rw [hi0] at hnv ⊢;exact hnv) F)
       · refine Fr.xIfT (Fr.tTruI (Fr.nI 15 F) (by simp;exact zz138 hpk)) fun t=>Fr.xApp (pre:=[(I,oI)]) (Fr.nV 16 F) F hnl (Fr.tup3 F (Fr.nI 13 F) (Fr.nI 14 F) (Fr.nI 15 F)) fun v g₆ h t k6 ev F=>Fr.xNil (Fr.nNext (hK (nv++[v]) _ g₆ h t k6 ?_ F))
         rw [hi',Nat.add_sub_cancel,List.take_add_one,ep]
         rw [hi',Nat.add_sub_cancel] at hnv
         exact (hnv.mono fun v a h=>IsT.up k6 h).snoc (a:=p) ev
     refine Fr.xTup3 13 14 15 F (Fr.nI 17 F) (Fr.nI 18 F) (Fr.nI 19 F) ?_
     intro w1 w2 w3 V g₉ h t k9 F
     exact Fr.xNil (hT.go (k6.tr k9) F fun G q=>q r nv nj w1 w2 w3 _ _ _ (pvR_next hr) (hnv.mono fun v a h=>IsT.up k9 h))
 intro g' V' mu' h t kg' hJ
 apply hJ
 intro p nv nj c1 c2 c3 u17 u18 u19 hp hnv F
 rw [hout.len] at hp hnv
 have hnl:nv.length<=200:=by have:=hnv.1;rw [List.length_take] at this;lia
 refine Fr.asV (c:=c) F ?_
 intro V F
 refine Fr.xSeq (c:=c) (fun K=>∀nv nj g₆ h t,Le g' g₆->Zip (IsT g₆) nv R->c.S g₆ V [(na,lstObj nv nj),(dx,od)] h->K h t) (fun K hK=>?_) fun nv nj g₆ h t k6 hnv F=>?_
 · refine dite (0<R.length) (fun q=>?_) fun q=>?_
   · have hpk:=hpos _ (List.mem_of_getElem? (pvR_last q))
     rw [hp] at hpk
     refine Fr.xIfT (Fr.tTruI (Fr.nI 15 F) (by simp;exact zz138 hpk)) fun t=>Fr.xApp (pre:=[]) (Fr.nV 16 F) F (Nat.le_trans hnl (by decide)) (Fr.tup3 F (Fr.nI 13 F) (Fr.nI 14 F) (Fr.nI 15 F)) fun v g₆ h t k6 ev F=>Fr.xNil (Fr.nNext (hK (nv++[v]) _ g₆ h t k6 ?_ F))
     have z:=(hnv.mono fun v a h=>IsT.up k6 h).snoc (a:=p) (v:=v) ev
     rw [←hp,take_last q] at z
     exact z
   · have e:R=[]:=List.length_eq_zero_iff.mp (Nat.eq_zero_of_not_pos q)
     exact Fr.xIf0 (Fr.tTruI (Fr.nI 15 F) (by rw [←hp,e];rfl)) fun t=>Fr.nNext (hK nv nj g' h t Le.rfl' (by rw [e] at hnv ⊢;exact hnv) F)
 refine Fr.xApp (pre:=[]) (Fr.nV 16 F) F (by rw [hnv.1];exact zz146 hR) (Fr.tup3 F (Fr.nI 1 F) (Fr.nI 2 F) Fr.kI) fun v g₇ h t k7 ev F=>?_
 have hz:=(hnv.mono fun v a h=>IsT.up k7 h).snoc (a:=(TA.length,TB.length,0)) (v:=v) ev
 refine Fr.S.freeze (c:=c) F hna fun g₈ k8 ena F=>?_
 have hz:=hz.mono fun v a h=>IsT.up k8 h
 have kk₈:=kk₅.tr (kg'.tr (k6.tr (k7.tr k8)))
 have X₈:=X.up kk₈
 refine wpAny_execs_cons (Asg1 (C1 (N_list cx X₈.toStat F.keep (.tail _ (.head _)) (C2 (N_map cx X₈.toStat F.keep (.tail _ (.tail _ (.head _))) (getE rfl (N_Match cx X₈.toStat F.keep (.tail _ (.tail _ (.tail _ (.head _)))) ?_)))))))
 refine make_attr F X₈ fun bd g₁₀ h t k10 ebd F=>?_
 refine (Fr.nV (c:=c) 16 F).use fun _ t=>⟨trivial,?_⟩
 refine newMap F (k10 _ _ ena) fun M T It g₁₁ h k11 eM eT hit hlow F=>⟨trivial,?_⟩
 have k12:=k10.tr k11
 have X₁₁:=X₈.up k12
 have hzl:(nv++[v]).length=R.length+1:=by rw [hz.1];simp
 refine list_map hA'.handled (fun i g' ys=>IsMs g' ys ((R++[(TA.length,TB.length,0)]).take i)) eM eT (k12 _ _ ena) (by exact zz147 hR hzl) F hit (show IsMs g₁₁ [] (List.take 0 _) from trivial) (fun S=>?_) fun D g₁₂ g₁₃ ys h t cc k13 k14 hys eD F=>?_
 · intro i v g' ys h tk oI c hv kg' hJ F
   refine hz.getK hv fun p hp T3 w1 w2 w3 ev eT3=>?_
   rw [ev]
   refine bd_call (F.keep _ _ (kg' _ _ (k11 _ _ ebd))) fun R' hR'=>make_gives (n:=n₀) (X₁₁.up kg') F.keep (hA'.in1.in1.in1.le (Nat.add_le_add_left (by decide) n₀)) (kg' _ _ (k12 _ _ eT3)) rfl R' fun g₂ h₂ t₂ v₂ o₂ p₂=>?_
   obtain ⟨m,d3,ev2,hm⟩:=p₂
   refine hR' _ _ ⟨g₂,h₂,t₂,rfl,o₂.mono,F.call o₂,?_⟩
   show IsMs g₂ _ (List.take (i+1) _)
   rw [List.take_add_one,hp]
   exact (IsMs.up o₂.mono hJ).snoc ⟨m,d3,w1,w2,w3,ev2,hm⟩
 have X₁₃:=X₁₁.up k13
 have hx':=kk₈.tr (k12.tr k13) _ _ hx
 refine (Fr.nV (c:=c) 0 F).use fun _ t=>sA (pre:=[]) 4 rfl X₁₃.toSm hx' F hat (show 4<=10 by decide) fun h o k hat F=>?_
 refine Fr.xRet (c:=c) (Fr.attrO (pre:=[]) 4 (Fr.nV 0 F) X₁₃.toSm hx' F hat) fun _ t=>?_
 have hys':=IsMs.up k14 hys
 rw [hzl,List.take_of_length_le (by simp)] at hys'
 exact hQ _ _ _ _ F.out (hP _ _ _ _ _ eD hys')
end
noncomputable abbrev Op:=Str×Nat×Nat×Nat×Nat
noncomputable def dOp(c:Op):PyData:=.tuple [.str c.1,.int c.2.1,.int c.2.2.1,.int c.2.2.2.1,.int c.2.2.2.2]
theorem tup5D{g:Heap}{v:Value}{v1:Tok->Value}{s:Str}{a b c d:Nat}(h:∃T w1 w2 w3 w4 w5,v=.ref T/\g.get? T=some (tupObj [v1 w1,.int (a:Int) w2,.int (b:Int) w3,.int (c:Int) w4,.int (d:Int) w5]))(h1:∀k,Dt g (v1 k) (.str s)):Dt g v (dOp (s,a,b,c,d)):=by
 obtain ⟨T,w1,w2,w3,w4,w5,rfl,eT⟩:=h
 exact .tuple eT (.cons (h1 _) (.cons (.int _ _) (.cons (.int _ _) (.cons (.int _ _) (.cons (.int _ _) .nil)))))
noncomputable def tagOf(p q:Bool):Str:=if p then (if q then "replace" else "delete") else (if q then "insert" else "")
noncomputable def opStep(i j:Nat)(r:Run):List Op :=
 (if i<r.1\/j<r.2.1 then ([(tagOf (decide (i<r.1)) (decide (j<r.2.1)),i,r.1,j,r.2.1)]:List Op) else [])++(if 0<r.2.2 then ([(("equal":Str),r.1,r.1+r.2.2,r.2.1,r.2.1+r.2.2)]:List Op) else [])
noncomputable def opsFrom:Nat->Nat->List Run->List Op
 | _,_,[]=>[]
 | i,j,r::rs=>opStep i j r++opsFrom (r.1+r.2.2) (r.2.1+r.2.2) rs
noncomputable def endOf(i j:Nat):List Run->Nat×Nat
 | []=>(i,j)
 | r::rs=>endOf (r.1+r.2.2) (r.2.1+r.2.2) rs
theorem opsFrom_snoc:∀(rs:List Run) (i j:Nat) (r:Run),opsFrom i j (rs++[r])=opsFrom i j rs++opStep (endOf i j rs).1 (endOf i j rs).2 r
 | [],i,j,r=>by simp [opsFrom,endOf]
 | x::rs,i,j,r=>by simp [opsFrom,endOf,opsFrom_snoc rs]
theorem endOf_snoc:∀(rs:List Run) (i j:Nat) (r:Run),endOf i j (rs++[r])=(r.1+r.2.2,r.2.1+r.2.2)
 | [],i,j,r=>rfl
 | x::rs,i,j,r=>by simp [endOf,endOf_snoc rs]
theorem opStep_len(i j:Nat)(r:Run):(opStep i j r).length<=2:=by
 unfold opStep
 split<;>split<;>simp
theorem opsFrom_len:∀(rs:List Run) (i j:Nat),(opsFrom i j rs).length<=2*rs.length
 | [],_,_=>Nat.zero_le _
 | r::rs,i,j=>by
  have:=opStep_len i j r
  have:=opsFrom_len rs (r.1+r.2.2) (r.2.1+r.2.2)
  simp only [opsFrom,List.length_append,List.length_cons];lia
section
variable{prog:Program}{w:World}{A:Around}{E:Value->Shared->Prop}{s:Shared}{env:Env}
variable{h₀ g₀ g:Heap}{xt:List Addr}{L:Addr}{N:List Str}{vs:List (Option Value)}{mu:List (Addr×Obj)}{I:Addr}{oI:Obj}
theorem call_but{f:Value}{args:List Value}{P:Heap->Heap->Value->Prop}{Q:Value->Shared->Prop}(F:St h₀ xt g₀ g L N vs ((I,oI)::mu) s.heap)(G:Gives prog w A (.call f ⟨args,[]⟩) s [I] g P)
 (h:∀g' h' t' v,Le g g'->St h₀ xt g₀ g' L N vs mu h'->P g' h' v->Q v {s with heap:=h',toks:=t'}):wpAny (model prog w) A (call f args []) Q E s :=
 wpAny_call (G _ fun g' h' t' v o p=>h g' h' t' v o.mono (F.callBut o) p)
end
noncomputable abbrev nOps:List Str:=["self","i","j","answer","ai","bj","size","tag"]
theorem tag_len(p q:Bool):(tagOf p q).length<=16777216:=by unfold tagOf;split<;>split<;>decide
theorem tag_no(p q:Bool):(((tagOf p q).length:Int) != 0)=(p||q):=by cases p<;>cases q<;>decide
theorem ops_yes{i j:Nat}{r:Run}(c:i<r.1\/j<r.2.1):(opStep i j r)=[(tagOf (decide (i<r.1)) (decide (j<r.2.1)),i,r.1,j,r.2.1)]++(if 0<r.2.2 then ([(("equal":Str),r.1,r.1+r.2.2,r.2.1,r.2.1+r.2.2)]:List Op) else []):=by unfold opStep;rw [if_pos c]
theorem ops_no{i j:Nat}{r:Run}(c:¬(i<r.1\/j<r.2.1)):(opStep i j r)=[]++(if 0<r.2.2 then ([(("equal":Str),r.1,r.1+r.2.2,r.2.1,r.2.1+r.2.2)]:List Op) else []):=by unfold opStep;rw [if_neg c]
theorem take_next{α:Type}{l:List α}{i:Nat}{r:α}(h:l[i]?=some r):l.take (i+1)=l.take i++[r]:=by rw [List.take_add_one,h];rfl
section
variable{w:World}{A:Around}{s:Shared}{g:Heap}{n₀:Nat}{x dx la lb db dj dp:Addr}{TA TB:List (Str×Tok)}
noncomputable def BlkP(R:List Run)(g:Heap)(v:Value):Prop:=∀G:Value->Prop,(∀D ys k,g.get? D=some (lstObj ys k)->IsMs g ys R->G (.ref D))->G v
theorem blocks_k(X:Sm2 g)(kg:Le g s.heap)(hA:Ok A (n₀+8)){oc:Value}(Rd:∀{g' h:Heap},Le g g'->Me h x dx [.none,.ref la,.ref lb,.bool true,.none,oc,.none,.ref db,.ref dj,.ref dp]->Ready w g' h x dx la lb db dj dp TA TB .none oc)(me:Me s.heap x dx [.none,.ref la,.ref lb,.bool true,.none,oc,.none,.ref db,.ref dj,.ref dp])(hx:g.get? x=some (instO dx))
 {ka kb:Nat} (ea:g.get? la=some (lstObj (strValues TA) ka)) (eb:g.get? lb=some (lstObj (strValues TB) kb)) (nb:(TB.map (·.1)).Nodup) (szA:TA.length<200) (szB:TB.length<200) (hdx:g.get? dx=none) {R:List Run}
 (hbox:Box (TA.map (·.1)) (TB.map (·.1)) 0 TA.length 0 TB.length R) (hR:R.length<60):Gives pw w A (.call (.ref 203) ⟨[.ref x],[]⟩) s [dx] g (fun g' _ v=>BlkP (R++[(TA.length,TB.length,0)]) g' v):=by
 obtain ⟨od,hod,hat⟩:∃od,s.heap.get? dx=some od/\AtO od [.none,.ref la,.ref lb,.bool true,.none,oc,.none,.ref db,.ref dj,.ref dp]:=by
  obtain ⟨m,a,b⟩:=me.at_
  obtain ⟨o,e,a'⟩:=At.of a
  exact ⟨o,e,m,a',b⟩
 exact blocks_core X kg hA Rd hx hod hat ea eb nb szA szB hdx hbox hR fun g' h' D ys k e z G q=>q D ys k e z
theorem codes_core(X:Sm2 g)(kg:Le g s.heap)(hA:Ok A (n₀+9))(Rd:∀{g' h:Heap} {oc:Value},Le g g'->Me h x dx [.none,.ref la,.ref lb,.bool true,.none,oc,.none,.ref db,.ref dj,.ref dp]->Ready w g' h x dx la lb db dj dp TA TB .none oc)(hx:g.get? x=some (instO dx)){od:Obj}(hod:s.heap.get? dx=some od)
 (hat:AtO od [.none,.ref la,.ref lb,.bool true,.none,.none,.none,.ref db,.ref dj,.ref dp]) {ka kb:Nat} (ea:g.get? la=some (lstObj (strValues TA) ka)) (eb:g.get? lb=some (lstObj (strValues TB) kb)) (nb:(TB.map (·.1)).Nodup) (szA:TA.length<200) (szB:TB.length<200) (hdx:g.get? dx=none) {R:List Run}
 (hbox:Box (TA.map (·.1)) (TB.map (·.1)) 0 TA.length 0 TB.length R) (hR:R.length<60) {P:Heap->Heap->Value->Prop} (hP:∀g' h' v,Dt g' v (.list ((opsFrom 0 0 (R++[(TA.length,TB.length,0)])).map dOp))->P g' h' v) :
 Gives pw w A (.call (.ref 210) ⟨[.ref x],[]⟩) s [dx] g P:=by
 refine Gives.frM 7 [.ref x] ["self"] ["i","j","answer","ai","bj","size","tag"] nOps [] [(dx,od)] rfl X.toStat kg hA rfl (BindsTo.of_eq rfl) rfl rfl (by decide +kernel) (fun p hp=>by rw [List.mem_singleton.mp hp];exact ⟨hod,hdx,.head _⟩) (by simp) ?_
 intro h₁ t' env A' QQ cx hA' c V F hQ
 refine Fr.xDoc fun t'=>?_
 refine Fr.xIf0 (Fr.tNotN (Fr.attrO (c:=c) (pre:=[]) 5 (Fr.nV 0 F) X.toSm hx F hat) rfl (.inr (.inl rfl))) fun t=>?_
 refine wpAny_execs_cons (Asg2 (Fr.kI.use fun z t=>asgN (Fr.sto 1 F ?_)))
 intro V h t F
 refine asgN (Fr.sto 2 F ?_)
 intro V h t F
 refine wpAny_execs_cons (Asg2 (lstE (sp0 (newOwn (s:=c.st h t) F (fun an h F han=>asgA ((Fr.nV (c:=c) 0 F).use fun _ t=>sA (pre:=[(an,lstObj [] 0)]) (post:=[]) 5 rfl X.toSm hx F hat (show 5<=10 by decide) fun h od' k hat F=>asgN (Fr.sto (c:=c) 3 F ?_))))))) 
 intro V h t F
 refine wpAny_execs_cons (For_ (ME0 rfl rfl ((Fr.nV 0 F).use fun _ t pl=>?_)))
 have hy:typeLookup (.type "object") "get_matching_blocks"=pure none:=by rw [typeLookup_type,builtinLookup_eq_fast];kernel_rfl
 have me':Me h x dx _:=Me.of (pre:=[(an,lstObj [] 0)]) (post:=[]) hx F hat
 refine methA (f:=203) (fd:=fdBlocks) X.toSm F.keep me' (by decide) (by decide +kernel) (X.fnAt 6 rfl) hy ⟨⟨_,F.keep _ _ (X.fnAt 6 rfl)⟩,?_⟩
 refine call_but (St.swap F) (blocks_k (n₀:=n₀) X F.keep hA' Rd me' hx ea eb nb szA szB hdx hbox hR) fun g₂ h t v k2 F e=>?_
 apply e
 intro D ys kD eD hys
 refine genK (R++[(TA.length,TB.length,0)]) fun RR eRR=>?_
 rw [eRR] at hys hP
 have hRl:RR.length<61:=by rw [←eRR];simp;exact zz148 hR
 refine Fr.iterT (c:=c) F eD (fun i g' V' mu'=>∀G:List (Option Value)->List (Addr×Obj)->Prop,(∀ij ops av aj u1 u2 u4 u5 u6 u7,endOf 0 0 (RR.take i)=ij->opsFrom 0 0 (RR.take i)=ops->Dts g' av (ops.map dOp)->G [some (.ref x),some (.int (ij.1:Int) u1),some (.int (ij.2:Int) u2),some (.ref an),u4,u5,u6,u7] [(an,lstObj av aj)])->G V' mu') ?_ ?_ ?_
 · exact fun G q=>q (0,0) [] [] 0 z z none none none none rfl rfl .nil
 · intro i v g' V' mu' I oI h t TT hv kg' hJ
   apply hJ
   intro ij ops av aj u1 u2 u4 u5 u6 u7 eij eops hav hT F
   apply IsMs.getK (hys.up kg') hv
   intro r m d3 r1 r2 r3 hr hm
   have avl:av.length<=16777200:=by
    have e1:=hav.len
    have e2:=opsFrom_len (RR.take i) 0 0
    rw [List.length_map,←eops] at e1
    rw [List.length_take] at e2
    lia
   refine Fr.asMs [4,5,6] (X.up (k2.tr kg')) F hm (.cons rfl (.cons rfl (.cons rfl .nil))) ?_
   intro V h t F
   refine Fr.xAsg 7 F Fr.kS ?_
   intro k0 V h t F
   refine Fr.xSeq (c:=c) (fun K=>∀tag tt h t,tagOf (decide (ij.1<r.1)) (decide (ij.2<r.2.1))=tag->c.S g' (V.set 7 (some (.str tag tt))) [(I,oI),(an,lstObj av aj)] h->K h t) (fun K hK=>?_) fun tag tt h t etag F=>?_
   · refine Fr.xIfD (Fr.tAnd (Fr.taTwo (Fr.tLtN (Fr.nI 1 F) (Fr.nI 4 F)) (Fr.tLtN (Fr.nI 2 F) (Fr.nI 5 F)))) (fun cc t=>?_) fun cc t=>?_
     · exact Fr.xAsg 7 F Fr.kS fun k h t F=>Fr.xNil (Fr.nNext (hK "replace" k h t (by rw [decide_eq_true cc.1,decide_eq_true cc.2];rfl) F))
     refine Fr.xIfD (Fr.tLtN (Fr.nI 1 F) (Fr.nI 4 F)) (fun c1 t=>?_) fun c1 t=>?_
     · exact Fr.xAsg 7 F Fr.kS fun k h t F=>Fr.xNil (Fr.xNil (Fr.nNext (hK "delete" k h t (by rw [decide_eq_true c1,decide_eq_false fun c2=>cc ⟨c1,c2⟩];rfl) F)))
     refine Fr.xIfD (Fr.tLtN (Fr.nI 2 F) (Fr.nI 5 F)) (fun c2 t=>?_) fun c2 t=>?_
     · exact Fr.xAsg 7 F Fr.kS fun k h t F=>Fr.xNil (Fr.xNil (Fr.xNil (Fr.nNext (hK "insert" k h t (by rw [decide_eq_false c1,decide_eq_true c2];rfl) F))))
     · exact Fr.xNil (Fr.xNil (Fr.xNil (Fr.nNext (hK "" k0 h t (by rw [decide_eq_false c1,decide_eq_false c2];rfl) (Fr.S.same F rfl)))))
   refine Fr.asV (c:=c) F ?_
   intro V F
   have tl:tag.length<=16777216:=etag▸tag_len _ _
   have tn:=(congrArg (fun y:Str=>((y.length:Int) != 0)) etag).symm.trans (tag_no _ _)
   refine Fr.xSeq (c:=c) (fun K=>∀o2 av' aj' g₃ h t,opStep ij.1 ij.2 r=o2++(if 0<r.2.2 then ([(("equal":Str),r.1,r.1+r.2.2,r.2.1,r.2.1+r.2.2)]:List Op) else [])->Le g' g₃->Dts g₃ av' ((ops++o2).map dOp)->av'.length<=av.length+1->c.S g₃ V [(I,oI),(an,lstObj av' aj')] h->K h t) (fun K hK=>?_) fun o2 av' aj' g₃ h t eo k3 hav' avl' F=>?_
   · refine dite (ij.1<r.1\/ij.2<r.2.1) (fun cc=>?_) fun cc=>?_
     · refine Fr.xIfT (Fr.tTruS (Fr.nV 7 F) tl (tn.trans (by rw [←Bool.decide_or];exact decide_eq_true cc))) fun t=>Fr.xApp (pre:=[(I,oI)]) (Fr.nV 3 F) F (Nat.le_trans avl (by decide)) (Fr.tup5 F (Fr.nV 7 F) (Fr.nI 1 F) (Fr.nI 4 F) (Fr.nI 2 F) (Fr.nI 5 F)) fun v g₃ h t k3 ev F=>Fr.xNil (Fr.nNext (hK [_] (av++[v]) _ g₃ h t (ops_yes cc) k3 ?_ (by simp) F))
       rw [etag,List.map_append]
       exact (hav.up k3).snoc (tup5D ev fun _=>.str _ _)
     · exact Fr.xIf0 (Fr.tTruS (Fr.nV 7 F) tl (tn.trans (by rw [←Bool.decide_or];exact decide_eq_false cc))) fun t=>Fr.nNext (hK [] av _ g' h t (ops_no cc) Le.rfl' (by rw [List.append_nil];exact hav) (Nat.le_succ _) F)
   refine Fr.xTup2 1 2 F (Fr.addI (r:=((r.1+r.2.2:Nat):Int)) (Fr.nI 4 F) (Fr.nI 6 F) rfl) (Fr.addI (r:=((r.2.1+r.2.2:Nat):Int)) (Fr.nI 5 F) (Fr.nI 6 F) rfl) ?_
   intro w1 w2 V g₄ h t k4 F
   have een:endOf 0 0 (RR.take (i+1))=(r.1+r.2.2,r.2.1+r.2.2):=by rw [take_next hr,endOf_snoc]
   have eop:opsFrom 0 0 (RR.take (i+1))=ops++(o2++(if 0<r.2.2 then ([(("equal":Str),r.1,r.1+r.2.2,r.2.1,r.2.1+r.2.2)]:List Op) else [])):=by rw [take_next hr,opsFrom_snoc,eij,eops,eo]
   refine Fr.xIfD (Fr.tTruN (Fr.nI 6 F)) (fun cc t=>?_) fun cc t=>?_
   · refine Fr.xApp (pre:=[(I,oI)]) (Fr.nV 3 F) F (by exact zz149 avl avl') (Fr.tup5 F Fr.kS (Fr.nI 4 F) (Fr.nI 1 F) (Fr.nI 5 F) (Fr.nI 2 F)) fun v g₅ h t k5 ev F=>Fr.xNil (hT.go (k3.tr (k4.tr k5)) F fun G q=>q _ _ _ _ _ _ _ _ _ _ een eop ?_)
     rw [if_pos cc,←List.append_assoc,List.map_append]
     exact (hav'.up (k4.tr k5)).snoc (tup5D ev fun _=>.str _ _)
   · refine Fr.xNil (hT.go (k3.tr k4) F fun G q=>q _ _ _ _ _ _ _ _ _ _ een eop ?_)
     rw [if_neg cc,List.append_nil]
     exact hav'.up k4
 · intro g' V' mu' h t kg' hJ
   apply hJ
   intro ij ops av aj u1 u2 u4 u5 u6 u7 eij eops hav F
   rw [hys.len,List.take_length] at eops
   rw [←eops] at hav
   refine Fr.S.freeze (c:=c) F han fun g₃ k3 ean F=>?_
   exact Fr.xRet (Fr.nV 3 F) fun _ t=>hQ _ _ _ _ F.out (hP _ _ _ (.list ean (hav.up k3)))
theorem codes_gives(X:Sm2 g)(kg:Le g s.heap)(hA:Ok A (n₀+9))(Rd:Ready w g s.heap x dx la lb db dj dp TA TB .none .none)(hdx:g.get? dx=none){R:List Run}
 (hbox:Box (TA.map (·.1)) (TB.map (·.1)) 0 TA.length 0 TB.length R) (hR:R.length<60) :
 Gives pw w A (.call (.ref 210) ⟨[.ref x],[]⟩) s [dx] g (fun g' _ v=>Dt g' v (.list ((opsFrom 0 0 (R++[(TA.length,TB.length,0)])).map dOp))):=by
 obtain ⟨hx,me,⟨ka,ea⟩,⟨kb,eb⟩,⟨es,en,edb,hB⟩,dbs,⟨led,ej⟩,nb,szA,szB⟩:=Rd
 obtain ⟨od,hod,hat⟩:∃od,s.heap.get? dx=some od/\AtO od [.none,.ref la,.ref lb,.bool true,.none,.none,.none,.ref db,.ref dj,.ref dp]:=by
  obtain ⟨m,a,b⟩:=me.at_
  obtain ⟨o,e,a'⟩:=At.of a
  exact ⟨o,e,m,a',b⟩
 exact codes_core X kg hA (fun k me=>⟨k _ _ hx,me,⟨ka,k _ _ ea⟩,⟨kb,k _ _ eb⟩,⟨es,en,k _ _ edb,hB.up k⟩,dbs,⟨led,k _ _ ej⟩,nb,szA,szB⟩) hx hod hat ea eb nb szA szB hdx hbox hR fun g' h' v e=>e
end
end Mine.Internal
namespace Mine.Internal
open PySem PySem.W PyProof.Rows PySem.Calls PySem.Spec
open PySem.SeqAt
section
variable{prog:Program}{w:World}{A:Around}{E:Value->Shared->Prop}{s:Shared}{env:Env}{g:Heap}
theorem inD{c x:Value}{xs:List PyData}{d:PyData}{Q:Value->Shared->Prop}(k:Le g s.heap)(hl:Dt g c (.list xs))(hx:Dt g x d)(hxs:PyData.canLayAll0 xs=true)(hd:d.canLay0=true)(hdd:d.depth<=60)(hu:A.units+65<cLine)
 (h:Q (.bool (xs.any fun y=>PyData.eqv y d)) s):wpAny (model prog w) A (compareOp .In x c) Q E s:=by
 obtain ⟨as,ra⟩:=(hl.up k).reads
 obtain ⟨bs,rb⟩:=(hx.up k).reads
 exact in_list_reads ra rb hxs hd (by have:=Nat.min_le_right (PyData.depthAll xs) d.depth;exact zz22 hdd hu this) h
theorem idx_call{l:Addr}{vs:List Value}{n j:Nat}{xs:List PyData}{x:Value}{d y:PyData}{Q:Value->Shared->Prop}(k:Le g s.heap)(hl:g.get? l=some (lstObj vs n))(hv:Dts g vs xs)(hx:Dt g x d)(hxs:PyData.canLayAll0 xs=true)(hd:d.canLay0=true)
 (hdd:d.depth<=60) (hu:A.units+65<cLine) (hj:xs[j]?=some y) (hy:PyData.eqv y d=true) (hno:∀m<j,∀z,xs[m]?=some z->PyData.eqv z d=false) (hz:vs.length<=1000)
 (h:∀t k,Q (.int (j:Int) t) {s with toks:=k}):wpAny (model prog w) A (call (.builtin "list.index") [.ref l,x]) Q E s:=by
 obtain ⟨as,ra⟩:=(hv.up k).reads
 obtain ⟨bs,rb⟩:=(hx.up k).reads
 have ho:=k _ _ hl
 have hlen:vs.length=xs.length:=hv.len
 have hjl:j<xs.length:=(List.getElem?_eq_some_iff.mp hj).1
 have hm:=readsAll_map xs vs as hxs ra
 have rd:∀(i:Nat) (hi:i<vs.length),∃z,xs[i]?=some z/\readOf s.heap vs[i]=z:=fun i hi=>by
  have e:xs[i]?=some (readOf s.heap vs[i]):=by rw [←hm,List.getElem?_map,List.getElem?_eq_getElem hi];rfl
  exact ⟨_,e,rfl⟩
 refine call_meets PySem.F.slot_list_index ⟨_,ho,rfl⟩ PySem.F.entry_list_index (PySem.F.args_list_index_2 _ _)
  (list_indexAt l vs.toArray n none #[] x (fun y=>PyData.eqv (readOf s.heap y) d) j (by simp;exact zz23 hlen hjl) (by lia) ?_ ?_) ⟨ho,items_eqAt (by simpa using ra) rb hxs hd (by have:=Nat.min_le_right (PyData.depthAll xs) d.depth;exact zz22 hdd hu this),h _ _⟩
 · obtain ⟨z,e,e2⟩:=rd j (by exact zz23 hlen hjl)
   rw [hj] at e;cases e
   simp only [List.getElem_toArray]
   rw [e2];exact hy
 · intro m hm' hlt
   obtain ⟨z,e,e2⟩:=rd m (by simpa using hm')
   simp only [List.getElem_toArray]
   rw [e2];exact hno m hlt z e
theorem M_index{l:Addr}{vs:List Value}{n:Nat}{pos:Pos}{a:Sem Value}{Q:Value->Shared->Prop}(ho:s.heap.get? l=some (lstObj vs n))
 (h:wpAny (model prog w) A a (fun x s₁=>∃g xs d j y,Le g s₁.heap/\g.get? l=some (lstObj vs n)/\Dts g vs xs/\Dt g x d/\PyData.canLayAll0 xs=true/\d.canLay0=true/\d.depth<=60/\A.units+65<cLine/\xs[j]?=some y/\PyData.eqv y d=true /\
  (∀m<j,∀z,xs[m]?=some z->PyData.eqv z d=false)/\vs.length<=1000/\∀t k,Q (.int ((j:Nat):Int) t) {s₁ with toks:=k}) E s) :
 MethodOnS prog w A E "index" (.ref l) pos [(false,a)] Q s:=by
 refine ⟨"list","list.index",PySem.F.plainAttrs_list,PySem.F.slot_list_index,by show builtinType _=_;rw [builtinType_eq_fast];kernel_rfl,⟨_,ho,rfl⟩,fun b e=>by cases e;exact ⟨_,ho,rfl⟩,?_⟩
 refine callWith_any rfl (evalArgs_plain (spliced_cons (wpAny_mono h (fun x s₁ h₁=>spliced_nil ?_) fun _ _ e=>e)))
 obtain ⟨g,xs,d,j,y,h1,h2,h3,h4,h5,h6,h7,h8,h9,h10,h11,h12,h13⟩:=h₁
 exact ⟨trivial,idx_call h1 h2 h3 h4 h5 h6 h7 h8 h9 h10 h11 h12 h13⟩
theorem itemNeg{l:Addr}{xs:List Value}{k:Nat}{t:Tok}{x:Value}{Q:Value->Shared->Prop}(kk:Le g s.heap)(hl:g.get? l=some (lstObj (xs++[x]) k))(h:Q x s):ItemOn (model prog w) A E (.ref l) (.int (-1) t) Q s:=itemLast (kk _ _ hl) h
end
end Mine.Internal
namespace Mine.Internal
open PySem PySem.W PyProof.Rows PySem.Calls PySem.Spec
section
variable{prog:Program}{w:World}{A:Around}{E:Value->Shared->Prop}{s:Shared}{env:Env}{g:Heap}
theorem minN{h₀ g₀:Heap}{xt:List Addr}{L:Addr}{N:List Str}{vs:List (Option Value)}{mu:List (Addr×Obj)}{a b:Int}{c:Nat}{t u:Tok}{Q:Value->Shared->Prop}(hh:A.handled=none)(F:St h₀ xt g₀ g L N vs mu s.heap)(e:(if b<a then b else a)=(c:Int))
 (h:∀h' t' k,St h₀ xt g₀ g L N vs mu h'->Q (.int (c:Int) t') {s with heap:=h',toks:=k}):wpAny (model prog w) A (call (.builtin "min") [.int a t,.int b u]) Q E s:=by
 refine min_two_ints hh fun h' tk k=>?_
 split
 · rename_i q;rw [if_pos q] at e;rw [e];exact h h' _ _ (F.more k)
 · rename_i q;rw [if_neg q] at e;rw [e];exact h h' _ _ (F.more k)
end
end Mine.Internal
namespace Mine.Internal
open PySem PySem.W PyProof.Rows PySem.Calls PySem.Spec
namespace Fr
variable{w:World}{N Gl:List Str}{c:Fr w N Gl}{g:Heap}{V:List (Option Value)}{mu:List (Addr×Obj)}{h:Heap}{t:Nat}{e a b o:Expr}{x:Str}{pos p:Pos}{rest body:List Stmt}{Q:Flow->Shared->Prop}
theorem idxE{l:Addr}{vs:List Value}{n j:Nat}{xs:List PyData}{v:Value}{d y:PyData}{pa:Pos}(Ho:c.E h o (fun _=>.ref l))(He:c.E h e (fun _=>v))(kg:Le g h)(hl:g.get? l=some (lstObj vs n))(hv:Dts g vs xs)(hx:Dt g v d)(h1:PyData.canLayAll0 xs=true)(h2:d.canLay0=true)(h3:d.depth<=60)(h4:c.A.units+65<cLine)
 (h5:xs[j]?=some y) (h6:PyData.eqv y d=true) (h7:∀m<j,∀z,xs[m]?=some z->PyData.eqv z d=false) (h8:vs.length<=1000)
 (hb:autoParam (attributeBase o "index" c.env (eval o c.env)=eval o c.env) au0) (hs:autoParam (starEach [e] c.env=[(false,eval e c.env)]) au0) (hli:autoParam ((pa.endLine==pos.line)=true) au0) :
 c.E h (.Call (.Attribute o "index" pa) [e] [] pos) (Value.int (j:Int)):=fun Er Q t q =>
 Call_method1 hb hs hli (Ho _ _ t fun _ t=>M_index (s:=c.st h t) (kg _ _ hl) (He _ _ t fun _ t=>⟨g,xs,d,j,y,kg,hl,hv,hx,h1,h2,h3,h4,h5,h6,h7,h8,fun t k=>q _ _⟩))
theorem tIn{cv v:Value}{xs:List PyData}{d:PyData}{r:Bool}(Ha:c.E h a (fun _=>v))(Hb:c.E h b (fun _=>cv))(kg:Le g h)(hl:Dt g cv (.list xs))(hx:Dt g v d)(h1:PyData.canLayAll0 xs=true)(h2:d.canLay0=true)(h3:d.depth<=60)(h4:c.A.units+65<cLine)(hr:(xs.any fun y=>PyData.eqv y d)=r)
 (hm:autoParam (behindInMarks .In b=false) auU):c.T h (.Compare a [.In] [b] pos) r:=fun Er Q t q =>
 wpAny_isTrue_Compare1 (Ha _ _ t fun _ t=>Hb _ _ t fun _ t=>inD (s:=c.st h t) kg hl hx h1 h2 h3 h4 (wpAny_truthy_bool (by rw [hr];exact q _))) hm
end Fr
end Mine.Internal
namespace Mine.Internal
open PySem
noncomputable def allStep(i j:Nat)(r:Run):List Op :=
 ([(tagOf (decide (i<r.1)) (decide (j<r.2.1)),i,r.1,j,r.2.1)]:List Op)++(if 0<r.2.2 then ([(("equal":Str),r.1,r.1+r.2.2,r.2.1,r.2.1+r.2.2)]:List Op) else [])
noncomputable def allFrom:Nat->Nat->List Run->List Op
 | _,_,[]=>[]
 | i,j,r::rs=>allStep i j r++allFrom (r.1+r.2.2) (r.2.1+r.2.2) rs
theorem allFrom_snoc:∀(rs:List Run) (i j:Nat) (r:Run),allFrom i j (rs++[r])=allFrom i j rs++allStep (endOf i j rs).1 (endOf i j rs).2 r
 | [],i,j,r=>by simp [allFrom,endOf]
 | x::rs,i,j,r=>by simp [allFrom,endOf,allFrom_snoc rs]
theorem tagOf_empty(p q:Bool):decide (tagOf p q≠("":Str))=(p||q):=by cases p<;>cases q<;>decide +kernel
theorem all_ops:∀(rs:List Run) (i j:Nat),(allFrom i j rs).filter (fun c:Op=>decide (c.1≠("":Str)))=opsFrom i j rs
 | [],_,_=>rfl
 | r::rs,i,j=>by
  simp only [allFrom,opsFrom,List.filter_append,all_ops rs]
  congr 1
  unfold allStep opStep
  rw [List.filter_append]
  have e2:(if 0<r.2.2 then ([(("equal":Str),r.1,r.1+r.2.2,r.2.1,r.2.1+r.2.2)]:List Op) else []).filter (fun c:Op=>decide (c.1≠("":Str)))=(if 0<r.2.2 then ([(("equal":Str),r.1,r.1+r.2.2,r.2.1,r.2.1+r.2.2)]:List Op) else []):=by
   split
   · rw [List.filter_cons,if_pos (show decide (("equal":Str)≠("":Str))=true by decide +kernel),List.filter_nil]
   · rfl
  rw [e2,List.filter_cons]
  have e1:=tagOf_empty (decide (i<r.1)) (decide (j<r.2.1))
  dsimp only
  rw [e1]
  by_cases c:i<r.1\/j<r.2.1
  · rw [if_pos c,if_pos (by simpa using c)];rfl
  · rw [if_neg c,if_neg (by simpa using c)];rfl
theorem beg_at(n1 n2:Nat)(R:List Run):∀k≤R.length,((0,0)::R.map fun r=>(r.1+r.2.2,r.2.1+r.2.2))[k]?=some (endOf 0 0 ((R++[(n1,n2,0)]).take k))
 | 0,_=>rfl
 | k+1,hk=>by
  have hl:k<R.length:=by exact zz232 hk
  have e:(R++[(n1,n2,0)])[k]?=some R[k]:=by rw [List.getElem?_append_left hl,List.getElem?_eq_getElem hl]
  rw [List.take_add_one,e,Option.toList_some,endOf_snoc,List.getElem?_cons_succ,List.getElem?_map,List.getElem?_eq_getElem hl];rfl
theorem end_mono{R:List Run}(hsep:R.Pairwise Bef){n1 n2:Nat}(hin:∀r∈R,r.1+r.2.2<=n1/\r.2.1+r.2.2<=n2/\0<r.2.2):∀(k:Nat) (r:Run),(R++[(n1,n2,0)])[k]?=some r ->
 (endOf 0 0 ((R++[(n1,n2,0)]).take k)).1<=r.1/\(endOf 0 0 ((R++[(n1,n2,0)]).take k)).2<=r.2.1
 | 0,_,_=>⟨Nat.zero_le _,Nat.zero_le _⟩
 | k+1,r,h=>by
  have hlt:=(List.getElem?_eq_some_iff.mp h).1
  have hl:k<R.length:=by simp at hlt;exact zz402 hlt
  have e:(R++[(n1,n2,0)])[k]?=some R[k]:=by rw [List.getElem?_append_left hl,List.getElem?_eq_getElem hl]
  rw [List.take_add_one,e,Option.toList_some,endOf_snoc]
  rcases Nat.lt_or_ge (k+1) R.length with q|q
  · rw [List.getElem?_append_left q,List.getElem?_eq_getElem q] at h
    have hb:=List.pairwise_iff_getElem.mp hsep k (k+1) hl q (by exact zz234)
    rw [Option.some.inj h] at hb
    unfold Bef at hb
    exact ⟨hb.1,hb.2.1⟩
  · rw [List.getElem?_append_right q] at h
    have h0:k+1-R.length=0:=by simp at hlt;exact zz403 hlt
    rw [h0] at h
    obtain rfl:=Option.some.inj h
    have:=hin _ (List.getElem_mem hl)
    exact ⟨this.1,this.2.1⟩
end Mine.Internal
namespace Mine.Internal
open PySem PySem.W PyProof.Rows PySem.Calls PySem.Spec
noncomputable abbrev dPr(p:Nat×Nat):PyData:=.tuple [.int p.1,.int p.2]
noncomputable def prsOf(L1 L2:List Pl):List (Nat×Nat):=(L1.filter fun p=>decide (p∈L2)).map fun p=>(L1.idxOf p,L2.idxOf p)
noncomputable def prsAt(L1 L2:List Pl)(i:Nat):List (Nat×Nat):=((L1.take i).filter fun p=>decide (p∈L2)).map fun p=>(L1.idxOf p,L2.idxOf p)
theorem idxOf_at{L:List Pl}{p:Pl}(h:p∈L):(L.map dPlace)[L.idxOf p]?=some (dPlace p):=by
 have hl:=List.idxOf_lt_length_iff.mpr h
 rw [List.getElem?_map,List.getElem?_eq_getElem hl,List.getElem_idxOf hl];rfl
theorem idxOf_no{L:List Pl}{p:Pl}:∀m<L.idxOf p,∀z,(L.map dPlace)[m]?=some z->PyData.eqv z (dPlace p)=false:=by
 intro m hm z hz
 rw [List.getElem?_map] at hz
 obtain ⟨q,hq,rfl⟩:=Option.map_eq_some_iff.mp hz
 rw [eqv_place,decide_eq_false_iff_not]
 intro e
 subst e
 have hml:=(List.getElem?_eq_some_iff.mp hq).1
 have:=List.not_of_lt_findIdx (p:=fun x=>x==q) (xs:=L) (i:=m) (by exact hm)
 rw [List.getElem?_eq_getElem hml] at hq
 rw [Option.some.inj hq] at this
 simp at this
theorem canLay_places(L:List Pl):PyData.canLayAll0 (L.map dPlace)=true:=canLay_map canLay_place L
theorem any_place(L:List Pl)(p:Pl):((L.map dPlace).any fun y=>PyData.eqv y (dPlace p))=decide (p∈L):=by
 rw [List.any_map]
 induction L with
 | nil=>rfl
 | cons q L ih =>
  rw [List.any_cons,ih]
  simp only [Function.comp,eqv_place,List.mem_cons]
  by_cases e:q=p
  · simp [e]
  · simp [e,Ne.symm e]
noncomputable def prvP(P:List (Nat×Nat))(k:Nat):Nat×Nat:=P.getD (if k=0 then P.length-1 else k-1) (0,0)
noncomputable def nxtP(P:List (Nat×Nat))(k:Nat):Nat×Nat:=P.getD ((k+1)%P.length) (0,0)
noncomputable def isHd(P:List (Nat×Nat))(k:Nat):Bool:=!(decide ((prvP P k).1+1=(P.getD k (0,0)).1)&&decide ((prvP P k).2+1=(P.getD k (0,0)).2))
noncomputable def isEn(P:List (Nat×Nat))(k:Nat):Bool:=!(decide ((nxtP P k).1=(P.getD k (0,0)).1+1)&&decide ((nxtP P k).2=(P.getD k (0,0)).2+1))
noncomputable def hdsTo(P:List (Nat×Nat))(n:Nat):List (Nat×Nat):=((List.range n).filter (isHd P)).map fun k=>P.getD k (0,0)
noncomputable def ensTo(P:List (Nat×Nat))(n:Nat):List (Nat×Nat):=((List.range n).filter (isEn P)).map fun k=>((P.getD k (0,0)).1+1,(P.getD k (0,0)).2+1)
theorem hdsTo_succ(P:List (Nat×Nat))(n:Nat):hdsTo P (n+1)=hdsTo P n++(if isHd P n then [P.getD n (0,0)] else []):=by
 unfold hdsTo
 rw [List.range_succ,List.filter_append,List.map_append]
 cases h:isHd P n<;>simp [h]
theorem ensTo_succ(P:List (Nat×Nat))(n:Nat):ensTo P (n+1)=ensTo P n++(if isEn P n then [((P.getD n (0,0)).1+1,(P.getD n (0,0)).2+1)] else []):=by
 unfold ensTo
 rw [List.range_succ,List.filter_append,List.map_append]
 cases h:isEn P n<;>simp [h]
theorem eqv_pr(a b c d:Int):PyData.eqv (.tuple [.int a,.int b]) (.tuple [.int c,.int d])=(decide (a=c)&&decide (b=d)):=by
 simp only [PyData.eqv,PyData.eqvAll]
 by_cases e1:a=c<;>by_cases e2:b=d<;>simp [e1,e2]
theorem itemPrev{prog:Program}{w:World}{A:Around}{E:Value->Shared->Prop}{s:Shared}{g:Heap}{l:Addr}{xs:List Value}{j k:Nat}{t:Tok}{x:Value}{Q:Value->Shared->Prop}(kk:Le g s.heap)(hl:g.get? l=some (lstObj xs j))(hk:k<xs.length)(hz:xs.length<1000)
 (hx:xs[if k=0 then xs.length-1 else k-1]?=some x) (h:Q x s):ItemOn (model prog w) A E (.ref l) (.int ((k:Int)-1) t) Q s:=by
 by_cases e:k=0
 · subst e
   rw [if_pos rfl] at hx
   have hne:xs≠[]:=fun q=>by subst q;simp at hk
   have ex:xs=xs.dropLast++[x]:=by
    have h2:xs.getLast hne=x:=by
     rw [List.getLast_eq_getElem]
     rw [List.getElem?_eq_getElem (by exact zz150 hk)] at hx
     exact Option.some.inj hx
    rw [←h2];exact (List.dropLast_concat_getLast hne).symm
   rw [ex] at hl
   have:=itemNeg (prog:=prog) (w:=w) (A:=A) (E:=E) (s:=s) (t:=t) kk hl h
   simpa using this
 · rw [if_neg e] at hx
   rw [show ((k:Int)-1)=((k-1:Nat):Int) by exact zz151 e]
   exact itemL kk hl hx (by lia) h
theorem hd_dec(a b c d:Nat):(!(decide ((a:Int)=(c:Int)-1)&&decide ((b:Int)=(d:Int)-1)))=!(decide (a+1=c)&&decide (b+1=d)):=by
 have e1:decide ((a:Int)=(c:Int)-1)=decide (a+1=c):=decide_eq_decide.mpr (by exact zz152)
 have e2:decide ((b:Int)=(d:Int)-1)=decide (b+1=d):=decide_eq_decide.mpr (by exact zz152)
 rw [e1,e2]
theorem en_dec(a b c d:Nat):(!(decide ((a:Int)=(c:Int)+1)&&decide ((b:Int)=(d:Int)+1)))=!(decide (a=c+1)&&decide (b=d+1)):=by
 have e1:decide ((a:Int)=(c:Int)+1)=decide (a=c+1):=decide_eq_decide.mpr (by exact zz153)
 have e2:decide ((b:Int)=(d:Int)+1)=decide (b=d+1):=decide_eq_decide.mpr (by exact zz153)
 rw [e1,e2]
theorem subI{prog:Program}{w:World}{A:Around}{E:Value->Shared->Prop}{s:Shared}{a b:Int}{t u:Tok}{Q:Value->Shared->Prop}(h:Q (.int (a-b) s.toks) {s with toks:=s.toks+1}):wpAny (model prog w) A (binaryOp .Sub (.int a t) (.int b u)) Q E s:=P.sub_int h
theorem mulZ{w:World}{A:Around}{E:Value->Shared->Prop}{s:Shared}{a b:Int}{c:Nat}{t u:Tok}{Q:Value->Shared->Prop}(e:a*b=(c:Int))(hm:IntMulOk a b)(h:Q (.int (c:Int) s.toks) {s with toks:=s.toks+1}):wpAny (model pw w) A (binaryOp .Mult (.int a t) (.int b u)) Q E s :=
 P.mul_int (by rw [e];exact h) hm
theorem tag_at(p q:Prop)[Decidable p][Decidable q](t1 t2 t3 t4:Tok):∃tt,([Value.str "" t1,Value.str "insert" t2,Value.str "delete" t3,Value.str "replace" t4]:List Value)[2*(if p then 1 else 0)+(if q then 1 else 0)]?=some (.str (tagOf (decide p) (decide q)) tt):=by
 by_cases hp:p<;>by_cases hq:q
 · exact ⟨t4,by simp [hp,hq,tagOf]⟩
 · exact ⟨t3,by simp [hp,hq,tagOf]⟩
 · exact ⟨t2,by simp [hp,hq,tagOf]⟩
 · exact ⟨t1,by simp [hp,hq,tagOf]⟩
theorem itemTag{prog:Program}{w:World}{A:Around}{E:Value->Shared->Prop}{s:Shared}{g:Heap}{l:Addr}{k:Nat}{p q:Prop}[Decidable p][Decidable q]{t1 t2 t3 t4 t:Tok}{Q:Value->Shared->Prop}(kk:Le g s.heap)
 (hl:g.get? l=some (lstObj [Value.str "" t1,Value.str "insert" t2,Value.str "delete" t3,Value.str "replace" t4] k)) (h:∀tt,Q (.str (tagOf (decide p) (decide q)) tt) s) :
 ItemOn (model prog w) A E (.ref l) (.int ((2*(if p then 1 else 0)+(if q then 1 else 0):Nat):Int) t) Q s:=by
 obtain ⟨tt,hi⟩:=tag_at p q t1 t2 t3 t4
 exact itemL kk hl hi (by split<;>split<;>lia) (h tt)
noncomputable abbrev nLC:List Str:=["pairs","heads","ends","k","a","b","begins","stops","codes","i","j","tag"]
noncomputable abbrev gLC:List Str:=["range","len","min"]
theorem prsAt_yes{L1 L2:List Pl}{i:Nat}{p:Pl}(hp:L1[i]?=some p)(hm:p∈L2):prsAt L1 L2 (i+1)=prsAt L1 L2 i++[(L1.idxOf p,L2.idxOf p)]:=by
 unfold prsAt
 rw [List.take_add_one,hp,List.filter_append,List.map_append]
 simp [hm]
theorem prsAt_no{L1 L2:List Pl}{i:Nat}{p:Pl}(hp:L1[i]?=some p)(hm:¬p∈L2):prsAt L1 L2 (i+1)=prsAt L1 L2 i:=by
 unfold prsAt
 rw [List.take_add_one,hp,List.filter_append,List.map_append]
 simp [hm]
theorem prsAt_all(L1 L2:List Pl):prsAt L1 L2 L1.length=prsOf L1 L2:=by unfold prsAt;rw [List.take_length];rfl
theorem hdsTo_len(P:List (Nat×Nat))(n:Nat):(hdsTo P n).length<=n:=by unfold hdsTo;rw [List.length_map];exact Nat.le_trans (List.length_filter_le ..) (by simp)
theorem ensTo_len(P:List (Nat×Nat))(n:Nat):(ensTo P n).length<=n:=by unfold ensTo;rw [List.length_map];exact Nat.le_trans (List.length_filter_le ..) (by simp)
theorem hds_yes{P:List (Nat×Nat)}{k:Nat}(h:isHd P k=true):hdsTo P (k+1)=hdsTo P k++[P.getD k (0,0)]:=by rw [hdsTo_succ,h];rfl
theorem hds_no{P:List (Nat×Nat)}{k:Nat}(h:isHd P k=false):hdsTo P (k+1)=hdsTo P k:=by rw [hdsTo_succ,h];exact List.append_nil _
theorem ens_yes{P:List (Nat×Nat)}{k:Nat}(h:isEn P k=true):ensTo P (k+1)=ensTo P k++[((P.getD k (0,0)).1+1,(P.getD k (0,0)).2+1)]:=by rw [ensTo_succ,h];rfl
theorem ens_no{P:List (Nat×Nat)}{k:Nat}(h:isEn P k=false):ensTo P (k+1)=ensTo P k:=by rw [ensTo_succ,h];exact List.append_nil _
theorem hd_eqv(P:List (Nat×Nat))(k:Nat):(!PyData.eqv (.tuple [.int (prvP P k).1,.int (prvP P k).2]) (.tuple [.int (((P.getD k (0,0)).1:Int)-1),.int (((P.getD k (0,0)).2:Int)-1)]))=isHd P k:=by rw [eqv_pr,hd_dec];rfl
theorem en_eqv(P:List (Nat×Nat))(k:Nat):(!PyData.eqv (.tuple [.int (nxtP P k).1,.int (nxtP P k).2]) (.tuple [.int (((P.getD k (0,0)).1:Int)+1),.int (((P.getD k (0,0)).2:Int)+1)]))=isEn P k:=by rw [eqv_pr,en_dec];rfl
theorem allFrom_len:∀(rs:List Run) (i j:Nat),(allFrom i j rs).length<=2*rs.length
 | [],_,_=>Nat.zero_le _
 | r::rs,i,j=>by
  have h1:(allStep i j r).length<=2:=by unfold allStep;split<;>simp
  have h2:=allFrom_len rs (r.1+r.2.2) (r.2.1+r.2.2)
  simp only [allFrom,List.length_append,List.length_cons];exact zz154 h1 h2
theorem filt_yes{AL:List Op}{i:Nat}{c:Op}(hc:AL[i]?=some c)(q:¬c.1=("":Str)):((AL.take (i+1)).filter (fun c:Op=>decide (c.1≠("":Str))))=((AL.take i).filter (fun c:Op=>decide (c.1≠("":Str))))++[c]:=by
 rw [List.take_add_one,hc,List.filter_append];simp [q]
theorem filt_no{AL:List Op}{i:Nat}{c:Op}(hc:AL[i]?=some c)(q:c.1=("":Str)):((AL.take (i+1)).filter (fun c:Op=>decide (c.1≠("":Str))))=((AL.take i).filter (fun c:Op=>decide (c.1≠("":Str)))):=by
 rw [List.take_add_one,hc,List.filter_append];simp [q]
theorem str_neD(a b:Str):(a.cps.toList != b.cps.toList)=decide (a≠b):=by
 by_cases q:a=b
 · subst q;simp
 · have:a.cps.toList≠b.cps.toList:=fun z=>q (str_ext z)
   simp [q,this]
theorem getD_at{P:List (Nat×Nat)}{m:Nat}(h:m<P.length):P[m]?=some (P.getD m (0,0)):=by rw [List.getD_eq_getElem?_getD,List.getElem?_eq_getElem h];rfl
theorem Fr.ixP{w:World}{N Gl:List Str}{c:Fr w N Gl}{g h:Heap}{o e1 e2:Expr}{op:Operator}{p pos:Pos}{l:Addr}{xs:List Value}{j k:Nat}{v:Value}(H1:c.E h o (fun _=>.ref l))(H2:c.E h (.BinOp e1 op e2 p) (Value.int ((k:Int)-1)))(kg:Le g h)(hl:g.get? l=some (lstObj xs j))(hk:k<xs.length)(hz:xs.length<1000)(hx:xs[if k=0 then xs.length-1 else k-1]?=some v)
 (ht:autoParam (∀o' r,letTemporaryGo o o' r=pure ()) au2):c.E h (.Subscript o (.BinOp e1 op e2 p) pos) (fun _=>v) :=
 fun Er Q t q=>Subscript_BinOp (H1 Er _ t fun _ t1=>H2 Er _ t1 fun _ t2=>itemPrev kg hl hk hz hx (q 0 _)) ht
section
variable{w:World}{A:Around}{s:Shared}{g:Heap}{n:Nat}
theorem lcodes_core(X:Stat g)(kg:Le g s.heap)(hA:Ok A (n+2))(l1 l2:Addr){i1 i2:List Value}{j1 j2:Nat}{L1 L2:List Pl}(el1:g.get? l1=some (lstObj i1 j1))(dl1:Dts g i1 (L1.map dPlace))(el2:g.get? l2=some (lstObj i2 j2))(dl2:Dts g i2 (L2.map dPlace))(z1:L1.length<64)(z2:L2.length<64)
 {P:List (Nat×Nat)} (eP:prsOf L1 L2=P) {R:List Run} (hH:hdsTo P P.length=R.map fun r=>(r.1,r.2.1)) (hE:ensTo P P.length=R.map fun r=>(r.1+r.2.2,r.2.1+r.2.2)) (hsep:R.Pairwise Bef)
 (hin:∀r∈R,r.1+r.2.2<=L1.length/\r.2.1+r.2.2<=L2.length/\0<r.2.2) (hR:R.length<64) {PP:Heap->Heap->Value->Prop} (hPP:∀g' h' v,Dt g' v (.list ((opsFrom 0 0 (R++[(L1.length,L2.length,0)])).map dOp))->PP g' h' v) :
 Gives pw w A (.call (.ref 423) ⟨[.ref l1,.ref l2],[]⟩) s [] g PP:=by
 refine Gives.goC 24 [.ref l1,.ref l2] ["first","second"] nLC gLC ["first","second"] [none,none,none,none,none,none,none,none,none,none,none,none] rfl X kg hA rfl rfl (by decide +kernel) (fun n x hx=>?_) rfl (fun j x hx=>?_) fun h₁ env A' t' hA' C hcl hC hIs hL F=>absQ fun QQ hQ=>?_
 · simp only [List.mem_cons,List.not_mem_nil,or_false] at hx
   rcases hx with rfl|rfl
   · exact .inr ⟨by decide +kernel,rfl⟩
   · exact .inr ⟨by decide +kernel,rfl⟩
 · rcases j with _|_|_|_|_|_|_|_|_|_|_|_|j
   all_goals first
    | (simp only [List.getElem?_cons_succ,List.getElem?_cons_zero,Option.some.injEq] at hx;subst hx;rfl)
    | simp at hx
 have c1:env.cells.lookup ("first":Str)=some (s.heap.objs.size+1):=by rw [hcl];rfl
 have c2:env.cells.lookup ("second":Str)=some (s.heap.objs.size+1+1):=by rw [hcl];rfl
 have K1:=hC _ (.head _) _ c1
 have K2:=hC _ (.tail _ (.head _)) _ c2
 obtain ⟨o1,hd1,F⟩:=F.cell (hIs _ _ c1).1 (by rw [hL];exact (hIs _ _ c1).2) (none_above kg (by exact zz43)) (fun p hp=>nomatch hp)
 obtain ⟨o2,hd2,F⟩:=F.cell (hIs _ _ c2).1 (by rw [hL];exact (hIs _ _ c2).2) (none_above kg (by exact zz44)) (fun p hp=>by
  rw [List.mem_singleton.mp hp];show s.heap.objs.size+1≠s.heap.objs.size+1+1;exact zz45)
 let c:Fr w nLC gLC:=⟨A',env,s.gens,s.drawn,s.os,s.heap,[],g,C,hA'.handled⟩
 have hQ:∀g' h' t' v,Out s.heap [] g g' h'->PP g' h' v->QQ (.ret v) (c.st h' t'):=fun g' h' t' v o p=>hQ _ _ ⟨g',h',t',rfl,o,p⟩
 refine Fr.S.freezeAt (c:=c) (pre:=[(_,o2)]) (post:=[]) F (Nat.le_succ _) fun g₁ k1 e1 F=>?_
 refine Fr.S.freeze F (Nat.le_trans (Nat.le_succ _) (Nat.le_succ _)) fun g₂ k2 e2 F=>?_
 have hd1':o1.data=.cell (some (.ref l1)):=hd1
 have hd2':o2.data=.cell (some (.ref l2)):=hd2
 have k12:=k1.tr k2
 have X₂:=X.up k12
 have e1:=k2 _ _ e1
 have len1:=mapD_len dl1
 have len2:=mapD_len dl2
 have el1:=k12 _ _ el1
 have el2:=k12 _ _ el2
 have dl1:=dl1.up k12
 have dl2:=dl2.up k12
 refine wpAny_execs_cons (asLst (h₀:=c.h₀) (xt:=c.xt) (g₀:=c.g₀) (l:=l1) (k:=j1) (items:=i1) (cl:=[("second",s.heap.objs.size+1+1),("first",s.heap.objs.size+1)]) (j:=0) ["place"] [] (fun i g' zs=>Dts g' zs ((prsAt L1 L2 i).map dPr)) hA'.handled (by decide +kernel) (by rw [hcl];rfl) C rfl rfl (by rw [len1,sizeLine_eq];exact zz155 z1) ((Fr.nC (c:=c) K1 F.keep e1 hd1').use fun _ t=>⟨rfl,g₂,_,_,F,el1,.nil,Fr.ct hA'.handled ?_,?_⟩))
 · intro i v s1 g' us ys I oI C' D' h cx hi kg' hys c V F hus T1 hT1 G kT kF
   have K1':=cellIn (C:=C') K1 (sc:=⟨.function,[(".0",.local),("place",.local),("first",.free),("second",.free)],false,false,[]⟩) (cl:=[("second",s.heap.objs.size+1+1),("first",s.heap.objs.size+1)]) rfl rfl rfl
   have K2':=cellIn (C:=C') K2 (sc:=⟨.function,[(".0",.local),("place",.local),("first",.free),("second",.free)],false,false,[]⟩) (cl:=[("second",s.heap.objs.size+1+1),("first",s.heap.objs.size+1)]) rfl rfl rfl
   refine dl1.getP hi fun p hp hdt=>?_
   have hpm:p∈L1:=List.mem_of_getElem? hp
   have hv:V[0]?=some (some v):=List.getElem?_set_self hus
   have dep:(dPlace p).depth<=60:=Nat.le_trans (depth_place p) (by decide)
   refine dite (p∈L2) (fun hm=>?_) fun hm=>?_
   · refine kT (Fr.tIn (Fr.nV 0 F hv) (Fr.nC K2' F.keep (kg' _ _ e2) hd2') F.keep (.list (kg' _ _ el2) (dl2.up kg')) (hdt.up kg') (canLay_places L2) (canLay_place p) dep hA'.c ((any_place L2 p).trans (decide_eq_true hm))) fun t=>?_
     refine (Fr.tup2 F (Fr.idxE (Fr.nC K1' F.keep (kg' _ _ e1) hd1') (Fr.nV 0 F hv) F.keep (kg' _ _ el1) (dl1.up kg') (hdt.up kg') (canLay_places L1) (canLay_place p) dep hA'.c (idxOf_at hpm) (by rw [eqv_place];simp) idxOf_no (by exact zz156 z1 len1))
      (Fr.idxE (Fr.nC K2' F.keep (kg' _ _ e2) hd2') (Fr.nV 0 F hv) F.keep (kg' _ _ el2) (dl2.up kg') (hdt.up kg') (canLay_places L2) (canLay_place p) dep hA'.c (idxOf_at hm) (by rw [eqv_place];simp) idxOf_no (by exact zz156 z2 len2))).use fun y g₄ h t k4 ey F=>hT1 y g₄ h t k4 F ?_
     rw [prsAt_yes hp hm,List.map_append]
     exact (hys.up k4).snoc (Fr.pairD rfl rfl ey)
   · exact kF (Fr.tIn (Fr.nV 0 F hv) (Fr.nC K2' F.keep (kg' _ _ e2) hd2') F.keep (.list (kg' _ _ el2) (dl2.up kg')) (hdt.up kg') (canLay_places L2) (canLay_place p) dep hA'.c ((any_place L2 p).trans (decide_eq_false hm))) (by rw [prsAt_no hp hm];exact hys)
 intro g₃' g₃ D h t ys k3 k3' hys eD F
 rw [len1,prsAt_all,eP] at hys
 have hP:Dts g₃ ys (P.map dPr):=hys.up k3'
 refine Fr.asV (c:=c) F ?_
 intro V F
 have X₃:=X₂.up k3
 refine Fr.xNilO 1 F ?_
 intro ha hha V h t F
 refine Fr.xNilO 2 F ?_
 intro ea hea V h t F
 have Pl:P.length<64:=by rw [←eP];unfold prsOf;rw [List.length_map];exact Nat.lt_of_le_of_lt (List.length_filter_le ..) z1
 have yl:=mapD_len hP
 have ysz:ys.length<=16777216:=by exact zz157 Pl yl
 refine Fr.xForN (c:=c) (n:=P.length) 3 X₃ (.head _) (Fr.lenI X₃ (.tail _ (.head _)) (Fr.nV 0 F) F.keep eD ysz (congrArg Nat.cast yl)) F (by lia)
  (fun i g' V' mu'=>∀G:List (Option Value)->List (Addr×Obj)->Prop,(∀hv ev hj ej u3 u4 u5,Dts g' hv ((hdsTo P i).map dPr)->Dts g' ev ((ensTo P i).map dPr)->G [some (.ref D),some (.ref ha),some (.ref ea),u3,u4,u5,none,none,none,none,none,none] [(ea,lstObj ev ej),(ha,lstObj hv hj)])->G V' mu') ?_ ?_ ?_
 · exact fun g' k4 G q=>q [] [] 0 0 none none none .nil .nil
 · intro k tk g' V' mu' I oI h t TT hk kg' hJ
   apply hJ
   intro hv ev hj ej u3 u4 u5 hhv hev hT V F
   have kD:=kg' _ _ eD
   have hP':=hP.up kg'
   have hvl:hv.length<=16777216:=by have h1:=mapD_len hhv;have h2:=hdsTo_len P k;exact zz158 yl ysz hk h1 h2
   have evl:ev.length<=16777216:=by have h1:=mapD_len hev;have h2:=ensTo_len P k;exact zz158 yl ysz hk h1 h2
   refine genK (P.getD k (0,0)) fun p hpk=>?_
   refine hP'.two (hpk▸getD_at hk) fun T q1 q2 eT1 eT2=>?_
   refine wpAny_execs_cons (Assign_Tuple ((Fr.ixN (Fr.nV 0 F) (Fr.nI 3 F) F.keep kD eT1 (by lia)).use fun _ t=>Fr.asTs [4,5] F eT2 (.cons rfl (.cons rfl .nil)) ?_))
   intro V h t F
   refine Fr.xSeq (c:=c) (fun K=>∀hv hj g₅ h t,Le g' g₅->Dts g₅ hv ((hdsTo P (k+1)).map dPr)->c.S g₅ V [(I,oI),(ea,lstObj ev ej),(ha,lstObj hv hj)] h->K h t) (fun K hK=>?_) fun hv hj g₅ h t k5 hhv F=>?_
   · have hpv:(if k=0 then ys.length-1 else k-1)<P.length:=by split<;>lia
     refine hP'.two (q:=prvP P k) (m:=if k=0 then ys.length-1 else k-1) (by unfold prvP;rw [←yl];exact getD_at hpv) fun T2 y1 y2 eT3 eT4=>?_
     refine Fr.xIfM (Fr.tNeM (Fr.ixP (Fr.nV 0 F) (Fr.subI (Fr.nI 3 F) Fr.kI rfl) F.keep kD (by exact zz23 yl hk) (by exact zz159 Pl yl) eT3) (Fr.tup2 F (Fr.subI (Fr.nI 4 F) Fr.kI rfl) (Fr.subI (Fr.nI 5 F) Fr.kI rfl)) (.tuple eT4 (.cons (.int _ _) (.cons (.int _ _) .nil))) (fun g' v hh=>Fr.pairD rfl rfl hh) rfl rfl hA'.c (hpk▸hd_eqv P k)) (fun hb g₅ h t k5 F=>?_) fun hb g₅ h t k5 F=>?_
     · refine Fr.xApp (pre:=[(I,oI),(ea,lstObj ev ej)]) (Fr.nV 1 F) F hvl (Fr.tup2 F (Fr.nI 4 F) (Fr.nI 5 F)) fun v g₆ h t k6 ey F=>Fr.xNil (Fr.nNext (hK (hv++[v]) _ g₆ h t (k5.tr k6) ?_ F))
       rw [hds_yes hb,List.map_append,hpk]
       exact (hhv.up (k5.tr k6)).snoc (Fr.pairD rfl rfl ey)
     · exact Fr.xNil (Fr.nNext (hK hv hj g₅ h t k5 (by rw [hds_no hb];exact hhv.up k5) F))
   refine Fr.xSeq (c:=c) (fun K=>∀ev ej g₆ h t,Le g₅ g₆->Dts g₆ ev ((ensTo P (k+1)).map dPr)->c.S g₆ V [(I,oI),(ea,lstObj ev ej),(ha,lstObj hv hj)] h->K h t) (fun K hK=>?_) fun ev ej g₆ h t k6 hev F=>?_
   · have hnx:(k+1)%P.length<P.length:=Nat.mod_lt _ (by exact zz160 hk)
     have kD:=k5 _ _ kD
     refine (hP'.up k5).two (q:=nxtP P k) (m:=(k+1)%P.length) (getD_at hnx) fun T2 y1 y2 eT3 eT4=>?_
     refine Fr.xIfM (Fr.tNeM (Fr.ixB (i:=(k+1)%P.length) (Fr.nV 0 F) (Fr.modE (m:=k+1) (Fr.addI (Fr.nI 3 F) Fr.kI rfl) (Fr.lenI (X₃.up (kg'.tr k5)) (.tail _ (.head _)) (Fr.nV 0 F) F.keep kD ysz (congrArg Nat.cast yl)) (by exact zz161 hnx)) F.keep kD eT3 (by lia)) (Fr.tup2 F (Fr.addI (Fr.nI 4 F) Fr.kI rfl) (Fr.addI (Fr.nI 5 F) Fr.kI rfl)) (.tuple eT4 (.cons (.int _ _) (.cons (.int _ _) .nil))) (fun g' v hh=>Fr.pairD rfl rfl hh) rfl rfl hA'.c (hpk▸en_eqv P k)) (fun hb g₆ h t k6 F=>?_) fun hb g₆ h t k6 F=>?_
     · refine Fr.xApp (pre:=[(I,oI)]) (Fr.nV 2 F) F evl (Fr.tup2 F (Fr.addI (r:=((p.1+1:Nat):Int)) (Fr.nI 4 F) Fr.kI rfl) (Fr.addI (r:=((p.2+1:Nat):Int)) (Fr.nI 5 F) Fr.kI rfl)) fun v g₇ h t k7 ey F=>Fr.xNil (Fr.nNext (hK (ev++[v]) _ g₇ h t (k6.tr k7) ?_ F))
       rw [ens_yes hb,List.map_append,hpk]
       exact (hev.up (k5.tr (k6.tr k7))).snoc (Fr.pairD rfl rfl ey)
     · exact Fr.xNil (Fr.nNext (hK ev ej g₆ h t k6 (by rw [ens_no hb];exact hev.up (k5.tr k6)) F))
   exact hT.go (k5.tr k6) F fun G q=>q hv ev _ _ _ _ _ (hhv.up k6) hev
 intro g₄ V' mu' h t k4 hJ
 apply hJ
 intro hv ev hj ej u3 u4 u5 hhv hev F
 rw [hH] at hhv
 rw [hE] at hev
 have hvl:hv.length=R.length:=(mapD_len hhv).trans (List.length_map _)
 have evl:ev.length=R.length:=(mapD_len hev).trans (List.length_map _)
 refine Fr.S.freeze (c:=c) F hea fun g₅ k5 eea F=>?_
 refine Fr.S.freeze F hha fun g₆ k6 eha F=>?_
 have eea:=k6 _ _ eea
 have hhv:=hhv.up (k5.tr k6)
 have hev:=hev.up (k5.tr k6)
 have kk₆:=(k3.tr k4).tr (k5.tr k6)
 refine Fr.asV (c:=c) F ?_
 intro V F
 refine Fr.xLet (c:=c) 6 (wpAny_BinOp (lstE (sp1 ((Fr.tup2 F Fr.kI Fr.kI).use fun v0 g₇ h t k7 ev0 F=>sp0 (newLst (s:=c.st h t) F (fun L0 g₈ h k8 eL0 F=>(Fr.nV (c:=c) 2 F).use fun _ t=>addL (s:=c.st h t) F eL0 (k8 _ _ (k7 _ _ eea)) (by rw [evl];simp;exact zz162 hR) fun bg g₉ h k9 ebg F=>⟨h,_,g₉,V,[],rfl,F,?_⟩))))))
 intro h t F
 refine Fr.asV (c:=c) F ?_
 intro V F
 have k79:=k7.tr (k8.tr k9)
 have hbg:Dts g₉ ([v0]++ev) (((0,0)::R.map fun r=>(r.1+r.2.2,r.2.1+r.2.2)).map dPr):=.cons ((Fr.pairD rfl rfl ev0).up (k8.tr k9)) (hev.up k79)
 have kk₉:=kk₆.tr k79
 have X₉:=X₂.up kk₉
 refine Fr.xLet (c:=c) 7 (wpAny_BinOp ((Fr.nV 1 F).use fun _ t=>lstE (sp1 ((Fr.tup2 F (Fr.lenI X₉ (.tail _ (.head _)) (Fr.nC K1 F.keep (kk₉ _ _ e1) hd1') F.keep (kk₉ _ _ el1) (by exact zz157 z1 len1) (congrArg Nat.cast len1)) (Fr.lenI X₉ (.tail _ (.head _)) (Fr.nC K2 F.keep (kk₉ _ _ e2) hd2') F.keep (kk₉ _ _ el2) (by exact zz157 z2 len2) (congrArg Nat.cast len2))).use fun v1 g₁₀ h t k10 ev1 F=>sp0 (newLst (s:=c.st h t) F (fun L1' g₁₁ h k11 eL1 F=>addL (s:=c.st h _) F ((k79.tr (k10.tr k11)) _ _ eha) eL1 (by rw [hvl];simp;exact zz163 hR) fun sg g₁₂ h k12 esg F=>⟨h,_,g₁₂,V,[],rfl,F,?_⟩))))))
 intro h t F
 refine Fr.asV (c:=c) F ?_
 intro V F
 have k1012:=k10.tr (k11.tr k12)
 have hsg:Dts g₁₂ (hv++[v1]) ((R.map (fun r=>(r.1,r.2.1))++[(L1.length,L2.length)]).map dPr):=by
  rw [List.map_append]
  exact (hhv.up (k79.tr k1012)).append (.cons ((Fr.pairD rfl rfl ev1).up (k11.tr k12)) .nil)
 have hbg:=hbg.up k1012
 have ebg:=k1012 _ _ ebg
 have X₁₂:=X₉.up k1012
 refine Fr.xNilO (c:=c) 8 F ?_
 intro ca hca V h t F
 have sl:(hv++[v1]).length=R.length+1:=by rw [List.length_append,hvl];rfl
 refine genK (R++[(L1.length,L2.length,0)]) fun RR eRR=>?_
 refine Fr.xForN (c:=c) (n:=R.length+1) 3 X₁₂ (.head _) (Fr.lenI X₁₂ (.tail _ (.head _)) (Fr.nV 7 F) F.keep esg (by exact zz164 hR sl) (congrArg Nat.cast sl)) F (by lia)
  (fun i g' V' mu'=>∀G:List (Option Value)->List (Addr×Obj)->Prop,(∀ij cv cj u3 u4 u5 u9 u10 u11,endOf 0 0 (RR.take i)=ij->Dts g' cv ((allFrom 0 0 (RR.take i)).map dOp)->G [some (.ref D),some (.ref ha),some (.ref ea),u3,u4,u5,some (.ref bg),some (.ref sg),some (.ref ca),u9,u10,u11] [(ca,lstObj cv cj)])->G V' mu') ?_ ?_ ?_
 · exact fun g' k13 G q=>q (0,0) [] 0 _ _ _ _ _ _ rfl .nil
 · intro k tk g' V' mu' I oI h t TT hk kg' hJ
   apply hJ
   intro ij cv cj u3 u4 u5 u9 u10 u11 eij hcv hT V F
   have hkB:k<RR.length:=by rw [←eRR];simp;exact zz165 hk
   refine getK hkB fun r hr=>?_
   have hb:=beg_at L1.length L2.length R k (Nat.le_of_lt_succ hk)
   have hm:=end_mono hsep hin k r (eRR▸hr)
   rw [eRR,eij] at hb hm
   have hs:(R.map (fun r=>(r.1,r.2.1))++[(L1.length,L2.length)])[k]?=some (r.1,r.2.1):=by
    have e:R.map (fun r=>(r.1,r.2.1))++[(L1.length,L2.length)]=RR.map (fun r:Run=>(r.1,r.2.1)):=by rw [←eRR,List.map_append];rfl
    rw [e,List.getElem?_map,hr];rfl
   have cvl:cv.length<=1000:=by have h1:=mapD_len hcv;have h2:=allFrom_len (RR.take k) 0 0;rw [List.length_take] at h2;rw [←eRR] at h2;simp at h2;lia
   refine (hbg.up kg').two hb fun TB1 x1 x2 eB1 eB2=>(hsg.up kg').two hs fun TS1 y1 y2 eS1 eS2=>?_
   refine wpAny_execs_cons (Assign_Tuple ((Fr.ixN (Fr.nV 6 F) (Fr.nI 3 F) F.keep (kg' _ _ ebg) eB1 (by lia)).use fun _ t=>Fr.asTs [9,10] F eB2 (.cons rfl (.cons rfl .nil)) ?_))
   intro V h t F
   refine wpAny_execs_cons (Assign_Tuple ((Fr.ixN (Fr.nV 7 F) (Fr.nI 3 F) F.keep (kg' _ _ esg) eS1 (by lia)).use fun _ t=>Fr.asTs [4,5] F eS2 (.cons rfl (.cons rfl .nil)) ?_))
   intro V h t F
   have m1:(if (r.1:Int)-(ij.1:Int)<1 then (r.1:Int)-(ij.1:Int) else 1)=((if ij.1<r.1 then 1 else 0:Nat):Int):=by have:=hm.1;split<;>split<;>lia
   have m2:(if (r.2.1:Int)-(ij.2:Int)<1 then (r.2.1:Int)-(ij.2:Int) else 1)=((if ij.2<r.2.1 then 1 else 0:Nat):Int):=by have:=hm.2;split<;>split<;>lia
   refine Fr.xLet (c:=c) 11 (SubB (lstE (sp1 (Fr.kS.use fun a1 t=>sp1 (Fr.kS.use fun a2 t=>sp1 (Fr.kS.use fun a3 t=>sp1 (Fr.kS.use fun a4 t=>sp0 (newLst (s:=c.st h t) F fun tl g₁₄ h k14 etl F=>?_))))))))
   have X₁₄:=X₁₂.up (kg'.tr k14)
   refine wpAny_BinOp (wpAny_BinOp (Fr.kI.use fun _ t=>?_))
   refine C2 (N_min (s:=c.st h t) C X₁₄ F.keep (.tail _ (.tail _ (.head _))) (Fr.kI.use fun _ t=>(Fr.subI (c:=c) (Fr.nI 4 F) (Fr.nI 9 F) rfl).use fun _ t=>⟨trivial,minN (s:=c.st h t) (c:=if ij.1<r.1 then 1 else 0) hA'.handled F m1 fun h t5 t F=>?_⟩))
   refine mulZ (s:=c.st h t) (c:=2*(if ij.1<r.1 then 1 else 0)) (by split<;>rfl) (.of_left (by decide)) ?_
   refine C2 (N_min (s:=c.st h _) C X₁₄ F.keep (.tail _ (.tail _ (.head _))) (Fr.kI.use fun _ t=>(Fr.subI (c:=c) (Fr.nI 5 F) (Fr.nI 10 F) rfl).use fun _ t=>⟨trivial,minN (s:=c.st h t) (c:=if ij.2<r.2.1 then 1 else 0) hA'.handled F m2 fun h t5 t F=>?_⟩))
   refine addZ (s:=c.st h t) (c:=2*(if ij.1<r.1 then 1 else 0)+(if ij.2<r.2.1 then 1 else 0)) (by push_cast;rfl) (itemTag F.keep etl fun tt=>⟨h,_,g₁₄,V,_,rfl,F,?_⟩)
   intro h t F
   refine Fr.asV (c:=c) F ?_
   intro V F
   refine Fr.xApp (pre:=[(I,oI)]) (Fr.nV 8 F) F (by exact zz24 cvl) (Fr.tup5 F (Fr.nV 11 F) (Fr.nI 9 F) (Fr.nI 4 F) (Fr.nI 10 F) (Fr.nI 5 F)) fun v g₁₅ h t k15 ey F=>?_
   have kA:=k1012.tr (kg'.tr (k14.tr k15))
   have hcv5:=(hcv.up (k14.tr k15)).snoc (show Dt g₁₅ v (dOp (tagOf (decide (ij.1<r.1)) (decide (ij.2<r.2.1)),ij.1,r.1,ij.2,r.2.1)) from tup5D ey fun _=>.str _ _)
   have een:endOf 0 0 (RR.take (k+1))=(r.1+r.2.2,r.2.1+r.2.2):=by rw [take_next hr,endOf_snoc]
   have eal:allFrom 0 0 (RR.take (k+1))=allFrom 0 0 (RR.take k)++allStep ij.1 ij.2 r:=by rw [take_next hr,allFrom_snoc,eij]
   refine Fr.xIfD (q:=k<R.length) (Fr.tLtN (Fr.nI 3 F) (Fr.lenI (X₉.up kA) (.tail _ (.head _)) (Fr.nV 1 F) F.keep (k79.tr kA _ _ eha) (by exact zz157 hR hvl) (congrArg Nat.cast hvl))) (fun hkR t=>?_) fun hkR t=>?_
   · have hrk:R[k]?=some r:=by rw [←eRR,List.getElem?_append_left hkR] at hr;exact hr
     have hpos:0<r.2.2:=(hin _ (List.mem_of_getElem? hrk)).2.2
     refine (hev.up (k79.tr (k1012.tr kg'))).two (m:=k) (q:=(r.1+r.2.2,r.2.1+r.2.2)) (by rw [List.getElem?_map,hrk];rfl) fun TE z1 z2 eE1 eE2=>?_
     have eE2:=(k14.tr k15) _ _ eE2
     refine Fr.xApp (pre:=[(I,oI)]) (Fr.nV 8 F) F (by simp;exact zz166 cvl) (Fr.tup5 F Fr.kS (Fr.nI 4 F) (Fr.toI (Fr.ixT (i:=0) (Fr.ixN (Fr.nV 2 F) (Fr.nI 3 F) F.keep (k79.tr kA _ _ eea) eE1 (by lia)) Fr.kI F.keep eE2 rfl (by decide))) (Fr.nI 5 F) (Fr.toI (Fr.ixT (i:=1) (Fr.ixN (Fr.nV 2 F) (Fr.nI 3 F) F.keep (k79.tr kA _ _ eea) eE1 (by lia)) Fr.kI F.keep eE2 rfl (by decide)))) fun v g₁₆ h t k16 ey F=>?_
     refine Fr.xNil (hT.go (k14.tr (k15.tr k16)) F fun G q=>q _ _ _ _ _ _ _ _ _ een ?_)
     rw [eal,show allStep ij.1 ij.2 r=[(tagOf (decide (ij.1<r.1)) (decide (ij.2<r.2.1)),ij.1,r.1,ij.2,r.2.1)]++[(("equal":Str),r.1,r.1+r.2.2,r.2.1,r.2.1+r.2.2)] by unfold allStep;rw [if_pos hpos],←List.append_assoc,List.map_append,List.map_append]
     exact (hcv5.up k16).snoc (tup5D ey fun _=>.str _ _)
   · have hz:r.2.2=0:=by
      have hk2:k=R.length:=by exact zz167 hk hkR
      rw [←eRR,hk2,List.getElem?_append_right (Nat.le_refl _),Nat.sub_self] at hr
      rw [←Option.some.inj hr]
     refine Fr.xNil (hT.go (k14.tr k15) F fun G q=>q _ _ _ _ _ _ _ _ _ een ?_)
     rw [eal,show allStep ij.1 ij.2 r=[(tagOf (decide (ij.1<r.1)) (decide (ij.2<r.2.1)),ij.1,r.1,ij.2,r.2.1)] by unfold allStep;rw [if_neg (by exact zz168 hz),List.append_nil],List.map_append]
     exact hcv5
 intro g₁₃ V' mu' h t k13 hJ
 apply hJ
 intro ij cv cj u3 u4 u5 u9 u10 u11 eij hcv F
 rw [List.take_of_length_le (by rw [←eRR];simp)] at hcv
 refine Fr.S.freeze (c:=c) F hca fun g₁₄ k14 eca F=>?_
 have hcv:=hcv.up k14
 have hAL:=all_ops RR 0 0
 refine genK (allFrom 0 0 RR) fun AL eAL=>?_
 rw [eAL] at hcv hAL
 rw [eRR,←hAL] at hPP
 have cvl:=mapD_len hcv
 have ALl:AL.length<=1000:=by have h2:=allFrom_len RR 0 0;rw [eAL,←eRR] at h2;simp at h2;exact zz169 hR h2
 refine wpAny_execs_cons (wpAny_Return_some (evLst (h₀:=c.h₀) (xt:=c.xt) (g₀:=c.g₀) (L:=env.locals) (N:=nLC) (l:=ca) (k:=cj) (items:=cv) (cl:=[]) ["code"] [] (fun i g' ws=>Dts g' ws (((AL.take i).filter (fun c:Op=>decide (c.1≠("":Str)))).map dOp)) hA'.handled (by decide +kernel) rfl C (by rw [sizeLine_eq];exact zz170 cvl ALl) ((Fr.nV (c:=c) 8 F).use fun _ t=>⟨rfl,g₁₄,_,_,F,eca,.nil,Fr.ct hA'.handled ?_,?_⟩)))
 · intro i v s1 g' us ys I oI C' D' h cx hi kg' hys c V F hus T1 hT1 G kT kF
   have hv:V[0]?=some (some v):=List.getElem?_set_self hus
   refine (hcv.up kg').getP hi fun co hc hdt=>?_
   obtain ⟨T,vv,ev,eT,dT⟩:=hdt.tupInv
   cases dT with
   | cons a1 r1 =>
   obtain ⟨t1,ea⟩:=a1.strInv
   rw [ea] at eT
   have Ec {p1 p2 p3:Pos} {kk:Nat}:=Fr.ixT (c:=c) (i:=0) (p:=p2) (pos:=p3) (kk:=kk) (cst:=.int 0) ((Fr.nV (x:="code") (pos:=p1) 0 F hv).eq ev) Fr.kI F.keep eT rfl (by decide)
   refine dite (co.1=("":Str)) (fun q=>?_) fun q=>?_
   · exact kF (Fr.tNeS Ec Fr.kS ((str_neD _ _).trans (decide_eq_false fun z=>z q))) (by rw [filt_no hc q];exact hys)
   · refine kT (Fr.tNeS Ec Fr.kS ((str_neD _ _).trans (decide_eq_true q))) fun t=>(Fr.nV 0 F hv).use fun _ t=>hT1 _ _ _ _ Le.rfl' F ?_
     rw [filt_yes hc q,List.map_append]
     exact hys.snoc hdt
 intro g₃' g₁₅ D h t ys k15 k3' hys eD F
 rw [cvl,List.take_length] at hys
 exact hQ _ _ _ _ F.out (hPP _ _ _ (.list eD (hys.up k3')))
theorem lcodes_gives(X:Stat g)(kg:Le g s.heap)(hA:Ok A (n+2))(v1 v2:Value)(L1 L2:List Pl)(h1:Dt g v1 (.list (L1.map dPlace)))(h2:Dt g v2 (.list (L2.map dPlace)))(z1:L1.length<64)(z2:L2.length<64)
 {R:List Run} (hH:hdsTo (prsOf L1 L2) (prsOf L1 L2).length=R.map fun r=>(r.1,r.2.1)) (hE:ensTo (prsOf L1 L2) (prsOf L1 L2).length=R.map fun r=>(r.1+r.2.2,r.2.1+r.2.2)) (hsep:R.Pairwise Bef)
 (hin:∀r∈R,r.1+r.2.2<=L1.length/\r.2.1+r.2.2<=L2.length/\0<r.2.2) (hR:R.length<64) :
 Gives pw w A (.call (.ref 423) ⟨[v1,v2],[]⟩) s [] g (fun g' _ v=>Dt g' v (.list ((opsFrom 0 0 (R++[(L1.length,L2.length,0)])).map dOp))):=by
 obtain ⟨l1,i1,j1,rfl,el1,dl1⟩:=h1.listInv
 obtain ⟨l2,i2,j2,rfl,el2,dl2⟩:=h2.listInv
 exact lcodes_core X kg hA l1 l2 el1 dl1 el2 dl2 z1 z2 rfl hH hE hsep hin hR fun _ _ _ x=>x
end
theorem pick_mid(vs:List Value)(i j:Nat)(hij:i<=j):slicePick vs.toArray (some (i:Int)) (some (j:Int)) none=((vs.take j).drop i).toArray:=by
 have e:sliceBounds (some (i:Int)) (some (j:Int)) none vs.toArray.size=(((min i vs.toArray.size:Nat):Int),((min j vs.toArray.size:Nat):Int),1):=by
  simp only [sliceBounds,Option.getD_none,show (1:Int)>0 by decide,if_true,if_neg (show ¬((i:Int)<0) by exact zz0),if_neg (show ¬((j:Int)<0) by exact zz0),clip]
 rw [kmk_pick_nat _ e,List.size_toArray]
 refine congrArg List.toArray ?_
 rw [←List.drop_take]
 show (List.take (min j vs.length) vs).drop (min i vs.length)=_
 rw [kmk_take_min]
 rcases Nat.le_total i vs.length with h|h
 · rw [Nat.min_eq_left h]
 · rw [Nat.min_eq_right h,List.drop_of_length_le (List.length_take_le' ..),List.drop_of_length_le (Nat.le_trans (List.length_take_le' ..) h)]
section
variable{prog:Program}{w:World}{A:Around}{s:Shared}{env:Env}{E:Value->Shared->Prop}
variable{h₀ g₀ g:Heap}{xt:List Addr}{L:Addr}{N Gl:List Str}{vs:List (Option Value)}{mu:List (Addr×Obj)}
theorem lsl_mid{o e₁ e₂:Expr}{p pos:Pos}{Q:Value->Shared->Prop}
 (h:wpAny (model prog w) A (eval o env) (fun ov s₁=>wpAny (model prog w) A (eval e₁ env) (fun e1 s₂=>wpAny (model prog w) A (eval e₂ env) (fun ev s₂=>∃l items k i j u1 u g₁ mu₁ vs₁,ov=.ref l/\e1=.int ((i:Nat):Int) u1/\ev=.int ((j:Nat):Int) u/\i<=j/\items.length<=16777216/\g₁.get? l=some (lstObj items k)/\St h₀ xt g₀ g₁ L N vs₁ mu₁ s₂.heap /\
  ∀D g' h',Le g₁ g'->g'.get? D=some (lstObj ((items.take j).drop i) 0)->St h₀ xt g₀ g' L N vs₁ mu₁ h'->Q (.ref D) {s₂ with heap:=h'}) E s₂) E s₁) E s) (ht:autoParam (∀o' r,letTemporaryGo o o' r=pure ()) au2) :
 wpAny (model prog w) A (eval (.Subscript o (.Slice (some e₁) (some e₂) none p) pos) env) Q E s:=by
 refine wpAny_Subscript_list_slice (wpAny_mono h (fun ov s₁ h₁=>?_) fun _ _ e=>e) ht
 rw [evalPart_some,evalPart_some]
 refine wpAny_mono h₁ (fun e1 s₂ h₂=>?_) fun _ _ e=>e
 refine wpAny_mono h₂ (fun ev s₃ h₃=>?_) fun _ _ e=>e
 obtain ⟨l,items,k,i,j,u1,u,g₁,mu₁,vs₁,rfl,rfl,rfl,hij,hsz,hl,F,hq⟩:=h₃
 refine ⟨l,items.toArray,some (i:Int),some (j:Int),rfl,⟨_,F.keep _ _ hl,rfl,_,rfl⟩,by show _<=16777216;simpa using hsz,.int _ _,.int _ _,?_⟩
 rw [pick_mid _ _ _ hij]
 have F₁:=F.more (le_push s₃.heap {cls:=.type "slice",data:=.fields #[.int ((i:Nat):Int) u1,.int ((j:Nat):Int) u,.none]})
 obtain ⟨g',k',eD,F₂⟩:=F₁.made (lstObj ((items.take j).drop i) 0)
 have es:(s₃.heap.push {cls:=.type "slice",data:=.fields #[.int ((i:Nat):Int) u1,.int ((j:Nat):Int) u,.none]}).objs.size=s₃.heap.objs.size+1:=Heap.size_push ..
 rw [es] at eD
 exact hq _ g' _ k' eD F₂
theorem modZ{x:Int}{b:Nat}{t u:Tok}{Q:Value->Shared->Prop}(hb:0<b)(h:∀t' k,Q (.int (((x.fmod b).toNat:Nat):Int) t') {s with toks:=k}):wpAny (model prog w) A (binaryOp .Mod (.int x t) (.int (b:Int) u)) Q E s:=by
 refine mod_int (by exact zz3 hb) ?_
 have e:Int.fmod x (b:Int)=(((x.fmod b).toNat:Nat):Int):=by
  have:0<=Int.fmod x (b:Int):=by rw [Int.fmod_eq_emod_of_nonneg _ (by exact zz4)];exact Int.emod_nonneg _ (by exact zz3 hb)
  lia
 rw [e];exact h _ _
noncomputable abbrev emDict:Obj:={cls:=.type "dict",data:=.dict #[]}
theorem tc_new{g:Array GenState}{d:Drawn}{t:Nat}{os:OsState}{h:Heap}{mN:Str->Option Value}{rest:List Value}{fI:Addr}{oI:Obj}{Q:Value->Shared->Prop}
 (hC:h.get? 242=some smCls) (hn:h.Ns 241 mN) (hi:mN "__init__"=some (.ref fI)) (hfI:h.get? fI=some oI) (hfc:oI.cls=.type "function")
 (hq:wpAny (model prog w) (A.under (.builtin "type.__call__" ⟨.ref 242::rest,[]⟩)) (call (.ref fI) (.ref (h.objs.size+1)::rest)) (fun r s'=>r=.none/\Q (.ref (h.objs.size+1)) s') E ⟨(h.push emDict).push (instO h.objs.size),g,d,t,os⟩) :
 wpAny (model prog w) A (call (.ref 242) rest) Q E ⟨h,g,d,t,os⟩:=by
 have F:=F.objNew
 have f1:=tc_lookup
 have f2:=tc_bind (.ref 242)
 have hT:(⟨h,g,d,t,os⟩:Shared).TypeIs (.ref 242) "type":=⟨_,hC,rfl⟩
 refine wpAny_call (codeAny_of_tree ?_)
 show wpAny _ _ (callAny (.ref 242) _) _ _ _
 repeat (any_goals (first|assumption|with_reducible refine wpAny_loadPart_at hC ?_|wp_step))
 refine ⟨rfl,?_⟩
 refine codeAny_call_builtin_at (Code.quiet_builtin _ (by decide +kernel)) entry_typeCall (wpAny_check_type_call_sub hC ?_)
 have hmro:mroOf (.type "object")=pure [.type "object"]:=by kernel_rfl
 have hlk:typeLookup (.type "object") "__init__"=pure (some (.builtin "object.__init__")):=by rw [typeLookup_type,builtinLookup_eq_fast];kernel_rfl
 repeat (first|with_reducible refine wpAny_loadPart_at hC ?_|with_reducible refine wpAny_madeBy_exc hC ?_|wp_step)
 refine codeAny_call_builtin_code (Code.quiet_builtin _ F.quiet) (wpAny_check_obj_new F hC ?_)
 refine codeAny_obj_new F hC hn hi ?_
 show wpAny _ _ _ _ _ _
 have hC₁:=Heap.get?_push_of_some (instO h.objs.size) (Heap.get?_push_of_some emDict hC)
 have hfI₁:=Heap.get?_push_of_some (instO h.objs.size) (Heap.get?_push_of_some emDict hfI)
 have hn₁:((h.push emDict).push (instO h.objs.size)).Ns 241 mN :=
  let ⟨o,es,ep,e,r⟩:=hn;⟨o,es,ep,Heap.get?_push_of_some _ (Heap.get?_push_of_some _ e),r⟩
 have hget:((h.push emDict).push (instO h.objs.size)).get? (h.objs.size+1)=some (instO h.objs.size):=by heap_get
 have hcC:(Value.ref 242::[Value.type "object"]).contains (.ref 242)=true:=by simp
 unfold isInstance
 repeat (first|with_reducible refine wpAny_loadPart_at hget ?_|(with_reducible refine wpAny_isSubtype_exc hC₁ ?_;rw [hcC])|wp_step)
 show wpAny _ _ (typeLookup (.ref 242) _) _ _ _
 refine wpAny_typeLookup_exc hC₁ hn₁ hmro hlk ?_
 rw [hi]
 refine wpAny_holding (wpAny_bind ?_)
 unfold bindSpecial
 refine wpAny_bind (wpAny_typeOf (T:="function") ⟨_,hfI₁,hfc⟩ ?_)
 rw [if_pos (by decide)]
 refine wpAny_pure (wpAny_bind (wpAny_mono hq (fun r s' hr=>?_) fun _ _ x=>x))
 obtain ⟨rfl,hQ⟩:=hr
 wp_walk
 exact hQ
end
noncomputable abbrev nLaw:List Str:=["script","x","places","hung","rows","paths","deed","which","front","old","new","before","after","one","two","matcher","i","j","size","there","back","due","longest"]
noncomputable abbrev glLaw:List Str:=["len","_law_place","_law_done","_law_carried","_law_path","_law_listing","SequenceMatcher","_law_codes","min"]
noncomputable def plOf(x:Int):Pl:=placeN (x.fmod 100000).toNat
noncomputable def numsOf(xs:List Int):List Int:=[1,5,42,71,17]++(xs.take 5).drop 2
noncomputable def P0(xs:List Int):List Pl:=(numsOf xs).map plOf
theorem fmod_lt(x:Int):(x.fmod 100000).toNat<100000:=by
 have h1:0<=Int.fmod x 100000:=by rw [Int.fmod_eq_emod_of_nonneg _ (by exact zz197)];exact Int.emod_nonneg _ (by exact zz198)
 have h2:Int.fmod x 100000<100000:=by rw [Int.fmod_eq_emod_of_nonneg _ (by exact zz197)];exact Int.emod_lt_of_pos _ (by exact zz199)
 lia
theorem placeN_good(m:Nat):GoodPl (placeN m)/\(placeN m).length<=3:=by
 have hl:(placeN m).length<=3:=by unfold placeN;rw [List.length_map,List.length_range];exact zz200
 refine ⟨⟨by exact zz201 hl,fun n hn=>?_⟩,hl⟩
 unfold placeN at hn
 obtain ⟨i,hi,rfl⟩:=List.mem_map.mp hn
 have h5:m/4/5^i%5<5:=Nat.mod_lt _ (by exact zz55)
 generalize m/4/5^i%5=q at h5
 unfold kindsN nameList
 rcases q with _|_|_|_|_|q
 · exact List.mem_append_left _ (.head _)
 · exact List.mem_append_left _ (.tail _ (.head _))
 · exact List.mem_append_left _ (.tail _ (.tail _ (.head _)))
 · exact List.mem_append_left _ (.tail _ (.tail _ (.tail _ (.head _))))
 · exact List.mem_append_right _ (List.mem_map.mpr ⟨m/500%256,List.mem_range.mpr (Nat.mod_lt _ (by exact zz48)),rfl⟩)
 · lia
theorem P0_good(xs:List Int):∀p∈P0 xs,GoodPl p/\p.length<=3:=by
 intro p hp
 obtain ⟨x,hx,rfl⟩:=List.mem_map.mp hp
 exact placeN_good _
theorem P0_len(xs:List Int):(P0 xs).length<=8/\0<(P0 xs).length:=by
 unfold P0 numsOf
 simp only [List.length_map,List.length_append,List.length_cons,List.length_nil,List.length_drop,List.length_take]
 lia
section
variable{prog:Program}{w:World}{A:Around}{s:Shared}{env:Env}{E:Value->Shared->Prop}
variable{h₀ g₀ g:Heap}{xt:List Addr}{N Gl Go No:List Str}{vs:List (Option Value)}{mu:List (Addr×Obj)}
theorem asLstE{elt iter:Expr}{x y:Str}{p py:Pos}{ifs:List Expr}{scope:Scope}{pos spos:Pos}{cl:List (Str×Addr)}{j:Nat}{Q:Flow->Shared->Prop}
 (Nn Gl:List Str) (J:Nat->Heap->List Value->Prop) (hh:A.handled=none) (hc:chkC scope Nn Gl=true) (hclo:clo env.cells scope.names []=some cl) (C₀:Cx env N Go) (hy:N[j]?=some y)
 (hl:(py.line==pos.line&&!(scope.names.any fun (n,k)=>n==y&&(k==.local||k==.cell)))=true)
 (h:wpAny (model prog w) A (eval iter env) (fun xv s₁=>∃l items k,xv=.ref l/\items.length<=sizeLine/\∃g₁ vs₁ mu₁,St h₀ xt g₀ g₁ env.locals N vs₁ mu₁ s₁.heap/\g₁.get? l=some (lstObj items k)/\J 0 g₁ []/\CTurn prog w A env scope cl elt (.Name x p) ifs Nn Gl g₁ (fun i v=>items[i]?=some v) J /\
  ∀g' g₂ D h' tk ys,Le g₁ g₂->Le g' g₂->J items.length g' ys->g₂.get? D=some (lst ys)->St h₀ xt g₀ g₂ env.locals N (vs₁.set j (some (.ref D))) mu₁ h'->Q .next {s₁ with heap:=h',toks:=tk}) no s)
 (hs:autoParam (∀x,foldedSetIterable iter env x=pure x) au1) :
 wpAny (model prog w) A (exec (.Assign [.Name y py] (.ListComp elt [⟨.Name x p,iter,ifs,0⟩] scope pos) spos) env) Q E s:=by
 refine asComp Nn Gl hc hclo (swaps C₀ hy hl) (wpAny_mono h (fun xv s₁ h₁=>?_) fun _ _ e=>e) hs
 obtain ⟨l,items,k,rfl,hn,g₁,vs₁,mu₁,F,hl,hj,turn,done⟩:=h₁
 exact cmpS_list (Q:=Q) J hh hc C₀ F hl hj hn turn hy fun g' g₂ D h' tk ys a b c d e=>done g' g₂ D h' tk ys a b c d e
end
theorem Fr.modZE{w:World}{N Gl:List Str}{c:Fr w N Gl}{h:Heap}{a b:Expr}{pos:Pos}{x:Int}{m:Nat}(H1:c.E h a (Value.int x))(H2:c.E h b (Value.int (m:Int)))(hm:0<m):c.E h (.BinOp a .Mod b pos) (Value.int (((x.fmod m).toNat:Nat):Int)) :=
 fun Er Q t q=>wpAny_BinOp (H1 Er _ t fun k t1=>H2 Er _ t1 fun k2 t2=>modZ hm fun _ _=>q _ _)
section
variable{w:World}{c:Fr w nLaw glLaw}{g h:Heap}{t n:Nat}{Q:Flow->Shared->Prop}
theorem ph1(X:Sm2 g)(hA:Ok c.A (n+9)){ls:Addr}{sv:List Value}{ks:Nat}{xs:List Int}(els:g.get? ls=some (lstObj sv ks))(hsv:Dts g sv (xs.map .int))(hxs:xs.length<=63)
 (F:c.S g [some (.ref ls),none,none,none,none,none,none,none,none,none,none,none,none,none,none,none,none,none,none,none,none,none,none] [] h)
 (H:∀g' pl hu h' t',Le g g'->Dt g' pl (dRows (P0 xs))->Dt g' hu (dTexts (P0 xs))->c.S g' [some (.ref ls),none,some pl,some hu,some pl,some hu,none,none,none,none,none,none,none,none,none,none,none,none,none,none,none,none,none] [] h'->c.X (bodyLaw.drop 4) Q h' t') :
 c.X bodyLaw Q h t:=by
 have svl:=mapD_len hsv
 refine wpAny_execs_cons (asLstE (h₀:=c.h₀) (xt:=c.xt) (g₀:=c.g₀) (cl:=[]) (j:=2) ["x"] ["_law_place"] (fun i g' zs=>Dts g' zs ((((numsOf xs).take i).map plOf).map dPlace)) c.hd (by decide +kernel) rfl c.cx rfl rfl ?_)
 refine wpAny_BinOp (lstE (sp1 (Fr.kI.use fun t1 t=>sp1 (Fr.kI.use fun t2 t=>sp1 (Fr.kI.use fun t3 t=>sp1 (Fr.kI.use fun t4 t=>sp1 (Fr.kI.use fun t5 t=>sp0 (newLst (s:=c.st h t) F fun a1 g₁ h k1 ea1 F=>?_))))))))
 refine lsl_mid (h₀:=c.h₀) (xt:=c.xt) (g₀:=c.g₀) (L:=c.env.locals) (N:=nLaw) ((Fr.nV 0 F).use fun _ t=>Fr.kI.use fun _ t=>Fr.kI.use fun _ t=>⟨ls,sv,ks,2,5,_,_,g₁,_,_,rfl,rfl,rfl,by decide,by exact zz202 hxs svl,k1 _ _ els,F,fun a2 g₂ h k2 ea2 F=>?_⟩)
 refine addL (s:=c.st h _) F (k2 _ _ ea1) ea2 (by simp;lia) fun a3 g₃ h k3 ea3 F=>?_
 have k13:=k1.tr (k2.tr k3)
 have hnums:Dts g₃ ([Value.int 1 t1,.int 5 t2,.int 42 t3,.int 71 t4,.int 17 t5]++(sv.take 5).drop 2) ((numsOf xs).map .int):=by
  unfold numsOf
  rw [List.map_append]
  refine Dts.append (.cons (.int _ _) (.cons (.int _ _) (.cons (.int _ _) (.cons (.int _ _) (.cons (.int _ _) .nil))))) ?_
  rw [List.map_drop,List.map_take]
  exact ((hsv.up k13).take 5).drop 2
 have hnl:=mapD_len hnums
 have hnl2:(numsOf xs).length<=8:=by have:=P0_len xs;unfold P0 at this;rw [List.length_map] at this;exact this.1
 have X₃:=X.up k13
 refine ⟨a3,_,0,rfl,Nat.le_trans (Nat.le_of_eq hnl) (by rw [sizeLine_eq];exact zz203 hnl2),g₃,_,_,F,ea3,.nil,Fr.ct0 c.hd ?_,?_⟩
 · intro i v s1 g' us ys I oI C' D' h cx hi kg' hys ci V F hus T1 hT1 t
   refine hnums.getP hi fun x hx hdt=>hdt.intK fun tx ev=>?_
   have X':=X₃.up kg'
   refine C1 (N_law_place (s:=ci.st h t) cx X'.toStat F.keep (.head _) ((Fr.modZE (m:=100000) (Fr.toI ((Fr.nV (c:=ci) 0 F (List.getElem?_set_self hus)).eq ev)) Fr.kI (by decide)).use fun t' t=>⟨⟨_,F.keep _ _ (X'.fnAt 17 rfl)⟩,?_⟩))
   refine call_c (s:=ci.st h t) F (place_gives (n:=n+8) X'.toStat F.keep hA _ t' (fmod_lt x)) fun g₄ h t v k4 F e=>hT1 _ _ _ _ k4 F ?_
   rw [take_nx hx,List.map_append,List.map_append]
   exact (hys.up k4).snoc e
 intro g₃' g₄ D h t ys k4 k4' hys eD F
 rw [hnl,List.take_length] at hys
 have hpl:Dts g₄ ys ((P0 xs).map dPlace):=hys.up k4'
 have hP:=P0_len xs
 have hgood:=P0_good xs
 refine genK (P0 xs) fun P eP=>?_
 rw [eP] at hpl hP hgood H
 have X₄:=X₃.up k4
 have ysl:=mapD_len hpl
 refine Fr.asV (c:=c) F ?_
 intro V F
 refine Fr.xCompL (c:=c) (cl:=[]) 3 ["place"] ["_law_path"] (fun i g' zs=>Dts g' zs ((P.take i).map fun p=>.str (writtenT p))) rfl F (Fr.nV 2 F) eD (by rw [sizeLine_eq];exact zz204 hP ysl) .nil (Fr.ct0 c.hd ?_) ?_
 · intro i v s1 g' us zs I oI C' D' h cx hi kg' hzs ci V F hus T1 hT1 t
   refine hpl.getP hi fun p hp hdt=>?_
   have hg:=(hgood p (List.mem_of_getElem? hp)).1
   have X':=X₄.up kg'
   refine C1 (N_law_path (s:=ci.st h t) cx X'.toStat F.keep (.head _) ((Fr.nV (c:=ci) 0 F (List.getElem?_set_self hus)).use fun _ t=>⟨⟨_,F.keep _ _ (X'.fnAt 18 rfl)⟩,?_⟩))
   refine call_c (s:=ci.st h t) F (path_gives (n:=n+5) X'.toStat F.keep hA _ p (hdt.up kg') hg.len (fun ns hns=>NameOk_all ns (hg.nm ns hns))) fun g₅ h t v k5 F e=>hT1 _ _ _ _ k5 F ?_
   obtain ⟨tp,e⟩:=e
   rw [take_nx hp,List.map_append,e,W_path hg]
   exact (hzs.up k5).snoc (.str _ _)
 intro g₅' g₅ D2 zs k5 k5' hzs eD2 V h t F
 rw [ysl,List.take_length] at hzs
 refine Fr.xAsg (c:=c) 4 F (Fr.nV 2 F) ?_
 intro _ V h t F
 refine Fr.xAsg (c:=c) 5 F (Fr.nV 3 F) ?_
 intro _ V h t F
 exact H g₅ _ _ _ _ (k13.tr (k4.tr k5)) (.list (k5 _ _ eD) (hpl.up k5)) (.list eD2 (hzs.up k5')) F
end
noncomputable def deedsOf(xs:List Int):List Int:=if xs=[] then [226] else xs.take 2
theorem deeds_len(xs:List Int):(deedsOf xs).length<=2:=by
 unfold deedsOf;split
 · decide
 · rw [List.length_take];lia
noncomputable abbrev kOf(x:Int):Nat:=(x.fmod 100000).toNat
noncomputable def oldOf(P:List Pl)(k:Nat):Pl:=(P.getD (k/3%P.length) []).take (1+k/3/P.length%3)
noncomputable def newOf(P:List Pl)(k:Nat):Pl:=placeN (k/3/P.length/3)
noncomputable def stepD(P R:List Pl)(x:Int):List Pl:=doneR ((kOf x%3:Nat):Int) (oldOf P (kOf x)) (newOf P (kOf x)) R
noncomputable def goD(P:List Pl)(ds:List Int):List Pl:=ds.foldl (stepD P) P
theorem done1_mem{d:Int}{o nw p q:Pl}(h:q∈done1 d o nw p):q=p\/(q=nw++p.drop o.length):=by
 unfold done1 at h
 rcases List.mem_append.mp h with h|h
 · split at h
   · exact .inl (List.mem_singleton.mp h)
   · cases h
 · split at h
   · exact .inr (List.mem_singleton.mp h)
   · cases h
noncomputable def Fin9(m:Nat)(p:Pl):Prop:=p.length<=m/\∀n∈p,n∈nameList
theorem Fin9.good{m:Nat}{p:Pl}(h:Fin9 m p)(hm:m<=9):GoodPl p:=⟨by have:=h.1;exact zz205 hm this,h.2⟩
theorem Fin9.le{m k:Nat}{p:Pl}(h:Fin9 m p)(hm:m<=k):Fin9 k p:=⟨by have:=h.1;exact zz206 hm this,h.2⟩
theorem Fin9.app{m k:Nat}{p nw:Pl}(h:Fin9 m p)(hn:Fin9 k nw)(i:Nat):Fin9 (m+k) (nw++p.drop i):=by
 refine ⟨?_,fun n hn'=>?_⟩
 · have:=h.1;have:=hn.1;rw [List.length_append,List.length_drop];lia
 · rcases List.mem_append.mp hn' with q|q
   · exact hn.2 n q
   · exact h.2 n (List.mem_of_mem_drop q)
theorem Fin9.pl(m:Nat):Fin9 3 (placeN m):=⟨(placeN_good m).2,(placeN_good m).1.nm⟩
theorem doneR_fine{m:Nat}{d:Int}{o nw:Pl}{R:List Pl}(h:∀p∈R,Fin9 m p)(hn:Fin9 3 nw):∀q∈doneR d o nw R,Fin9 (m+3) q:=by
 intro q hq
 obtain ⟨p,hp,hq⟩:=List.mem_flatMap.mp hq
 rcases done1_mem hq with rfl|rfl
 · exact (h _ hp).le (by exact zz207)
 · exact (h p hp).app hn _
theorem P0_fine(xs:List Int):∀p∈P0 xs,Fin9 3 p:=fun p hp=>⟨(P0_good xs p hp).2,(P0_good xs p hp).1.nm⟩
theorem goD_fine{P:List Pl}(hP:∀p∈P,Fin9 3 p)(ds:List Int)(i:Nat):(∀q∈goD P (ds.take i),Fin9 (3+3*i) q)/\(goD P (ds.take i)).length<=P.length*2^i:=by
 induction i with
 | zero=>exact ⟨hP,by simp [goD]⟩
 | succ i ih =>
  rw [List.take_add_one]
  cases e:ds[i]? with
  | none =>
   simp only [Option.toList_none,List.append_nil]
   refine ⟨fun q hq=>(ih.1 q hq).le (by exact zz208),Nat.le_trans ih.2 (Nat.mul_le_mul (Nat.le_refl _) (Nat.pow_le_pow_right (by exact zz209) (by exact zz43)))⟩
  | some x =>
   have e2:goD P (ds.take i++(some x).toList)=stepD P (goD P (ds.take i)) x:=by simp [goD,List.foldl_append]
   rw [e2]
   refine ⟨fun q hq=>(doneR_fine ih.1 (Fin9.pl _) q hq).le (by exact zz210),?_⟩
   have h1:=doneR_len ((kOf x%3:Nat):Int) (oldOf P (kOf x)) (newOf P (kOf x)) (goD P (ds.take i))
   have h2:=ih.2
   unfold stepD
   rw [Nat.pow_succ,←Nat.mul_assoc];exact zz211 h1 h2
theorem shaped_ints(l:List Int):SeqAt.shaped (.list (l.map .int))=true:=by
 have h1:(PyData.list (l.map .int)).canLay0=true:=by simp only [PyData.canLay0];exact canLay_map (fun _=>rfl) l
 have h2:(PyData.list (l.map .int)).depth<=1:=by
  simp only [PyData.depth]
  have:=depth_map (f:=PyData.int) (n:=0) (fun k=>Nat.le_refl _) l
  exact zz96 this
 simp only [SeqAt.shaped,h1,Bool.true_and,decide_eq_true_eq]
 exact zz97 h2
theorem eqv_nilI(l:List Int):PyData.eqv (.list (l.map .int)) (.list [])=decide (l=[]):=by
 cases l with
 | nil=>rfl
 | cons x l=>simp [PyData.eqv,PyData.eqvAll]
theorem deeds_no{xs:List Int}(h:xs=[]):deedsOf xs=[226]:=by unfold deedsOf;rw [if_pos h]
theorem deeds_yes{xs:List Int}(h:¬xs=[]):deedsOf xs=xs.take 2:=by unfold deedsOf;rw [if_neg h]
theorem goD_next{P:List Pl}{ds:List Int}{i:Nat}{x:Int}(hx:ds[i]?=some x):goD P (ds.take (i+1))=stepD P (goD P (ds.take i)) x:=by rw [List.take_add_one,hx];simp [goD,List.foldl_append]
section
variable{w:World}{c:Fr w nLaw glLaw}{g h:Heap}{t n:Nat}{Q:Flow->Shared->Prop}
theorem ph2(X:Sm2 g)(hA:Ok c.A (n+9)){ls:Addr}{sv:List Value}{ks:Nat}{xs:List Int}(els:g.get? ls=some (lstObj sv ks))(hsv:Dts g sv (xs.map .int))(hxs:xs.length<=63)
 {P:List Pl} (hP:∀p∈P,Fin9 3 p) (hP8:P.length<=8) (hP0:0<P.length) {lp:Addr} {ip:List Value} {jp:Nat} {hu:Value} (elp:g.get? lp=some (lstObj ip jp)) (dlp:Dts g ip (P.map dPlace)) (hhu:Dt g hu (dTexts P))
 (F:c.S g [some (.ref ls),none,some (.ref lp),some hu,some (.ref lp),some hu,none,none,none,none,none,none,none,none,none,none,none,none,none,none,none,none,none] [] h)
 (H:∀g' rv pv u1 u6 u7 u8 u9 u10 h' t',Le g g'->Dt g' rv (dRows (goD P (deedsOf xs)))->Dt g' pv (dTexts (goD P (deedsOf xs)))->c.S g' [some (.ref ls),u1,some (.ref lp),some hu,some rv,some pv,u6,u7,u8,u9,u10,none,none,none,none,none,none,none,none,none,none,none,none] [] h'->c.X (bodyLaw.drop 5) Q h' t') :
 c.X (bodyLaw.drop 4) Q h t:=by
 have svl:=mapD_len hsv
 have ipl:=mapD_len dlp
 refine wpAny_execs_cons (For_ ((Fr.ifExpM (P:=fun g' v=>∃l items k,v=.ref l/\g'.get? l=some (lstObj items k)/\Dts g' items ((deedsOf xs).map .int)) (r:=!decide (xs=[])) (Fr.tNeM (Fr.nV 0 F) (Fr.nilM F) (.list els hsv) (fun g' v ⟨D,e,eD⟩=>e▸.list eD .nil) (shaped_ints xs) (shaped_ints []) hA.c (congrArg (!·) (eqv_nilI xs)))
  (fun hr g₁ h k1 F=>(Fr.takeM (j:=2) F (Fr.nV 0 F) Fr.kI (k1 _ _ els) (by exact zz202 hxs svl)).imp fun g₂ v k2 ⟨D,e,eD⟩=>⟨D,_,_,e,eD,by rw [deeds_yes (by simpa using hr),List.map_take];exact (hsv.up (k1.tr k2)).take 2⟩)
  (fun hr g₁ h k1 F=>(Fr.lst1M F Fr.kI).imp fun g₂ v k2 ⟨D,k,e,eD⟩=>⟨D,_,_,e,eD,by rw [deeds_no (by simpa using hr)];exact .cons (.int _ _) .nil⟩)).use fun v g₁ h t k1 pv F=>?_))
 obtain ⟨l,items,k,ev,el,hit⟩:=pv
 rw [ev]
 have hdl:=deeds_len xs
 refine genK (deedsOf xs) fun ds eds=>?_
 rw [eds] at hit H hdl
 have itl:=mapD_len hit
 refine Fr.iterL (c:=c) 1 F el (fun i g' V' mu'=>∀G:List (Option Value)->List (Addr×Obj)->Prop,(∀R rv pv u1 u6 u7 u8 u9 u10,goD P (ds.take i)=R->Dt g' rv (dRows R)->Dt g' pv (dTexts R)->G [some (.ref ls),u1,some (.ref lp),some hu,some rv,some pv,u6,u7,u8,u9,u10,none,none,none,none,none,none,none,none,none,none,none,none] [])->G V' mu') (fun G q=>q P _ _ _ _ _ _ _ _ rfl (.list (k1 _ _ elp) (dlp.up k1)) (hhu.up k1)) ?_ ?_
 · intro i v g' V' mu' I oI h t TT hi kg' hJ
   apply hJ
   intro R rv pv u1 u6 u7 u8 u9 u10 eR hrv hpv hT V F
   refine (hit.up kg').getP hi fun x hx hdt=>hdt.intK fun tx ev=>?_
   have hi2:i<2:=Nat.lt_of_lt_of_le (List.getElem?_eq_some_iff.mp hx).1 hdl
   have kk:=k1.tr kg'
   have X':=X.up kk
   have elp':=kk _ _ elp
   obtain ⟨hfine,hlen⟩:=goD_fine hP ds i
   rw [eR] at hfine hlen
   have hRl:R.length<=16:=Nat.le_trans hlen (by rcases i with _|_|i<;>lia)
   have hfine:∀p∈R,Fin9 6 p:=fun p hp=>(hfine p hp).le (by exact zz212 hi2)
   have hsucc:=goD_next (P:=P) hx
   rw [eR] at hsucc
   have hk:kOf x<100000:=fmod_lt x
   refine genK (kOf x) fun q eq=>?_
   rw [eq] at hk
   have hsucc:goD P (ds.take (i+1))=doneR ((q%3:Nat):Int) (oldOf P q) (newOf P q) R:=by rw [hsucc,←eq];rfl
   have Ex {V:List (Option Value)} {p1 p2 p3:Pos} {k:Nat} {h:Heap} {mu:List (Addr×Obj)} (F:c.S g' V mu h) (hv:V[1]?=some (some v)):c.E h (.BinOp (.Name "x" p1) .Mod (.Constant (.int 100000) k p2) p3) (Value.int (q:Int)):=eq▸Fr.modZE (m:=100000) (Fr.toI ((Fr.nV 1 F hv).eq ev)) Fr.kI (by decide)
   refine Fr.xAsg 6 F (Fr.modE (n:=3) (Ex F rfl) Fr.kI (by decide)) ?_
   intro _ V h t F
   refine Fr.xAsg 7 F (Fr.divE (n:=3) (Ex F rfl) Fr.kI (by decide) (by decide)) ?_
   intro _ V h t F
   have hwl:q/3%P.length<P.length:=Nat.mod_lt _ hP0
   have Ln {g':Heap} {V:List (Option Value)} {p1 p2 p3:Pos} {h:Heap} {mu:List (Addr×Obj)} (k:Le g g') (F:c.S g' V mu h) (hv:V[2]?=some (some (.ref lp))):=Fr.lenI (pos:=p3) (pp:=p2) (X.up k).toStat (.head _) (Fr.nV (x:="places") (pos:=p1) 2 F hv) F.keep (k _ _ elp) (by exact zz213 hP8 ipl) (congrArg Nat.cast ipl)
   refine getK (l:=ip) (i:=q/3%P.length) (by exact zz214 ipl hwl) fun fv hfi=>(dlp.up kk).getP hfi fun fp hfp hfr=>?_
   have hfP:Fin9 3 fp:=hP _ (List.mem_of_getElem? hfp)
   obtain ⟨lf,fi,jf,ef,elf,dlf⟩:=hfr.listInv
   refine Fr.xAsg 8 F (Fr.ixB (i:=q/3%P.length) (Fr.nV 2 F) (Fr.modE (Fr.nI 7 F) (Ln kk F rfl) hP0) F.keep elp' hfi (by lia)) ?_
   intro _ V h t F
   have fil:=mapD_len dlf
   refine Fr.xAsgM 9 (Fr.takeM (j:=1+q/3/P.length%3) F ((Fr.nV 8 F).eq ef) (Fr.addI Fr.kI (Fr.modE (n:=3) (Fr.divE (Fr.nI 7 F) (Ln kk F rfl) hP0 (by exact zz215 hP8)) Fr.kI (by decide)) rfl) elf (by have:=hfP.1;exact zz216 fil this)) ?_
   intro ov g₂ k2 eov V h t F
   have hold:Dt g₂ ov (dPlace (oldOf P q)):=by
    obtain ⟨D,e,eD⟩:=eov
    rw [e]
    refine .list eD ?_
    unfold oldOf
    rw [List.getD_eq_getElem?_getD,hfp,Option.getD_some,List.map_take]
    exact (dlf.up k2).take _
   have hfq:P.getD (q/3%P.length) []=fp:=by rw [List.getD_eq_getElem?_getD,hfp];rfl
   have hoG:GoodPl (oldOf P q):=by unfold oldOf;rw [hfq];exact (hfP.good (by exact zz217)).take _
   have hol:(oldOf P q).length<=3:=by unfold oldOf;rw [hfq,List.length_take];have:=hfP.1;lia
   have hnF:Fin9 3 (newOf P q):=Fin9.pl _
   have hnG:GoodPl (newOf P q):=hnF.good (by decide)
   have X₂:=X'.up k2
   have hlt:q/3/P.length/3<100000:=Nat.lt_of_le_of_lt (Nat.le_trans (Nat.div_le_self _ _) (Nat.le_trans (Nat.div_le_self _ _) (Nat.div_le_self _ _))) hk
   refine Fr.xLetK 10 fun Qv hQv=>C1 (N_law_place (s:=c.st h t) c.cx X₂.toStat F.keep (.tail _ (.head _)) ((Fr.divE (n:=3) (Fr.divE (Fr.nI 7 F) (Ln (kk.tr k2) F rfl) hP0 (by exact zz215 hP8)) Fr.kI (by decide) (by decide)).use fun w15 t=>⟨⟨_,F.keep _ _ (X₂.fnAt 17 rfl)⟩,call_c (s:=c.st h t) F (place_gives (n:=n+8) X₂.toStat F.keep hA _ w15 hlt) fun g₃ h t nv k3 F hnew=>hQv _ _ _ _ _ _ F ?_⟩))
   intro V h t F
   have hnew:Dt g₃ nv (dPlace (newOf P q)):=hnew
   have X₃:=X₂.up k3
   refine Fr.xLetK 4 fun Qv hQv=>C4 (N_law_done (s:=c.st h t) c.cx X₃.toStat F.keep (.tail _ (.tail _ (.head _))) ((Fr.nV (c:=c) 4 F).use fun _ t=>(Fr.nV (c:=c) 6 F).use fun _ t=>(Fr.nV (c:=c) 9 F).use fun _ t=>(Fr.nV (c:=c) 10 F).use fun _ t=>⟨⟨_,F.keep _ _ (X₃.fnAt 20 rfl)⟩,?_⟩))
   refine call_c (s:=c.st h t) F (done_gives (n:=n+7) X₃.toStat F.keep hA rv ov nv ((q%3:Nat):Int) _ R (oldOf P q) (newOf P q) (hrv.up (k2.tr k3)) (hold.up k3) hnew (by exact zz218 hRl) (fun p hp=>by have:=(hfine p hp).1;exact zz219 this) (by exact zz220 hol) (by have:=hnF.1;exact zz220 this)) fun g₄ h t rv' k4 F hrv'=>hQv _ _ _ _ _ _ F ?_
   intro V h t F
   have X₄:=X₃.up k4
   refine Fr.xLetK 5 fun Qv hQv=>C4 (N_law_carried (s:=c.st h t) c.cx X₄.toStat F.keep (.tail _ (.tail _ (.tail _ (.head _)))) ((Fr.nV (c:=c) 5 F).use fun _ t=>(Fr.nV (c:=c) 6 F).use fun _ t=>C1 (N_law_path c.cx X₄.toStat F.keep (.tail _ (.tail _ (.tail _ (.tail _ (.head _))))) ((Fr.nV (c:=c) 9 F).use fun _ t=>⟨⟨_,F.keep _ _ (X₄.fnAt 18 rfl)⟩,?_⟩))))
   refine call_c (s:=c.st h t) F (path_gives (n:=n+5) X₄.toStat F.keep hA _ (oldOf P q) (hold.up (k3.tr k4)) hoG.len (fun ns hns=>NameOk_all ns (hoG.nm ns hns))) fun g₅ h t v5 k5 F e=>?_
   obtain ⟨to,e⟩:=e
   rw [e,W_path hoG]
   have X₅:=X₄.up k5
   refine C1 (N_law_path (s:=c.st h t) c.cx X₅.toStat F.keep (.tail _ (.tail _ (.tail _ (.tail _ (.head _))))) ((Fr.nV (c:=c) 10 F).use fun _ t=>⟨⟨_,F.keep _ _ (X₅.fnAt 18 rfl)⟩,?_⟩))
   refine call_c (s:=c.st h t) F (path_gives (n:=n+5) X₅.toStat F.keep hA _ (newOf P q) (hnew.up (k4.tr k5)) hnG.len (fun ns hns=>NameOk_all ns (hnG.nm ns hns))) fun g₆ h t v6 k6 F e=>?_
   obtain ⟨tn,e⟩:=e
   rw [e,W_path hnG]
   have X₆:=X₅.up k6
   have k26:=k2.tr (k3.tr (k4.tr (k5.tr k6)))
   refine ⟨⟨_,F.keep _ _ (X₆.fnAt 22 rfl)⟩,call_c (s:=c.st h t) F (carried_gives (n:=n+1) X₆.toStat F.keep hA pv ((q%3:Nat):Int) _ to tn R (oldOf P q) (newOf P q) (hpv.up k26) (by exact zz218 hRl) (fun p hp=>(hfine p hp).good (by exact zz221)) hoG hnG (fun p hp _=>((hfine p hp).app hnF _).good (by exact zz222))) fun g₇ h t pv' k7 F hpv'=>hQv _ _ _ _ _ _ F ?_⟩
   intro V h t F
   exact (hT.go (k26.tr k7) F fun G k=>k _ _ _ _ _ _ _ _ _ hsucc (hrv'.up (k5.tr (k6.tr k7))) hpv')
 · intro g' V' mu' h t kg' hJ
   apply hJ
   intro R rv pv u1 u6 u7 u8 u9 u10 eR hrv hpv F
   rw [itl,List.take_length] at eR
   rw [←eR] at hrv hpv
   exact H g' rv pv _ _ _ _ _ _ _ _ (k1.tr kg') hrv hpv F
end
noncomputable abbrev GP:={p:Pl // GoodPl p}
noncomputable abbrev dG(a:GP):PyData:=.str (writtenT a.1)
theorem weak_gp:WeakB (fun a b:GP=>decide (a.1<b.1)):=weakB_map (fun a:GP=>a.1) weak_places
theorem sorts_gp:Sorts dG (fun a b=>decide (a.1<b.1)):=by
 refine sorts_of (d:=⟨[],⟨by simp,fun n h=>nomatch h⟩⟩) (.type "str") weak_gp (fun w g v a h=>?_) rfl rfl fun w A s g v v' a b C hu h h' kg hC=>?_
 · obtain ⟨t,rfl⟩:=h.strInv
   exact Looks.of_pure rfl
 · obtain ⟨t,rfl⟩:=h.strInv
   obtain ⟨t',rfl⟩:=h'.strInv
   refine kas_lt_str ?_
   rw [W_lt a.2 b.2]
   exact hC
theorem eqv_gp(a b:GP):PyData.eqv (dG a) (dG b)=decide (a=b):=by
 have h:=W_eq a.2 b.2
 have e:PyData.eqv (dG a) (dG b)=(writtenT a.1==writtenT b.1):=rfl
 rw [e,h]
 exact decide_eq_decide.mpr ⟨fun q=>Subtype.ext q,fun q=>congrArg _ q⟩
theorem shaped_gps(l:List GP):SeqAt.shaped (.list (l.map dG))=true:=by
 have:=shaped_strs (l.map fun a=>writtenT a.1) (fun x hx=>by
  obtain ⟨a,_,rfl⟩:=List.mem_map.mp hx
  exact W_ok a.2)
 rw [List.map_map] at this
 exact this
theorem shaped_gp(a:GP):SeqAt.shaped (dG a)=true:=by
 have h:=W_ok a.2
 show (PyData.canLay0 _&&_)=true
 simp only [PyData.canLay0,h,Bool.true_and]
 rfl
noncomputable def Lst(P L:List Pl):Prop:=∃r:List Pl,r.Perm P/\r.Pairwise (fun a b=>decide (b<a)=false)/\L=keepL r
theorem tri_place(a b:Pl)(h1:decide (a<b)=false)(h2:decide (b<a)=false):a=b:=by
 have h1:¬a<b:=by simpa using h1
 have h2:¬b<a:=by simpa using h2
 exact List.le_antisymm (List.not_lt.mp h2) (List.not_lt.mp h1)
theorem Lst.uniq{P L L':List Pl}(h:Lst P L)(h':Lst P L'):L=L':=by
 obtain ⟨r,p,s,rfl⟩:=h
 obtain ⟨r',p',s',rfl⟩:=h'
 rw [perm_uniq tri_place (p.trans p'.symm) s s']
theorem keepL_map{α β:Type}[DecidableEq α][DecidableEq β]{f:α->β}(hf:∀a b,f a=f b->a=b)(r:List α):keepL (r.map f)=(keepL r).map f:=by
 have key:∀(r acc:List α),(r.map f).foldl kp (acc.map f)=(r.foldl kp acc).map f:=by
  intro r
  induction r with
  | nil=>intro acc;rfl
  | cons x r ih =>
   intro acc
   rw [List.map_cons,List.foldl_cons,List.foldl_cons]
   have e:kp (acc.map f) (f x)=(kp acc x).map f:=by
    unfold kp
    rw [List.getLast?_map]
    by_cases q:acc.getLast?=some x
    · rw [if_pos q,if_pos (by rw [q];rfl)]
    · rw [if_neg q,if_neg (fun z=>?_),List.map_append]
      · rfl
      · obtain ⟨y,hy,hy2⟩:=Option.map_eq_some_iff.mp z
        rw [hf _ _ hy2] at hy
        exact q hy
   rw [e,ih]
 exact key r []
theorem Lst.of_gp{P:List Pl}(hP:∀p∈P,GoodPl p){r:List GP}(hp:r.Perm (P.attachWith GoodPl hP))(hs:r.Pairwise (fun a b=>decide (b.1<a.1)=false)):Lst P ((keepL r).map (·.1)):=by
 refine ⟨r.map (·.1),?_,?_,?_⟩
 · have:=hp.map (·.1)
   rwa [List.attachWith_map_subtype_val] at this
 · rw [List.pairwise_map];exact hs
 · exact (keepL_map (fun a b=>Subtype.ext) r).symm
section
variable{w:World}{A:Around}{s:Shared}{g:Heap}{n:Nat}
theorem listing_places(X:Stat g)(kg:Le g s.heap)(hA:Ok A (n+1)){v:Value}{P:List Pl}(hv:Dt g v (dRows P))(hl:P.length<64) :
 Gives pw w A (.call (.ref 418) ⟨[v],[]⟩) s [] g (fun g' _ x=>∃L,Lst P L/\Dt g' x (dRows L)):=by
 intro R hR
 refine listing_gives sorts_places eqv_place shaped_place shaped_rows X kg hA v P hv hl R fun g' h' t' v' o e=>hR g' h' t' v' o ?_
 obtain ⟨r,p,s,d⟩:=e
 exact ⟨_,⟨r,p,s,rfl⟩,d⟩
theorem listing_texts(X:Stat g)(kg:Le g s.heap)(hA:Ok A (n+1)){v:Value}{P:List Pl}(hP:∀p∈P,GoodPl p)(hv:Dt g v (dTexts P))(hl:P.length<64) :
 Gives pw w A (.call (.ref 418) ⟨[v],[]⟩) s [] g (fun g' _ x=>∃L,Lst P L/\Dt g' x (dTexts L)):=by
 intro R hR
 have e:dTexts P=.list ((P.attachWith GoodPl hP).map dG):=by
  show PyData.list _=PyData.list _
  congr 1
  conv=>lhs;rw [←List.attachWith_map_subtype_val hP]
  rw [List.map_map];rfl
 refine listing_gives sorts_gp eqv_gp shaped_gp shaped_gps X kg hA v (P.attachWith GoodPl hP) (e▸hv) (by simpa using hl) R fun g' h' t' v' o e=>hR g' h' t' v' o ?_
 obtain ⟨r,p,s,d⟩:=e
 refine ⟨_,Lst.of_gp hP p s,?_⟩
 show Dt _ _ (.list _)
 rw [List.map_map]
 exact d
end
section
variable{w:World}{c:Fr w nLaw glLaw}{g h:Heap}{t n:Nat}{Q:Flow->Shared->Prop}
theorem ph3(X:Sm2 g)(hA:Ok c.A (n+9)){P R:List Pl}(hP:∀p∈P,GoodPl p)(hR:∀p∈R,GoodPl p)(zP:P.length<=8)(zR:R.length<=32){v0 u1 u6 u7 u8 u9 u10:Option Value}{pl hu rv pv:Value}
 (hpl:Dt g pl (dRows P)) (hhu:Dt g hu (dTexts P)) (hrv:Dt g rv (dRows R)) (hpv:Dt g pv (dTexts R))
 (F:c.S g [v0,u1,some pl,some hu,some rv,some pv,u6,u7,u8,u9,u10,none,none,none,none,none,none,none,none,none,none,none,none] [] h)
 (H:∀g' bv av ov tv Lb La h' t',Le g g'->Lst P Lb->Lst R La->Dt g' bv (dRows Lb)->Dt g' av (dRows La)->Dt g' ov (dTexts Lb)->Dt g' tv (dTexts La) ->
  c.S g' [v0,u1,some pl,some hu,some rv,some pv,u6,u7,u8,u9,u10,some bv,some av,some ov,some tv,none,none,none,none,none,none,none,none] [] h'->c.X (bodyLaw.drop 9) Q h' t') :
 c.X (bodyLaw.drop 5) Q h t:=by
 have hin:("_law_listing":Str)∈glLaw:=.tail _ (.tail _ (.tail _ (.tail _ (.tail _ (.head _)))))
 refine Fr.asV (c:=c) F ?_
 intro V F
 refine Fr.xLetK (c:=c) 11 fun Qv hQv=>C1 (N_law_listing (s:=c.st h t) c.cx X.toStat F.keep hin ((Fr.nV (c:=c) 2 F).use fun _ t=>⟨⟨_,F.keep _ _ (X.fnAt 23 rfl)⟩,call_c (s:=c.st h t) F (listing_places (n:=n+8) X.toStat F.keep hA hpl (by exact zz189 zP)) fun g₁ h t bv k1 F ⟨Lb,hLb,hbv⟩=>hQv _ _ _ _ _ _ F ?_⟩))
 intro V h t F
 have X₁:=X.up k1
 refine Fr.xLetK (c:=c) 12 fun Qv hQv=>C1 (N_law_listing (s:=c.st h t) c.cx X₁.toStat F.keep hin ((Fr.nV (c:=c) 4 F).use fun _ t=>⟨⟨_,F.keep _ _ (X₁.fnAt 23 rfl)⟩,call_c (s:=c.st h t) F (listing_places (n:=n+8) X₁.toStat F.keep hA (hrv.up k1) (by exact zz190 zR)) fun g₂ h t av k2 F ⟨La,hLa,hav⟩=>hQv _ _ _ _ _ _ F ?_⟩))
 intro V h t F
 have X₂:=X₁.up k2
 refine Fr.xLetK (c:=c) 13 fun Qv hQv=>C1 (N_law_listing (s:=c.st h t) c.cx X₂.toStat F.keep hin ((Fr.nV (c:=c) 3 F).use fun _ t=>⟨⟨_,F.keep _ _ (X₂.fnAt 23 rfl)⟩,call_c (s:=c.st h t) F (listing_texts (n:=n+8) X₂.toStat F.keep hA hP (hhu.up (k1.tr k2)) (by exact zz189 zP)) fun g₃ h t ov k3 F ⟨Lb',hLb',hov⟩=>hQv _ _ _ _ _ _ F ?_⟩))
 intro V h t F
 have X₃:=X₂.up k3
 refine Fr.xLetK (c:=c) 14 fun Qv hQv=>C1 (N_law_listing (s:=c.st h t) c.cx X₃.toStat F.keep hin ((Fr.nV (c:=c) 5 F).use fun _ t=>⟨⟨_,F.keep _ _ (X₃.fnAt 23 rfl)⟩,call_c (s:=c.st h t) F (listing_texts (n:=n+8) X₃.toStat F.keep hA hR (hpv.up (k1.tr (k2.tr k3))) (by exact zz190 zR)) fun g₄ h t tv k4 F ⟨La',hLa',htv⟩=>hQv _ _ _ _ _ _ F ?_⟩))
 intro V h t F
 rw [hLb'.uniq hLb] at hov
 rw [hLa'.uniq hLa] at htv
 exact H g₄ _ _ _ _ _ _ _ _ (k1.tr (k2.tr (k3.tr k4))) hLb hLa (hbv.up (k2.tr (k3.tr k4))) (hav.up (k3.tr k4)) (hov.up k4) htv F
end
theorem keepL_mem{α:Type}[DecidableEq α](r:List α):(∀p,p∈keepL r↔p∈r)/\(keepL r).length<=r.length:=by
 have key:∀(r acc:List α),(∀p,p∈r.foldl kp acc↔(p∈acc\/p∈r))/\(r.foldl kp acc).length<=acc.length+r.length:=by
  intro r
  induction r with
  | nil=>intro acc;simp
  | cons x r ih =>
   intro acc
   obtain ⟨i1,i2⟩:=ih (kp acc x)
   rw [List.foldl_cons]
   have hm:∀p,p∈kp acc x↔(p∈acc\/p=x):=by
    intro p
    unfold kp
    by_cases q:acc.getLast?=some x
    · rw [if_pos q]
      have:x∈acc:=List.mem_of_getLast? q
      constructor
      · exact .inl
      · rintro (z|rfl)
        · exact z
        · exact this
    · rw [if_neg q];simp
   have hl:(kp acc x).length<=acc.length+1:=by
    unfold kp;split
    · exact zz43
    · simp
   refine ⟨fun p=>?_,?_⟩
   · rw [i1,hm,List.mem_cons,or_assoc]
   · rw [List.length_cons];exact zz223 i2 hl
 have:=key r []
 exact ⟨fun p=>by rw [keepL,this.1];simp,by have:=this.2;simpa [keepL] using this⟩
theorem Lst.mem{P L:List Pl}(h:Lst P L)(p:Pl):p∈L↔p∈P:=by
 obtain ⟨r,pm,s,rfl⟩:=h
 rw [(keepL_mem r).1,pm.mem_iff]
theorem Lst.len{P L:List Pl}(h:Lst P L):L.length<=P.length:=by
 obtain ⟨r,pm,s,rfl⟩:=h
 rw [←pm.length_eq];exact (keepL_mem r).2
theorem eqvAll_refl{α:Type}{f:α->PyData}(h:∀a,PyData.eqv (f a) (f a)=true):∀l:List α,PyData.eqvAll (l.map f) (l.map f)=true
 | []=>rfl
 | x::l=>by simp only [List.map_cons,PyData.eqvAll,h,eqvAll_refl h l,Bool.and_self]
theorem eqv_texts(L:List Pl):PyData.eqv (dTexts L) (dTexts L)=true:=by
 simp only [dTexts,PyData.eqv]
 exact eqvAll_refl (fun a=>by show (writtenT a==writtenT a)=true;simp) L
theorem shaped_texts{L:List Pl}(h:∀p∈L,GoodPl p):SeqAt.shaped (dTexts L)=true:=by
 have:=shaped_strs (L.map fun a=>writtenT a) (fun x hx=>by
  obtain ⟨a,ha,rfl⟩:=List.mem_map.mp hx
  exact W_ok (h a ha))
 rw [List.map_map] at this
 exact this
section
variable{w:World}{c:Fr w nLaw glLaw}{g h:Heap}{t n:Nat}{Q:Flow->Shared->Prop}
theorem cmp_texts(X:Sm2 g)(hA:Ok c.A (n+9)){L:List Pl}(hb:∀p∈L,GoodPl p)(zb:L.length<=32){i j:Nat}{x y:Str}{ov bv:Value}(hbv:Dt g bv (dRows L))(hov:Dt g ov (dTexts L)){V:List (Option Value)}(F:c.S g V [] h)(hx:V[i]?=some (some ov))(hy:V[j]?=some (some bv))(nx:nLaw[i]?=some x)(ny:nLaw[j]?=some y)
 {p1 p2 p3 p4 p5 p6 p7 p8:Pos} {sc:Scope} (hsc:chkC sc ["place"] ["_law_written"]=true) (hcl:clo c.env.cells sc.names []=some []) :
 c.TM g V [] h (.Compare (.Name x p1) [.NotEq] [.ListComp (.Call (.Name "_law_written" p2) [.Name "place" p3] [] p4) [⟨.Name "place" p5,.Name y p6,[],0⟩] sc p7] p8) false:=by
 obtain ⟨lb,ib,jb,eb,elb,dlb⟩:=hbv.listInv
 have ibl:=mapD_len dlb
 refine Fr.tNeM (Fr.nV i F hx nx) (Fr.compM (cl:=[]) ["place"] ["_law_written"] (fun i g' ws=>Dts g' ws ((L.take i).map fun p=>.str (writtenT p))) hcl F ((Fr.nV j F hy ny).eq eb) elb (by rw [sizeLine_eq];exact zz224 zb ibl) .nil (Fr.ct0 c.hd ?_) hsc) hov (fun g' v ⟨D,ys,g1,e,k,jj,eD⟩=>e▸.list eD ?_) (shaped_texts hb) (shaped_texts hb) hA.c (by rw [eqv_texts];rfl)
 · intro i v s1 g' us zs I oI C' D' h cx hi kg' hzs ci V F hus T1 hT1 t
   refine dlb.getP hi fun p hp hdt=>?_
   have hg:=hb p (List.mem_of_getElem? hp)
   have X':=X.up kg'
   refine C1 (N_law_written (s:=ci.st h t) cx X'.toStat F.keep (.head _) ((Fr.nV (c:=ci) 0 F (List.getElem?_set_self hus)).use fun _ t=>⟨⟨_,F.keep _ _ (X'.fnAt 19 rfl)⟩,call_c (s:=ci.st h t) F (written_gives (n:=n+8) X'.toStat F.keep hA _ p (hdt.up kg') hg.len (fun ns hns=>OctOk_all ns (hg.nm ns hns))) fun g₅ h t v k5 F ⟨tp,e⟩=>hT1 _ _ _ _ k5 F ?_⟩))
   rw [take_nx hp,List.map_append,e]
   exact (hzs.up k5).snoc (.str _ _)
 · rw [ibl,List.take_length] at jj
   exact jj.up k
theorem ph4(X:Sm2 g)(hA:Ok c.A (n+9)){Lb La:List Pl}(hb:∀p∈Lb,GoodPl p)(ha:∀p∈La,GoodPl p)(zb:Lb.length<=8)(za:La.length<=32){v0 u1 u2 u3 u4 u5 u6 u7 u8 u9 u10:Option Value}{bv av ov tv:Value}
 (hbv:Dt g bv (dRows Lb)) (hav:Dt g av (dRows La)) (hov:Dt g ov (dTexts Lb)) (htv:Dt g tv (dTexts La))
 (F:c.S g [v0,u1,u2,u3,u4,u5,u6,u7,u8,u9,u10,some bv,some av,some ov,some tv,none,none,none,none,none,none,none,none] [] h)
 (H:∀g' h' t',Le g g'->c.S g' [v0,u1,u2,u3,u4,u5,u6,u7,u8,u9,u10,some bv,some av,some ov,some tv,none,none,none,none,none,none,none,none] [] h'->c.X (bodyLaw.drop 10) Q h' t') :
 c.X (bodyLaw.drop 9) Q h t:=by
 refine Fr.xIfM (c:=c) (Fr.tOrM (cmp_texts (i:=13) (j:=11) X hA hb (by exact zz225 zb) hbv hov F rfl rfl rfl rfl (by decide +kernel) rfl) fun k F=>cmp_texts (i:=14) (j:=12) (X.up k) hA ha za (hav.up k) (htv.up k) F rfl rfl rfl rfl (by decide +kernel) rfl) (fun q=>nomatch q) fun _ g' h' t' k F=>Fr.xNil (H g' h' t' k F)
end
noncomputable def KS:Frag:=[(242,smCls)]
theorem KS_in{g:Heap}(X:Sm g):KS.In g:=by
 intro a o h
 obtain ⟨rfl,rfl⟩:a=242/\smCls=o:=by
  have:=mem_lk h
  simp only [KS,List.mem_singleton,Prod.mk.injEq] at this
  exact ⟨this.1,this.2.symm⟩
 exact X.ob2 (242,smCls) (.head _)
theorem sm_call{M:Model}{h:Heap}(X:KS.In h):Looks M h (specialOf (.ref 242) "__call__") (some (.builtin "type.__call__")):=looks_specialIn X (by kernel_rfl)
theorem ato_nil:AtO emDict []:=by
 refine ⟨fun _=>none,?_,?_⟩
 · exact ⟨#[],_,rfl,fun e he=>absurd he (by simp),by unfold UniqKeys;simp,fun n=>rfl⟩
 · intro x
   cases attrs.idxOf? x<;>rfl
section
variable{w:World}{A:Around}{s:Shared}{E:Value->Shared->Prop}
variable{h₀ g₀ g:Heap}{xt:List Addr}{L:Addr}{N:List Str}{vs:List (Option Value)}{mu:List (Addr×Obj)}{n:Nat}
theorem new_sm{la lb ka kb:Nat}{TA TB:List (Str×Tok)}{Q:Value->Shared->Prop}(X:Sm2 g)(hA:Ok A (n+6))(F:St h₀ xt g₀ g L N vs mu s.heap)(ea:g.get? la=some (lstObj (strValues TA) ka))(eb:g.get? lb=some (lstObj (strValues TB) kb))
 (hnd:(TB.map (·.1)).Nodup) (za:TA.length<200) (zb:TB.length<200)
 (h:∀g' x dx db dj dp od h' t',Le g g'->Ready w g' h' x dx la lb db dj dp TA TB .none .none->St h₀ xt g₀ g' L N vs ((dx,od)::mu) h'->h₀.objs.size<=dx->Q (.ref x) {s with heap:=h',toks:=t'}) :
 wpAny (model pw w) A (call (.ref 242) [.none,.ref la,.ref lb]) Q E s:=by
 obtain ⟨m,hns,hm,hl⟩:=X.ns
 obtain ⟨hp,gn,dr,tk,os⟩:=s
 dsimp only at F h ⊢
 have hC:=F.keep _ _ (X.ob2 (242,smCls) (.head _))
 refine tc_new hC (hns.keeps F.keep) (hm ("__init__",.ref 160) (.head _)) (F.keep _ _ (X.fnAt 0 rfl)) rfl ?_
 have low:h₀.objs.size<=hp.objs.size:=F.lowSz
 have F₁:=F.own emDict
 obtain ⟨g₁,k1,ex,F₂⟩:=F₁.made (instO hp.objs.size)
 have es:(hp.push emDict).objs.size=hp.objs.size+1:=Heap.size_push ..
 rw [es] at ex
 have X₁:=X.up k1
 have mt:=F₂.mt (hp.objs.size,emDict) (.head _)
 refine call_x (s:=⟨(hp.push emDict).push (instO hp.objs.size),gn,dr,tk,os⟩) F₂ (init_gives (n:=n) X₁.toSm F₂.keep ((hA.under (w_tc 242 _) (u_tc 242 _)).le (Nat.le_refl _)) ex mt.1 mt.2.2.1 ato_nil TB (k1 _ _ eb) hnd zb) fun g₃ h' t' v k3 hF p=>?_
 obtain ⟨rfl,od,db,dj,dp,es',en,led,hod,ha,edb,ned,hB,ej⟩:=p
 refine ⟨rfl,?_⟩
 have F₃:=hF od hod
 have kk:=k1.tr k3
 have hx:=k3 _ _ ex
 have me:Me h' (hp.objs.size+1) hp.objs.size [.none,.ref la,.ref lb,.bool true,.none,.none,.none,.ref db,.ref dj,.ref dp]:=Me.of (pre:=[]) (post:=mu) hx F₃ ha
 exact h g₃ _ _ db dj dp od h' t' kk ⟨hx,me,⟨ka,kk _ _ ea⟩,⟨kb,kk _ _ eb⟩,⟨es',en,edb,hB⟩,ned,⟨led,ej⟩,hnd,za,zb⟩ F₃ low
end
structure Runs(L1 L2:List Pl)(R:List Run):Prop where
 box:Box (L1.map writtenT) (L2.map writtenT) 0 L1.length 0 L2.length R
 hH:hdsTo (prsOf L1 L2) (prsOf L1 L2).length=R.map fun r=>(r.1,r.2.1)
 hE:ensTo (prsOf L1 L2) (prsOf L1 L2).length=R.map fun r=>(r.1+r.2.2,r.2.1+r.2.2)
 len:R.length<60
noncomputable abbrev opsOf(L1 L2:List Pl)(R:List Run):PyData:=.list ((opsFrom 0 0 (R++[(L1.length,L2.length,0)])).map dOp)
theorem scan_best{A B:List Str}{R:List Run}{a b:Nat}(hbox:Box A B 0 a 0 b R)(nb:B.Nodup):Mine.Internal.scan A B 0 b (a-0) 0 (first 0 0)=⟨(best 0 0 R).1,(best 0 0 R).2.1,(best 0 0 R).2.2,(Mine.Internal.scan A B 0 b (a-0) 0 (first 0 0)).prev⟩:=by
 have e:=hbox.scan nb
 rw [←e];rfl
section
variable{w:World}{c:Fr w nLaw glLaw}{g h:Heap}{t n:Nat}{Q:Flow->Shared->Prop}
theorem ph5(X:Sm2 g)(hA:Ok c.A (n+9)){Lb La:List Pl}{R R':List Run}(hR:Runs Lb La R)(hR':Runs La Lb R')(nb:(Lb.map writtenT).Nodup)(na:(La.map writtenT).Nodup)(zb:Lb.length<=8)(za:La.length<=32){v0 u1 u2 u3 u4 u5 u6 u7 u8 u9 u10:Option Value}{bv av ov tv:Value}
 (hov:Dt g ov (dTexts Lb)) (htv:Dt g tv (dTexts La))
 (F:c.S g [v0,u1,u2,u3,u4,u5,u6,u7,u8,u9,u10,some bv,some av,some ov,some tv,none,none,none,none,none,none,none,none] [] h)
 (H:∀g' mv t1 t2 t3 th bk h' t',Le g g'->Dt g' th (opsOf Lb La R)->Dt g' bk (opsOf La Lb R') ->
  c.S g' [v0,u1,u2,u3,u4,u5,u6,u7,u8,u9,u10,some bv,some av,some ov,some tv,some mv,some (.int ((best 0 0 R).1:Int) t1),some (.int ((best 0 0 R).2.1:Int) t2),some (.int ((best 0 0 R).2.2:Int) t3),some th,some bk,none,none] [] h'->c.X (bodyLaw.drop 14) Q h' t') :
 c.X (bodyLaw.drop 10) Q h t:=by
 obtain ⟨lo,io,jo,rfl,elo,dlo⟩:=hov.listInv
 obtain ⟨lt,it,jt,rfl,elt,dlt⟩:=htv.listInv
 obtain ⟨TA,rfl,hTA⟩:=Dts.strs (ns:=Lb.map writtenT) (by rw [List.map_map];exact dlo)
 obtain ⟨TB,rfl,hTB⟩:=Dts.strs (ns:=La.map writtenT) (by rw [List.map_map];exact dlt)
 have lA:TA.length=Lb.length:=by have:=congrArg List.length hTA;simpa using this
 have lB:TB.length=La.length:=by have:=congrArg List.length hTB;simpa using this
 have hin:("SequenceMatcher":Str)∈glLaw:=.tail _ (.tail _ (.tail _ (.tail _ (.tail _ (.tail _ (.head _))))))
 have hbox:Box (TA.map (·.1)) (TB.map (·.1)) 0 TA.length 0 TB.length R:=by rw [hTA,hTB,lA,lB];exact hR.box
 have hbox2:Box (TB.map (·.1)) (TA.map (·.1)) 0 TB.length 0 TA.length R':=by rw [hTA,hTB,lA,lB];exact hR'.box
 have na':(TB.map (·.1)).Nodup:=by rw [hTB];exact na
 refine Fr.asV (c:=c) F ?_
 intro V F
 refine Fr.xLetK (c:=c) 15 fun Qv hQv=>C3k (N_SequenceMatcher (s:=c.st h t) c.cx X.toStat F.keep hin ⟨242,rfl,(Fr.kN (c:=c)).use fun _ t=>(Fr.nV (c:=c) 13 F).use fun _ t=>(Fr.nV (c:=c) 14 F).use fun _ t=>⟨⟨_,_,_,_,F.keep _ _ (X.ob2 (242,smCls) (.head _))⟩,sm_call ((KS_in X.toSm).keeps F.keep),?_⟩⟩)
 refine new_sm (s:=c.st h t) (n:=n+3) X hA F elo elt na' (by exact zz226 zb lA) (by exact zz227 za lB) fun g₁ x dx db dj dp od h t k1 Rd F low=>?_
 obtain ⟨hx,me,⟨ka,ea⟩,⟨kb,eb⟩,⟨es,en,edb,hB⟩,dbs,⟨led,ej⟩,nb',szA,szB⟩:=Rd
 have hat:=me.ato (F.mt (dx,od) (.head _)).1
 have Rd:∀{g' h:Heap} {oc:Value},Le g₁ g'->Me h x dx [.none,.ref lo,.ref lt,.bool true,.none,oc,.none,.ref db,.ref dj,.ref dp]->Ready w g' h x dx lo lt db dj dp TA TB .none oc:=fun k me=>⟨k _ _ hx,me,⟨ka,k _ _ ea⟩,⟨kb,k _ _ eb⟩,⟨es,en,k _ _ edb,hB.up k⟩,dbs,⟨led,k _ _ ej⟩,nb',szA,szB⟩
 refine hQv _ _ _ _ _ _ F ?_
 intro V h t F
 have X₁:=X.up k1
 have hy1:typeLookup (.type "object") "find_longest_match"=pure none:=by rw [typeLookup_type,builtinLookup_eq_fast];kernel_rfl
 have hy2:typeLookup (.type "object") "get_opcodes"=pure none:=by rw [typeLookup_type,builtinLookup_eq_fast];kernel_rfl
 have me1:=Me.of (pre:=[]) (post:=[]) hx F hat
 have eS:=scan_best hbox nb'
 refine wpAny_execs_cons (Assign_Tuple (ME0 rfl rfl ((Fr.nV (c:=c) 15 F).use fun _ t pl=>methA (s:=c.st h t) (f:=196) (fd:=fdFind) X₁.toSm F.keep me1 (by decide) (by decide +kernel) (X₁.fnAt 5 rfl) hy1 ⟨⟨_,F.keep _ _ (X₁.fnAt 5 rfl)⟩,?_⟩)))
 refine call_c (s:=c.st h t) F (find_k (n:=n+4) X₁ F.keep hA (Rd Le.rfl' me1) (alo:=0) (ahi:=TA.length) (blo:=0) (bhi:=TB.length) eS (BindsTo.of_defaults rfl (F.keep _ _ (X₁.obAt 1 rfl)) rfl rfl rfl) (.inr ⟨rfl,rfl⟩) (.inr ⟨rfl,rfl⟩) (Nat.le_refl _) (Nat.le_refl _) (Nat.zero_le _) (eS▸hbox.stop nb')) fun g₂ h t v k2 F e=>?_
 apply e
 intro m d3 t1 t2 t3 em
 have X₂:=X₁.up k2
 refine Fr.asMs (c:=c) [16,17,18] X₂ F em (.cons rfl (.cons rfl (.cons rfl .nil))) ?_
 intro V h t F
 have me2:=Me.of (pre:=[]) (post:=[]) (k2 _ _ hx) F hat
 refine Fr.xLetK (c:=c) 19 fun Qv hQv=>ME0 rfl rfl ((Fr.nV (c:=c) 15 F).use fun _ t pl=>methA (s:=c.st h t) (f:=210) (fd:=fdCodes) X₂.toSm F.keep me2 (by decide) (by decide +kernel) (X₂.fnAt 7 rfl) hy2 ⟨⟨_,F.keep _ _ (X₂.fnAt 7 rfl)⟩,?_⟩)
 refine call_but (s:=c.st h t) F (codes_gives (n₀:=n) X₂ F.keep hA (Rd k2 me2) (F.mt (dx,od) (.head _)).2.2.1 hbox hR.len) fun g₃ h t th k3 F hth=>hQv _ _ _ _ _ _ F ?_
 rw [lA,lB] at hth
 intro V h t F
 have X₃:=X₂.up k3
 have k13:=k1.tr (k2.tr k3)
 refine Fr.xLetK (c:=c) 20 fun Qv hQv=>ME0 rfl rfl (C3k (N_SequenceMatcher (s:=c.st h t) c.cx X₃.toStat F.keep hin ⟨242,rfl,(Fr.kN (c:=c)).use fun _ t=>(Fr.nV (c:=c) 14 F).use fun _ t=>(Fr.nV (c:=c) 13 F).use fun _ t=>⟨⟨_,_,_,_,F.keep _ _ (X₃.ob2 (242,smCls) (.head _))⟩,sm_call ((KS_in X₃.toSm).keeps F.keep),?_⟩⟩))
 refine new_sm (s:=c.st h t) (n:=n+3) X₃ hA F (k13 _ _ elt) (k13 _ _ elo) (by rw [hTA];exact nb) (by exact zz228 szB) (by exact zz228 szA) fun g₄ y dy db2 dj2 dp2 od2 h t k4 Rd2 F low2 pl=>?_
 have X₄:=X₃.up k4
 refine methA (s:=c.st h t) (f:=210) (fd:=fdCodes) X₄.toSm F.keep Rd2.me (by decide) (by decide +kernel) (X₄.fnAt 7 rfl) hy2 ⟨⟨_,F.keep _ _ (X₄.fnAt 7 rfl)⟩,call_but (s:=c.st h t) F (codes_gives (n₀:=n) X₄ F.keep hA Rd2 (F.mt (dy,od2) (.head _)).2.2.1 hbox2 hR'.len) fun g₅ h t bk k5 F hbk=>hQv _ _ _ _ _ _ F ?_⟩
 rw [lA,lB] at hbk
 intro V h t F
 exact H g₅ _ _ _ _ _ _ _ _ (k13.tr (k4.tr k5)) (hth.up (k4.tr k5)) hbk F
end
noncomputable def triOf(r:Run):PyData:=.tuple [.int (-(r.2.2:Int)),.int (r.1:Int),.int (r.2.1:Int)]
theorem ltP_tri(r b:Run):ltP (triOf r) (triOf b)=decide (b.2.2<r.2.2\/(b.2.2=r.2.2/\(r.1<b.1\/(r.1=b.1/\r.2.1<b.2.1)))):=by
 show (if PyData.eqv (.int (-(r.2.2:Int))) (.int (-(b.2.2:Int))) then (if PyData.eqv (.int (r.1:Int)) (.int (b.1:Int)) then (if PyData.eqv (.int (r.2.1:Int)) (.int (b.2.1:Int)) then false else decide ((r.2.1:Int)<(b.2.1:Int))) else decide ((r.1:Int)<(b.1:Int))) else decide (-(r.2.2:Int) < -(b.2.2:Int)))=_
 simp only [PyData.eqv]
 by_cases h1:b.2.2=r.2.2
 · by_cases h2:r.1=b.1
   · by_cases h3:r.2.1=b.2.1
     · simp [h1,h2,h3]
     · have:¬((r.2.1:Int)=(b.2.1:Int)):=by exact zz37 h3
       simp [h1,h2,this]
   · have:¬((r.1:Int)=(b.1:Int)):=by exact zz37 h2
     simp [h1,h2,this]
 · have:¬(-(r.2.2:Int)=-(b.2.2:Int)):=by exact zz229 h1
   have h4:(-(r.2.2:Int) < -(b.2.2:Int))↔b.2.2<r.2.2:=by exact zz230
   simp [this,h1,h4]
noncomputable def tris(R:List Run):List PyData:=(((0,0,0):Run)::R).map triOf
theorem best_snoc(R:List Run)(r:Run):best 0 0 (R++[r])=upd (best 0 0 R) r:=by unfold best;rw [List.foldl_append];rfl
theorem best_min{R:List Run}(hs:R.Pairwise Bef)(hp:∀r∈R,0<r.2.2):∀k≤R.length,(((0,0,0):Run)::R)[argBest (fun i j=>ltP ((tris R).getD i .none) ((tris R).getD j .none)) k]?=some (best 0 0 (R.take k))/\(best 0 0 (R.take k)=(0,0,0)\/∃m<k,R[m]?=some (best 0 0 (R.take k)))
 | 0,_=>⟨rfl,.inl rfl⟩
 | k+1,hk=>by
  obtain ⟨e,hb⟩:=best_min hs hp k (by exact zz231 hk)
  have hl:k<R.length:=by exact zz232 hk
  have et:R.take (k+1)=R.take k++[R[k]]:=by rw [List.take_add_one,List.getElem?_eq_getElem hl];rfl
  rw [et,best_snoc]
  generalize hB:best 0 0 (R.take k)=B at e hb ⊢
  generalize hM:argBest (fun i j=>ltP ((tris R).getD i .none) ((tris R).getD j .none)) k=M at e
  have hrk:=hp _ (List.getElem_mem hl)
  have d1:(tris R).getD (k+1) .none=triOf R[k]:=by
   rw [List.getD_eq_getElem?_getD,tris,List.getElem?_map,List.getElem?_cons_succ,List.getElem?_eq_getElem hl];rfl
  have d2:(tris R).getD M .none=triOf B:=by
   rw [List.getD_eq_getElem?_getD,tris,List.getElem?_map,e];rfl
  have hlt:ltP ((tris R).getD (k+1) .none) ((tris R).getD M .none)=decide (B.2.2<(R[k]).2.2):=by
   rw [d1,d2,ltP_tri]
   apply decide_eq_decide.mpr
   constructor
   · rintro (q|⟨q1,q2⟩)
     · exact q
     · exfalso
       rcases hb with rfl|⟨m,hm,hm2⟩
       · rw [←q1] at hrk;simp at hrk
       · obtain ⟨hm3,rfl⟩:=List.getElem?_eq_some_iff.mp hm2
         have:=List.pairwise_iff_getElem.mp hs m k hm3 hl hm
         unfold Bef at this
         have h0:=hp _ (List.getElem_mem hm3)
         exact zz233 q2 this
   · exact .inl
  simp only [argBest,hM]
  rw [hlt]
  unfold upd
  by_cases q:B.2.2<(R[k]).2.2
  · rw [if_pos (by simpa using q),if_pos q]
    exact ⟨by rw [List.getElem?_cons_succ,List.getElem?_eq_getElem hl],.inr ⟨k,by exact zz234,List.getElem?_eq_getElem hl⟩⟩
  · rw [if_neg (by simpa using q),if_neg q]
    refine ⟨e,?_⟩
    rcases hb with rfl|⟨m,hm,hm2⟩
    · exact .inl rfl
    · exact .inr ⟨m,by exact zz235 hm,hm2⟩
noncomputable def eqOp(r:Run):Op:=(("equal":Str),r.1,r.1+r.2.2,r.2.1,r.2.1+r.2.2)
theorem tagOf_eq(p q:Bool):decide (tagOf p q=("equal":Str))=false:=by cases p<;>cases q<;>decide +kernel
theorem step_eqs(i j:Nat)(r:Run):(opStep i j r).filter (fun c:Op=>decide (c.1=("equal":Str)))=if 0<r.2.2 then [eqOp r] else []:=by
 have ht:=tagOf_eq (decide (i<r.1)) (decide (j<r.2.1))
 have he:decide (("equal":Str)=("equal":Str))=true:=by decide +kernel
 unfold opStep eqOp
 rw [List.filter_append]
 have h1:(if i<r.1\/j<r.2.1 then ([(tagOf (decide (i<r.1)) (decide (j<r.2.1)),i,r.1,j,r.2.1)]:List Op) else []).filter (fun c:Op=>decide (c.1=("equal":Str)))=[]:=by
  split
  · rw [List.filter_cons];dsimp only;rw [ht];rfl
  · rfl
 rw [h1,List.nil_append]
 split
 · rw [List.filter_cons];dsimp only;rw [he];rfl
 · rfl
theorem ops_eqs:∀(R:List Run) (i j:Nat),(opsFrom i j R).filter (fun c:Op=>decide (c.1=("equal":Str)))=(R.filter fun r=>decide (0<r.2.2)).map eqOp
 | [],_,_=>rfl
 | r::R,i,j=>by
  rw [opsFrom,List.filter_append,step_eqs,ops_eqs R,List.filter_cons]
  by_cases q:0<r.2.2
  · rw [if_pos q,if_pos (by simpa using q)];rfl
  · rw [if_neg q,if_neg (by simpa using q)];rfl
theorem ops_eqs'{R:List Run}(hp:∀r∈R,0<r.2.2)(n m:Nat):(opsFrom 0 0 (R++[(n,m,0)])).filter (fun c:Op=>decide (c.1=("equal":Str)))=R.map eqOp:=by
 rw [ops_eqs,List.filter_append,List.filter_eq_self.mpr (fun r hr=>by simpa using hp r hr)]
 simp
theorem tag_ok(p q:Bool):PyData.strOk (tagOf p q)=true:=by cases p<;>cases q<;>decide +kernel
theorem equal_ok:PyData.strOk ("equal":Str)=true:=by decide +kernel
theorem tags_ok:∀(R:List Run) (i j:Nat),∀c∈opsFrom i j R,PyData.strOk c.1=true
 | [],_,_,c,h=>nomatch h
 | r::R,i,j,c,h=>by
  rw [opsFrom] at h
  rcases List.mem_append.mp h with h|h
  · unfold opStep at h
    rcases List.mem_append.mp h with h|h
    · split at h
      · rw [List.mem_singleton.mp h];exact tag_ok _ _
      · cases h
    · split at h
      · rw [List.mem_singleton.mp h];exact equal_ok
      · cases h
  · exact tags_ok R _ _ c h
theorem eqv_op(c:Op):PyData.eqv (dOp c) (dOp c)=true:=by
 simp [dOp,PyData.eqv,PyData.eqvAll]
theorem eqv_tri(r:Run):PyData.eqv (triOf r) (triOf r)=true:=by
 simp [triOf,PyData.eqv,PyData.eqvAll]
noncomputable abbrev resD(r:Run)(o1 o2:List Op):PyData:=.list [triOf r,.list (o1.map dOp),.list (o2.map dOp)]
theorem eqv_res(r:Run)(o1 o2:List Op):PyData.eqv (resD r o1 o2) (resD r o1 o2)=true:=by
 have h1:=eqvAll_refl eqv_op o1
 have h2:=eqvAll_refl eqv_op o2
 simp only [resD,PyData.eqv,PyData.eqvAll,eqv_tri,h1,h2,Bool.and_self]
theorem canLay_ops:∀(o:List Op),(∀c∈o,PyData.strOk c.1=true)->PyData.canLayAll0 (o.map dOp)=true
 | [],_=>rfl
 | c::o,h=>by
  have h1:=h c (.head _)
  simp only [List.map_cons,PyData.canLayAll0,dOp,PyData.canLay0,h1,canLay_ops o fun x hx=>h x (.tail _ hx),Bool.and_self]
theorem shaped_res(r:Run){o1 o2:List Op}(h1:∀c∈o1,PyData.strOk c.1=true)(h2:∀c∈o2,PyData.strOk c.1=true):SeqAt.shaped (resD r o1 o2)=true:=by
 have hc:(resD r o1 o2).canLay0=true:=by
  simp only [resD,PyData.canLay0,PyData.canLayAll0,triOf,canLay_ops o1 h1,canLay_ops o2 h2,Bool.and_self]
 have hd:(resD r o1 o2).depth<=3:=by
  have e:∀o:List Op,PyData.depthAll (o.map dOp)<=1:=fun o=>depth_map (f:=dOp) (n:=1) (fun c=>by simp [dOp,PyData.depth,PyData.depthAll]) o
  have:=e o1
  have:=e o2
  simp only [resD,triOf,PyData.depth,PyData.depthAll]
  lia
 simp only [SeqAt.shaped,hc,Bool.true_and,decide_eq_true_eq]
 exact zz236 hd
section
variable{prog:Program}{w:World}{A:Around}{s:Shared}{env:Env}{E:Value->Shared->Prop}
variable{h₀ g₀ g:Heap}{xt:List Addr}{L:Addr}{N Go No:List Str}{vs:List (Option Value)}{mu:List (Addr×Obj)}
theorem evLstT{elt iter:Expr}{elts:List Expr}{kk:Nat}{p:Pos}{ifs:List Expr}{scope:Scope}{pos:Pos}{cl:List (Str×Addr)}{l:Addr}{items:List Value}{k:Nat}{Q:Value->Shared->Prop}
 (Nn Gl:List Str) (J:Nat->Heap->List Value->Prop) (hh:A.handled=none) (hc:chkC scope Nn Gl=true) (hclo:clo env.cells scope.names []=some cl) (C₀:Cx env No Go) (hn:items.length<=sizeLine)
 (h:wpAny (model prog w) A (eval iter env) (fun xv s₁=>xv=.ref l/\∃g₁ vs₁ mu₁,St h₀ xt g₀ g₁ L N vs₁ mu₁ s₁.heap/\g₁.get? l=some (lstObj items k)/\J 0 g₁ []/\CTurn prog w A env scope cl elt (.Tuple elts kk p) ifs Nn Gl g₁ (fun i v=>items[i]?=some v) J /\
  ∀g' g₂ D h' tk ys,Le g₁ g₂->Le g' g₂->J items.length g' ys->g₂.get? D=some (lst ys)->St h₀ xt g₀ g₂ L N vs₁ mu₁ h'->Q (.ref D) {s₁ with heap:=h',toks:=tk}) no s)
 (hs:autoParam (∀x,foldedSetIterable iter env x=pure x) au1) :
 wpAny (model prog w) A (eval (.ListComp elt [⟨.Tuple elts kk p,iter,ifs,0⟩] scope pos) env) Q E s:=by
 refine evComp Nn Gl hc hclo (wpAny_mono h (fun xv s₁ h₁=>?_) fun _ _ e=>e) hs
 obtain ⟨rfl,g₁,vs₁,mu₁,F,hl,hj,turn,done⟩:=h₁
 refine wpAny_pyIter_list ⟨_,F.keep _ _ hl,rfl,_,rfl⟩ ?_
 have F₁:=F.own (litObj l)
 obtain ⟨hI,h0⟩:=It.list (prog:=prog) (w:=w) (A:=A) (target:=.Tuple elts kk p) hh hl (F₁.mt _ (.head _)).2.2.1 F₁.keep (F₁.mt _ (.head _)).1 fun i v s Q hit h=>go_tup hit h
 exact cmpE (Q:=Q) J hc C₀ F₁ hI h0 hj hn turn fun g' g₂ D h' tk ys a b c d e=>done g' g₂ D h' tk ys a b c d e
end
section
variable{w:World}{A:Around}{s:Shared}{env:Env}{E:Value->Shared->Prop}
variable{h₀ g₀ g:Heap}{n:Nat}
theorem eqS{prog:Program}{a b:Str}{t u:Tok}{Q:Value->Shared->Prop}(h:Q (.bool (decide (a=b))) s):wpAny (model prog w) A (compareOp .Eq (.str a t) (.str b u)) Q E s:=by
 refine P.eq_str ?_
 have e:(a.cps.toList==b.cps.toList)=decide (a=b):=by
  by_cases q:a=b
  · subst q;simp
  · have:a.cps.toList≠b.cps.toList:=fun z=>q (str_ext z)
    rw [decide_eq_false q,beq_eq_false_iff_ne.mpr this]
 rw [e];exact h
theorem negI{prog:Program}{a:Int}{t:Tok}{Q:Value->Shared->Prop}(h:Q (.int (-a) s.toks) {s with toks:=s.toks+1}):wpAny (model prog w) A (unaryOp .USub (.int a t)) Q E s:=P.neg_int h
theorem Runs.inn{L1 L2:List Pl}{R:List Run}(h:Runs L1 L2 R):∀r∈R,r.1+r.2.2<=L1.length/\r.2.1+r.2.2<=L2.length/\0<r.2.2:=fun r hr=>by
 have:=h.box.inn r hr;exact zz187 this
end
theorem len5{us:List (Option Value)}(h:us.length=5){G:List (Option Value)->Prop}(k:∀a b c d e,G [a,b,c,d,e]):G us:=by
 rcases us with _|⟨a,_|⟨b,_|⟨c,_|⟨d,_|⟨e,_|⟨f,us⟩⟩⟩⟩⟩⟩<;>simp at h
 exact k _ _ _ _ _
theorem Dt.opK{g:Heap}{v:Value}{c:Op}(h:Dt g v (dOp c)){G:Prop}(k:∀T q1 q2 q3 q4 q5,v=.ref T->g.get? T=some (tupObj [.str c.1 q1,.int (c.2.1:Int) q2,.int (c.2.2.1:Int) q3,.int (c.2.2.2.1:Int) q4,.int (c.2.2.2.2:Int) q5])->G):G:=by
 obtain ⟨T,vv,rfl,eT,dT⟩:=h.tupInv
 cases dT with
 | cons a1 r1=>cases r1 with
  | cons a2 r2=>cases r2 with
   | cons a3 r3=>cases r3 with
    | cons a4 r4=>cases r4 with
     | cons a5 r5=>cases r5 with
      | nil =>
       obtain ⟨q1,rfl⟩:=a1.strInv
       obtain ⟨q2,rfl⟩:=a2.intInv
       obtain ⟨q3,rfl⟩:=a3.intInv
       obtain ⟨q4,rfl⟩:=a4.intInv
       obtain ⟨q5,rfl⟩:=a5.intInv
       exact k T q1 q2 q3 q4 q5 rfl eT
theorem fil_yes{α:Type}{p:α->Bool}{l:List α}{i:Nat}{x:α}(h:l[i]?=some x)(q:p x=true):(l.take (i+1)).filter p=(l.take i).filter p++[x]:=by rw [take_nx h,List.filter_append];simp [q]
theorem fil_no{α:Type}{p:α->Bool}{l:List α}{i:Nat}{x:α}(h:l[i]?=some x)(q:p x=false):(l.take (i+1)).filter p=(l.take i).filter p:=by rw [take_nx h,List.filter_append];simp [q]
theorem tri_cmp{w:World}{A:Around}{g:Heap}{R:List Run}{vs:List Value}(hit:Dts g vs (tris R))(hu:A.units+2*1+1<cLine):CmpIn pw w A .Lt g vs (fun i j=>ltP ((tris R).getD i .none) ((tris R).getD j .none)):=by
 intro i j vi vj s Q E kk hi hj hq
 obtain ⟨di,hdi,dti⟩:=hit.get hi
 obtain ⟨dj,hdj,dtj⟩:=hit.get hj
 simp only [List.getD_eq_getElem?_getD,hdi,hdj,Option.getD_some] at hq
 obtain ⟨ri,_,rfl⟩:=List.mem_map.mp (List.mem_of_getElem? hdi)
 obtain ⟨rj,_,rfl⟩:=List.mem_map.mp (List.mem_of_getElem? hdj)
 exact ltAt_dt 1 (triOf ri) (triOf rj) A s vi vj dti dtj kk (by simp [triOf,PyData.depth,PyData.depthAll]) rfl rfl rfl hu pw w E Q hq
theorem tri_eq:((fun c:Op=>PyData.tuple [.int ((c.2.1:Int)-(c.2.2.1:Int)),.int (c.2.1:Int),.int (c.2.2.2.1:Int)]) ∘ eqOp)=triOf:=by
 funext r
 simp only [Function.comp,eqOp,triOf]
 rw [show ((r.1:Int)-((r.1+r.2.2:Nat):Int))=-(r.2.2:Int) by exact zz188]
theorem tEqD{w:World}{N Gl:List Str}{c:Fr w N Gl}{h:Heap}{a b:Expr}{pos:Pos}{u v:Str}{k1:Tok}(H1:c.E h a (fun _=>.str u k1))(H2:c.E h b (Value.str v))(hm:autoParam (behindInMarks .Eq b=false) auU):c.T h (.Compare a [.Eq] [b] pos) (decide (u=v)) :=
 fun Er Q t q=>wpAny_isTrue_Compare1 (H1 Er _ t fun k t1=>H2 Er _ t1 fun k2 t2=>eqS (wpAny_truthy_bool (q _))) hm
theorem T_use{w:World}{N Gl:List Str}{c:Fr w N Gl}{h:Heap}{t:Nat}{e:Expr}{b:Bool}{Qb:Bool->Shared->Prop}{Er:Value->Shared->Prop}(H:c.T h e b)(k:∀t',Qb b (c.st h t')):wpAny (model pw w) c.A (isTrue e c.env (eval e c.env)) Qb Er (c.st h t):=H _ _ t k
theorem negE{w:World}{N Gl:List Str}{c:Fr w N Gl}{h:Heap}{a:Expr}{pos:Pos}{m:Int}(H1:c.E h a (Value.int m)):c.E h (.UnaryOp .USub a pos) (Value.int (-m)):=fun Er Q t q=>wpAny_UnaryOp (H1 Er _ t fun k t1=>negI (q _ _))
theorem best_at{Lb La:List Pl}{R:List Run}(hR:Runs Lb La R){g:Heap}{v0 lv:Value}{ys:List Value}(hit:Dts g ([v0]++ys) (tris R))(hv:([v0]++ys)[argBest (fun i j=>ltP ((tris R).getD i .none) ((tris R).getD j .none)) (([v0]++ys).length-1)]?=some lv):Dt g lv (triOf (best 0 0 R)):=by
 have hl:=hit.len
 rw [tris,List.length_map,List.length_cons] at hl
 have hbest:=(best_min hR.box.sep (fun r hr=>(hR.inn r hr).2.2) R.length (Nat.le_refl _)).1
 rw [List.take_length] at hbest
 rw [hl,Nat.add_sub_cancel] at hv
 obtain ⟨dl,hdl,hlv⟩:=hit.get hv
 rw [tris,List.getElem?_map] at hdl
 unfold tris at hbest
 rw [hbest] at hdl
 exact Option.some.inj hdl▸hlv
section
variable{w:World}{c:Fr w nLaw glLaw}{g h:Heap}{t n:Nat}{Q:Flow->Shared->Prop}
theorem ph6(X:Sm2 g)(hA:Ok c.A (n+9)){Lb La:List Pl}{R R':List Run}(hR:Runs Lb La R)(hR':Runs La Lb R')(zb:Lb.length<=8)(za:La.length<=32){v0 u1 u2 u3 u4 u5 u6 u7 u8 u9 u10 u13 u14 u15:Option Value}{bv av th bk:Value}{t1 t2 t3:Tok}
 (hbv:Dt g bv (dRows Lb)) (hav:Dt g av (dRows La)) (hth:Dt g th (opsOf Lb La R)) (hbk:Dt g bk (opsOf La Lb R'))
 (F:c.S g [v0,u1,u2,u3,u4,u5,u6,u7,u8,u9,u10,some bv,some av,u13,u14,u15,some (.int ((best 0 0 R).1:Int) t1),some (.int ((best 0 0 R).2.1:Int) t2),some (.int ((best 0 0 R).2.2:Int) t3),some th,some bk,none,none] [] h)
 (hQ:∀g' h' t',Out c.h₀ c.xt c.g₀ g' h'->Q (.ret (.bool true)) (c.st h' t')) :
 c.X (bodyLaw.drop 14) Q h t:=by
 have hpos:∀r∈R,0<r.2.2:=fun r hr=>(hR.inn r hr).2.2
 have hin:("_law_codes":Str)∈glLaw:=.tail _ (.tail _ (.tail _ (.tail _ (.tail _ (.tail _ (.tail _ (.head _)))))))
 have hin2:("min":Str)∈glLaw:=.tail _ (.tail _ (.tail _ (.tail _ (.tail _ (.tail _ (.tail _ (.tail _ (.head _))))))))
 refine Fr.asV (c:=c) F ?_
 intro V F
 refine Fr.xLetK (c:=c) 21 fun Qv hQv=>C2 (N_law_codes (s:=c.st h t) c.cx X.toStat F.keep hin ((Fr.nV (c:=c) 11 F).use fun _ t=>(Fr.nV (c:=c) 12 F).use fun _ t=>⟨⟨_,F.keep _ _ (X.fnAt 24 rfl)⟩,?_⟩))
 refine call_c (s:=c.st h t) F (lcodes_gives (n:=n+7) X.toStat F.keep hA bv av Lb La hbv hav (by exact zz189 zb) (by exact zz190 za) hR.hH hR.hE hR.box.sep hR.inn (by have:=hR.len;exact zz191 this)) fun g₁ h t due k1 F hdue=>hQv _ _ _ _ _ _ F ?_
 intro V h t F
 have X₁:=X.up k1
 obtain ⟨ld,id,jd,ed,eld,dld⟩:=hdue.listInv
 have hol:=opsFrom_len (R++[(Lb.length,La.length,0)]) 0 0
 have heq:=ops_eqs' hpos Lb.length La.length
 have htg:=tags_ok (R++[(Lb.length,La.length,0)]) 0 0
 rw [List.length_append,List.length_singleton] at hol
 have hth₁:Dt g₁ th (.list ((opsFrom 0 0 (R++[(Lb.length,La.length,0)])).map dOp)):=hth.up k1
 refine genK (opsFrom 0 0 (R++[(Lb.length,La.length,0)])) fun AL eAL=>?_
 rw [eAL] at dld hdue hol heq htg hth₁
 have hRl:=hR.len
 have idl:=mapD_len dld
 refine Fr.xLetK (c:=c) 22 fun Qv hQv=>C1 (N_min (s:=c.st h t) c.cx X₁.toStat F.keep hin2 (wpAny_BinOp (lstE (sp1 ((Fr.tup3 F Fr.kI Fr.kI Fr.kI).use fun v0 g₂ h t k2 ev0 F=>sp0 (newLst (s:=c.st h t) F fun l0 g₃ h k3 el0 F=>?_))))))
 refine evLstT (h₀:=c.h₀) (xt:=c.xt) (g₀:=c.g₀) (L:=c.env.locals) (N:=nLaw) (l:=ld) (k:=jd) (items:=id) (cl:=[]) ["tag","a","b","c","d"] [] (fun i g' ws=>Dts g' ws (((AL.take i).filter (fun c:Op=>decide (c.1=("equal":Str)))).map fun c=>.tuple [.int ((c.2.1:Int)-(c.2.2.1:Int)),.int (c.2.1:Int),.int (c.2.2.2.1:Int)])) c.hd (by decide +kernel) rfl c.cx (by rw [sizeLine_eq];exact zz192 hol hRl idl) ((Fr.nV (c:=c) 21 F).use fun _ t=>⟨ed,g₃,_,_,F,(k2.tr k3) _ _ eld,.nil,?_,?_⟩)
 · intro i v s1 g' us ys I oI C' D' h tk hi kg' hys hus cx F
   apply len5 hus (G:=fun us=>St s1.heap [I] g₃ g' C' _ us _ h->_) ?_ F
   intro w0 w1 w2 w3 w4 F
   let ci:Fr w ["tag","a","b","c","d"] []:=⟨c.A,_,s1.gens,s1.drawn,s1.os,s1.heap,[I],g₃,cx,c.hd⟩
   refine (dld.up ((k2.tr k3).tr kg')).getP hi fun co hc hdt=>hdt.opK fun T q1 q2 q3 q4 q5 ev eT=>?_
   rw [ev]
   refine Fr.asTs (c:=ci) [0,1,2,3,4] F eT (.cons rfl (.cons rfl (.cons rfl (.cons rfl (.cons rfl .nil))))) ?_
   intro V h t F
   refine tests1 (T_use (tEqD (c:=ci) (Fr.nV (c:=ci) 0 F) Fr.kS) fun t=>?_)
   by_cases q:co.1=("equal":Str)
   · rw [if_pos (decide_eq_true q)]
     refine (Fr.tup3 (c:=ci) F (Fr.subI (Fr.nI 1 F) (Fr.nI 2 F) rfl) (Fr.nI 1 F) (Fr.nI 3 F)).use fun v g₅ h t k5 ev5 F=>cEnd k5 F ?_
     obtain ⟨T5,a1,a2,a3,e,eT5⟩:=ev5
     show Dts _ _ (List.map _ (List.filter _ _))
     rw [e,fil_yes hc (decide_eq_true q),List.map_append]
     exact (hys.up k5).snoc (.tuple eT5 (.cons (.int _ _) (.cons (.int _ _) (.cons (.int _ _) .nil))))
   · rw [if_neg (fun z=>q (of_decide_eq_true z))]
     refine cEnd Le.rfl' F ?_
     show Dts _ _ (List.map _ (List.filter _ _))
     rw [fil_no hc (decide_eq_false q)]
     exact hys
 intro g₃' g₄ D h t ys k4 k4' hys eD F
 rw [idl,List.take_length,heq,List.map_map,tri_eq] at hys
 have hys:=hys.up k4'
 have ysl:=mapD_len hys
 refine addL (s:=c.st h t) F (k4 _ _ el0) eD (by show 1+ys.length<=_;exact zz193 hRl ysl) fun l1 g₅ h k5 el1 F=>⟨trivial,?_⟩
 obtain ⟨T0,a1,a2,a3,e0,eT0⟩:=ev0
 have hit:Dts g₅ ([v0]++ys) (tris R):=.cons (e0▸.tuple ((k3.tr (k4.tr k5)) _ _ eT0) (.cons (.int _ _) (.cons (.int _ _) (.cons (.int _ _) .nil)))) (hys.up k5)
 have k15:=k2.tr (k3.tr (k4.tr k5))
 refine minL (s:=c.st h t) hA.handled _ (tri_cmp hit (by have:=hA.units;show c.A.units+1+1+2*1+1<cLine;unfold cLine;exact zz194 this)) F el1 (Nat.succ_pos _) fun lv h t hv F=>hQv _ _ _ _ _ _ F ?_
 have hlv:=best_at hR hit hv
 intro V h t F
 have X₅:=X₁.up k15
 refine wpAny_execs_cons (wpAny_Return_some (wpAny_Compare1 (lstE (sp1 ((Fr.tup3 (c:=c) F (negE (Fr.nI 18 F)) (Fr.nI 16 F) (Fr.nI 17 F)).use fun v1 g₆ h t k6 ev1 F=>sp1 ((Fr.nV (c:=c) 19 F).use fun _ t=>sp1 ((Fr.nV (c:=c) 20 F).use fun _ t=>sp0 (newLst (s:=c.st h t) F fun l7 g₇ h k7 el7 F=>lstE (sp1 ((Fr.nV (c:=c) 22 F).use fun _ t=>sp1 ((Fr.nV (c:=c) 21 F).use fun _ t=>sp1 ?_)))))))))))
 have X₇:=X₅.up (k6.tr k7)
 have k17:=k1.tr (k15.tr (k6.tr k7))
 refine C2 (N_law_codes (s:=c.st h t) c.cx X₇.toStat F.keep hin ((Fr.nV (c:=c) 12 F).use fun _ t=>(Fr.nV (c:=c) 11 F).use fun _ t=>⟨⟨_,F.keep _ _ (X₇.fnAt 24 rfl)⟩,?_⟩))
 refine call_c (s:=c.st h t) F (lcodes_gives (n:=n+7) X₇.toStat F.keep hA av bv La Lb (hav.up k17) (hbv.up k17) (by exact zz190 za) (by exact zz189 zb) hR'.hH hR'.hE hR'.box.sep hR'.inn (by have:=hR'.len;exact zz191 this)) fun g₈ h t due2 k8 F hdue2=>sp0 (newLst (s:=c.st h t) F fun l9 g₉ h k9 el9 F=>?_)
 have k89:=k8.tr k9
 obtain ⟨T6,b1,b2,b3,e1,eT6⟩:=ev1
 subst e1
 refine eqD (s:=c.st h t) (g:=g₉) (da:=resD (best 0 0 R) AL (opsFrom 0 0 (R'++[(La.length,Lb.length,0)]))) (db:=resD (best 0 0 R) AL (opsFrom 0 0 (R'++[(La.length,Lb.length,0)]))) F.keep ?_ ?_ (shaped_res _ htg (tags_ok _ 0 0)) (shaped_res _ htg (tags_ok _ 0 0)) hA.c ?_
 · exact .list (k89 _ _ el7) (.cons (.tuple ((k7.tr k89) _ _ eT6) (.cons (.int _ _) (.cons (.int _ _) (.cons (.int _ _) .nil)))) (.cons (hth₁.up (k15.tr (k6.tr (k7.tr k89)))) (.cons (hbk.up (k17.tr k89)) .nil)))
 · exact .list el9 (.cons (hlv.up (k6.tr (k7.tr k89))) (.cons (hdue.up (k15.tr (k6.tr (k7.tr k89)))) (.cons (hdue2.up k9) .nil)))
 rw [eqv_res]
 exact hQ _ _ _ (St.out F)
end
noncomputable def RunsAll:Prop:=∀(P1 P2 L1 L2:List Pl),(∀p∈P1,GoodPl p)->(∀p∈P2,GoodPl p)->P1.length<=32->P2.length<=32->Lst P1 L1->Lst P2 L2->(L1.map writtenT).Nodup/\∃R,Runs L1 L2 R
section
variable{w:World}{A:Around}{s:Shared}{g:Heap}{n:Nat}
theorem law_gives(hall:RunsAll)(X:Sm2 g)(kg:Le g s.heap)(hA:Ok A (n+10)){v:Value}{xs:List Int}(hv:Dt g v (.list (xs.map .int)))(hxs:xs.length<=63) :
 Gives pw w A (.call (.ref 428) ⟨[v],[]⟩) s [] g (fun _ _ r=>r=.bool true):=by
 obtain ⟨ls,sv,ks,rfl,els,hsv⟩:=hv.listInv
 have hP:=P0_len xs
 have hPF:=P0_fine xs
 have hPG':∀p∈P0 xs,GoodPl p:=fun p hp=>(P0_good xs p hp).1
 obtain ⟨hRf,hRl⟩:=goD_fine hPF (deedsOf xs) 2
 rw [List.take_of_length_le (deeds_len xs)] at hRf hRl
 have hRl:(goD (P0 xs) (deedsOf xs)).length<=32:=by have:=hP.1;lia
 have hRG:∀p∈goD (P0 xs) (deedsOf xs),GoodPl p:=fun p hp=>(hRf p hp).good (by exact zz195)
 refine Gives.fr 25 [.ref ls] ["script"] ["x","places","hung","rows","paths","deed","which","front","old","new","before","after","one","two","matcher","i","j","size","there","back","due","longest"] nLaw glLaw rfl X.toStat kg hA rfl (BindsTo.of_eq rfl) rfl rfl (by decide +kernel) ?_
 intro h₁ t' env A' QQ C hA' c V F hQ
 refine ph1 (c:=c) (n:=n) X hA' els hsv hxs F fun g₁ pl hu h t k1 hpl hhu F=>?_
 obtain ⟨lp,ip,jp,rfl,elp,dlp⟩:=hpl.listInv
 refine ph2 (c:=c) (n:=n) (X.up k1) hA' (k1 _ _ els) (hsv.up k1) hxs hPF hP.1 hP.2 elp dlp hhu F fun g₂ rv pv u1 u6 u7 u8 u9 u10 h t k2 hrv hpv F=>?_
 have k12:=k1.tr k2
 refine ph3 (c:=c) (n:=n) (X.up k12) hA' hPG' hRG hP.1 hRl (hpl.up k2) (hhu.up k2) hrv hpv F fun g₃ bv av ov tv Lb La h t k3 hLb hLa hbv hav hov htv F=>?_
 have hbG:∀p∈Lb,GoodPl p:=fun p hp=>hPG' p ((hLb.mem p).mp hp)
 have haG:∀p∈La,GoodPl p:=fun p hp=>hRG p ((hLa.mem p).mp hp)
 have zb:Lb.length<=8:=Nat.le_trans hLb.len hP.1
 have za:La.length<=32:=Nat.le_trans hLa.len hRl
 have k13:=k12.tr k3
 refine ph4 (c:=c) (n:=n) (X.up k13) hA' hbG haG zb za hbv hav hov htv F fun g₄ h t k4 F=>?_
 obtain ⟨nb,R,hR⟩:=hall _ _ Lb La hPG' hRG (by exact zz196 hP) hRl hLb hLa
 obtain ⟨na,R',hR'⟩:=hall _ _ La Lb hRG hPG' hRl (by exact zz196 hP) hLa hLb
 have k14:=k13.tr k4
 refine ph5 (c:=c) (n:=n) (X.up k14) hA' hR hR' nb na zb za (hov.up k4) (htv.up k4) F fun g₅ mv t1 t2 t3 th bk h t k5 hth hbk F=>?_
 exact ph6 (c:=c) (n:=n) (X.up (k14.tr k5)) hA' hR hR' zb za (hbv.up (k4.tr k5)) (hav.up (k4.tr k5)) hth hbk F fun g' h' t' o=>hQ g' h' t' _ o rfl
end
end Mine.Internal
namespace Mine.Internal
open PySem
noncomputable abbrev Pr:=Nat×Nat
noncomputable def Inc(P:List Pr):Prop:=P.Pairwise fun p q=>p.1<q.1/\p.2<q.2
noncomputable abbrev adj(p q:Pr):Prop:=p.1+1=q.1/\p.2+1=q.2
noncomputable def runsOf:List Pr->List Run
 | []=>[]
 | p::ps=>match runsOf ps with
  | []=>[(p.1,p.2,1)]
  | r::rs=>if adj p (r.1,r.2.1) then (p.1,p.2,r.2.2+1)::rs else (p.1,p.2,1)::r::rs
theorem runs_head(p:Pr)(ps:List Pr):∃k rs,runsOf (p::ps)=(p.1,p.2,k)::rs:=by
 rw [runsOf]
 cases runsOf ps with
 | nil=>exact ⟨_,_,rfl⟩
 | cons r rs =>
  dsimp only
  split
  · exact ⟨_,_,rfl⟩
  · exact ⟨_,_,rfl⟩
theorem runs_nil{ps:List Pr}(h:runsOf ps=[]):ps=[]:=by
 cases ps with
 | nil=>rfl
 | cons p ps=>obtain ⟨k,rs,e⟩:=runs_head p ps;rw [e] at h;cases h
theorem runs_pos:∀(P:List Pr),∀r∈runsOf P,0<r.2.2
 | [],r,h=>nomatch h
 | p::ps,r,h=>by
  have ih:=runs_pos ps
  rw [runsOf] at h
  cases e:runsOf ps with
  | nil=>rw [e] at h;rw [List.mem_singleton.mp h];exact Nat.one_pos
  | cons q qs =>
   rw [e] at h ih
   dsimp only at h
   split at h
   · rcases List.mem_cons.mp h with rfl|h
     · exact Nat.succ_pos _
     · exact ih r (.tail _ h)
   · rcases List.mem_cons.mp h with rfl|h
     · exact Nat.one_pos
     · exact ih r h
theorem runs_len:∀(P:List Pr),(runsOf P).length<=P.length
 | []=>Nat.le_refl _
 | p::ps=>by
  have ih:=runs_len ps
  rw [runsOf]
  cases e:runsOf ps with
  | nil=>simp
  | cons q qs =>
   rw [e] at ih
   dsimp only
   split<;>simp only [List.length_cons] at ih ⊢<;>lia
theorem runs_mem:∀(P:List Pr),∀r∈runsOf P,∀t<r.2.2,(r.1+t,r.2.1+t)∈P
 | [],r,h,_,_=>nomatch h
 | p::ps,r,h,t,ht=>by
  have ih:=runs_mem ps
  rw [runsOf] at h
  cases e:runsOf ps with
  | nil =>
   rw [e] at h
   rw [List.mem_singleton.mp h] at ht ⊢
   have:t=0:=by dsimp only at ht;exact zz404 ht
   subst this
   exact .head _
  | cons q qs =>
   rw [e] at h ih
   dsimp only at h
   split at h
   · rename_i ha
     rcases List.mem_cons.mp h with rfl|h
     · cases t with
       | zero=>exact .head _
       | succ t =>
        have:=ih q (.head _) t (by dsimp only at ht;exact zz405 ht)
        unfold adj at ha
        dsimp only at ha ⊢
        rw [show p.1+(t+1)=q.1+t by exact zz406 ha,show p.2+(t+1)=q.2.1+t by exact zz407 ha]
        exact .tail _ this
     · exact .tail _ (ih r (.tail _ h) t ht)
   · rcases List.mem_cons.mp h with rfl|h
     · have:t=0:=by dsimp only at ht;exact zz404 ht
       subst this
       exact .head _
     · exact .tail _ (ih r h t ht)
theorem runs_all:∀(P:List Pr),∀p∈P,∃r∈runsOf P,∃t<r.2.2,p=(r.1+t,r.2.1+t)
 | [],_,h=>nomatch h
 | p::ps,x,h=>by
  have ih:=runs_all ps
  rw [runsOf]
  cases e:runsOf ps with
  | nil =>
   rw [runs_nil e] at h
   rw [List.mem_singleton.mp h]
   exact ⟨_,.head _,0,Nat.one_pos,rfl⟩
  | cons q qs =>
   rw [e] at ih
   dsimp only
   split
   · rename_i ha
     rcases List.mem_cons.mp h with rfl|h
     · exact ⟨_,.head _,0,Nat.succ_pos _,rfl⟩
     · obtain ⟨r,hr,t,ht,rfl⟩:=ih x h
       rcases List.mem_cons.mp hr with rfl|hr
       · refine ⟨_,.head _,t+1,by dsimp only;exact zz369 ht,?_⟩
         unfold adj at ha
         dsimp only at ha ⊢
         rw [show p.1+(t+1)=r.1+t by exact zz406 ha,show p.2+(t+1)=r.2.1+t by exact zz407 ha]
       · exact ⟨r,.tail _ hr,t,ht,rfl⟩
   · rcases List.mem_cons.mp h with rfl|h
     · exact ⟨_,.head _,0,Nat.one_pos,rfl⟩
     · obtain ⟨r,hr,t,ht,e2⟩:=ih x h
       exact ⟨r,.tail _ hr,t,ht,e2⟩
theorem runs_sep:∀{P:List Pr},Inc P->(runsOf P).Pairwise Bef
 | [],_=>.nil
 | p::ps,hI=>by
  obtain ⟨h1,h2⟩:=List.pairwise_cons.mp hI
  have ih:=runs_sep h2
  have hpos:=runs_pos ps
  have hmem:=runs_mem ps
  rw [runsOf]
  cases e:runsOf ps with
  | nil=>exact List.pairwise_singleton ..
  | cons q qs =>
   rw [e] at ih hpos hmem
   obtain ⟨i1,i2⟩:=List.pairwise_cons.mp ih
   have hq:=h1 _ (hmem q (.head _) 0 (hpos q (.head _)))
   dsimp only at hq ⊢
   split
   · rename_i ha
     refine List.pairwise_cons.mpr ⟨fun r hr=>?_,i2⟩
     have:=i1 r hr
     unfold Bef adj at *
     dsimp only at *
     exact zz408 ha this
   · rename_i ha
     refine List.pairwise_cons.mpr ⟨fun r hr=>?_,ih⟩
     rcases List.mem_cons.mp hr with rfl|hr
     · unfold Bef adj at *
       dsimp only at *
       exact zz409 hq ha
     · have:=i1 r hr
       have:=hpos q (.head _)
       unfold Bef at *
       dsimp only at *
       lia
noncomputable def hdR:Option Pr->List Pr->List Pr
 | _,[]=>[]
 | none,p::ps=>p::hdR (some p) ps
 | some q,p::ps=>(if adj q p then [] else [p])++hdR (some p) ps
noncomputable def enR:List Pr->List Pr
 | []=>[]
 | [p]=>[(p.1+1,p.2+1)]
 | p::q::ps=>(if adj p q then [] else [(p.1+1,p.2+1)])++enR (q::ps)
theorem runs_hd:∀(P:List Pr),(runsOf P).map (fun r=>(r.1,r.2.1))=hdR none P
 | []=>rfl
 | [p]=>rfl
 | p::q::ps=>by
  have ih:=runs_hd (q::ps)
  obtain ⟨k,rs,e⟩:=runs_head q ps
  rw [e] at ih
  rw [runsOf,e]
  dsimp only
  simp only [List.map_cons,hdR] at ih ⊢
  have ih:=(List.cons.inj ih).2
  by_cases ha:adj p q
  · rw [if_pos (show adj p (q.1,q.2) from ha),if_pos ha,List.map_cons,ih];rfl
  · rw [if_neg (show ¬adj p (q.1,q.2) from ha),if_neg ha,List.map_cons,List.map_cons,ih];rfl
theorem runs_en:∀(P:List Pr),(runsOf P).map (fun r=>(r.1+r.2.2,r.2.1+r.2.2))=enR P
 | []=>rfl
 | [p]=>rfl
 | p::q::ps=>by
  have ih:=runs_en (q::ps)
  obtain ⟨k,rs,e⟩:=runs_head q ps
  rw [e] at ih
  rw [runsOf,e]
  dsimp only
  rw [enR,←ih]
  by_cases ha:adj p q
  · rw [if_pos (show adj p (q.1,q.2) from ha),if_pos ha,List.map_cons,List.map_cons,List.nil_append]
    unfold adj at ha
    dsimp only
    rw [show p.1+(k+1)=q.1+k by exact zz406 ha,show p.2+(k+1)=q.2+k by exact zz407 ha]
  · rw [if_neg (show ¬adj p (q.1,q.2) from ha),if_neg ha,List.map_cons];rfl
theorem getD_app{pre suf:List Pr}{p:Pr}:(pre++p::suf).getD pre.length (0,0)=p:=by
 rw [List.getD_eq_getElem?_getD];simp
theorem inc_le{P:List Pr}(h:Inc P){i j:Nat}(hij:i<=j)(hj:j<P.length):(P.getD i (0,0)).1<=(P.getD j (0,0)).1:=by
 rw [List.getD_eq_getElem?_getD,List.getD_eq_getElem?_getD,List.getElem?_eq_getElem (by exact zz242 hij hj),List.getElem?_eq_getElem hj]
 rcases Nat.lt_or_ge i j with q|q
 · have:=List.pairwise_iff_getElem.mp h i j (by exact zz113 hj q) hj q
   simp only [Option.getD_some];exact zz410 this
 · have:i=j:=by exact zz295 hij q
   subst this;exact Nat.le_refl _
theorem hds_suf{P:List Pr}(hI:Inc P):∀(suf pre:List Pr),P=pre++suf->((List.range' pre.length suf.length).filter (isHd P)).map (fun k=>P.getD k (0,0))=hdR pre.getLast? suf
 | [],pre,_=>by cases pre.getLast?<;>rfl
 | p::suf,pre,e=>by
  have ih:=hds_suf hI suf (pre++[p]) (by rw [e];simp)
  rw [List.length_cons,List.range'_succ,List.filter_cons]
  rw [List.length_append,List.length_singleton,List.getLast?_concat] at ih
  have hc:P.getD pre.length (0,0)=p:=by rw [e];exact getD_app
  have hlt:pre.length<P.length:=by rw [e];simp
  rcases pre.eq_nil_or_concat with rfl|⟨pre',q,rfl⟩
  · have hh:isHd P ([]:List Pr).length=true:=by
     unfold isHd prvP
     have h0:([]:List Pr).length=0:=rfl
     rw [h0] at hlt ⊢
     rw [if_pos rfl]
     have:=inc_le hI (i:=0) (j:=P.length-1) (by exact zz411) (by exact zz150 hlt)
     have hne:¬((P.getD (P.length-1) (0,0)).1+1=(P.getD 0 (0,0)).1):=by exact zz412 this
     rw [decide_eq_false hne];rfl
    rw [if_pos hh,List.map_cons,ih,hc];rfl
  · rw [List.concat_eq_append] at *
    have hq:prvP P (pre'++[q]).length=q:=by
     unfold prvP
     rw [if_neg (by simp),List.length_append,List.length_singleton,Nat.add_sub_cancel,e,List.append_assoc]
     exact getD_app
    have hh:isHd P (pre'++[q]).length=!decide (adj q p):=by
     unfold isHd
     rw [hq,hc]
     unfold adj
     rw [Bool.decide_and]
    rw [hh,List.getLast?_concat,hdR]
    by_cases ha:adj q p
    · rw [if_pos ha,if_neg (by simp [ha]),List.nil_append];exact ih
    · rw [if_neg ha,if_pos (by simp [ha]),List.map_cons,hc,ih];rfl
theorem hds_eq{P:List Pr}(hI:Inc P):hdsTo P P.length=hdR none P:=by
 have:=hds_suf hI P [] rfl
 unfold hdsTo
 rw [List.range_eq_range']
 exact this
theorem ens_suf{P:List Pr}(hI:Inc P):∀(suf pre:List Pr),P=pre++suf->((List.range' pre.length suf.length).filter (isEn P)).map (fun k=>((P.getD k (0,0)).1+1,(P.getD k (0,0)).2+1))=enR suf
 | [],pre,_=>rfl
 | [p],pre,e=>by
  have hc:P.getD pre.length (0,0)=p:=by rw [e];exact getD_app
  have hlen:P.length=pre.length+1:=by rw [e];simp
  have hh:isEn P pre.length=true:=by
   unfold isEn nxtP
   rw [hlen,Nat.mod_self]
   have:=inc_le hI (i:=0) (j:=pre.length) (by exact zz280) (by exact zz132 hlen)
   have hne:¬((P.getD 0 (0,0)).1=(P.getD pre.length (0,0)).1+1):=by exact zz413 this
   rw [decide_eq_false hne];rfl
  rw [List.length_singleton,List.range'_one,List.filter_cons,if_pos hh,List.filter_nil,List.map_cons,List.map_nil,hc];rfl
 | p::q::suf,pre,e=>by
  have ih:=ens_suf hI (q::suf) (pre++[p]) (by rw [e];simp)
  rw [List.length_cons,List.range'_succ,List.filter_cons]
  rw [List.length_append,List.length_singleton] at ih
  have hc:P.getD pre.length (0,0)=p:=by rw [e];exact getD_app
  have hlen:pre.length+1<P.length:=by rw [e];simp
  have hn:nxtP P pre.length=q:=by
   unfold nxtP
   rw [Nat.mod_eq_of_lt hlen,e,show pre++p::q::suf=(pre++[p])++q::suf by simp,show pre.length+1=(pre++[p]).length by simp]
   exact getD_app
  have hh:isEn P pre.length=!decide (adj p q):=by
   unfold isEn
   rw [hn,hc]
   unfold adj
   rw [Bool.decide_and]
   congr 2
   · exact decide_eq_decide.mpr eq_comm
   · exact decide_eq_decide.mpr eq_comm
  rw [hh,enR]
  by_cases ha:adj p q
  · rw [if_pos ha,if_neg (by simp [ha]),List.nil_append];exact ih
  · rw [if_neg ha,if_pos (by simp [ha]),List.map_cons,hc,ih];rfl
theorem ens_eq{P:List Pr}(hI:Inc P):ensTo P P.length=enR P:=by
 have:=ens_suf hI P [] rfl
 unfold ensTo
 rw [List.range_eq_range']
 exact this
theorem idx_lt{L:List Pl}(h:L.Pairwise (·<·)){p q:Pl}(hp:p∈L)(hq:q∈L)(hpq:p<q):L.idxOf p<L.idxOf q:=by
 have lp:=List.idxOf_lt_length_iff.mpr hp
 have lq:=List.idxOf_lt_length_iff.mpr hq
 rcases Nat.lt_trichotomy (L.idxOf p) (L.idxOf q) with z|z|z
 · exact z
 · exfalso
   have e1:=List.getElem_idxOf lp
   have e2:=List.getElem_idxOf lq
   have e3:L[L.idxOf p]=L[L.idxOf q]:=by congr 1
   rw [e1,e2] at e3
   rw [e3] at hpq
   exact List.lt_irrefl _ hpq
 · exfalso
   have:=List.pairwise_iff_getElem.mp h _ _ lq lp z
   rw [List.getElem_idxOf lq,List.getElem_idxOf lp] at this
   exact List.lt_asymm hpq this
theorem prs_inc{L1 L2:List Pl}(h1:L1.Pairwise (·<·))(h2:L2.Pairwise (·<·)):Inc (prsOf L1 L2):=by
 unfold Inc prsOf
 rw [List.pairwise_map]
 have hf:(L1.filter fun p=>decide (p∈L2)).Pairwise (·<·):=h1.filter _
 refine List.Pairwise.imp_of_mem (fun {p q} hp hq hpq=>?_) hf
 obtain ⟨p1,p2⟩:=List.mem_filter.mp hp
 obtain ⟨q1,q2⟩:=List.mem_filter.mp hq
 exact ⟨idx_lt h1 p1 q1 hpq,idx_lt h2 (by simpa using p2) (by simpa using q2) hpq⟩
theorem sorted_nodup{L:List Pl}(h:L.Pairwise (·<·)):L.Nodup:=h.imp fun {a b} hab e=>by rw [e] at hab;exact List.lt_irrefl _ hab
end Mine.Internal
namespace Mine.Internal
open PySem
theorem kp_sorted{acc r:List Pl}{x:Pl}(hs:acc.Pairwise (·<·))(hx:∀a∈acc,¬x<a):(kp acc x).Pairwise (·<·):=by
 unfold kp
 split
 · exact hs
 · rename_i hne
   rw [List.pairwise_append]
   refine ⟨hs,List.pairwise_singleton ..,fun a ha b hb=>?_⟩
   rw [List.mem_singleton.mp hb]
   by_cases e:a<x
   · exact e
   · exfalso
     have eq:a=x:=List.le_antisymm (List.not_lt.mp (hx a ha)) (List.not_lt.mp e)
     subst eq
     rcases acc.eq_nil_or_concat with rfl|⟨l,z,rfl⟩
     · cases ha
     · rw [List.concat_eq_append] at *
       rw [List.getLast?_concat] at hne
       rcases List.mem_append.mp ha with h|h
       · have:=(List.pairwise_append.mp hs).2.2 a h z (.head _)
         exact hx z (by simp) this
       · rw [List.mem_singleton.mp h] at hne;exact hne rfl
theorem kp_mem{acc:List Pl}{x:Pl}:∀a,a∈kp acc x->a∈acc\/a=x:=by
 intro a h
 unfold kp at h
 split at h
 · exact .inl h
 · rcases List.mem_append.mp h with h|h
   · exact .inl h
   · exact .inr (List.mem_singleton.mp h)
theorem fold_sorted:∀(r acc:List Pl),acc.Pairwise (·<·)->(∀a∈acc,∀x∈r,¬x<a)->r.Pairwise (fun a b=>decide (b<a)=false)->(r.foldl kp acc).Pairwise (·<·)
 | [],acc,h,_,_=>h
 | x::r,acc,h,hx,hr=>by
  obtain ⟨r1,r2⟩:=List.pairwise_cons.mp hr
  refine fold_sorted r (kp acc x) (kp_sorted (r:=r) h fun a ha=>hx a ha x (.head _)) (fun a ha y hy=>?_) r2
  rcases kp_mem a ha with ha|rfl
  · exact hx a ha y (.tail _ hy)
  · simpa using r1 y hy
theorem Lst.sorted{P L:List Pl}(h:Lst P L):L.Pairwise (·<·):=by
 obtain ⟨r,p,s,rfl⟩:=h
 exact fold_sorted r [] .nil (fun a h=>nomatch h) s
theorem nodup_idx{L:List Pl}(h:L.Nodup){i:Nat}{p:Pl}(hi:L[i]?=some p):L.idxOf p=i:=by
 obtain ⟨hl,e⟩:=List.getElem?_eq_some_iff.mp hi
 have hm:p∈L:=List.mem_of_getElem? hi
 have hlt:=List.idxOf_lt_length_iff.mpr hm
 have e2:=List.getElem_idxOf hlt
 have e3:=e2.trans e.symm
 rcases Nat.lt_trichotomy (L.idxOf p) i with z|z|z
 · exact absurd e3 (List.pairwise_iff_getElem.mp h _ _ hlt hl z)
 · exact z
 · exact absurd e3.symm (List.pairwise_iff_getElem.mp h _ _ hl hlt z)
theorem prs_mem{L1 L2:List Pl}{i j:Nat}(h:(i,j)∈prsOf L1 L2):∃p,L1[i]?=some p/\L2[j]?=some p:=by
 unfold prsOf at h
 obtain ⟨p,hp,e⟩:=List.mem_map.mp h
 obtain ⟨h1,h2⟩:=List.mem_filter.mp hp
 have h2:p∈L2:=by simpa using h2
 obtain ⟨rfl,rfl⟩:L1.idxOf p=i/\L2.idxOf p=j:=by simpa using e
 refine ⟨p,?_,?_⟩
 · rw [List.getElem?_eq_getElem (List.idxOf_lt_length_iff.mpr h1),List.getElem_idxOf]
 · rw [List.getElem?_eq_getElem (List.idxOf_lt_length_iff.mpr h2),List.getElem_idxOf]
theorem runs_all_ok:RunsAll:=by
 intro P1 P2 L1 L2 g1 g2 z1 z2 h1 h2
 have s1:=h1.sorted
 have s2:=h2.sorted
 have n1:=sorted_nodup s1
 have n2:=sorted_nodup s2
 have G1:∀p∈L1,GoodPl p:=fun p hp=>g1 p ((h1.mem p).mp hp)
 have G2:∀p∈L2,GoodPl p:=fun p hp=>g2 p ((h2.mem p).mp hp)
 have l1:L1.length<=32:=Nat.le_trans h1.len z1
 have hI:=prs_inc s1 s2
 have hpl:(prsOf L1 L2).length<=L1.length:=by unfold prsOf;rw [List.length_map];exact List.length_filter_le ..
 refine ⟨?_,runsOf (prsOf L1 L2),?_,?_,?_,?_⟩
 · rw [List.nodup_iff_pairwise_ne,List.pairwise_map]
   exact n1.imp_of_mem fun {a b} ha hb hab e=>hab (W_inj (G1 a ha) (G1 b hb) e)
 · refine ⟨by simp,by simp,Nat.zero_le _,Nat.zero_le _,runs_sep hI,fun r hr=>?_,fun r hr t ht=>?_,fun i j _ hi _ hj e=>?_⟩
   · have hp:=runs_pos _ r hr
     have hm:=runs_mem _ r hr (r.2.2-1) (by exact zz150 hp)
     obtain ⟨p,a,b⟩:=prs_mem hm
     have a:=(List.getElem?_eq_some_iff.mp a).1
     have b:=(List.getElem?_eq_some_iff.mp b).1
     exact zz414 hp a b
   · obtain ⟨p,a,b⟩:=prs_mem (runs_mem _ r hr t ht)
     rw [List.getElem?_map,List.getElem?_map,a,b]
   · rw [List.getElem?_map,List.getElem?_map,List.getElem?_eq_getElem hi,List.getElem?_eq_getElem hj] at e
     have e:writtenT L1[i]=writtenT L2[j]:=by simpa using e
     have ee:=W_inj (G1 _ (List.getElem_mem hi)) (G2 _ (List.getElem_mem hj)) e
     have hm:(i,j)∈prsOf L1 L2:=by
      unfold prsOf
      refine List.mem_map.mpr ⟨L1[i],List.mem_filter.mpr ⟨List.getElem_mem hi,?_⟩,?_⟩
      · rw [ee];simpa using List.getElem_mem hj
      · rw [nodup_idx n1 (List.getElem?_eq_getElem hi),ee,nodup_idx n2 (List.getElem?_eq_getElem hj)]
     obtain ⟨r,hr,t,ht,e3⟩:=runs_all _ _ hm
     exact ⟨r,hr,t,ht,(Prod.mk.inj e3).1,(Prod.mk.inj e3).2⟩
 · rw [hds_eq hI,runs_hd]
 · rw [ens_eq hI,runs_en]
 · have:=runs_len (prsOf L1 L2);exact zz415 l1 hpl this
end Mine.Internal
namespace Mine.Internal
set_option maxRecDepth 1000000
open PySem PySem.W PyProof.Rows
noncomputable def fastAny{α:Type u}(as:Array α)(p:α->Bool)(start:Nat:=0)(stop:Nat:=as.size):Bool :=
 match Nat.beq start 0 with
 | true=>(as.toList.take stop).any p
 | false=>Array.any as p start stop
theorem any_take{α:Type u}(as:Array α)(p:α->Bool)(stop:Nat):Array.any as p 0 stop=(as.toList.take stop).any p:=by
 rw [Bool.eq_iff_iff,Array.any_iff_exists,List.any_eq_true]
 constructor
 · rintro ⟨i,hi,_,hlt,hp⟩
   refine ⟨as[i],?_,hp⟩
   rw [List.mem_take_iff_getElem]
   exact ⟨i,by simp;lia,by simp⟩
 · rintro ⟨x,hx,hp⟩
   rw [List.mem_take_iff_getElem] at hx
   obtain ⟨i,hi,rfl⟩:=hx
   exact ⟨i,by simp at hi;lia,Nat.zero_le _,by simp at hi;lia,by simpa using hp⟩
theorem fastAny_eq:@Array.any.{u}=@fastAny.{u}:=by
 funext α as p start stop
 unfold fastAny
 cases h:Nat.beq start 0 with
 | true =>
  obtain rfl:start=0:=Nat.eq_of_beq_eq_true h
  exact any_take as p stop
 | false=>rfl
noncomputable def typeNew:Builtin:=by
 refine (fun _:True=>?f) ?p
 case p =>
  have h:PySem.W.Fast.tw4202317264376624991=?f:=by
   unfold PySem.W.Fast.tw4202317264376624991
   rw [fastAny_eq]
  trivial
theorem typeNew_eq:PySem.W.Fast.tw4202317264376624991=typeNew:=by
 unfold PySem.W.Fast.tw4202317264376624991
 rw [fastAny_eq]
 kernel_rfl
noncomputable def tb(id:String):Option Builtin :=
 match Nat.beq (code id) 29827186395103491166823348853 with
 | true=>some typeNew
 | false=>treeTable id
theorem tb_eq:treeTable=tb:=by
 funext id
 unfold tb
 cases h:Nat.beq (code id) 29827186395103491166823348853 with
 | false=>rfl
 | true =>
  have e:=Nat.eq_of_beq_eq_true h
  obtain rfl:id="type.__new__":=code_inj _ _ (e.trans (by kernel_rfl))
  show treeTable "type.__new__"=some typeNew
  rw [←typeNew_eq,←PySem.W.Fast.te4202317264376624991]
  kernel_rfl
end Mine.Internal
namespace Mine.Internal
set_option maxRecDepth 1000000
open PySem PySem.W PyProof.Rows
noncomputable def topRunT(tb:String->Option Builtin)(p:Program)(w:World)(n₀:Nat)(ann:Option Value):Nat->SharedT->Thread->Option SharedT
 | 0,_,_=>none
 | n+1,s,t=>match through t with
  | true=>some s
  | false=>match stepOk n₀ ann t with
   | false=>none
   | true=>match stepT (denote tb) p w s t with
    | some (s',t')=>topRunT tb p w n₀ ann n s' t'
    | none=>none
theorem topRun_of{tb:String->Option Builtin}{p:Program}{w:World}{n₀:Nat}{ann:Option Value}:∀{n:Nat} {s s':SharedT} {t:Thread},topRunT tb p w n₀ ann n s t=some s'->topRun tb p w n₀ ann n s.abs t=some s'.abs
 | 0,_,_,_,h=>by cases h
 | n+1,s,s',t,h=>by
  unfold topRunT at h
  unfold topRun
  cases ht:through t with
  | true=>rw [ht] at h;cases h;rfl
  | false =>
   rw [ht] at h
   cases hk:stepOk n₀ ann t with
   | false=>rw [hk] at h;cases h
   | true =>
    rw [hk] at h
    cases hs:stepT (denote tb) p w s t with
    | none=>rw [hs] at h;cases h
    | some r=>obtain ⟨s₂,t₂⟩:=r;rw [hs] at h;rw [stepT_spec hs];exact topRun_of h
noncomputable def plant:List Obj->Nat->BT->BT
 | [],_,t=>t
 | o::l,i,t=>plant l (i+1) (t.ins i o)
noncomputable def bootT(w:World)(os:OsState):SharedT:=⟨plant (boot_heap w.params).objs.toList 0 .nil,11,(boot_heap w.params).life,#[],boot_drawn,boot_toks,os⟩
theorem boot_abs(w:World)(os:OsState):(bootT w os).abs=⟨boot_heap w.params,#[],boot_drawn,boot_toks,os⟩:=by kernel_rfl!
end Mine.Internal
namespace Mine.Internal
set_option maxRecDepth 1000000
open PySem PySem.W PyProof.Rows
noncomputable def codeName(h:Heap)(cd:Value):Option Str:=match cd with
 | .ref c=>match h.get? c with
  | some o=>match o.data with
   | .fields vs=>match vs[1]? with
    | some (Value.str q _)=>some q
    | _=>none
   | _=>none
  | none=>none
 | _=>none
theorem codeRec_of{h:Heap}{cd:Value}{q:Str}(e:codeName h cd=some q):h.CodeRec cd q:=by
 unfold codeName at e
 split at e<;>try cases e
 rename_i c
 split at e<;>try cases e
 rename_i o ho
 split at e<;>try cases e
 rename_i vs hd
 split at e<;>cases e
 rename_i q t hv
 exact ⟨c,o,vs,t,rfl,ho,hd,hv⟩
noncomputable def obsH(h:Heap) :=
 ((fnList.map fun p=>h.get? p.1,fnList.map fun p=>codeName h p.2.code,h.noLimitOk&&h.isNs mainGlobals&&h.isNs builtinsNs&&h.isNs 241&&h.isNs 134&&h.isNs cStatics),
  (globList.map fun p=>h.nsMap mainGlobals p.1,bltList.map fun p=>h.nsMap mainGlobals p.1,bltList.map fun p=>h.nsMap builtinsNs p.1),
  (obList.map fun p=>h.get? p.1,obList2.map fun p=>h.get? p.1),
  (smHas.map fun p=>h.nsMap 241 p.1,smLacks.map fun x=>h.nsMap 241 x,mtHas.map fun p=>h.nsMap 134 p.1),codeName h fdMMake.code,h.nsMap cStatics "thirdparty.any")
noncomputable def valH :=
 ((fnList.map fun p=>some (fnObj p.2),fnList.map fun p=>some p.2.qualname,true),
  (globList.map fun p=>some p.2,bltList.map fun _=>(none:Option Value),bltList.map fun p=>some p.2),
  (obList.map fun p=>some p.2,obList2.map fun p=>some p.2),
  (smHas.map fun p=>some p.2,smLacks.map fun _=>(none:Option Value),mtHas.map fun p=>p.2),some fdMMake.qualname,(none:Option Value))
theorem map_at{α β:Type}{f g:α->β}:∀{l:List α},l.map f=l.map g->∀x∈l,f x=g x
 | a::l,e,x,hx=>by
  simp only [List.map_cons,List.cons.injEq] at e
  rcases List.mem_cons.mp hx with rfl|h
  · exact e.1
  · exact map_at e.2 x h
theorem sm2_of{h:Heap}(e:obsH h=valH):Sm2 h:=by
 unfold obsH valH at e
 simp only [Prod.mk.injEq,Bool.and_eq_true] at e
 obtain ⟨⟨e1,e2,⟨⟨⟨⟨b1,b2⟩,b3⟩,b4⟩,b5⟩,b6⟩,⟨g1,g2,g3⟩,⟨o1,o2⟩,⟨m1,m2,m3⟩,c1,c2⟩:=e
 exact
  {fn:=fun p hp=>⟨map_at e1 p hp,codeRec_of (map_at e2 p hp)⟩,lim:=.of_ok b1,glob:=⟨_,.of_isNs b2,map_at g1,map_at g2⟩,blt:=⟨_,.of_isNs b3,map_at g3⟩,ob:=map_at o1,ob2:=map_at o2,ns:=⟨_,.of_isNs b4,map_at m1,map_at m2⟩,mns:=⟨_,.of_isNs b5,map_at m3⟩,mkrec:=codeRec_of c1,cst:=⟨_,.of_isNs b6,c2⟩}
end Mine.Internal
namespace Mine.Internal
open PySem PySem.W PyProof.Rows PySem.Calls PySem.Spec
noncomputable def fdMMakeP(p:Program):FuncData:={name:="_make",qualname:="Match._make",params:=parOf (nth (inside (nth p.main.body 3)) 5),body:=.stmts (bodyOf (nth (inside (nth p.main.body 3)) 5)),scope:=(scopeOf (nth (inside (nth p.main.body 3)) 5)),globals:=3,closure:=[],defaults:=.none,kwdefaults:=.none,doc:=.str (docIn (bodyOf (nth (inside (nth p.main.body 3)) 5))) 293,pyModule:=.str "cpy313.difflib" 194,annotations:=some 92,code:=.ref 88,closureTuple:=.none,builtins:=0}
noncomputable def fnObsP(p:Program):List (Option Obj):=[some (fnObj (fdMk (nth (inside (nth p.main.body 5)) 1) "__init__" "SequenceMatcher.__init__" (.ref 153) (docV (nth (inside (nth p.main.body 5)) 1) 416) "cpy313.difflib" 194 159)),some (fnObj (fdMk (nth (inside (nth p.main.body 5)) 2) "set_seqs" "SequenceMatcher.set_seqs" .none (docV (nth (inside (nth p.main.body 5)) 2) 426) "cpy313.difflib" 194 166)),some (fnObj (fdMk (nth (inside (nth p.main.body 5)) 3) "set_seq1" "SequenceMatcher.set_seq1" .none (docV (nth (inside (nth p.main.body 5)) 3) 435) "cpy313.difflib" 194 173)),some (fnObj (fdMk (nth (inside (nth p.main.body 5)) 4) "set_seq2" "SequenceMatcher.set_seq2" .none (docV (nth (inside (nth p.main.body 5)) 4) 444) "cpy313.difflib" 194 180)),some (fnObj (fdMk (nth (inside (nth p.main.body 5)) 5) "__chain_b" "SequenceMatcher.__chain_b" .none .none "cpy313.difflib" 194 187)),some (fnObj (fdMk (nth (inside (nth p.main.body 5)) 6) "find_longest_match" "SequenceMatcher.find_longest_match" (.ref 189) (docV (nth (inside (nth p.main.body 5)) 6) 490) "cpy313.difflib" 194 195)),some (fnObj (fdMk (nth (inside (nth p.main.body 5)) 7) "get_matching_blocks" "SequenceMatcher.get_matching_blocks" .none (docV (nth (inside (nth p.main.body 5)) 7) 517) "cpy313.difflib" 194 202)),some (fnObj (fdMk (nth (inside (nth p.main.body 5)) 8) "get_opcodes" "SequenceMatcher.get_opcodes" .none (docV (nth (inside (nth p.main.body 5)) 8) 532) "cpy313.difflib" 194 209)),some (fnObj (fdMk (nth (inside (nth p.main.body 3)) 4) "__new__" "Match.__new__" .none (docV (nth (inside (nth p.main.body 3)) 4) 283) "cpy313.difflib" 194 81)),some (fnObj (fdMk (nth p.main.body 7) "_buffer" "_buffer" .none .none "binascii" 583 252)),some (fnObj (fdMk (nth p.main.body 9) "b2a_hex" "b2a_hex" (.ref 255) .none "binascii" 583 261)),some (fnObj (fdMk (nth p.main.body 12) "b16encode" "b16encode" .none (docV (nth p.main.body 12) 614) "cpy313.base64" 606 268)),some (fnObj (fdMk (nth p.main.body 21) "fspath" "fspath" .none .none "os" 703 341)),some (fnObj (fdMk (nth p.main.body 25) "_get_sep" "_get_sep" .none .none "cpy313.posixpath" 728 355)),some (fnObj (fdMk (nth p.main.body 26) "join" "join" .none (docV (nth p.main.body 26) 747) "cpy313.posixpath" 728 362)),some (fnObj (fdMk (nth p.main.body 27) "split" "split" .none (docV (nth p.main.body 27) 759) "cpy313.posixpath" 728 369)),some (fnObj (fdMk (nth p.main.body 28) "commonpath" "commonpath" .none (docV (nth p.main.body 28) 766) "cpy313.posixpath" 728 374)),some (fnObj (fdMk (nth p.main.body 30) "_law_place" "_law_place" .none .none "law_ik0100_01" 768 379)),some (fnObj (fdMk (nth p.main.body 31) "_law_path" "_law_path" .none .none "law_ik0100_01" 768 384)),some (fnObj (fdMk (nth p.main.body 32) "_law_written" "_law_written" .none .none "law_ik0100_01" 768 389)),some (fnObj (fdMk (nth p.main.body 33) "_law_done" "_law_done" .none .none "law_ik0100_01" 768 396)),some (fnObj (fdMk (nth p.main.body 34) "_law_hung" "_law_hung" .none .none "law_ik0100_01" 768 403)),some (fnObj (fdMk (nth p.main.body 35) "_law_carried" "_law_carried" .none .none "law_ik0100_01" 768 410)),some (fnObj (fdMk (nth p.main.body 36) "_law_listing" "_law_listing" .none .none "law_ik0100_01" 768 417)),some (fnObj (fdMk (nth p.main.body 37) "_law_codes" "_law_codes" .none .none "law_ik0100_01" 768 422)),some (fnObj (fdMk (nth p.main.body 38) "law" "law" .none .none "law_ik0100_01" 768 427))]
noncomputable def obs2P(p:Program):List (Option Obj):=[some (smCls),some (mtCls),some ({cls:=.type "staticmethod",data:=.fields #[.ref 82]}),some ({cls:=.type "classmethod",dict:=some 90,data:=.fields #[.ref 89,.bool false]}),some (fnObj (fdMMakeP p))]
noncomputable def fnNamesV:List (Option Str):=[some fdInit.qualname,some fdSetSeqs.qualname,some fdSetSeq1.qualname,some fdSetSeq2.qualname,some fdChainB.qualname,some fdFind.qualname,some fdBlocks.qualname,some fdCodes.qualname,some fdMNew.qualname,some fdBuffer.qualname,some fdHex.qualname,some fdB16.qualname,some fdFspath.qualname,some fdGetSep.qualname,some fdJoin.qualname,some fdSplit.qualname,some fdCommon.qualname,some fdPlace.qualname,some fdPath.qualname,some fdWritten.qualname,some fdDone.qualname,some fdHung.qualname,some fdCarried.qualname,some fdListing.qualname,some fdLCodes.qualname,some fdLaw.qualname]
noncomputable def globsV:List (Option Value):=[some (.ref 135),some (.ref 242),some (.ref 253),some (.ref 254),some (.ref 262),some (.ref 262),some (.ref 269),some (.ref 342),some (.ref 356),some (.ref 363),some (.ref 370),some (.ref 375),some (.ref 380),some (.ref 385),some (.ref 390),some (.ref 397),some (.ref 404),some (.ref 411),some (.ref 418),some (.ref 423)]
noncomputable def bltNoV:List (Option Value):=[none,none,none,none,none,none,none,none,none,none,none,none,none,none,none,none,none,none,none,none,none,none]
noncomputable def bltsV:List (Option Value):=[some (.builtin "isinstance"),some (.builtin "issubclass"),some (.builtin "len"),some (.builtin "min"),some (.builtin "max"),some (.builtin "chr"),some (.builtin "sorted"),some (.type "type"),some (.type "bytes"),some (.type "bytearray"),some (.type "str"),some (.type "tuple"),some (.type "map"),some (.type "enumerate"),some (.type "range"),some (.type "list"),some (.type "set"),some (.type "ValueError"),some (.type "TypeError"),some (.type "AttributeError"),some (.type "BytesWarning"),some (.type "int")]
noncomputable def obs1V:List (Option Obj):=[some ({cls:=.type "tuple",data:=.seq #[.ref 254,.int 1 594]}),some ({cls:=.type "tuple",data:=.seq #[.int 0 464,.none,.int 0 465,.none]}),some ({cls:=.type "tuple",data:=.seq #[.none,.str "" 404,.str "" 405,.bool true]}),some ({cls:=.type "object",data:=.plain})]
noncomputable def smHasV:List (Option Value):=[some (.ref 160),some (.ref 167),some (.ref 174),some (.ref 181),some (.ref 188),some (.ref 196),some (.ref 203),some (.ref 210)]
noncomputable def smLackV:List (Option Value):=[none,none,none,none,none,none,none,none,none,none,none,none,none]
noncomputable def mtHasV:List (Option Value):=[some (.ref 136),some (.ref 91),none,none,none,none,none,none,none,none,none,none,none,none]
noncomputable def valP(p:Program) :=
 ((fnObsP p,fnNamesV,true),(globsV,bltNoV,bltsV),(obs1V,obs2P p),(smHasV,smLackV,mtHasV),(some fdMMake.qualname,(none:Option Value)))
theorem val_eq:valH=valP pw:=rfl
noncomputable def qL:Program:={pw with main:={pw.main with body:=[stmLaw]}}
noncomputable def looseL:List Str:=["_wall","_tuplegetter","Match","_calculate_ratio","SequenceMatcher","_buffer","_NO_SEP","b2a_hex","hexlify","b16encode","_plain_name","ABCMeta","_ABCLike","_abc_plain_meta","fspath","_check_arg_types","_get_sep","join","split","commonpath","_law_place","_law_path","_law_written","_law_done","_law_hung","_law_carried","_law_listing","_law_codes"]
noncomputable def obsF(s:Shared):=(obsH s.heap,s.heap.nsMap mainGlobals "law")
noncomputable def valF:=(valH,(some (Value.ref 428):Option Value))
noncomputable def Says(_:World)(h:Heap):Prop:=Sm2 h/\∃m,h.Ns mainGlobals m/\m "law"=some (.ref 428)
theorem says_of(w:World)(s:Shared)(e:obsF s=valF):Says w s.heap:=by
 have X:=sm2_of (congrArg Prod.fst e)
 have e1:obsH s.heap=valH:=congrArg Prod.fst e
 have b:s.heap.isNs mainGlobals=true:=by
  unfold obsH valH at e1
  simp only [Prod.mk.injEq,Bool.and_eq_true] at e1
  exact e1.1.2.2.1.1.1.1.2
 exact ⟨X,_,.of_isNs b,congrArg Prod.snd e⟩
theorem says_up(w:World)(h h':Heap)(x:Says w h)(k:∀b o,h.get? b=some o->h'.get? b=some o):Says w h' :=
 ⟨x.1.up k,let ⟨m,a,b⟩:=x.2;⟨m,a.keeps k,b⟩⟩
theorem ns_one{h:Heap}{a:Addr}{m m':Str->Option Value}(x:h.Ns a m)(y:h.Ns a m')(n:Str):m n=m' n:=by
 obtain ⟨o,es,ep,e,d,_,f⟩:=x
 obtain ⟨o',es',ep',e',d',_,f'⟩:=y
 rw [e] at e'
 cases e'
 rw [d] at d'
 cases d'
 rw [←f,←f']
theorem ints_of{R:WRecords}{P:Params}{h:Heap}{ds:List WData}:∀{vs:List Value},WShape.hasItems R ds .int=true->WellAll P h vs ds->∃xs:List Int,ds=xs.map .int/\Dts h vs (xs.map .int):=by
 induction ds with
 | nil=>intro vs _ hw;cases hw;exact ⟨[],rfl,.nil⟩
 | cons d ds ih =>
  intro vs hh hw
  have hh:=(Bool.and_eq_true ..).mp (show (WShape.has R d .int&&WShape.hasItems R ds .int)=true from hh)
  obtain ⟨i,rfl⟩:=hasW_int hh.1
  cases hw with
  | cons a b =>
   obtain ⟨xs,rfl,hx⟩:=ih hh.2 b
   cases a
   exact ⟨i::xs,rfl,.cons (.int _ _) hx⟩
theorem caller_ok:Ok callerA 10:=⟨rfl,by decide,by decide⟩
noncomputable abbrev rwL:OpenLaw:=PySem.Challenge.rw_ik0100_01
theorem len_of{ds:List WData}(h:rwL.row.pre.holds rwL.row.records {args:=[.list ds]}=true):ds.length<=63:=by
 have h:WTm.holds [] (.and (.not (.lt (.lit (.int 63)) (.len (.arg 0)))) (.lit (.bool true))) {args:=[.list ds]}=true:=h
 have e:PySem.W.less? (.int 63) (.int (ds.length:Int))=some (decide ((63:Int)<(ds.length:Int))):=rfl
 simp only [WTm.holds,WTm.value,List.getElem?_cons_zero,e,Option.map_some] at h
 by_cases q:(63:Int)<(ds.length:Int)
 · rw [decide_eq_true q] at h
   cases h
 · exact zz418 q
theorem post_ok(A B:List WData):rwL.row.claim.post A (.bool true) B=true:=by
 show (WShape.has [] (.bool true) .bool&&WTm.holds [] (.eq .res (.lit (.bool true))) {args:=A,res:=some (.bool true),after:=B})=true
 kernel_rfl
theorem call_law:WalkO qL looseL (fun _ _=>True) Says rwL.row.toRowW ⟨"law",parOf stmLaw,bodyLaw,scopeLaw,⟨689,0,714,84⟩⟩ [] fun f vs=>PySem.call f vs:=by
 intro w s₀ s₁ mg mb G Y a o pm cd doc dV kV ho hd hcd hdf hm hgens args vals as hpre hlay hrd hwell hlow
 obtain ⟨X,m,hns,hlaw⟩:=Y
 have hm:mg "law"=some (.ref a):=hm
 have:(some (.ref a):Option Value)=some (.ref 428):=by rw [←hm,←hlaw];exact ns_one G.T.g hns _
 obtain rfl:a=428:=by cases this;rfl
 obtain ⟨h1,h2⟩:=pre_splitW hpre
 obtain ⟨d,r,rfl,hd1,hr⟩:=hasAllW_cons h1
 obtain rfl:=hasAllW_nil hr
 obtain ⟨ds,rfl,hitems⟩:=hasW_list hd1
 have hlen:=len_of h2
 cases hwell with
 | cons hv hrest =>
  cases hrest
  cases hv with
  | list e hall =>
   obtain ⟨xs,rfl,hxs⟩:=ints_of hitems hall
   rw [List.length_map] at hlen
   refine wpAny_call ?_
   refine law_gives (n:=0) runs_all_ok X (g:=s₁.heap) (fun _ _ e=>e) caller_ok (.list e hxs) hlen _ fun g' h' t' v out hv=>?_
   subst hv
   have hb:∀b o,s₁.heap.get? b=some o->h'.get? b=some o:=fun b o e=>out.base b o (by simp) e
   refine GoodW.toG ⟨.inl ⟨.bool true,.bool true,[],rfl,fun cls=>rfl,.bool _,post_ok _ _,fun _=>⟨.nil,fun a ha=>nomatch ha⟩⟩,hb,rfl,hgens⟩
end Mine.Internal
namespace Mine.Internal
set_option maxRecDepth 1000000
open PySem PySem.W PyProof.Rows PySem.Calls PySem.Spec
noncomputable def topOk(p:Program)(h₀:Heap)(s:Shared):Bool:=staticsOk (importedModules p.main.body) h₀ s.heap&&namesBound p s.heap&&gensDone s&&laidKept h₀ s.heap
theorem left_gen{p q:Program}{loose:List Str}{Xt:Shared->Bool}{α:Type}{Yf:Shared->α}{Ya:α}{N m₀:Nat}{ann:Option Value}{H₀:Params->Heap}{d₀:Drawn}{k₀:Nat}
 (open_:∀w:World,(fencedOpening treeTable p w N).map (fun s=>(s.heap,s.gens,s.drawn,s.toks))=some (H₀ w.params,Array.mk [],d₀,k₀))
 (size:∀w:World,((H₀ w.params).isNs mainGlobals,(H₀ w.params).objs.size,(H₀ w.params).nsMap mainGlobals "__annotations__")=(true,m₀,ann))
 (run:∀(w:World) (os:OsState),∃s:Shared,topRun treeTable p w m₀ ann N ⟨H₀ w.params,Array.mk [],d₀,k₀,os⟩ (topStub p)=some s/\topOk p (H₀ w.params) s=true/\openSeen q loose (importedModules p.main.body) Xt true s=openGood q loose/\Yf s=Ya) :
 LeftO p q loose Xt Yf (fun _=>Ya) N:=fun w=>by
 obtain ⟨⟨h,gs,d,k,os⟩,e,e'⟩:=Option.map_eq_some_iff.mp (open_ w)
 obtain ⟨rfl,rfl,rfl,rfl⟩:h=H₀ w.params/\gs=Array.mk []/\d=d₀/\k=k₀:=by simpa only [Prod.mk.injEq] using e'
 obtain ⟨s,hrun,v1,v2,v3⟩:=run w os
 obtain ⟨z1,z2,z3⟩:_/\_/\_:=by simpa only [Prod.mk.injEq] using size w
 have t:topFrom treeTable p w N ⟨H₀ w.params,Array.mk [],d,k,os⟩=some s:=by
  unfold topFrom
  dsimp only
  rw [z1,z2,z3,hrun]
  show (match topOk p (H₀ w.params) s with|true=>_|false=>_)=_
  rw [v1]
 unfold openEnds
 rw [e]
 show (topFrom treeTable p w N _).map _=_
 rw [t]
 exact congrArg some (Prod.ext v2 v3)
theorem run_gen{p q:Program}{w:World}{tab:String->Option Builtin}(ht:treeTable=tab){loose:List Str}{Xt:Shared->Bool}{α:Type}{Yf:Shared->α}{Ya:α}{N m₀:Nat}{ann:Option Value}{T:SharedT}{S:Shared}(hT:T.abs=S){h₀:Heap}
 (hs:∃s,topRunT tab p w m₀ ann N T (topStub p)=some s/\topOk p h₀ s.abs=true/\openSeen q loose (importedModules p.main.body) Xt true s.abs=openGood q loose/\Yf s.abs=Ya) :
 ∃s:Shared,topRun treeTable p w m₀ ann N S (topStub p)=some s/\topOk p h₀ s=true/\openSeen q loose (importedModules p.main.body) Xt true s=openGood q loose/\Yf s=Ya:=by
 obtain ⟨s,h1,h2⟩:=hs
 subst hT ht
 exact ⟨s.abs,topRun_of h1,h2⟩
theorem size_l(w:World):((boot_heap w.params).isNs mainGlobals,(boot_heap w.params).objs.size,(boot_heap w.params).nsMap mainGlobals "__annotations__")=(true,11,some (.ref 6)):=by kernel_rfl!
theorem opening_l:opening pw=plainProg pw.main.scope.names:=rfl
theorem fence_l(s:Shared):fenceModules? pw s=some s:=rfl
theorem ble_l:Nat.ble 600 4000=true:=rfl
theorem boot_l:∀w:World,(fencedOpening treeTable pw w 4000).map (fun s=>(s.heap,s.gens,s.drawn,s.toks))=some (boot_heap w.params,Array.mk [],boot_drawn,boot_toks):=boot_open (p:=pw) (N:=4000) opening_l ble_l fence_l
theorem left_of(hk:∀(w:World) (os:OsState),∃s,topRunT tb pw w 11 (some (.ref 6)) 4000 (bootT w os) (topStub pw)=some s/\topOk pw (boot_heap w.params) s.abs=true/\openSeen qL looseL (importedModules pw.main.body) (fun _=>true) true s.abs=openGood qL looseL/\obsF s.abs=valF) :
 LeftO pw qL looseL (fun _=>true) obsF (fun _=>valF) 4000 :=
 left_gen boot_l size_l fun w os=>run_gen tb_eq (boot_abs w os) (hk w os)
end Mine.Internal
namespace Mine.Internal
set_option maxRecDepth 1000000
open PySem PySem.W PyProof.Rows
noncomputable def docC:Const->Str
 | .str s=>s
 | _=>Str.empty
noncomputable def docE:Expr->Str
 | .Constant c _ _=>docC c
 | _=>Str.empty
noncomputable def docX:Stmt->Str
 | .Expr e _=>docE e
 | _=>Str.empty
noncomputable def docB:List Stmt->Str
 | s::_=>docX s
 | []=>Str.empty
noncomputable def docOf:Stmt->Str
 | .ClassDef _ _ _ b _ _ _ _ _ _ _=>docB b
 | _=>Str.empty
noncomputable def docS:String:=by
 refine (fun _:True=>?s) ?p
 case p =>
  have h:docOf (nth pw.main.body 5)=Str.ofString ?s:=by
   show Str.ofString _=_
   with_reducible rfl
  trivial
theorem docS_eq:docOf (nth pw.main.body 5)=Str.ofString docS:=by kernel_rfl
noncomputable def Tr1(_:List Char):Prop:=True
noncomputable def Tr2(_:List Char):Prop:=True
theorem tr12(l:List Char):Tr1 l=Tr2 l:=rfl
noncomputable def docL:List Char:=by
 refine (fun _:True=>?l) ?p
 case p =>
  have h:Tr1 (String.toList docS)=Tr2 ?l:=by
   unfold docS
   dsimp only [String.reduceToList,tr12]
   with_reducible rfl
  trivial
theorem docL_eq:docS=String.ofList docL:=by kernel_rfl
theorem doc_eq:docOf (nth pw.main.body 5)=⟨(List.map Char.toNat docL).toArray⟩:=by
 rw [docS_eq,docL_eq]
 exact PySem.W.Fast.ofString_ofList _
noncomputable def setC(d:Str):Const->Const
 | .str _=>.str d
 | c=>c
noncomputable def setE(d:Str):Expr->Expr
 | .Constant c k p=>.Constant (setC d c) k p
 | e=>e
noncomputable def setX(d:Str):Stmt->Stmt
 | .Expr e p=>.Expr (setE d e) p
 | s=>s
noncomputable def setB(d:Str):List Stmt->List Stmt
 | s::r=>setX d s::r
 | []=>[]
noncomputable def setDoc(d:Str):Stmt->Stmt
 | .ClassDef a b c body e f g h i j l=>.ClassDef a b c (setB d body) e f g h i j l
 | s=>s
theorem setC_same(c:Const):setC (docC c) c=c:=by cases c<;>rfl
theorem setE_same(e:Expr):setE (docE e) e=e:=by
 cases e with
 | Constant c k p=>exact congrArg (fun c=>Expr.Constant c k p) (setC_same c)
 | _=>rfl
theorem setX_same(s:Stmt):setX (docX s) s=s:=by
 cases s with
 | Expr e p=>exact congrArg (fun e=>Stmt.Expr e p) (setE_same e)
 | _=>rfl
theorem setB_same(l:List Stmt):setB (docB l) l=l:=by
 cases l with
 | nil=>rfl
 | cons s r=>exact congrArg (fun s=>s::r) (setX_same s)
theorem setDoc_same(s:Stmt):setDoc (docOf s) s=s:=by
 cases s with
 | ClassDef a b c body e f g h i j l=>exact congrArg (fun body=>Stmt.ClassDef a b c body e f g h i j l) (setB_same body)
 | _=>rfl
noncomputable def setAt(d:Str):List Stmt->Nat->List Stmt
 | [],_=>[]
 | s::r,0=>setDoc d s::r
 | s::r,n+1=>s::setAt d r n
theorem setAt_same:∀(l:List Stmt) (n:Nat),setAt (docOf (nth l n)) l n=l
 | [],_=>rfl
 | s::r,0=>congrArg (·::r) (setDoc_same s)
 | s::r,n+1=>congrArg (s::·) (setAt_same r n)
noncomputable def docT:Str:=⟨(List.map Char.toNat docL).toArray⟩
noncomputable def pwE:Program:={pw with main:={pw.main with body:=setAt docT pw.main.body 5}}
theorem pwE_eq:pwE=pw:=by
 unfold pwE docT
 rw [←doc_eq,setAt_same]
noncomputable def chkP(p:Program)(w:World)(os:OsState) :=
 (topRunT tb p w 11 (some (.ref 6)) 4000 (bootT w os) (topStub p)).map fun s=>(topOk p (boot_heap w.params) s.abs,openSeen qL looseL (importedModules p.main.body) (fun _=>true) true s.abs,obsF s.abs)
theorem chkE_ok(w:World)(os:OsState):chkP pwE w os=some (true,openGood qL looseL,valP pwE,some (Value.ref 428)):=by
 unfold chkP
 kernel_rfl
theorem chkP_ok(w:World)(os:OsState):chkP pw w os=some (true,openGood qL looseL,valP pw,some (Value.ref 428)):=by
 have h:=chkE_ok w os
 rw [pwE_eq] at h
 exact h
end Mine.Internal
namespace Mine.Internal
open PySem PySem.W PyProof.Rows PySem.Calls PySem.Spec
theorem chk_all(w:World)(os:OsState):∃s,topRunT tb pw w 11 (some (.ref 6)) 4000 (bootT w os) (topStub pw)=some s/\topOk pw (boot_heap w.params) s.abs=true/\openSeen qL looseL (importedModules pw.main.body) (fun _=>true) true s.abs=openGood qL looseL/\obsF s.abs=valF:=by
 have h:=chkP_ok w os
 unfold chkP at h
 obtain ⟨s,hs,hv⟩:=Option.map_eq_some_iff.mp h
 have h1:=congrArg Prod.fst hv
 have h2:=congrArg (fun x=>x.2.1) hv
 have h3:=congrArg (fun x=>x.2.2) hv
 refine ⟨s,hs,h1,h2,h3.trans ?_⟩
 show (valP pw,(some (Value.ref 428):Option Value))=(valH,some (Value.ref 428))
 rw [val_eq]
theorem wit:rwL.row.toRowW.promised:=⟨[.list []],by decide +kernel,by decide +kernel⟩
theorem row_holds(said:rwL.row.wellSaid=true):rwL.row.Holds :=
 holds_open (q:=qL) (loose:=looseL) (Xt:=fun _=>true) (XP:=fun _ _=>True) (Yf:=obsF) (Ya:=fun _=>valF) (YP:=Says) (N:=4000) (left_of chk_all) says_of says_up (fun _ _=>trivial) (fun _ _ _ _ _=>trivial)
  (by rfl) (by rfl) (by rfl) (fun s _=>recFacts_nil rfl) (by rfl) said (by decide +kernel) ⟨rfl,rfl,rfl,rfl,rfl,by decide +kernel⟩ wit call_law
theorem said_e:({rwL with prog:=pwE}:OpenLaw).wellSaid=true:=by kernel_rfl
theorem said_ok:rwL.wellSaid=true:=by
 have h:=said_e
 rw [pwE_eq] at h
 exact h
end Mine.Internal
theorem PySem.Challenge.cw_ik0100_01_holds : PySem.Challenge.rw_ik0100_01.Holds := by
 exact PySem.W.holds_law Mine.Internal.said_ok Mine.Internal.row_holds
