import PyProof.Rows.All
import Wide.All
import OpenK.AllK
import Wide.FinOn
import PySem.Challenge.RW_rx0086_01

open PySem PySem.W PyProof.Rows PySem.Calls
set_option linter.all false
set_option maxRecDepth 100000
set_option maxHeartbeats 1000000
set_option genInjectivity false
set_option genSizeOf false
namespace Mine.Internal
open List (all_eq_true any_cons any_eq_true any_nil append_assoc append_nil cons_append drop_drop drop_eq_nil_iff filterMap_eq_map' filter_congr filter_cons filter_eq_nil_iff find?_cons flatMap_append flatMap_cons foldl_append foldl_cons forIn_cons forIn_nil getElem?_append_left getElem?_eq_getElem getElem?_eq_none getElem?_map getElem?_range getElem_map getElem_mem getLastD_eq_getLast? length_append length_cons length_drop length_eq_one_iff length_filterMap_le length_filter_le length_map length_pos_iff length_range length_reverse length_take lookup_cons map_append map_congr_left map_cons map_id map_map map_nil map_reverse mem_append mem_append_left mem_append_right mem_cons mem_cons_of_mem mem_cons_self mem_filter mem_flatMap mem_map mem_map_of_mem mem_of_getElem? mem_of_getLast? mem_range mem_reverse mem_singleton nil_append nodup_append nodup_cons not_lt not_mem_nil range_succ size_toArray sum_append sum_cons sum_nil take_add_one take_append_drop take_length take_zero toArray)
open Nat (add_assoc add_comm add_le_add add_le_add_left le_add_right le_antisymm le_of_eq le_of_lt le_of_succ_le le_refl le_succ le_succ_of_le le_trans lt_asymm lt_irrefl lt_of_le_of_lt lt_of_lt_of_le lt_or_ge lt_succ_of_lt lt_succ_self lt_trans max_le min_le_right ne_of_gt ne_of_lt not_le not_lt_zero pred sub_le sub_pos_iff_lt sub_succ_lt_self succ_le_succ succ_pos zero_add zero_le)
universe u v
theorem AU{α:Type u}{a b:α}(h:a∈[b]):a=b:=mem_singleton.mp h
theorem BF{α:Type u}{a b:α}{l:List α}(h:a∈b::l):a=b∨a∈l:=mem_cons.mp h
theorem Cx{α:Type u}{a:α}{s t:List α}(h:a∈s++t):a∈s∨a∈t:=mem_append.mp h
theorem Ct{α:Type u}{β:Type v}{f:α->β}{l:List α}{b:β}(h:b∈l.map f):∃a,a∈l∧f a=b:=mem_map.mp h
noncomputable def Ac:=@wpAny_bind
noncomputable def Ag:=@wpAny_pure
noncomputable def Ah:=@wpAny_mono
noncomputable def w0:World:=⟨fun Z Z=>0,{strHash:=fun Z=>0,shareClass:=fun Z=>0,mergeTok:=id,idOf:=fun Z=>0,idOfShared:=fun Z Z=>0,followText:=fun Z=>false,idOfImm:=fun Z=>0}⟩
@[irreducible] noncomputable def HR {A0:Type} (N:Nonempty (A0)) (Q:A0->Prop):A0:=Classical.epsilon fun x=>¬Q (x)
theorem Io{A0:Type}(N:A0){Q:A0->Prop}(h:Q ((HR ⟨N⟩ Q)))(a0:A0):Q a0:=by
 unfold HR at h;exact Classical.byContradiction fun hn=>(Classical.epsilon_spec (p:=fun x=>¬Q (x)) ⟨a0,hn⟩) h
@[irreducible] noncomputable def Ip {A0 A1:Type} (N:Nonempty (A0×A1)) (Q:A0->A1->Prop):A0×A1:=Classical.epsilon fun x=>¬Q (x.1) (x.2)
theorem I8{A0 A1:Type}(N:A0×A1){Q:A0->A1->Prop}(h:Q ((Ip ⟨N⟩ Q).1) ((Ip ⟨N⟩ Q).2))(a0:A0)(a1:A1):Q a0 a1:=by
 unfold Ip at h;exact Classical.byContradiction fun hn=>(Classical.epsilon_spec (p:=fun x=>¬Q (x.1) (x.2)) ⟨(a0,a1),hn⟩) h
@[irreducible] noncomputable def Iq {A0 A1 A2 A3:Type} (N:Nonempty ((A0×A1)×(A2×A3))) (Q:A0->A1->A2->A3->Prop):(A0×A1)×(A2×A3):=Classical.epsilon fun x=>¬Q (x.1.1) (x.1.2) (x.2.1) (x.2.2)
theorem JZ{A0 A1 A2 A3:Type}(N:(A0×A1)×(A2×A3)){Q:A0->A1->A2->A3->Prop}(h:Q ((Iq ⟨N⟩ Q).1.1) ((Iq ⟨N⟩ Q).1.2) ((Iq ⟨N⟩ Q).2.1) ((Iq ⟨N⟩ Q).2.2))(a0:A0)(a1:A1)(a2:A2)(a3:A3):Q a0 a1 a2 a3:=by
 unfold Iq at h;exact Classical.byContradiction fun hn=>(Classical.epsilon_spec (p:=fun x=>¬Q (x.1.1) (x.1.2) (x.2.1) (x.2.2)) ⟨((a0,a1),(a2,a3)),hn⟩) h
@[irreducible] noncomputable def FK {A0 A1 A2 A3 A4 A5 A6 A7:Type} (N:Nonempty (((A0×A1)×(A2×A3))×((A4×A5)×(A6×A7)))) (Q:A0->A1->A2->A3->A4->A5->A6->A7->Prop):((A0×A1)×(A2×A3))×((A4×A5)×(A6×A7)):=Classical.epsilon fun x=>¬Q (x.1.1.1) (x.1.1.2) (x.1.2.1) (x.1.2.2) (x.2.1.1) (x.2.1.2) (x.2.2.1) (x.2.2.2)
theorem HS{A0 A1 A2 A3 A4 A5 A6 A7:Type}(N:((A0×A1)×(A2×A3))×((A4×A5)×(A6×A7))){Q:A0->A1->A2->A3->A4->A5->A6->A7->Prop}(h:Q ((FK ⟨N⟩ Q).1.1.1) ((FK ⟨N⟩ Q).1.1.2) ((FK ⟨N⟩ Q).1.2.1) ((FK ⟨N⟩ Q).1.2.2) ((FK ⟨N⟩ Q).2.1.1) ((FK ⟨N⟩ Q).2.1.2) ((FK ⟨N⟩ Q).2.2.1) ((FK ⟨N⟩ Q).2.2.2))(a0:A0)(a1:A1)(a2:A2)(a3:A3)(a4:A4)(a5:A5)(a6:A6)(a7:A7):Q a0 a1 a2 a3 a4 a5 a6 a7:=by
 unfold FK at h;exact Classical.byContradiction fun hn=>(Classical.epsilon_spec (p:=fun x=>¬Q (x.1.1.1) (x.1.1.2) (x.1.2.1) (x.1.2.2) (x.2.1.1) (x.2.1.2) (x.2.2.1) (x.2.2.2)) ⟨(((a0,a1),(a2,a3)),((a4,a5),(a6,a7))),hn⟩) h
@[irreducible] noncomputable def CF {A0 A1 A2 A3 A4 A5 A6 A7 A8 A9 A10 A11 A12 A13 A14 A15:Type} (N:Nonempty ((((A0×A1)×(A2×A3))×((A4×A5)×(A6×A7)))×(((A8×A9)×(A10×A11))×((A12×A13)×(A14×A15))))) (Q:A0->A1->A2->A3->A4->A5->A6->A7->A8->A9->A10->A11->A12->A13->A14->A15->Prop):(((A0×A1)×(A2×A3))×((A4×A5)×(A6×A7)))×(((A8×A9)×(A10×A11))×((A12×A13)×(A14×A15))):=Classical.epsilon fun x=>¬Q (x.1.1.1.1) (x.1.1.1.2) (x.1.1.2.1) (x.1.1.2.2) (x.1.2.1.1) (x.1.2.1.2) (x.1.2.2.1) (x.1.2.2.2) (x.2.1.1.1) (x.2.1.1.2) (x.2.1.2.1) (x.2.1.2.2) (x.2.2.1.1) (x.2.2.1.2) (x.2.2.2.1) (x.2.2.2.2)
theorem FM{A0 A1 A2 A3 A4 A5 A6 A7 A8 A9 A10 A11 A12 A13 A14 A15:Type}(N:(((A0×A1)×(A2×A3))×((A4×A5)×(A6×A7)))×(((A8×A9)×(A10×A11))×((A12×A13)×(A14×A15)))){Q:A0->A1->A2->A3->A4->A5->A6->A7->A8->A9->A10->A11->A12->A13->A14->A15->Prop}(h:Q ((CF ⟨N⟩ Q).1.1.1.1) ((CF ⟨N⟩ Q).1.1.1.2) ((CF ⟨N⟩ Q).1.1.2.1) ((CF ⟨N⟩ Q).1.1.2.2) ((CF ⟨N⟩ Q).1.2.1.1) ((CF ⟨N⟩ Q).1.2.1.2) ((CF ⟨N⟩ Q).1.2.2.1) ((CF ⟨N⟩ Q).1.2.2.2) ((CF ⟨N⟩ Q).2.1.1.1) ((CF ⟨N⟩ Q).2.1.1.2) ((CF ⟨N⟩ Q).2.1.2.1) ((CF ⟨N⟩ Q).2.1.2.2) ((CF ⟨N⟩ Q).2.2.1.1) ((CF ⟨N⟩ Q).2.2.1.2) ((CF ⟨N⟩ Q).2.2.2.1) ((CF ⟨N⟩ Q).2.2.2.2))(a0:A0)(a1:A1)(a2:A2)(a3:A3)(a4:A4)(a5:A5)(a6:A6)(a7:A7)(a8:A8)(a9:A9)(a10:A10)(a11:A11)(a12:A12)(a13:A13)(a14:A14)(a15:A15):Q a0 a1 a2 a3 a4 a5 a6 a7 a8 a9 a10 a11 a12 a13 a14 a15:=by
 unfold CF at h;exact Classical.byContradiction fun hn=>(Classical.epsilon_spec (p:=fun x=>¬Q (x.1.1.1.1) (x.1.1.1.2) (x.1.1.2.1) (x.1.1.2.2) (x.1.2.1.1) (x.1.2.1.2) (x.1.2.2.1) (x.1.2.2.2) (x.2.1.1.1) (x.2.1.1.2) (x.2.1.2.1) (x.2.1.2.2) (x.2.2.1.1) (x.2.2.1.2) (x.2.2.2.1) (x.2.2.2.2)) ⟨((((a0,a1),(a2,a3)),((a4,a5),(a6,a7))),(((a8,a9),(a10,a11)),((a12,a13),(a14,a15)))),hn⟩) h
theorem ex1{A0:Sort _}{P:A0->Prop}{G:Prop}(h:∃a0,P a0)(k:∀a0,P a0->G):G:=h.elim k
theorem ex2{A0 A1:Sort _}{P:A0->A1->Prop}{G:Prop}(h:∃a0 a1,P a0 a1)(k:∀a0 a1,P a0 a1->G):G:=h.elim fun a h=>h.elim (k a)
theorem PW{A0 A1 A2:Sort _}{P:A0->A1->A2->Prop}{G:Prop}(h:∃a0 a1 a2,P a0 a1 a2)(k:∀a0 a1 a2,P a0 a1 a2->G):G:=h.elim fun a h=>ex2 h (k a)
theorem OJ{A0 A1 A2 A3:Sort _}{P:A0->A1->A2->A3->Prop}{G:Prop}(h:∃a0 a1 a2 a3,P a0 a1 a2 a3)(k:∀a0 a1 a2 a3,P a0 a1 a2 a3->G):G:=h.elim fun a h=>PW h (k a)
theorem ex5{A0 A1 A2 A3 A4:Sort _}{P:A0->A1->A2->A3->A4->Prop}{G:Prop}(h:∃a0 a1 a2 a3 a4,P a0 a1 a2 a3 a4)(k:∀a0 a1 a2 a3 a4,P a0 a1 a2 a3 a4->G):G:=h.elim fun a h=>OJ h (k a)
theorem UD{A0 A1 A2 A3 A4 A5:Sort _}{P:A0->A1->A2->A3->A4->A5->Prop}{G:Prop}(h:∃a0 a1 a2 a3 a4 a5,P a0 a1 a2 a3 a4 a5)(k:∀a0 a1 a2 a3 a4 a5,P a0 a1 a2 a3 a4 a5->G):G:=h.elim fun a h=>ex5 h (k a)
theorem VE{A0 A1 A2 A3 A4 A5 A6:Sort _}{P:A0->A1->A2->A3->A4->A5->A6->Prop}{G:Prop}(h:∃a0 a1 a2 a3 a4 a5 a6,P a0 a1 a2 a3 a4 a5 a6)(k:∀a0 a1 a2 a3 a4 a5 a6,P a0 a1 a2 a3 a4 a5 a6->G):G:=h.elim fun a h=>UD h (k a)
theorem Vy{A0 A1 A2 A3 A4 A5 A6 A7:Sort _}{P:A0->A1->A2->A3->A4->A5->A6->A7->Prop}{G:Prop}(h:∃a0 a1 a2 a3 a4 a5 a6 a7,P a0 a1 a2 a3 a4 a5 a6 a7)(k:∀a0 a1 a2 a3 a4 a5 a6 a7,P a0 a1 a2 a3 a4 a5 a6 a7->G):G:=h.elim fun a h=>VE h (k a)
theorem BL{A0 A1 G:Prop}(h:A0∧A1)(k:A0->A1->G):G:=k h.1 h.2
theorem CZ{A0 A1 A2 G:Prop}(h:A0∧A1∧A2)(k:A0->A1->A2->G):G:=BL h.2 (k h.1)
theorem JX{A0 A1 A2 A3 G:Prop}(h:A0∧A1∧A2∧A3)(k:A0->A1->A2->A3->G):G:=CZ h.2 (k h.1)
theorem JY{A0 A1 A2 A3 A4 G:Prop}(h:A0∧A1∧A2∧A3∧A4)(k:A0->A1->A2->A3->A4->G):G:=JX h.2 (k h.1)
theorem Tt{A0 A1 A2 A3 A4 A5 G:Prop}(h:A0∧A1∧A2∧A3∧A4∧A5)(k:A0->A1->A2->A3->A4->A5->G):G:=JY h.2 (k h.1)
theorem Ad{A0:Sort _}{P0 P1:A0->Prop}{G:Prop}(h:∃a0,P0 a0∧P1 a0)(k:∀a0,P0 a0->P1 a0->G):G:=h.elim fun a0 h=>BL h (k a0)
theorem Bh{A0 A1:Sort _}{P0 P1 P2:A0->A1->Prop}{G:Prop}(h:∃a0 a1,P0 a0 a1∧P1 a0 a1∧P2 a0 a1)(k:∀a0 a1,P0 a0 a1->P1 a0 a1->P2 a0 a1->G):G:=ex2 h fun a0 a1 h=>CZ h (k a0 a1)
theorem B8{A0 A1:Sort _}{P0 P1:A0->A1->Prop}{G:Prop}(h:∃a0 a1,P0 a0 a1∧P1 a0 a1)(k:∀a0 a1,P0 a0 a1->P1 a0 a1->G):G:=ex2 h fun a0 a1 h=>BL h (k a0 a1)
theorem Dz{A0:Sort _}{P0 P1 P2:A0->Prop}{G:Prop}(h:∃a0,P0 a0∧P1 a0∧P2 a0)(k:∀a0,P0 a0->P1 a0->P2 a0->G):G:=h.elim fun a0 h=>CZ h (k a0)
theorem FH{A0 A1 A2:Sort _}{P0 P1:A0->A1->A2->Prop}{G:Prop}(h:∃a0 a1 a2,P0 a0 a1 a2∧P1 a0 a1 a2)(k:∀a0 a1 a2,P0 a0 a1 a2->P1 a0 a1 a2->G):G:=PW h fun a0 a1 a2 h=>BL h (k a0 a1 a2)
theorem GQ{A0 A1 A2:Sort _}{P0 P1 P2 P3:A0->A1->A2->Prop}{G:Prop}(h:∃a0 a1 a2,P0 a0 a1 a2∧P1 a0 a1 a2∧P2 a0 a1 a2∧P3 a0 a1 a2)(k:∀a0 a1 a2,P0 a0 a1 a2->P1 a0 a1 a2->P2 a0 a1 a2->P3 a0 a1 a2->G):G:=PW h fun a0 a1 a2 h=>JX h (k a0 a1 a2)
theorem KT{A0 A1 A2 A3:Sort _}{P0 P1 P2:A0->A1->A2->A3->Prop}{G:Prop}(h:∃a0 a1 a2 a3,P0 a0 a1 a2 a3∧P1 a0 a1 a2 a3∧P2 a0 a1 a2 a3)(k:∀a0 a1 a2 a3,P0 a0 a1 a2 a3->P1 a0 a1 a2 a3->P2 a0 a1 a2 a3->G):G:=OJ h fun a0 a1 a2 a3 h=>CZ h (k a0 a1 a2 a3)
theorem OK{A0 A1:Sort _}{P0 P1 P2 P3 P4 P5:A0->A1->Prop}{G:Prop}(h:∃a0 a1,P0 a0 a1∧P1 a0 a1∧P2 a0 a1∧P3 a0 a1∧P4 a0 a1∧P5 a0 a1)(k:∀a0 a1,P0 a0 a1->P1 a0 a1->P2 a0 a1->P3 a0 a1->P4 a0 a1->P5 a0 a1->G):G:=ex2 h fun a0 a1 h=>Tt h (k a0 a1)
theorem E4{α:Type u}{a:α}{P:Prop}(h:some a=none):P:=nomatch h
theorem CE{α:Type u}{a:α}{P:Prop}(h:none=some a):P:=nomatch h
theorem E3{P:Prop}(h:true=false):P:=nomatch h
theorem EP{P:Prop}(h:false=true):P:=nomatch h
theorem Vz{α:Type u}{a:α}{l:List α}{P:Prop}(h:[]=a::l):P:=nomatch h
theorem VA{α:Type u}{a:α}{l:List α}{P:Prop}(h:a::l=[]):P:=nomatch h
theorem BK{α:Type u}{a:α}{P:Prop}(h:a∈([]:List α)):P:=nomatch h
theorem UG{n:Nat}{P:Prop}(h:0=n+1):P:=nomatch h
theorem Vj{n:Nat}{P:Prop}(h:n+1=0):P:=nomatch h
theorem ML{v:Value}{P:Prop}(h:Flow.next=.ret v):P:=nomatch h
theorem PX{v:Value}{P:Prop}(h:Flow.ret v=.next):P:=nomatch h
theorem GR{α:Type}(f:α->Nat){a b:α}{P:Prop}(h:a=b)(e:Nat.beq (f a) (f b)=false):P:=E3 ((Nat.beq_refl _).symm.trans ((congrArg (fun x=>Nat.beq (f a) (f x)) h).trans e))
theorem Vk{a i k:Nat}(e:a - i=k)(h:i<a):a - (i+1)<k:=e▸sub_succ_lt_self a i h
theorem VB{a:Nat}(h:0<a):((-1:Int)+a).toNat=a - 1:=by
 cases a with
 |zero=>exact absurd h (lt_irrefl 0)
 |succ b=>
  show((-1:Int)+((b:Int)+1)).toNat=b;rw[Int.add_comm (b:Int),Int.neg_add_cancel_left];rfl
theorem VF{k L:Nat}(h:k<L):(-(k:Int) - 1+L)=((L - 1 - k:Nat):Int):=by
 obtain⟨m,rfl⟩:=Nat.exists_eq_add_of_lt h;rw[Nat.add_sub_cancel,Nat.add_sub_cancel_left];show -(k:Int) - 1+((k:Int)+m+1)=m;rw[Int.sub_eq_add_neg,Int.add_assoc,Int.add_comm _ (1:Int),Int.neg_add_cancel_left,Int.neg_add_cancel_left]
theorem VC{k L:Nat}(h:k<L):L - 1 - k<L:=lt_of_le_of_lt (sub_le _ _) (Nat.sub_lt (Nat.zero_lt_of_lt h) Nat.one_pos)
theorem UH{n:Nat}(h:n≤1000000):(n:Int)<2 ^ 63:=Int.lt_of_le_of_lt (Int.ofNat_le.mpr h) (by decide)
theorem TP(i:Nat):(1+(i:Int) - 1)=i:=by rw[Int.add_comm,Int.add_sub_cancel]
theorem UI{m c N l:Nat}(e:m+c=N)(h:c+l≤N):l≤m:=Nat.le_of_add_le_add_left (a:=c) (by rw[add_comm c m,e];exact h)
theorem Vl{m c N l:Nat}(e:m+c=N)(h:c+l≤N)(p:0<l):m - l<m:=Nat.sub_lt (lt_of_lt_of_le p (UI e h)) p
theorem Vm{m c N l:Nat}(e:m+c=N)(h:c+l≤N):m - l+(c+l)=N:=by rw[add_comm c l,←add_assoc,Nat.sub_add_cancel (UI e h),e]
theorem UJ{n:Nat}:((n:Int)<8)↔n<8:=Int.ofNat_lt (n:=n) (m:=8)
theorem TQ{m:Int}(h:m<4):m<64:=Int.lt_trans h (by decide)
theorem Vn(n:Nat):(-1+((n:Int)+1))=n:=by rw[Int.add_comm (n:Int),Int.neg_add_cancel_left]
theorem MM{n:Nat}(h:n≤sizeLine):(n:Int)<2 ^ 63:=Int.lt_of_le_of_lt (Int.ofNat_le.mpr h) (by decide +kernel)
theorem TR{a n m l:Nat}(h:a+8*(n+1)+200<l)(hm:m≤8):a+m+8*n+200<l:=by
 refine lt_of_le_of_lt (Nat.add_le_add_right ?_ _) h;rw[add_assoc,Nat.mul_succ,add_comm m];exact add_le_add_left (add_le_add_left hm _) _
theorem Vo{a b l k:Nat}(h:a+b+200<l)(hk:k≤200):a+k<l:=lt_of_le_of_lt (add_le_add (le_add_right _ _) hk) h
theorem R5{i n:Nat}(h:i≤n)(q:¬i<n):i=n:=le_antisymm h (Nat.not_lt.mp q)
theorem R6{c k x:Nat}(e:c=k+1)(h:x<k):x<c:=e▸lt_succ_of_lt h
theorem Vp(i:Nat):(0:Int)≤0+(i:Int):=by rw[Int.zero_add];exact Int.natCast_nonneg i
theorem Vq(i:Nat):(0+(i:Int)).toNat=i:=by rw[Int.zero_add];rfl
def Cf{α:Type}(a b:List α):Prop:=∀x∈a,x∈b
abbrev Ext(h h':Heap):Prop:=∀b o,h.get? b=some o->h'.get? b=some o
noncomputable abbrev vis (h:Heap) (zy:List Addr):Heap:=hideAll h zy
abbrev CO:Value->Shared->Prop:=fun Z Z=>False
theorem Tu{α:Type}{M:Model}{A:Around}{x:Sem α}{Q:α->Shared->Prop}{E:Value->Shared->Prop}{s:Shared}(h:∀Q':α->Shared->Prop,(∀a s',Q a s'->Q' a s')->∀E':Value->Shared->Prop,(∀e s',E e s'->E' e s')->wpAny M A x Q' E' s):wpAny M A x Q E s:=
 h Q (fun Z Z h=>h) E fun Z Z h=>h
theorem J9{α:Type}{l:List α}(h:l.length=2):∃a b,l=[a,b]:=by
 cases l with
 |nil=>exact UG h
 |cons a r=>
  refine ex1 (length_eq_one_iff.mp (Nat.succ.inj h)) fun b x2=>?_;subst x2;exact⟨a,b,rfl⟩
theorem PY{α:Type}{l:List α}(h:l.length=3):∃a b c,l=[a,b,c]:=by
 cases l with
 |nil=>exact UG h
 |cons a r=>
  refine ex2 (J9 (Nat.succ.inj h)) fun b c x3=>?_;subst x3;exact⟨a,b,c,rfl⟩
theorem Ext.refl(h:Heap):Ext h h:=fun Z Z e=>e
theorem Ext.trans{h h' h'':Heap}(x:Ext h h')(y:Ext h' h''):Ext h h'':=fun b o e=>y b o (x b o e)
theorem AQ{h:Heap}{zy:List Addr}{b:Addr}{o:Obj}(e:h.get? b=some o)(n:b∉zy):(vis h zy).get? b=some o:=hideAll_get _ e n
theorem Al{h:Heap}{zy:List Addr}{b:Addr}{o:Obj}(e:(vis h zy).get? b=some o):h.get? b=some o∧b∉zy:=
 ⟨of_hideAll _ e,fun m=>by rw[hideAll_none _ m] at e;exact CE e⟩
theorem AK{h h':Heap}(zy:List Addr)(x:Ext h h'):Ext (vis h zy) (vis h' zy):=fun b o e=>AQ (x b o (Al e).1) (Al e).2
theorem Bp(h:Heap)(zy:List Addr):Ext (vis h zy) h:=fun Z Z e=>(Al e).1
abbrev KeepBut(own:List Addr)(h h':Heap):Prop:=∀b o,b∉own->h.get? b=some o->h'.get? b=some o
theorem AW{own zy:List Addr}{h h':Heap}(hs:Cf own zy)(x:KeepBut own h h'):Ext (vis h zy) (vis h' zy):=
 fun b o e=>AQ (x b o (fun m=>(Al e).2 (hs b m)) (Al e).1) (Al e).2
theorem EQ{zy zy':List Addr}(h:Heap)(hs:Cf zy zy'):Ext (vis h zy') (vis h zy):=
 fun b o e=>AQ (Al e).1 fun m=>(Al e).2 (hs b m)
theorem DQ{own zy:List Addr}{h h':Heap}(x:Ext h h')(hf:∀a∈own,h.get? a=none):Ext (vis h zy) (vis h' (own++zy)):=fun b o e=>
 AQ (x b o (Al e).1) fun m=>by
  rcases Cx m with m|m
  ·have:=(Al e).1;rw[hf b m] at this;exact CE this
  ·exact(Al e).2 m
def Rd(d:PyData)(g:Heap)(v:Value):Prop:=∃as,Reads g v d as
theorem Rd.ext{d:PyData}{g g':Heap}{v:Value}(r:Rd d g v)(x:Ext g g'):Rd d g' v:=let⟨as,r⟩:=r;⟨as,Reads.keeps x r⟩
inductive Ent where
 |d(x:PyData)
 |v(x:Value)
 |p(P:Heap->Value->Prop)(h:∀g g' v,Ext g g'->P g v->P g' v)
noncomputable def Means (g:Heap) (v:Value):Ent->Prop
 |.d x=>Rd x g v
 |.v x=>v=x
 |.p P _=>P g v
theorem Means.ext{g g':Heap}{v:Value}{e:Ent}(r:Means g v e)(x:Ext g g'):Means g' v e:=by
 cases e with
 |d d=>exact Rd.ext r x
 |v u=>exact r
 |p P h=>exact h _ _ _ x r
noncomputable abbrev AN:=List (Str×Ent)
noncomputable abbrev Aw:=List (Addr×Obj)
def MN(zy zy':List Addr)(h:Heap):Prop:=∀b∈zy',b∈zy∨h.get? b=none
def GF(zx zx':Aw)(h:Heap):Prop:=∀p∈zx',p.1∈zx.map (·.1)∨h.get? p.1=none
inductive Pu{α:Type}(s:Shared)(zy:List Addr)(P:Heap->α->Prop)(v:α)(s':Shared):Prop
 |mk:∀h' tk,s'={s with heap:=h',toks:=tk}->Ext s.heap h'->P (vis h' zy) v->Pu s zy P v s'
theorem Pu.trans{α β:Type}{s s₁ s2:Shared}{zy:List Addr}{P:Heap->α->Prop}{P':Heap->β->Prop}{a:α}{b:β}(x:Pu s zy P a s₁)(y:Pu s₁ zy P' b s2):Pu s zy P' b s2:=by
 obtain⟨h₁,t₁,rfl,e1,_⟩:=x;obtain⟨h2,t2,rfl,e2,q⟩:=y;exact⟨h2,t2,rfl,e1.trans e2,q⟩
theorem Pu.mono{α:Type}{s s':Shared}{zy:List Addr}{P P':Heap->α->Prop}{a:α}(x:Pu s zy P a s')(h:∀g,P g a->P' g a):Pu s zy P' a s':=by
 obtain⟨h₁,t₁,rfl,e1,q⟩:=x;exact⟨h₁,t₁,rfl,e1,h _ q⟩
theorem Pu.any{α β:Type}{s s':Shared}{zy:List Addr}{P:Heap->α->Prop}{a:α}{b:β}(x:Pu s zy P a s'):Pu s zy (fun Z Z=>True) b s':=by
 obtain⟨h₁,t₁,rfl,e1,q⟩:=x;exact⟨h₁,t₁,rfl,e1,trivial⟩
theorem Pu.here{α:Type}{s:Shared}{zy:List Addr}{P:Heap->α->Prop}{a:α}(h:P (vis s.heap zy) a):Pu s zy P a s:=⟨s.heap,s.toks,rfl,Ext.refl _,h⟩
theorem Pu.tok{α:Type}{s:Shared}{zy:List Addr}{P:Heap->α->Prop}{a:α}{t:Nat}(h:P (vis s.heap zy) a):Pu s zy P a {s with toks:=t}:=⟨s.heap,t,rfl,Ext.refl _,h⟩
theorem Pu.ext{α:Type}{s s':Shared}{zy:List Addr}{P:Heap->α->Prop}{a:α}(x:Pu s zy P a s'):Ext s.heap s'.heap:=by
 obtain⟨h₁,t₁,rfl,e1,q⟩:=x;exact e1
theorem Pu.val{α:Type}{s s':Shared}{zy:List Addr}{P:Heap->α->Prop}{a:α}(x:Pu s zy P a s'):P (vis s'.heap zy) a:=by
 obtain⟨h₁,t₁,rfl,e1,q⟩:=x;exact q
structure Good(n:Nat)(A:Around):Prop where
 hh:A.handled=none
 dep:A.depth+n<recursionLimit
 unt:A.units+8*n+200<cLine
theorem Good.le{n k:Nat}{A:Around}(g:Good n A)(h:k≤n):Good k A:=⟨g.hh,lt_of_le_of_lt (add_le_add_left h _) g.dep,lt_of_le_of_lt (Nat.add_le_add_right (add_le_add_left (Nat.mul_le_mul_left 8 h) _) _) g.unt⟩
theorem Good.deeper{n:Nat}{A:Around}{zz:Env}(g:Good (n+1) A):Good n (A.deeper zz):=⟨g.hh,by show A.depth+1+n<_;rw[Nat.add_right_comm];exact g.dep,TR (m:=3) g.unt (by decide)⟩
theorem Good.in1{n:Nat}{A:Around}(g:Good (n+1) A):Good n A.in1:=⟨g.hh,by have:=g.dep;show A.depth+n<_;exact le_of_lt this,TR (m:=1) g.unt (by decide)⟩
theorem Good.depth{n:Nat}{A:Around}(g:Good n A):A.depth<recursionLimit:=lt_of_le_of_lt (le_add_right _ _) g.dep
theorem Good.units{n:Nat}{A:Around}(g:Good n A){k:Nat}(hk:k≤200):A.units+k<cLine:=Vo g.unt hk
structure Base(H0:Heap)(zy:List Addr)(h:Heap):Prop where
 base:Ext H0 (vis h zy)
 alive:∀a∈zy,∃o,h.get? a=some o
structure EnvOk(sc:Scope)(zz:Env):Prop where
 scope:zz.scope=sc
 glob:zz.globals=mainGlobals
 bi:zz.builtins=builtinsNs
 fn:sc.kind=.function
 cells:∀x,(sc.names.lookup x=some .cell∨sc.names.lookup x=some .free)->(zz.cells.lookup x).isSome=true
theorem EnvOk.kf{sc:Scope}{zz:Env}(e:EnvOk sc zz):zz.scope.kind=.function:=by rw[e.scope];exact e.fn
theorem EnvOk.kind{sc:Scope}{zz:Env}(e:EnvOk sc zz)(x:Str):zz.kindOf x=sc.names.lookup x:=by rw[Env.kindOf,e.scope]
structure Fm(H0:Heap)(zy:List Addr)(zx:Aw)(zz:Env)(σ:AN)(h:Heap):Prop extends Base H0 zy h where
 loc:zz.locals∈zy
 celh:∀p∈zz.cells,p.2∈zy
 ledh:∀p∈zx,p.1∈zy
 ns:∃m,h.Ns zz.locals m∧∀x e,σ.lookup x=some e->zz.kindOf x=some .local->∃v,m x=some v∧Means (vis h zy) v e
 cell:∀x e,σ.lookup x=some e->(zz.kindOf x=some .cell∨zz.kindOf x=some .free)->∃c v,zz.cells.lookup x=some c∧h.IsCell c (some v)∧Means (vis h zy) v e
 cells:∀p∈zz.cells,∃v,h.IsCell p.2 v
 ledg:∀p∈zx,h.get? p.1=some p.2
 apart:zz.cells.Pairwise fun x y=>x.2≠y.2
 off:∀p∈zz.cells,p.2≠zz.locals
 ledoff:∀p∈zx,p.1≠zz.locals∧∀q∈zz.cells,p.1≠q.2
section
variable{H0:Heap}{zy:List Addr}{zx:Aw}{zz:Env}{σ:AN}{h h':Heap}
theorem Base.ext(F:Base H0 zy h)(x:Ext h h'):Base H0 zy h':=⟨F.base.trans (AK zy x),fun a m=>let⟨o,e⟩:=F.alive a m;⟨o,x a o e⟩⟩
theorem Base.low(F:Base H0 zy h){a:Addr}(m:a∈zy):a<h.objs.size:=let⟨_,e⟩:=F.alive a m;Heap.lt_size e
theorem Base.h0(F:Base H0 zy h):Ext H0 h:=F.base.trans (Bp h zy)
theorem Base.fresh(F:Base H0 zy h):h.objs.size∉zy:=fun m=>lt_irrefl _ (F.low m)
theorem Fm.ext(F:Fm H0 zy zx zz σ h)(x:Ext h h'):Fm H0 zy zx zz σ h' where
 toBase:=F.toBase.ext x
 loc:=F.loc
 celh:=F.celh
 ledh:=F.ledh
 ns:=let⟨m,n,q⟩:=F.ns;⟨m,n.keeps x,fun y e a b=>let⟨v,c,d⟩:=q y e a b;⟨v,c,d.ext (AK zy x)⟩⟩
 cell:=fun y e a b=>let⟨c,v,p,q,r⟩:=F.cell y e a b;⟨c,v,p,q.keeps x,r.ext (AK zy x)⟩
 cells:=fun p m=>let⟨v,c⟩:=F.cells p m;⟨v,c.keeps x⟩
 ledg:=fun p m=>x _ _ (F.ledg p m)
 apart:=F.apart
 off:=F.off
 ledoff:=F.ledoff
end
section
variable(V:Program)(w:World)(H0:Heap)
def EvP(n:Nat)(sc:Scope)(σ:AN)(zx:Aw)(e:Expr)(P:Heap->Value->Prop):Prop:=
 ∀A zz s zy,Good n A->EnvOk sc zz->Fm H0 zy zx zz σ s.heap->wpAny (model V w) A (eval e zz) (Pu s zy P) CO s
def FI(n:Nat)(sc:Scope)(σ:AN)(zx:Aw)(e:Expr)(b:Bool):Prop:=
 ∀A zz s zy,Good n A->EnvOk sc zz->Fm H0 zy zx zz σ s.heap->wpAny (model V w) A (isTrue e zz (eval e zz)) (Pu s zy (fun Z c=>c=b)) CO s
end
section
variable{M:Model}{A:Around}{α:Type}{s:Shared}{zy:List Addr}{P:Heap->α->Prop}
theorem Aq{t:Sem α}{Q:α->Shared->Prop}{E:Value->Shared->Prop}(h:wpAny M A t (Pu s zy P) CO s)(k:∀a s',Pu s zy P a s'->Q a s'):wpAny M A t Q E s:=
 Ah h k fun Z Z f=>f.elim
end
noncomputable def MeansAll (g:Heap):List Value->List Ent->Prop
 |[],[]=>True
 |v::vs,e::es=>Means g v e∧MeansAll g vs es
 |_,_=>False
inductive Ms1(g:Heap)(vs:List Value)(x:Ent):Prop
 |mk:∀u,vs=[u]->Means g u x->Ms1 g vs x
inductive Ms2(g:Heap)(vs:List Value)(x y:Ent):Prop
 |mk:∀u v,vs=[u,v]->Means g u x->Means g v y->Ms2 g vs x y
inductive Ms3(g:Heap)(vs:List Value)(x y z:Ent):Prop
 |mk:∀u v w,vs=[u,v,w]->Means g u x->Means g v y->Means g w z->Ms3 g vs x y z
theorem KU{g:Heap}{vs:List Value}(h:MeansAll g vs []):vs=[]:=by
 cases vs with
 |nil=>rfl
 |cons u r=>exact h.elim
theorem C7{g:Heap}{vs:List Value}{x:Ent}(h:MeansAll g vs [x]):Ms1 g vs x:=by
 cases vs with
 |nil=>exact h.elim
 |cons u r=>exact⟨u,by rw[KU h.2],h.1⟩
theorem GU{g:Heap}{vs:List Value}{x y:Ent}(h:MeansAll g vs [x,y]):Ms2 g vs x y:=by
 cases vs with
 |nil=>exact h.elim
 |cons u r=>
  obtain⟨v,rfl,m⟩:=C7 h.2;exact⟨u,v,rfl,h.1,m⟩
theorem TS{g:Heap}{vs:List Value}{x y z:Ent}(h:MeansAll g vs [x,y,z]):Ms3 g vs x y z:=by
 cases vs with
 |nil=>exact h.elim
 |cons u r=>
  obtain⟨v,w,rfl,m,m'⟩:=GU h.2;exact⟨u,v,w,rfl,h.1,m,m'⟩
theorem MeansAll.ext{g g':Heap}(x:Ext g g'):∀{vs:List Value} {es:List Ent},MeansAll g vs es->MeansAll g' vs es
 |[],[],_=>trivial
 |_::_,_::_,⟨a,b⟩=>⟨a.ext x,MeansAll.ext x b⟩
 |[],_::_,h=>h.elim
 |_::_,[],h=>h.elim
variable{V:Program}{w:World}{H0:Heap}{n:Nat}{sc:Scope}{σ:AN}{zx:Aw}
abbrev Am(V:Program)(w:World)(H0:Heap)(n:Nat)(sc:Scope)(σ:AN)(zx:Aw)(e:Expr)(x:Ent):Prop:=EvP V w H0 n sc σ zx e (fun g v=>Means g v x)
theorem EvP.mono{e:Expr}{P P':Heap->Value->Prop}(h:EvP V w H0 n sc σ zx e P)(k:∀g v,P g v->P' g v):EvP V w H0 n sc σ zx e P':=
 fun A zz s zy g o F=>Aq (h A zz s zy g o F) fun Z Z q=>q.mono fun Z=>k _ _
theorem R7{x:Str}{pos:Pos}{e:Ent}(hs:σ.lookup x=some e)(hx:sc.names.lookup x=some .local∨sc.names.lookup x=some .cell∨sc.names.lookup x=some .free)
  (hd:(x==("__debug__":Str))=false)(hn:(x==("__classdict__":Str))=false):Am V w H0 n sc σ zx (.Name x pos) e:=by
 intro A zz s zy g o F;have hkf:=o.kf;refine wpAny_Name ?_ hd;rcases hx with hx|hx|hx
 ·refine Ad F.ns fun m hm q=>?_
  refine Ad (q x e hs (by rw[o.kind];exact hx)) fun v a b=>?_;exact wpAny_loadName_local hkf (by rw[o.kind];exact hx) hm a (Pu.here b)
 ·refine Bh (F.cell x e hs (by rw[o.kind];exact .inl hx)) fun c v a b d=>?_
  exact wpAny_loadName_cell hkf (by rw[o.kind];exact hx) a b (Pu.here d)
 ·refine Bh (F.cell x e hs (by rw[o.kind];exact .inr hx)) fun c v a b d=>?_
  exact wpAny_loadName_free hkf (by rw[o.kind];exact hx) a b (Pu.here d) hn
inductive GIs(H0:Heap)(x:Str)(v:Value):Prop
 |mk:∀mg,H0.Ns mainGlobals mg->(mg x=some v∨(mg x=none∧∃mb,H0.Ns builtinsNs mb∧mb x=some v))->GIs H0 x v
theorem R8{x:Str}{pos:Pos}{v:Value}(hg:GIs H0 x v)(hx:sc.names.lookup x=some .globalImplicit)
  (hd:(x==("__debug__":Str))=false):Am V w H0 n sc σ zx (.Name x pos) (.v v):=by
 intro A zz s zy g o F;have hkf:=o.kf;obtain⟨mg,h1,h2⟩:=hg;have h1':s.heap.Ns zz.globals mg:=by rw[o.glob];exact h1.keeps F.toBase.h0
 refine Name_function_global hkf (by rw[o.kind];exact hx) ?_ hd;rcases h2 with h2|⟨h2,mb,h3,h4⟩
 ·exact loadGlobal_global h1' h2 (Pu.here rfl)
 ·exact loadGlobal_builtin h1' h2 (by rw[o.bi];exact h3.keeps F.toBase.h0) h4 (Pu.here rfl)
theorem Ao{i:Int}{k:Nat}{pos:Pos}:Am V w H0 n sc σ zx (.Constant (.int i) k pos) (.d (.int i)):=
 fun Z Z Z Z Z Z Z=>wpAny_Constant_int (Pu.tok ⟨[],.int _ _⟩)
theorem Bz{x:Str}{k:Nat}{pos:Pos}:Am V w H0 n sc σ zx (.Constant (.str x) k pos) (.d (.str x)):=
 fun Z Z Z Z Z Z Z=>Constant_str (Pu.tok ⟨[],.str _ _⟩)
theorem BV{k:Nat}{pos:Pos}:Am V w H0 n sc σ zx (.Constant .none k pos) (.d .none):=
 fun Z Z Z Z Z Z Z=>Ag (Pu.here ⟨[],.none⟩)
theorem KV{b:Bool}{k:Nat}{pos:Pos}:Am V w H0 n sc σ zx (.Constant (.bool b) k pos) (.d (.bool b)):=
 fun Z Z Z Z Z Z Z=>Ag (Pu.here ⟨[],.bool _⟩)
def Bm(V:Program)(w:World)(H0:Heap)(n:Nat)(f:Value->Value->Sem Value)(x y:Ent)(P:Heap->Value->Prop):Prop:=
 ∀A s zy a b,Good n A->Base H0 zy s.heap->Means (vis s.heap zy) a x->Means (vis s.heap zy) b y->wpAny (model V w) A (f a b) (Pu s zy P) CO s
theorem AO{l r:Expr}{op:Operator}{pos:Pos}{x y:Ent}{P:Heap->Value->Prop}(hl:Am V w H0 n sc σ zx l x)(hr:Am V w H0 n sc σ zx r y)(ho:Bm V w H0 n (binaryOp op) x y P):
  EvP V w H0 n sc σ zx (.BinOp l op r pos) P:=by
 intro A zz s zy g o F;refine wpAny_BinOp (Aq (hl A zz s zy g o F) fun a s₁ q1=>?_);have F1:=F.ext q1.ext;refine Aq (hr A zz s₁ zy g o F1) fun b s2 q2=>?_;refine Aq (ho A s2 zy a b g (F1.ext q2.ext).toBase (q1.val.ext (AK zy q2.ext)) q2.val) fun Z Z q3=>(q1.trans q2).trans q3
theorem DX{l r:Expr}{op:CmpOp}{pos:Pos}{x y:Ent}{P:Heap->Value->Prop}(hl:Am V w H0 n sc σ zx l x)(hr:Am V w H0 n sc σ zx r y)(ho:Bm V w H0 n (compareOp op) x y P)
  (hm:behindInMarks op r=false):EvP V w H0 n sc σ zx (.Compare l [op] [r] pos) P:=by
 intro A zz s zy g o F;refine wpAny_Compare1 (Aq (hl A zz s zy g o F) fun a s₁ q1=>?_) hm;have F1:=F.ext q1.ext;refine Aq (hr A zz s₁ zy g o F1) fun b s2 q2=>?_;refine Aq (ho A s2 zy a b g (F1.ext q2.ext).toBase (q1.val.ext (AK zy q2.ext)) q2.val) fun Z Z q3=>(q1.trans q2).trans q3
theorem Ar{l r:Expr}{op:CmpOp}{pos:Pos}{x y:Ent}{b:Bool}(hl:Am V w H0 n sc σ zx l x)(hr:Am V w H0 n sc σ zx r y)(ho:Bm V w H0 n (compareOp op) x y (Rd (.bool b)))
  (hm:behindInMarks op r=false):FI V w H0 n sc σ zx (.Compare l [op] [r] pos) b:=by
 intro A zz s zy g o F;refine wpAny_isTrue_Compare1 (Aq (hl A zz s zy g o F) fun a s₁ q1=>?_) hm;have F1:=F.ext q1.ext;refine Aq (hr A zz s₁ zy g o F1) fun c s2 q2=>?_;refine Aq (ho A s2 zy a c g (F1.ext q2.ext).toBase (q1.val.ext (AK zy q2.ext)) q2.val) fun v s3 q3=>?_;refine ex1 q3.val fun as hv=>?_;cases hv;exact wpAny_truthy_bool (((q1.trans q2).trans q3).trans (Pu.here rfl))
def MO(V:Program)(w:World)(H0:Heap)(n:Nat)(x:Ent)(b:Bool):Prop:=
 ∀A s zy a,Good n A->Base H0 zy s.heap->Means (vis s.heap zy) a x->wpAny (model V w) A (truthy a) (Pu s zy (fun Z c=>c=b)) CO s
theorem IN{b:Bool}:MO V w H0 n (.d (.bool b)) b:=by
 intro A s zy a g B ⟨as,r⟩;cases r;exact wpAny_truthy_bool (Pu.here rfl)
theorem CQ{e:Expr}{x:Ent}{b:Bool}(h:Am V w H0 n sc σ zx e x)(ht:MO V w H0 n x b)
  (hp:∀zz whole,PySem.isTrue e zz whole=(do let v ←whole;standAt e.pos;holding [v] (truthy v))):FI V w H0 n sc σ zx e b:=by
 intro A zz s zy g o F;refine isTrue_plain (Aq (h A zz s zy g o F) fun v s₁ q1=>?_) (hp _ _);exact Aq (ht A s₁ zy v g (F.ext q1.ext).toBase q1.val) fun Z Z q2=>q1.trans q2
theorem GV{e:Expr}{pos:Pos}{b:Bool}(h:FI V w H0 n sc σ zx e b):FI V w H0 n sc σ zx (.UnaryOp .Not e pos) (!b):=by
 intro A zz s zy g o F;show wpAny _ A (do return !(←isTrue e zz (eval e zz))) _ _ s;exact Ac (Aq (h A zz s zy g o F) fun c s₁ q1=>Ag (q1.trans (Pu.here (by rw[q1.val]))))
def LM(V:Program)(w:World)(H0:Heap)(n:Nat)(sc:Scope)(σ:AN)(zx:Aw)(op:BoolOp)(es:List Expr)(b:Bool):Prop:=
 ∀A zz s zy,Good n A->EnvOk sc zz->Fm H0 zy zx zz σ s.heap->wpAny (model V w) A (allTrue op es zz) (Pu s zy (fun Z c=>c=b)) CO s
theorem AH{op:BoolOp}{es:List Expr}{pos:Pos}{b:Bool}(h:LM V w H0 n sc σ zx op es b):FI V w H0 n sc σ zx (.BoolOp op es pos) b:=
 fun A zz s zy g o F=>h A zz s zy g o F
theorem N3{op:BoolOp}:LM V w H0 n sc σ zx op [] (op==.And):=fun A zz s zy g o F=>Ag (Pu.here rfl)
theorem BH{e:Expr}{es:List Expr}{a b:Bool}(h:FI V w H0 n sc σ zx e a)(hr:a=true->LM V w H0 n sc σ zx .And es b):LM V w H0 n sc σ zx .And (e::es) (a && b):=by
 intro A zz s zy g o F;show wpAny _ A (isTrue e zz (eval e zz) >>=fun t=>match BoolOp.And,t with|.And,false=>pure false|.Or,true=>pure true|_,_=>allTrue .And es zz) _ _ s;refine Ac (Aq (h A zz s zy g o F) fun c s₁ q1=>?_);have e1:=q1.val;subst e1;cases c with
 |false=>exact Ag (q1.trans (Pu.here rfl))
 |true=>exact Aq (hr rfl A zz s₁ zy g o (F.ext q1.ext)) fun Z Z q2=>q1.trans (q2.mono fun Z e=>by rw[e];rfl)
theorem DB{e:Expr}{es:List Expr}{a b:Bool}(h:FI V w H0 n sc σ zx e a)(hr:a=false->LM V w H0 n sc σ zx .Or es b):LM V w H0 n sc σ zx .Or (e::es) (a ||b):=by
 intro A zz s zy g o F;show wpAny _ A (isTrue e zz (eval e zz) >>=fun t=>match BoolOp.Or,t with|.And,false=>pure false|.Or,true=>pure true|_,_=>allTrue .Or es zz) _ _ s;refine Ac (Aq (h A zz s zy g o F) fun c s₁ q1=>?_);have e1:=q1.val;subst e1;cases c with
 |true=>exact Ag (q1.trans (Pu.here rfl))
 |false=>exact Aq (hr rfl A zz s₁ zy g o (F.ext q1.ext)) fun Z Z q2=>q1.trans (q2.mono fun Z e=>by rw[e];rfl)
def OL(V:Program)(w:World)(H0:Heap)(n:Nat)(sc:Scope)(σ:AN)(zx:Aw)(pos:Pos)(op:BoolOp)(es:List Expr)(x:Ent):Prop:=
 ∀A zz s zy,Good n A->EnvOk sc zz->Fm H0 zy zx zz σ s.heap->wpAny (model V w) A (boolOp pos op (evalEach es zz)) (Pu s zy (fun g v=>Means g v x)) CO s
theorem Ci{op:BoolOp}{es:List Expr}{pos:Pos}{x:Ent}(h:OL V w H0 n sc σ zx pos op es x):Am V w H0 n sc σ zx (.BoolOp op es pos) x:=
 fun A zz s zy g o F=>h A zz s zy g o F
theorem Ez{op:BoolOp}{e:Expr}{pos:Pos}{x:Ent}(h:Am V w H0 n sc σ zx e x):OL V w H0 n sc σ zx pos op [e] x:=
 fun A zz s zy g o F=>h A zz s zy g o F
theorem E5{e e':Expr}{es:List Expr}{pos:Pos}{a b:Bool}(h:Am V w H0 n sc σ zx e (.d (.bool a)))(hr:a=true->OL V w H0 n sc σ zx pos .And (e'::es) (.d (.bool b))):
  OL V w H0 n sc σ zx pos .And (e::e'::es) (.d (.bool (a && b))):=by
 intro A zz s zy g o F;show wpAny _ A (eval e zz >>=fun v=>standAt pos >>=fun Z=>holding [v] (truthy v) >>=fun t=>match BoolOp.And,t with|.And,false=>pure v|.Or,true=>pure v|_,_=>boolOp pos .And (evalEach (e'::es) zz)) _ _ s;refine Ac (Aq (h A zz s zy g o F) fun v s₁ q1=>Ac (wpAny_standAt (Ac (wpAny_holding ?_))));refine ex1 q1.val fun as hv=>?_;cases hv;refine wpAny_truthy_bool ?_;cases a with
 |false=>exact Ag q1
 |true=>exact Aq (hr rfl A zz s₁ zy g o (F.ext q1.ext)) fun Z Z q2=>q1.trans q2
theorem I9{e e':Expr}{es:List Expr}{pos:Pos}{a b:Bool}(h:Am V w H0 n sc σ zx e (.d (.bool a)))(hr:a=false->OL V w H0 n sc σ zx pos .Or (e'::es) (.d (.bool b))):
  OL V w H0 n sc σ zx pos .Or (e::e'::es) (.d (.bool (a ||b))):=by
 intro A zz s zy g o F;show wpAny _ A (eval e zz >>=fun v=>standAt pos >>=fun Z=>holding [v] (truthy v) >>=fun t=>match BoolOp.Or,t with|.And,false=>pure v|.Or,true=>pure v|_,_=>boolOp pos .Or (evalEach (e'::es) zz)) _ _ s;refine Ac (Aq (h A zz s zy g o F) fun v s₁ q1=>Ac (wpAny_standAt (Ac (wpAny_holding ?_))));refine ex1 q1.val fun as hv=>?_;cases hv;refine wpAny_truthy_bool ?_;cases a with
 |true=>exact Ag q1
 |false=>exact Aq (hr rfl A zz s₁ zy g o (F.ext q1.ext)) fun Z Z q2=>q1.trans q2
theorem UK{t b c:Expr}{pos:Pos}{p:Bool}{P:Heap->Value->Prop}(h:FI V w H0 n sc σ zx t p)(h1:p=true->EvP V w H0 n sc σ zx b P)(h2:p=false->EvP V w H0 n sc σ zx c P):
  EvP V w H0 n sc σ zx (.IfExp t b c pos) P:=by
 intro A zz s zy g o F;show wpAny _ A (isTrue t zz (eval t zz) >>=fun x=>if x=true then eval b zz else eval c zz) _ _ s;refine Ac (Aq (h A zz s zy g o F) fun x s₁ q1=>?_);have e1:=q1.val;subst e1;cases x with
 |true=>exact Aq (h1 rfl A zz s₁ zy g o (F.ext q1.ext)) fun Z Z q2=>q1.trans q2
 |false=>exact Aq (h2 rfl A zz s₁ zy g o (F.ext q1.ext)) fun Z Z q2=>q1.trans q2
theorem EH{t b c:Expr}{pos:Pos}{p:Bool}{x y:PyData}(h:FI V w H0 n sc σ zx t p)(h1:p=true->Am V w H0 n sc σ zx b (.d x))(h2:p=false->Am V w H0 n sc σ zx c (.d y)):
  Am V w H0 n sc σ zx (.IfExp t b c pos) (.d (if p then x else y)):=
 UK h (fun e=>by subst e;exact h1 rfl) (fun e=>by subst e;exact h2 rfl)
def Ey(V:Program)(w:World)(H0:Heap)(n:Nat)(sc:Scope)(σ:AN)(zx:Aw)(pos:Pos)(es:List Expr)(xs:List Ent):Prop:=
 ∀A zz s zy,Good n A->EnvOk sc zz->Fm H0 zy zx zz σ s.heap->wpAny (model V w) A (spliced (backTo pos (starEach es zz))) (Pu s zy (fun g vs=>MeansAll g vs xs)) CO s
theorem Bc{pos:Pos}:Ey V w H0 n sc σ zx pos [] []:=fun A zz s zy g o F=>spliced_nil (Pu.here trivial)
theorem BM{pos:Pos}{e:Expr}{es:List Expr}{x:Ent}{xs:List Ent}(h:Am V w H0 n sc σ zx e x)(hs:Ey V w H0 n sc σ zx pos es xs)
  (hb:∀zz,backTo pos (starEach (e::es) zz)=(false,eval e zz)::backTo pos (starEach es zz)):Ey V w H0 n sc σ zx pos (e::es) (x::xs):=by
 intro A zz s zy g o F;rw[hb];refine spliced_cons (Aq (h A zz s zy g o F) fun v s₁ q1=>?_);exact Aq (hs A zz s₁ zy g o (F.ext q1.ext)) fun vs s2 q2=>(q1.trans q2).trans (Pu.here ⟨q1.val.ext (AK zy q2.ext),q2.val⟩)
inductive F2{α β:Type}(R:α->β->Prop):List α->List β->Prop
 |nil:F2 R [] []
 |cons {a b as bs}:R a b->F2 R as bs->F2 R (a::as) (b::bs)
namespace F2
variable{α β:Type}{R R':α->β->Prop}
theorem length{as:List α}{bs:List β}(h:F2 R as bs):as.length=bs.length:=by
 induction h with
 |nil=>rfl
 |cons _ _ ih=>exact congrArg Nat.succ ih
theorem imp(k:∀a b,R a b->R' a b){as:List α}{bs:List β}(h:F2 R as bs):F2 R' as bs:=by
 induction h with
 |nil=>exact .nil
 |cons a _ ih=>exact .cons (k _ _ a) ih
theorem append{as as':List α}{bs bs':List β}(h:F2 R as bs)(h':F2 R as' bs'):F2 R (as++as') (bs++bs'):=by
 induction h with
 |nil=>exact h'
 |cons a _ ih=>exact .cons a ih
theorem drop{as:List α}{bs:List β}(h:F2 R as bs):∀k,F2 R (as.drop k) (bs.drop k):=by
 induction h with
 |nil=>intro k;rw[List.drop_nil,List.drop_nil];exact .nil
 |cons a r ih=>
  intro k;cases k with
  |zero=>exact .cons a r
  |succ k=>exact ih k
theorem take{as:List α}{bs:List β}(h:F2 R as bs):∀k,F2 R (as.take k) (bs.take k):=by
 induction h with
 |nil=>intro k;rw[List.take_nil,List.take_nil];exact .nil
 |cons a r ih=>
  intro k;cases k with
  |zero=>exact .nil
  |succ k=>exact .cons a (ih k)
theorem flip{as:List α}{bs:List β}(h:F2 R as bs):F2 (fun b a=>R a b) bs as:=by
 induction h with
 |nil=>exact .nil
 |cons a _ ih=>exact .cons a ih
theorem get{as:List α}{bs:List β}(h:F2 R as bs):∀{i:Nat} {b:β},bs[i]? =some b->∃a,as[i]? =some a∧R a b:=by
 induction h with
 |nil=>intro i b e;exact CE e
 |cons a r ih=>
  intro i b e;cases i with
  |zero=>cases e;exact⟨_,rfl,a⟩
  |succ i=>exact ih e
theorem get'{as:List α}{bs:List β}(h:F2 R as bs){i:Nat}{a:α}(e:as[i]? =some a):∃b,bs[i]? =some b∧R a b:=h.flip.get e
end F2
theorem Ir{g:Heap}{vs:List Value}{ds:List PyData}{as:List Addr}(r:ReadsAll g vs ds as):F2 (fun v d=>Rd d g v) vs ds:=by
 induction ds generalizing vs as with
 |nil=>cases r;exact .nil
 |cons d ds ih=>
  cases r with
  |cons a b=>exact .cons ⟨_,a⟩ (ih b)
theorem It{g:Heap}{vs:List Value}{ds:List PyData}(h:F2 (fun v d=>Rd d g v) vs ds):∃as,ReadsAll g vs ds as:=by
 induction h with
 |nil=>exact⟨_,.nil⟩
 |cons a _ ih=>
  refine ex1 a fun Z r=>?_;refine ex1 ih fun Z q=>?_;exact⟨_,.cons r q⟩
theorem FN{g:Heap}{vs:List Value}{ds:List PyData}(h:MeansAll g vs (ds.map .d)):F2 (fun v d=>Rd d g v) vs ds:=by
 induction ds generalizing vs with
 |nil=>rw[KU h];exact .nil
 |cons d ds ih=>
  cases vs with
  |nil=>exact h.elim
  |cons v vs=>exact .cons h.1 (ih h.2)
theorem CG{g:Heap}{v:Value}{ds:List PyData}(r:Rd (.list ds) g v):∃a vs,v=.ref a∧g.IsList a (toArray vs)∧F2 (fun v d=>Rd d g v) vs ds:=by
 refine ex1 r fun as x2=>?_;revert x2;intro r;cases r with
 |@list a o vs n _ as ho hc hd hr=>exact⟨a,vs.toList,rfl,⟨o,ho,hc,n,by assumption⟩,Ir hr⟩
theorem D9{g:Heap}{a:Addr}{vs:List Value}{ds:List PyData}(hl:g.IsList a vs.toArray)(h:F2 (fun v d=>Rd d g v) vs ds):Rd (.list ds) g (.ref a):=by
 obtain⟨o,ho,hc,n,hd⟩:=hl;refine ex1 (It h) fun as hr=>?_;exact⟨_,.list ho hc hd (by assumption)⟩
theorem FO{g:Heap}{v:Value}{ds:List PyData}(r:Rd (.tuple ds) g v):∃a vs,v=.ref a∧IsTup g a (toArray vs)∧F2 (fun v d=>Rd d g v) vs ds:=by
 refine ex1 r fun as x2=>?_;revert x2;intro r;cases r with
 |@tuple a o vs n _ as ho hc hd hr=>exact⟨a,vs.toList,rfl,⟨o,ho,hc,n,by assumption⟩,Ir hr⟩
theorem Hj{g:Heap}{a:Addr}{vs:List Value}{ds:List PyData}(hl:IsTup g a vs.toArray)(h:F2 (fun v d=>Rd d g v) vs ds):Rd (.tuple ds) g (.ref a):=by
 obtain⟨o,ho,hc,n,hd⟩:=hl;refine ex1 (It h) fun as hr=>?_;exact⟨_,.tuple ho hc hd (by assumption)⟩
theorem Ax{g:Heap}{v:Value}{i:Int}(r:Rd (.int i) g v):∃t,v=.int i t:=by refine ex1 r fun as x2=>?_;revert x2;intro r;cases r;exact⟨_,rfl⟩
theorem AR{g:Heap}{v:Value}{x:Str}(r:Rd (.str x) g v):∃t,v=.str x t:=by refine ex1 r fun as x2=>?_;revert x2;intro r;cases r;exact⟨_,rfl⟩
theorem E6{g:Heap}{v:Value}{x:Bool}(r:Rd (.bool x) g v):v=.bool x:=by refine ex1 r fun as x2=>?_;revert x2;intro r;cases r;rfl
theorem C0{g:Heap}{v:Value}(r:Rd .none g v):v=.none:=by refine ex1 r fun as x2=>?_;revert x2;intro r;cases r;rfl
theorem BN(g:Heap)(i:Int)(t:Tok):Rd (.int i) g (.int i t):=⟨[],.int _ _⟩
theorem BO(g:Heap)(i:Str)(t:Tok):Rd (.str i) g (.str i t):=⟨[],.str _ _⟩
theorem BB(g:Heap)(i:Bool):Rd (.bool i) g (.bool i):=⟨[],.bool _⟩
theorem Bq{g h:Heap}{a:Addr}{x:Array Value}(e:Ext g h)(i:g.IsList a x):h.IsList a x:=let⟨o,ho,r⟩:=i;⟨o,e _ _ ho,r⟩
theorem Ef{g h:Heap}{a:Addr}{x:Array Value}(e:Ext g h)(i:IsTup g a x):IsTup h a x:=let⟨o,ho,r⟩:=i;⟨o,e _ _ ho,r⟩
theorem An(h:Heap)(o:Obj):Ext h (h.push o):=fun Z Z e=>Heap.get?_push_of_some _ e
theorem De{H0 h:Heap}{zy:List Addr}(B:Base H0 zy h)(o:Obj)(hf:o.isFreed=false:=by rfl):(vis (h.push o) zy).get? h.objs.size=some o:=
 AQ (Heap.get?_push_size _ hf) B.fresh
theorem Ka{A:Around}{s:Shared}{zy:List Addr}{vs:List Value}{ds:List PyData}(B:Base H0 zy s.heap)(h:F2 (fun v d=>Rd d (vis s.heap zy) v) vs ds)(hz:ds.length≤sizeLine):
  wpAny (model V w) A (newList vs) (Pu s zy (Rd (.list ds))) CO s:=by
 refine wpAny_newObj_type ⟨_,_,rfl,An _ _,?_⟩ (by show vs.toArray.size≤sizeLine;rw[size_toArray,h.length];exact hz);exact D9 ⟨_,De B _,rfl,0,rfl⟩ (h.imp fun Z Z r=>r.ext (AK zy (An _ _)))
theorem Ja{A:Around}{s:Shared}{zy:List Addr}{vs:List Value}{ds:List PyData}(B:Base H0 zy s.heap)(h:F2 (fun v d=>Rd d (vis s.heap zy) v) vs ds)(hz:ds.length≤sizeLine):
  wpAny (model V w) A (newTuple vs) (Pu s zy (Rd (.tuple ds))) CO s:=by
 refine wpAny_newObj_type ⟨_,_,rfl,An _ _,?_⟩ (by show vs.toArray.size≤sizeLine;rw[size_toArray,h.length];exact hz);exact Hj ⟨_,De B _,rfl,0,rfl⟩ (h.imp fun Z Z r=>r.ext (AK zy (An _ _)))
theorem AE{es:List Expr}{pos:Pos}{ds:List PyData}(h:Ey V w H0 n sc σ zx pos es (ds.map .d))(hz:ds.length≤sizeLine):Am V w H0 n sc σ zx (.List es pos) (.d (.list ds)):=by
 intro A zz s zy g o F;refine List_ (Aq (h A zz s zy g o F) fun vs s₁ q1=>?_);exact Aq (Ka (F.ext q1.ext).toBase (FN q1.val) hz) fun Z Z q2=>q1.trans q2
theorem DR{es:List Expr}{k:Nat}{pos:Pos}{ds:List PyData}(h:Ey V w H0 n sc σ zx pos es (ds.map .d))(hz:ds.length≤sizeLine):Am V w H0 n sc σ zx (.Tuple es k pos) (.d (.tuple ds)):=by
 intro A zz s zy g o F;refine Tuple_ (Aq (h A zz s zy g o F) fun vs s₁ q1=>?_);exact Aq (Ja (F.ext q1.ext).toBase (FN q1.val) hz) fun Z Z q2=>q1.trans q2
theorem Ea{a b:Int}:Bm V w H0 n (binaryOp .Add) (.d (.int a)) (.d (.int b)) (Rd (.int (a+b))):=by
 intro A s zy u v g B ra rb;refine ex1 (Ax ra) fun t x2=>?_;subst x2;refine ex1 (Ax rb) fun t' x2=>?_;subst x2;exact add_int (Pu.tok (BN _ _ _))
theorem IP{a b:Int}:Bm V w H0 n (binaryOp .Sub) (.d (.int a)) (.d (.int b)) (Rd (.int (a - b))):=by
 intro A s zy u v g B ra rb;refine ex1 (Ax ra) fun t x2=>?_;subst x2;refine ex1 (Ax rb) fun t' x2=>?_;subst x2;exact sub_int (Pu.tok (BN _ _ _))
theorem E7{a b:Int}(hb:b≠0):Bm V w H0 n (binaryOp .Mod) (.d (.int a)) (.d (.int b)) (Rd (.int (a.fmod b))):=by
 intro A s zy u v g B ra rb;refine ex1 (Ax ra) fun t x2=>?_;subst x2;refine ex1 (Ax rb) fun t' x2=>?_;subst x2;exact mod_int hb (Pu.tok (BN _ _ _))
theorem Go{a b:Int}(hb:b≠0)(hs:b.natAbs<1073741824):Bm V w H0 n (binaryOp .FloorDiv) (.d (.int a)) (.d (.int b)) (Rd (.int (a.fdiv b))):=by
 intro A s zy u v g B ra rb;refine ex1 (Ax ra) fun t x2=>?_;subst x2;refine ex1 (Ax rb) fun t' x2=>?_;subst x2;exact floordiv_int hb (Pu.tok (BN _ _ _)) (.inl (PyProof.noPylong_small hs))
theorem N4{a b:Str}(hz:(a++b).length≤sizeLine):Bm V w H0 n (binaryOp .Add) (.d (.str a)) (.d (.str b)) (Rd (.str (a++b))):=by
 intro A s zy u v g B ra rb;refine ex1 (AR ra) fun t x2=>?_;subst x2;refine ex1 (AR rb) fun t' x2=>?_;subst x2;refine PySem.P.add_str ?_;have e0:∀x:Str,(x.length==0)=true->x=⟨#[]⟩:=fun x h=>by
  obtain⟨⟨l⟩⟩:=x;have:l=[]:=by simpa [Str.length] using h
  rw[this]
 split
 ·rename_i h
  (refine(e0 a h).symm▸ ?_)
  refine Pu.here ?_;have:(⟨#[]⟩:Str)++b=b:=Str.empty_append b;rw[this];exact BO _ _ _
 ·split
  ·rename_i h
   (refine(e0 b h).symm▸ ?_)
   refine Pu.here ?_;have:a++(⟨#[]⟩:Str)=a:=Str.append_empty a;rw[this];exact BO _ _ _
  ·exact⟨hz,Pu.tok (BO _ _ _)⟩
theorem Ei{a b:Int}:Bm V w H0 n (compareOp .Lt) (.d (.int a)) (.d (.int b)) (Rd (.bool (decide (a<b)))):=by
 intro A s zy u v g B ra rb;refine ex1 (Ax ra) fun t x2=>?_;subst x2;refine ex1 (Ax rb) fun t' x2=>?_;subst x2;exact PyProof.Rows.lt_int (Pu.here (BB _ _))
theorem Jb{a b:Int}:Bm V w H0 n (compareOp .Gt) (.d (.int a)) (.d (.int b)) (Rd (.bool (decide (b<a)))):=by
 intro A s zy u v g B ra rb;refine ex1 (Ax ra) fun t x2=>?_;subst x2;refine ex1 (Ax rb) fun t' x2=>?_;subst x2;exact PyProof.Rows.gt_int (Pu.here (BB _ _))
theorem KW{a b:Int}:Bm V w H0 n (compareOp .Eq) (.d (.int a)) (.d (.int b)) (Rd (.bool (a==b))):=by
 intro A s zy u v g B ra rb;refine ex1 (Ax ra) fun t x2=>?_;subst x2;refine ex1 (Ax rb) fun t' x2=>?_;subst x2;exact PyProof.Rows.eq_int (Pu.here (BB _ _))
theorem DY{a b:Str}:Bm V w H0 n (compareOp .Eq) (.d (.str a)) (.d (.str b)) (Rd (.bool (a==b))):=by
 intro A s zy u v g B ra rb;refine ex1 (AR ra) fun t x2=>?_;subst x2;refine ex1 (AR rb) fun t' x2=>?_;subst x2;exact PyProof.Rows.eq_str (Pu.here (BB _ _))
theorem HU{a b:Str}:Bm V w H0 n (compareOp .NotEq) (.d (.str a)) (.d (.str b)) (Rd (.bool (a !=b))):=by
 intro A s zy u v g B ra rb;refine ex1 (AR ra) fun t x2=>?_;subst x2;refine ex1 (AR rb) fun t' x2=>?_;subst x2;exact PyProof.Rows.ne_str (Pu.here (BB _ _))
mutual
noncomputable def D7:PyData->Bool
 |.none|.int _=>true
 |.bool _=>false
 |.str x=>PyData.strOk x
 |.list xs|.tuple xs=>Bt xs
 |.dict _=>false
noncomputable def Bt:List PyData->Bool
 |[]=>true
 |x::xs=>D7 x && Bt xs
end
theorem Eb(xs:List PyData):D7 (.list xs)=Bt xs:=rfl
theorem Vg(xs:List PyData):D7 (.tuple xs)=Bt xs:=rfl
theorem Ec(x:Str):D7 (.str x)=PyData.strOk x:=rfl
theorem AX(x:PyData)(xs:List PyData):Bt (x::xs)=(D7 x && Bt xs):=rfl
theorem Ej:Bt []=true:=rfl
theorem N5(i:Int):D7 (.int i)=true:=rfl
mutual
theorem Eg:∀d:PyData,D7 d=true->d.canLay0=true
 |d,h=>by cases d<;> first|exact h|exact EP h|exact Ed _ h
theorem Ed:∀ds:List PyData,Bt ds=true->PyData.canLayAll0 ds=true
 |[],_=>rfl
 |x::xs,h=>by
  have h:=Bool.and_eq_true_iff.mp h;exact Bool.and_eq_true_iff.mpr ⟨Eg x h.1,Ed xs h.2⟩
end
mutual
theorem Iu:∀a b:PyData,D7 a=true->D7 b=true->SeqAt.noMix a b=true
 |a,b,h,h'=>by cases a<;> first|exact EP h|(cases b<;> first|rfl|exact EP h'|exact FP _ _ h h')
theorem FP:∀a b:List PyData,Bt a=true->Bt b=true->SeqAt.noMixAll a b=true
 |[],[],_,_|[],_::_,_,_|_::_,[],_,_=>by assumption
 |x::xs,y::ys,h,h'=>by
  have h:=Bool.and_eq_true_iff.mp h;have h':=Bool.and_eq_true_iff.mp h';exact Bool.and_eq_true_iff.mpr ⟨Iu x y h.1 h'.1,FP xs ys h.2 h'.2⟩
end
theorem Hk{a b:PyData}(ha:D7 a=true)(hb:D7 b=true):PyData.eqv a b=PySem.Spec.same a b:=(SeqAt.same_eq_eqv a b (Iu a b ha hb)).symm
noncomputable def Cp (d:PyData):Bool:=D7 d && decide (d.depth≤64)
theorem EA{d:PyData}(h:Cp d=true):SeqAt.shaped d=true:=by
 rw[Cp,Bool.and_eq_true] at h;rw[SeqAt.shaped,Eg d h.1,h.2];rfl
theorem Bj{d:PyData}(h:Cp d=true):D7 d=true:=by rw[Cp,Bool.and_eq_true] at h;exact h.1
theorem Jc{a b:PyData}(ha:Cp a=true)(hb:Cp b=true):Bm V w H0 n (compareOp .Eq) (.d a) (.d b) (Rd (.bool (PySem.Spec.same a b))):=by
 intro A s zy u v g B ⟨_,ra⟩ ⟨_,rb⟩;exact SeqAt.compareEq_shaped (Reads.keeps (Bp _ _) ra) (Reads.keeps (Bp _ _) rb) (EA ha) (EA hb) (g.units (by decide)) (by rw[Hk (Bj ha) (Bj hb)];exact Pu.here (BB _ _))
theorem HV{a b:PyData}(ha:Cp a=true)(hb:Cp b=true):Bm V w H0 n (compareOp .NotEq) (.d a) (.d b) (Rd (.bool (!PySem.Spec.same a b))):=by
 intro A s zy u v g B ⟨_,ra⟩ ⟨_,rb⟩;exact SeqAt.compareNe_shaped (Reads.keeps (Bp _ _) ra) (Reads.keeps (Bp _ _) rb) (EA ha) (EA hb) (g.units (by decide)) (by rw[Hk (Bj ha) (Bj hb)];exact Pu.here (BB _ _))
theorem Hl{d:PyData}(hd:D7 d=true):∀xs:List PyData,Bt xs=true->xs.any (fun y=>PyData.eqv y d)=xs.any (fun y=>PySem.Spec.same y d):=by
 intro xs
 induction xs with
 |nil=>
  intro Z;exact rfl
 |cons x xs Hl=>
  intro h;have h:=Bool.and_eq_true_iff.mp h
  (refine(any_cons).symm▸ ?_;refine(any_cons).symm▸ ?_;refine(Hk h.1 hd).symm▸ ?_;refine(Hl h.2).symm▸ ?_;rfl)
theorem MP{d:PyData}{xs:List PyData}(hd:Cp d=true)(hx:Bt xs=true):Bm V w H0 n (compareOp .In) (.d d) (.d (.list xs)) (Rd (.bool (xs.any fun y=>PySem.Spec.same y d))):=by
 intro A s zy u v g B ⟨_,ra⟩ ⟨_,rb⟩;refine SeqAt.in_list_reads (Reads.keeps (Bp _ _) rb) (Reads.keeps (Bp _ _) ra) (Ed _ hx) (Eg _ (Bj hd)) ?_ (by rw[Hl (Bj hd) _ hx];exact Pu.here (BB _ _));have h1:d.depth≤64:=by rw[Cp,Bool.and_eq_true] at hd;exact of_decide_eq_true hd.2
 have h3:=g.units (k:=1+min (PyData.depthAll xs) d.depth) (le_trans (add_le_add_left (le_trans (min_le_right _ _) h1) _) (by decide));rwa [←add_assoc] at h3
theorem Kb{d:PyData}{xs:List PyData}(hd:Cp d=true)(hx:Bt xs=true):Bm V w H0 n (compareOp .NotIn) (.d d) (.d (.list xs)) (Rd (.bool (!xs.any fun y=>PySem.Spec.same y d))):=by
 intro A s zy u v g B ⟨_,ra⟩ ⟨_,rb⟩;refine SeqAt.notIn_list_reads (Reads.keeps (Bp _ _) rb) (Reads.keeps (Bp _ _) ra) (Ed _ hx) (Eg _ (Bj hd)) ?_ (by rw[Hl (Bj hd) _ hx];exact Pu.here (BB _ _));have h1:d.depth≤64:=by rw[Cp,Bool.and_eq_true] at hd;exact of_decide_eq_true hd.2
 have h3:=g.units (k:=1+min (PyData.depthAll xs) d.depth) (le_trans (add_le_add_left (le_trans (min_le_right _ _) h1) _) (by decide));rwa [←add_assoc] at h3
theorem Gp{d:PyData}(hd:d≠ .none):Bm V w H0 n (compareOp .Is) (.d d) (.d .none) (Rd (.bool false)):=by
 intro A s zy u v g B ra rb;cases C0 rb;refine is_none_ne (fun e=>?_) (Pu.here (BB _ _));subst e;refine ex1 ra fun as r=>?_;cases r;exact hd rfl
theorem GW:Bm V w H0 n (compareOp .Is) (.d .none) (.d .none) (Rd (.bool true)):=by
 intro A s zy u v g B ra rb;cases C0 rb;cases C0 ra;exact wpAny_is_self rfl (Pu.here (BB _ _))
theorem TT{a b:Str}:Bm V w H0 n (compareOp .In) (.d (.str a)) (.d (.str b)) (Rd (.bool !(Builtin.Str.occurrences b a 0 b.length 1).isEmpty)):=by
 intro A s zy u v g B ra rb;refine ex1 (AR ra) fun t x2=>?_;subst x2;refine ex1 (AR rb) fun t' x2=>?_;subst x2;exact PySem.P.in_str (Pu.here (BB _ _))
theorem EB{xs ys:List PyData}(hz:xs.length+ys.length≤sizeLine):Bm V w H0 n (binaryOp .Add) (.d (.list xs)) (.d (.list ys)) (Rd (.list (xs++ys))):=by
 intro A s zy u v g B ra rb;refine Bh (CG ra) fun l vs x3 hl f=>?_;subst x3;refine Bh (CG rb) fun b ws x3 hb f'=>?_;subst x3;obtain⟨⟨cls,dd,data,sl⟩,ho,hc,k,hd⟩:=Bq (Bp _ _) hl;obtain⟨⟨RZ,dd2,data2,sl2⟩,ho2,hc2,k2,hd2⟩:=Bq (Bp _ _) hb;simp only at hc hd hc2 hd2;subst hc hd hc2 hd2;have e:vs.toArray++ws.toArray=(vs++ws).toArray:=by simp
 refine concat_meets ⟨_,ho,rfl⟩ ⟨_,ho2,rfl⟩ noFill_list_add seq_list_add PySem.F.slot_list_add PySem.F.entry_list_add (PySem.F.args_list_add_2 _ _) (list_addW l b vs.toArray ws.toArray k k2 dd dd2 sl sl2 (by simp[f.length,f'.length];exact hz)) ⟨ho,ho2,?_⟩
 (refine e.symm▸ ?_)
 refine⟨_,_,rfl,An _ _,D9 ⟨_,De B _,rfl,0,rfl⟩ ?_⟩;exact(f.append f').imp fun Z Z r=>r.ext (AK zy (An _ _))
theorem R9{xs:List PyData}(hz:xs.length≤sizeLine):MO V w H0 n (.d (.list xs)) (!xs.isEmpty):=by
 intro A s zy a g B ra;refine Bh (CG ra) fun l vs x3 hl f=>?_;subst x3;have hlen:=f.length;have e:(!(toArray vs).isEmpty)=!xs.isEmpty:=by
  cases vs<;> cases xs<;> simp_all
 refine wpAny_truthy_list (Bq (Bp _ _) hl) (by rw[size_toArray,hlen];exact MM ‹_›) ?_;rw[e];exact Pu.tok rfl
theorem AF{a:Addr}{h h':Heap}(x:Heap.SameBut a h h'):KeepBut [a] h h':=fun b o n e=>x.extBut b o (fun q=>n (by simp[q])) e
theorem KeepBut.trans{own:List Addr}{h h' h'':Heap}(x:KeepBut own h h')(y:KeepBut own h' h''):KeepBut own h h'':=fun b o n e=>y b o n (x b o n e)
theorem KeepBut.more{own own':List Addr}{h h':Heap}(x:KeepBut own h h')(hs:Cf own own'):KeepBut own' h h':=fun b o n e=>x b o (fun m=>n (hs b m)) e
theorem Ext.keep{h h':Heap}(x:Ext h h')(own:List Addr):KeepBut own h h':=fun b o Z e=>x b o e
theorem KeepBut.refl(own:List Addr)(h:Heap):KeepBut own h h:=fun Z Z Z e=>e
section
variable{M:Model}{H0:Heap}{zy:List Addr}{zx:Aw}{zz:Env}{σ:AN}{h h':Heap}
theorem Fm.keepBut{own:List Addr}(F:Fm H0 zy zx zz σ h)(k:KeepBut own h h')(h1:Cf own zy)(h2:∀a∈own,a≠zz.locals∧(∀p∈zz.cells,p.2≠a)∧∀p∈zx,p.1≠a)
  (h3:∀a∈own,∃o,h'.get? a=some o):Fm H0 zy zx zz σ h':=by
 have at':∀a,(∀b∈own,a≠b)->∀o,h.get? a=some o->h'.get? a=some o:=fun a n o e=>k a o (fun m=>n a m rfl) e;have vk:=AW h1 k;exact{
  base:=F.base.trans vk
  alive:=fun a m=>by
   by_cases q:a∈own
   ·exact h3 a q
   ·refine ex1 (F.alive a m) fun o e=>?_;exact⟨o,k a o q e⟩
  loc:=F.loc
  celh:=F.celh
  ledh:=F.ledh
  ns:=let⟨m,⟨o,es,ep,e,r⟩,q⟩:=F.ns;⟨m,⟨o,es,ep,at' _ (fun b mb=>Ne.symm (h2 b mb).1) _ e,r⟩,fun y e a b=>let⟨v,c,d⟩:=q y e a b;⟨v,c,d.ext vk⟩⟩
  cell:=fun y e a b=>let⟨c,v,p,⟨o,e1,e2⟩,r⟩:=F.cell y e a b;⟨c,v,p,⟨o,at' _ (fun b mb=>(h2 b mb).2.1 (y,c) (mem_of_lookup p)) _ e1,e2⟩,r.ext vk⟩
  cells:=fun p m=>let⟨v,o,e1,e2⟩:=F.cells p m;⟨v,o,at' _ (fun b mb=>(h2 b mb).2.1 p m) _ e1,e2⟩
  ledg:=fun p m=>at' _ (fun b mb=>(h2 b mb).2.2 p m) _ (F.ledg p m)
  apart:=F.apart
  off:=F.off
  ledoff:=F.ledoff}
theorem Fm.sub{σ':AN}(F:Fm H0 zy zx zz σ h)(hs:∀x e,σ'.lookup x=some e->σ.lookup x=some e):Fm H0 zy zx zz σ' h:=
 {F with
  ns:=let⟨m,a,q⟩:=F.ns;⟨m,a,fun y e p r=>q y e (hs y e p) r⟩
  cell:=fun y e p r=>F.cell y e (hs y e p) r}
theorem Fm.more{own:List Addr}(F:Fm H0 zy zx zz σ h)(x:Ext h h')(hf:∀a∈own,h.get? a=none)(ha:∀a∈own,∃o,h'.get? a=some o):Fm H0 (own++zy) zx zz σ h':=by
 have vk:=DQ (zy:=zy) x hf;have F':=F.ext x;exact{
  base:=F.base.trans vk
  alive:=fun a m=>(Cx m).elim (ha a) (F'.alive a)
  loc:=mem_append_right _ F.loc
  celh:=fun p m=>mem_append_right _ (F.celh p m)
  ledh:=fun p m=>mem_append_right _ (F.ledh p m)
  ns:=let⟨m,a,q⟩:=F.ns;⟨m,a.keeps x,fun y e p r=>let⟨v,c,d⟩:=q y e p r;⟨v,c,d.ext vk⟩⟩
  cell:=fun y e a b=>let⟨c,v,p,q,r⟩:=F.cell y e a b;⟨c,v,p,q.keeps x,r.ext vk⟩
  cells:=F'.cells
  ledg:=F'.ledg
  apart:=F.apart
  off:=F.off
  ledoff:=F.ledoff}
theorem Fm.less{zy':List Addr}(F:Fm H0 zy' zx zz σ h)(hs:Cf zy zy')(hl:zz.locals∈zy)(hc:∀p∈zz.cells,p.2∈zy)(hd:∀p∈zx,p.1∈zy):Fm H0 zy zx zz σ h:=by
 have vk:=EQ h hs;exact{
  base:=F.base.trans vk
  alive:=fun a m=>F.alive a (hs a m)
  loc:=hl
  celh:=hc
  ledh:=hd
  ns:=let⟨m,a,q⟩:=F.ns;⟨m,a,fun y e p r=>let⟨v,c,d⟩:=q y e p r;⟨v,c,d.ext vk⟩⟩
  cell:=fun y e a b=>let⟨c,v,p,q,r⟩:=F.cell y e a b;⟨c,v,p,q,r.ext vk⟩
  cells:=F.cells
  ledg:=F.ledg
  apart:=F.apart
  off:=F.off
  ledoff:=F.ledoff}
noncomputable def DI (zz:Env) (x:Str):List Addr:=if zz.kindOf x=some .local then [zz.locals] else ((zz.cells.lookup x).map fun c=>[c]).getD []
theorem AS{α:Type}{x y:Str}{e:α}{l:List (Str×α)}(h:y≠x):((x,e)::l).lookup y=l.lookup y:=by
 rw[lookup_cons];have:(y==x)=false:=by simpa using h
 rw[this]
theorem Dg{α:Type}{x:Str}{e:α}{l:List (Str×α)}:((x,e)::l).lookup x=some e:=by
 rw[lookup_cons];simp
theorem E8{A:Around}{s:Shared}{x:Str}{v:Value}{e:Ent}(F:Fm H0 zy zx zz σ s.heap)(hm:Means (vis s.heap zy) v e)(hk:zz.scope.kind=.function)
  (hx:zz.kindOf x=some .local∨(zz.kindOf x=some .cell∧(zz.cells.lookup x).isSome=true)):
  wpAny M A (storeName zz x v) (fun Z s'=>∃h' tk,s'={s with heap:=h',toks:=tk}∧KeepBut (DI zz x) s.heap h'∧Fm H0 zy zx zz ((x,e)::σ) h') CO s:=by
 rcases hx with hx|⟨hx,hc⟩
 ·refine Ad F.ns fun m hn q=>?_
  refine wpAny_storeName_local hx hn (fun h' hn' hs=>⟨h',_,rfl,?_,?_⟩) (by(refine hk.symm▸ ?_);rfl)
  ·rw[DI,if_pos hx];exact AF hs
  ·have k:=AF hs
   have own:Cf ([zz.locals]) zy:=fun a m=>by rw[AU m];exact F.loc
   have vk:=AW own k;have cellk:∀p∈zz.cells,∀o,s.heap.get? p.2=some o->h'.get? p.2=some o:=fun p m o e=>k _ _ (fun n=>F.off p m (AU n)) e;exact{
    base:=F.base.trans vk
    alive:=fun a m=>by
     refine ex1 (F.alive a m) fun o e=>?_
     by_cases q:a=zz.locals
     ·refine FH hn' fun o Z Z e Z=>?_;exact⟨o,q▸e⟩
     ·exact⟨o,k a o (by simpa using q) e⟩
    loc:=F.loc
    celh:=F.celh
    ledh:=F.ledh
    ns:=⟨_,hn',fun y e' p r=>by
     by_cases hy:y=x
     ·subst hy
      rw[Dg] at p;cases p;exact⟨v,by simp,hm.ext vk⟩
     ·rw[AS hy] at p
      refine Ad (q y e' p r) fun u a b=>?_;exact⟨u,by simpa [hy] using a,b.ext vk⟩⟩
    cell:=fun y e' p r=>by
     by_cases hy:y=x
     ·subst hy;rw[hx] at r;rcases r with r|r<;> exact nomatch r
     ·rw[AS hy] at p
      refine Bh (F.cell y e' p r) fun c u a x4 b=>?_;rcases x4 with ⟨o,e1,e2⟩;exact⟨c,u,a,⟨o,cellk _ (mem_of_lookup a) _ e1,e2⟩,b.ext vk⟩
    cells:=fun p m=>let⟨u,o,e1,e2⟩:=F.cells p m;⟨u,o,cellk p m _ e1,e2⟩
    ledg:=fun p m=>k _ _ (fun n=>(F.ledoff p m).1 (AU n)) (F.ledg p m)
    apart:=F.apart
    off:=F.off
    ledoff:=F.ledoff}
 ·refine ex1 (Option.isSome_iff_exists.mp hc) fun c hc=>?_
  have hmc:=mem_of_lookup hc;refine ex1 (F.cells _ hmc) fun v0 hv0=>?_;have hnl:¬zz.kindOf x=some .local:=by rw[hx];decide
  refine wpAny_storeName_cell hk hx hc hv0 fun h' hn' hs=>⟨h',_,rfl,?_,?_⟩
  ·rw[DI,if_neg hnl,hc];exact AF hs
  ·have k:=AF hs
   have own:Cf ([c]) zy:=fun a m=>by rw[AU m];exact F.celh _ hmc
   have vk:=AW own k;have apart:∀p∈zz.cells,p.1≠x->p.2≠c:=fun p m n q=>n (name_of_addr F.apart (show(p.1,p.2)∈zz.cells from m) (q▸hmc));exact{
    base:=F.base.trans vk
    alive:=fun a m=>by
     refine ex1 (F.alive a m) fun o e=>?_
     by_cases q:a=c
     ·refine Ad hn' fun o e Z=>?_;exact⟨o,q▸e⟩
     ·exact⟨o,k a o (by simpa using q) e⟩
    loc:=F.loc
    celh:=F.celh
    ledh:=F.ledh
    ns:=by
     refine Ad F.ns fun m x2 q=>?_;rcases x2 with ⟨o,es,ep,e0,r0⟩;refine⟨m,⟨o,es,ep,k _ _ (fun n=>F.off _ hmc (by simpa using Eq.symm (AU n))) e0,r0⟩,fun y e' p r=>?_⟩;have hy:y≠x:=fun z=>by rw[z] at r;exact hnl r
     rw[AS hy] at p;refine Ad (q y e' p r) fun u a b=>?_;exact⟨u,a,b.ext vk⟩
    cell:=fun y e' p r=>by
     by_cases hy:y=x
     ·subst hy
      rw[Dg] at p;cases p;exact⟨c,v,hc,hn',hm.ext vk⟩
     ·rw[AS hy] at p
      refine Bh (F.cell y e' p r) fun c' u a x4 b=>?_;rcases x4 with ⟨o,e1,e2⟩;exact⟨c',u,a,⟨o,k _ _ (fun n=>apart _ (mem_of_lookup a) hy (AU n)) e1,e2⟩,b.ext vk⟩
    cells:=fun p m=>by
     by_cases q:p.2=c
     ·exact⟨_,q▸hn'⟩
     ·refine B8 (F.cells p m) fun u o e1 e2=>?_
      exact⟨u,o,k _ _ (by simpa using q) e1,e2⟩
    ledg:=fun p m=>k _ _ (fun n=>(F.ledoff p m).2 _ hmc (AU n)) (F.ledg p m)
    apart:=F.apart
    off:=F.off
    ledoff:=F.ledoff}
end
noncomputable def tupleMakers:List String:=["enumerate","zip","dict_itemiterator","dict_reverseitemiterator","odict_iterator","itertools.zip_longest","itertools.pairwise"]
structure Src(V:Program)(w:World)(A:Around)(g:Heap)(I:Addr)(fp wr:List Addr)(ds:List Ent)(St:Nat->Heap->Prop):Prop where
 walk:Walks V w A I fp wr ds.length (fun i v=>∃e,ds[i]? =some e∧Means g v e) St
 alive:∀i h,St i h->∀b∈wr,∃o,h.get? b=some o
 plain:∀i h,St i h->∃o T,h.get? I=some o∧o.cls=.type T∧tupleMakers.contains T=false
inductive IsSrc(V:Program)(w:World)(A:Around)(s:Shared)(zy:List Addr)(ds:List Ent)(it:Value)(s₂:Shared):Prop
 |mk:∀I fp wr St h₂ tk,it=.ref I->s₂={s with heap:=h₂,toks:=tk}->Ext s.heap h₂->Src V w A (vis s.heap zy) I fp wr ds St->St 0 h₂->(∀b∈wr,s.heap.get? b=none)->(∀b∈fp,(∃o,h₂.get? b=some o)∧b∉zy)->IsSrc V w A s zy ds it s₂
def DS(V:Program)(w:World)(H0:Heap)(n:Nat)(x:Ent)(ds:List Ent):Prop:=
 ∀A s zy v,Good n A->Base H0 zy s.heap->Means (vis s.heap zy) v x->wpAny (model V w) A (pyIter v) (IsSrc V w A s zy ds) CO s
theorem N6{g:Heap}{vs:List Value}{ds:List PyData}(h:F2 (fun v d=>Rd d g v) vs ds):F2 (fun v e=>Means g v e) vs (ds.map .d):=by
 induction h with
 |nil=>exact .nil
 |cons a _ ih=>exact .cons a ih
theorem FQ{g:Heap}{vs:List Value}{es:List Ent}(h:F2 (fun v e=>Means g v e) vs es):MeansAll g vs es:=by
 induction h with
 |nil=>exact trivial
 |cons a _ ih=>exact⟨a,ih⟩
theorem CH{g:Heap}{vs:List Value}{es:List Ent}(h:MeansAll g vs es):F2 (fun v e=>Means g v e) vs es:=by
 induction es generalizing vs with
 |nil=>rw[KU h];exact .nil
 |cons d ds ih=>
  cases vs with
  |nil=>exact h.elim
  |cons v vs=>exact .cons h.1 (ih h.2)
theorem Walks.imp{A:Around}{I:Addr}{fp wr:List Addr}{k:Nat}{P P':Nat->Value->Prop}{St:Nat->Heap->Prop}(W:Walks V w A I fp wr k P St)(h:∀i v,P i v->P' i v):Walks V w A I fp wr k P' St where
 sub:=W.sub
 frame:=W.frame
 item:=fun i s Q E hi st hQ=>W.item i s Q E hi st fun v h' tk p st' k=>hQ v h' tk (h _ _ p) st' k
 done:=W.done
 self:=W.self
theorem BG{ds:List PyData}:DS V w H0 n (.d (.list ds)) (ds.map .d):=by
 intro A s zy v g B ra;refine Bh (CG ra) fun l vs x3 hl f=>?_;subst x3;have hl':=Bq (Bp _ _) hl;have lne:l≠s.heap.objs.size:=by refine Ad hl' fun o e Z=>?_;exact ne_of_lt (Heap.lt_size e)
 have lnh:l∉zy:=by refine Ad hl fun o e Z=>?_;exact(Al e).2
 refine wpAny_pyIter_list hl' ⟨s.heap.objs.size,[s.heap.objs.size,l],[s.heap.objs.size],(fun i h=>h.IsListIter s.heap.objs.size l i∧h.IsList l (toArray vs)),_,s.toks,rfl,rfl,An _ _,⟨?_,?_,?_⟩,?_,?_,?_⟩
 case refine_1=>
  have W:=Walks.list (prog:=V) (w:=w) g.hh s.heap.objs.size l lne (toArray vs);have e:(toArray vs).size=(ds.map Ent.d).length:=by rw[size_toArray,f.length,length_map]
  rw[e] at W;exact Walks.imp W fun i v p=>by
   refine Ad (f.get' (i:=i) (a:=v) (by simpa using p)) fun d a b=>?_;exact⟨.d d,by simp[a],b⟩
 case refine_2=>
  intro i h st b hb;refine BL st fun x1 Z=>?_;rcases x1 with ⟨o,e,_⟩;rw[AU hb];exact⟨o,e⟩
 case refine_3=>
  intro i h st;refine BL st fun x1 Z=>?_;rcases x1 with ⟨o,e,c,_⟩;exact⟨o,_,e,c,by decide⟩
 ·exact⟨⟨_,Heap.get?_push_size _ rfl,rfl,rfl⟩,hl'.push _⟩
 ·intro b hb
  rw[AU hb];cases e:s.heap.get? s.heap.objs.size with
  |none=>rfl
  |some o=>exact absurd (Heap.lt_size e) (lt_irrefl _)
 ·intro b hb
  rcases BF hb with rfl|hb
  ·exact⟨⟨_,Heap.get?_push_size _ rfl⟩,B.fresh⟩
  ·(refine(AU hb).symm▸ ?_)
   refine Ad hl' fun o e Z=>?_;exact⟨⟨_,Heap.get?_push_of_some _ e⟩,lnh⟩
def MQ(V:Program)(w:World)(H0:Heap)(n:Nat)(x:Ent)(es:List Ent):Prop:=
 ∀A s zy v,Good n A->Base H0 zy s.heap->Means (vis s.heap zy) v x->wpAny (model V w) A (unpackItems v es.length none) (Pu s zy (fun g vs=>MeansAll g vs es)) CO s
theorem DC{h h':Heap}(x:Heap.ExtBut h.objs.size h h'):Ext h h':=fun b o e=>x b o (ne_of_lt (Heap.lt_size e)) e
theorem FR{ds:List PyData}:MQ V w H0 n (.d (.list ds)) (ds.map .d):=by
 intro A s zy v g B ra;refine Bh (CG ra) fun l vs x3 hl f=>?_;subst x3;have e:(ds.map Ent.d).length=(toArray vs).size:=by rw[size_toArray,f.length,length_map]
 (refine e.symm▸ ?_)
 refine kun_itemsOf g.hh (Bq (Bp _ _) hl) fun h' he=>⟨h',s.toks,rfl,DC he,?_⟩;exact FQ ((N6 f).imp fun Z Z r=>r.ext (AK zy (DC he)))
theorem C9{ds:List PyData}:MQ V w H0 n (.d (.tuple ds)) (ds.map .d):=by
 intro A s zy v g B ra;refine Bh (FO ra) fun l vs x3 hl f=>?_;subst x3;have e:(ds.map Ent.d).length=(toArray vs).size:=by rw[size_toArray,f.length,length_map]
 (refine e.symm▸ ?_)
 refine unpackItems_tuple g.hh (Ef (Bp _ _) hl) fun h' he=>⟨h',s.toks,rfl,DC he,?_⟩;exact FQ ((N6 f).imp fun Z Z r=>r.ext (AK zy (DC he)))
noncomputable def AZ (zz:Env) (xs:List Str):List Addr:=xs.flatMap (DI zz)
def MR(V:Program)(w:World)(H0:Heap)(n:Nat)(sc:Scope)(t:Expr)(x:Ent)(bs:List (Str×Ent)):Prop:=
 ∀A zz s zy zx σ v,Good n A->EnvOk sc zz->Fm H0 zy zx zz σ s.heap->Means (vis s.heap zy) v x->
  wpAny (model V w) A (assign t zz v) (fun Z s'=>∃h' tk,s'={s with heap:=h',toks:=tk}∧KeepBut (AZ zz (bs.map (·.1))) s.heap h'∧Fm H0 zy zx zz (bs++σ) h') CO s
def Az(sc:Scope)(x:Str):Prop:=sc.names.lookup x=some .local∨sc.names.lookup x=some .cell
theorem Cm{zz:Env}{x:Str}(o:EnvOk sc zz)(h:Az sc x):zz.kindOf x=some .local∨(zz.kindOf x=some .cell∧(zz.cells.lookup x).isSome=true):=by
 rcases h with h|h
 ·exact .inl (by rw[o.kind];exact h)
 ·exact .inr ⟨by rw[o.kind];exact h,o.cells x (.inl h)⟩
theorem Af{x:Str}{pos:Pos}{e:Ent}(hx:Az sc x):MR V w H0 n sc (.Name x pos) e [(x,e)]:=by
 intro A zz s zy zx σ v g o F hm;refine wpAny_assign_Name (Ah (E8 F hm o.kf (Cm o hx)) (fun Z s' q=>?_) fun Z Z f=>f);refine Bh q fun h' tk a b c=>?_;exact⟨h',tk,a,by simpa [AZ] using b,c⟩
theorem EC{zy:List Addr}{zz:Env}{h:Heap}(F:Fm H0 zy zx zz σ h)(x:Str):Cf (DI zz x) zy:=by
 intro a m;unfold DI at m;split at m
 ·rw[AU m];exact F.loc
 ·cases e:zz.cells.lookup x with
  |none=>rw[e] at m;exact BK m
  |some c=>rw[e] at m;replace m:=AU m;subst m;exact F.celh _ (mem_of_lookup e)
theorem Hm{zy:List Addr}{zz:Env}{h:Heap}(F:Fm H0 zy zx zz σ h)(xs:List Str):Cf (AZ zz xs) zy:=by
 intro a m;refine Ad (mem_flatMap.mp m) fun x Z m=>?_;exact EC F x a m
theorem DZ{t1 t2:Expr}{k:Nat}{pos:Pos}{x e1 e2:Ent}{b1 b2:List (Str×Ent)}(hu:MQ V w H0 n x [e1,e2])(h1:MR V w H0 n sc t1 e1 b1)(h2:MR V w H0 n sc t2 e2 b2)
  (hs:∀zz,assignEach [t1,t2] zz=[(false,assign t1 zz),(false,assign t2 zz)]):MR V w H0 n sc (.Tuple [t1,t2] k pos) x (b2++b1):=by
 intro A zz s zy zx σ v g o F hm;rw[PyProof.Rows.assign_Tuple,hs];refine Ac (wpAny_standAt ?_);unfold unpack;refine Ac (wpAny_holding (Aq (hu A s zy v g F.toBase hm) fun vs s₁ q=>?_));obtain⟨hh,tk,rfl,ex,mv⟩:=q;obtain⟨v1,v2,rfl,m1,m2⟩:=GU mv;show wpAny _ A (holding [v2] (assign t1 zz v1) >>=fun Z=>assignInOrder [assign t2 zz] [v2]) _ _ _
 first
  |refine Ac (wpAny_holding (Ah (h1 A zz _ zy zx σ v1 g o (F.ext ex) m1) (fun Z s2 q2=>?_) fun Z Z f=>f))
  |refine Ac (Ah (h1 A zz _ zy zx σ v1 g o (F.ext ex) m1) (fun Z s2 q2=>?_) fun Z Z f=>f)
 refine Bh q2 fun h₂ tk2 x3 k2 F2=>?_;try clear q2;subst x3
 show wpAny _ A (holding [] (assign t2 zz v2) >>=fun Z=>pure ()) _ _ _;have m2':=m2.ext (AW (Hm (F.ext ex) _) k2)
 first
  |refine Ac (wpAny_holding (Ah (h2 A zz _ zy zx _ v2 g o F2 m2') (fun Z s3 q3=>?_) fun Z Z f=>f))
  |refine Ac (Ah (h2 A zz _ zy zx _ v2 g o F2 m2') (fun Z s3 q3=>?_) fun Z Z f=>f)
 refine Bh q3 fun h₃ tk3 x3 k3 F3=>?_;try clear q3;subst x3
 refine Ag ⟨h₃,tk3,rfl,?_,by rw[append_assoc];exact F3⟩;refine(ex.keep _).trans ((k2.more ?_).trans (k3.more ?_))
 ·intro a m;simp only[AZ,map_append,flatMap_append,mem_append] at m ⊢;exact .inr m
 ·intro a m;simp only[AZ,map_append,flatMap_append,mem_append] at m ⊢;exact .inl m
inductive Out where
 |next(σ:AN)
 |ret(x:Ent)
noncomputable def AI (zz:Env) (zx:Aw):List Addr:=zz.locals::(zz.cells.map (·.2)++zx.map (·.1))
noncomputable def UL (H0:Heap) (zy:List Addr) (zz:Env) (zx:Aw):Out->Flow->Heap->Prop
 |.next σ,fl,h=>fl=.next∧Fm H0 zy zx zz σ h
 |.ret x,fl,h=>∃v,fl=.ret v∧Base H0 zy h∧Means (vis h zy) v x
inductive Fin(H0:Heap)(s:Shared)(zy:List Addr)(zz:Env)(zx:Aw)(O:Out)(fl:Flow)(s':Shared):Prop
 |mk:∀h' tk,s'={s with heap:=h',toks:=tk}->KeepBut (AI zz zx) s.heap h'->UL H0 zy zz zx O fl h'->Fin H0 s zy zz zx O fl s'
theorem B1{H0:Heap}{zy:List Addr}{zx:Aw}{zz:Env}{σ:AN}{h:Heap}(F:Fm H0 zy zx zz σ h):Cf (AI zz zx) zy:=by
 intro a m;rcases BF m with rfl|m
 ·exact F.loc
 ·rcases Cx m with m|m
  ·refine Ad (Ct m) fun p hp x3=>?_;subst x3;exact F.celh p hp
  ·refine Ad (Ct m) fun p hp x3=>?_;subst x3;exact F.ledh p hp
theorem AL(zz:Env)(zx:Aw)(xs:List Str):Cf (AZ zz xs) (AI zz zx):=by
 intro a m;refine Ad (mem_flatMap.mp m) fun x Z m=>?_;unfold DI at m;split at m
 ·rw[AU m];exact mem_cons_self
 ·cases e:zz.cells.lookup x with
  |none=>rw[e] at m;exact BK m
  |some c=>rw[e] at m;replace m:=AU m;subst m;exact mem_cons_of_mem _ (mem_append_left _ (mem_map.mpr ⟨_,mem_of_lookup e,rfl⟩))
def N7(V:Program)(w:World)(H0:Heap)(n:Nat)(sc:Scope)(σ:AN)(zx:Aw)(st:Stmt)(O:Out):Prop:=
 ∀A zz s zy,Good n A->EnvOk sc zz->Fm H0 zy zx zz σ s.heap->wpAny (model V w) A (exec st zz) (Fin H0 s zy zz zx O) CO s
def II(V:Program)(w:World)(H0:Heap)(n:Nat)(sc:Scope)(σ:AN)(zx:Aw)(sts:List Stmt)(O:Out):Prop:=
 ∀A zz s zy,Good n A->EnvOk sc zz->Fm H0 zy zx zz σ s.heap->wpAny (model V w) A (execs sts zz) (Fin H0 s zy zz zx O) CO s
theorem EI:II V w H0 n sc σ zx [] (.next σ):=fun A zz s zy g o F=>wpAny_execs_nil ⟨s.heap,s.toks,rfl,KeepBut.refl _ _,rfl,F⟩
theorem Bn{st:Stmt}{rest:List Stmt}{σ':AN}{O:Out}(h:N7 V w H0 n sc σ zx st (.next σ'))(hr:II V w H0 n sc σ' zx rest O):II V w H0 n sc σ zx (st::rest) O:=by
 intro A zz s zy g o F;refine wpAny_execs_cons (Ah (h A zz s zy g o F) (fun fl s₁ q=>?_) fun Z Z f=>f);obtain⟨h₁,t₁,rfl,k1,rfl,F1⟩:=q;refine Ah (hr A zz _ zy g o F1) (fun fl s2 q=>?_) fun Z Z f=>f;obtain⟨h2,t2,rfl,k2,q2⟩:=q;exact⟨h2,t2,rfl,k1.trans k2,q2⟩
theorem BP{st:Stmt}{rest:List Stmt}{x:Ent}(h:N7 V w H0 n sc σ zx st (.ret x)):II V w H0 n sc σ zx (st::rest) (.ret x):=by
 intro A zz s zy g o F;refine wpAny_execs_cons (Ah (h A zz s zy g o F) (fun fl s₁ q=>?_) fun Z Z f=>f);obtain⟨h₁,t₁,rfl,k1,v,rfl,q⟩:=q;exact⟨h₁,t₁,rfl,k1,v,rfl,q⟩
theorem MS{sts:List Stmt}{σ' σ'':AN}(h:II V w H0 n sc σ zx sts (.next σ'))(hs:∀x e,σ''.lookup x=some e->σ'.lookup x=some e):II V w H0 n sc σ zx sts (.next σ''):=by
 intro A zz s zy g o F;refine Ah (h A zz s zy g o F) (fun fl s₁ q=>?_) fun Z Z f=>f;obtain⟨h₁,t₁,rfl,k1,e,F1⟩:=q;exact⟨h₁,t₁,rfl,k1,e,F1.sub hs⟩
theorem TU{sts:List Stmt}{σ':AN}{O:Out}(h:II V w H0 n sc σ' zx sts O)(hs:∀x e,σ'.lookup x=some e->σ.lookup x=some e):II V w H0 n sc σ zx sts O:=
 fun A zz s zy g o F=>h A zz s zy g o (F.sub hs)
theorem Bu{e:Expr}{pos:Pos}{x:Ent}(h:Am V w H0 n sc σ zx e x):N7 V w H0 n sc σ zx (.Return (some e) pos) (.ret x):=by
 intro A zz s zy g o F;refine wpAny_Return_some (Aq (h A zz s zy g o F) fun v s₁ q=>?_);obtain⟨h₁,t₁,rfl,e1,m⟩:=q;exact⟨h₁,t₁,rfl,e1.keep _,v,rfl,(F.ext e1).toBase,m⟩
theorem ER{test:Expr}{body orelse:List Stmt}{pos:Pos}{b:Bool}{O:Out}(h:FI V w H0 n sc σ zx test b)(h1:b=true->II V w H0 n sc σ zx body O)(h2:b=false->II V w H0 n sc σ zx orelse O):
  N7 V w H0 n sc σ zx (.If test body orelse pos) O:=by
 intro A zz s zy g o F;refine wpAny_If (Aq (h A zz s zy g o F) fun c s₁ q=>?_);have e1:=q.val;subst e1;have F1:=F.ext q.ext;obtain⟨h₁,t₁,rfl,e₁,_⟩:=q;cases c with
 |true=>
  refine Ah (h1 rfl A zz _ zy g o F1) (fun fl s2 f=>?_) fun Z Z f=>f;obtain⟨h₂,t2,rfl,k2,q2⟩:=f;exact⟨h₂,t2,rfl,(e₁.keep _).trans k2,q2⟩
 |false=>
  refine Ah (h2 rfl A zz _ zy g o F1) (fun fl s2 f=>?_) fun Z Z f=>f;obtain⟨h₂,t2,rfl,k2,q2⟩:=f;exact⟨h₂,t2,rfl,(e₁.keep _).trans k2,q2⟩
theorem Av{t value:Expr}{pos:Pos}{x:Ent}{bs:List (Str×Ent)}(h:Am V w H0 n sc σ zx value x)(ht:MR V w H0 n sc t x bs)
  (hs:∀zz,EnvOk sc zz->swapsWith value (some t) pos.line zz=pure false)(hw:∀zz,EnvOk sc zz->swappedStores [t] value zz=pure none)
  (he:∀zz,assignEach [t] zz=[(false,assign t zz)]):N7 V w H0 n sc σ zx (.Assign [t] value pos) (.next (bs++σ)):=by
 intro A zz s zy g o F;show wpAny _ A (standAt pos >>=fun Z=>swapsWithSole [t] value pos.line zz >>=fun b=>if b=true then _ else _) _ _ s;refine Ac (wpAny_standAt (Ac ?_));show wpAny _ A (swapsWith value (some t) pos.line zz) _ _ s;rw[hs zz o];refine Ag ?_;rw[if_neg Bool.false_ne_true];refine Ac (Aq (h A zz s zy g o F) fun v s₁ q=>?_);have F1:=F.ext q.ext;refine Ac ?_;rw[hw zz o];refine Ag ?_;rw[he];show wpAny _ A (assignAll v [assign t zz] >>=fun Z=>pure Flow.next) _ _ s₁;refine Ac ?_;show wpAny _ A (assign t zz v) _ _ s₁;refine Ah (ht A zz s₁ zy zx σ v g o F1 q.val) (fun Z s2 q2=>Ag ?_) fun Z Z f=>f;obtain⟨h₁,t₁,rfl,e1,_⟩:=q;refine Bh q2 fun h2 t2 x3 k2 F2=>?_;try clear q2;subst x3
 exact⟨h2,t2,rfl,(e1.keep _).trans (k2.more (AL zz zx _)),rfl,F2⟩
theorem E9{t1 t2:Str}{p1 p2 p3 pos:Pos}{k:Nat}{value:Expr}{x e1 e2:Ent}(h:Am V w H0 n sc σ zx value x)(hu:MQ V w H0 n x [e1,e2])(h1:Az sc t1)(h2:Az sc t2)
  (hs:∀zz,EnvOk sc zz->swapsWith value (some (.Tuple [.Name t1 p1,.Name t2 p2] k p3)) pos.line zz=pure false)
  (hw:∀zz,EnvOk sc zz->swappedStores [.Tuple [.Name t1 p1,.Name t2 p2] k p3] value zz=pure (some [t1,t2])):
  N7 V w H0 n sc σ zx (.Assign [.Tuple [.Name t1 p1,.Name t2 p2] k p3] value pos) (.next ((t1,e1)::(t2,e2)::σ)):=by
 intro A zz s zy g o F;show wpAny _ A (standAt pos >>=fun Z=>swapsWithSole [.Tuple [.Name t1 p1,.Name t2 p2] k p3] value pos.line zz >>=fun b=>if b=true then _ else _) _ _ s;refine Ac (wpAny_standAt (Ac ?_));show wpAny _ A (swapsWith value (some (.Tuple [.Name t1 p1,.Name t2 p2] k p3)) pos.line zz) _ _ s;rw[hs zz o];refine Ag ?_;rw[if_neg Bool.false_ne_true];refine Ac (Aq (h A zz s zy g o F) fun v s₁ q=>?_);have F1:=F.ext q.ext;refine Ac ?_;rw[hw zz o];refine Ag ?_;show wpAny _ A (rule "assign.swapped-stores" >>=fun Z=>unpackItems v 2 none >>=fun items=>assignInOrder [bindName zz t2,bindName zz t1] items.reverse >>=fun Z=>pure Flow.next) _ _ s₁;refine Ac (wpAny_rule (Ac (Aq (hu A s₁ zy v g F1.toBase q.val) fun vs s2 q2=>?_)));have F2:=F1.ext q2.ext;obtain⟨h₁,t₁,rfl,ex1,_⟩:=q;obtain⟨h₂,t₂,rfl,ex2,mv⟩:=q2;obtain⟨v1,v2,rfl,m1,m2⟩:=GU mv;refine Ac ?_;show wpAny _ A (holding [v1] (bindName zz t2 v2) >>=fun Z=>holding [] (bindName zz t1 v1) >>=fun Z=>pure ()) _ _ _;refine Ac (wpAny_holding (wpAny_bindName (Ah (E8 F2 m2 o.kf (Cm o h2)) (fun Z s3 q3=>?_) fun Z Z f=>f)));refine Bh q3 fun h₃ t3 x3 k3 F3=>?_;try clear q3;subst x3
 have m1':=m1.ext (AW (EC F2 _) k3);refine Ac (wpAny_holding (wpAny_bindName (Ah (E8 F3 m1' o.kf (Cm o h1)) (fun Z s4 q4=>?_) fun Z Z f=>f)));refine Bh q4 fun h4 t4 x3 k4 F4=>?_;try clear q4;subst x3
 refine Ag (Ag ⟨h4,t4,rfl,?_,rfl,F4⟩);refine(ex1.keep _).trans ((ex2.keep _).trans ((k3.more ?_).trans (k4.more ?_)))
 ·intro a m;exact AL zz zx [t2] a (by simpa [AZ] using m)
 ·intro a m;exact AL zz zx [t1] a (by simpa [AZ] using m)
def FnP(V:Program)(w:World)(H0:Heap)(n:Nat)(f:Value)(xs:List Ent)(P:Heap->Value->Prop):Prop:=
 ∀A s zy vs,Good n A->Base H0 zy s.heap->MeansAll (vis s.heap zy) vs xs->wpAny (model V w) A (call f vs) (Pu s zy P) CO s
theorem FnP.le{k:Nat}{f:Value}{xs:List Ent}{P:Heap->Value->Prop}(h:FnP V w H0 n f xs P)(hk:n≤k):FnP V w H0 k f xs P:=
 fun A s zy vs g B m=>h A s zy vs (g.le hk) B m
def Cn(H0:Heap)(f:Value):Prop:=∀(M:Model) h,Ext H0 h->∃k,(k=Keeper.frame∨k=Keeper.machine∨k=Keeper.boundFrame)∧Looks M h (keeperOf f) k
theorem Kc{f:Addr}{o:Obj}{fd:FuncData}(ho:H0.get? f=some o)(hd:o.data=.func fd):Cn H0 (.ref f):=by
 intro M h e;refine⟨.frame,.inl rfl,(Looks.ld (part:=none) (e _ _ ho)).andThen ?_⟩
 (refine hd.symm▸ ?_);exact .now
theorem Be{id:String}:Cn H0 (.builtin id):=fun M h e=>⟨.machine,.inr (.inl rfl),.now⟩
theorem B2{id:String}:Cn H0 (.type id):=fun M h e=>⟨.machine,.inr (.inl rfl),.now⟩
theorem CI{M:Model}{A:Around}{E:Value->Shared->Prop}{s:Shared}{f:Value}{trees:List (Bool×Sem Value)}{Q:Args->Shared->Prop}(hp:trees.any (·.1)=false)
  (h:wpAny M A (spliced trees) (fun vs s'=>Q ⟨vs,[]⟩ s') E s):wpAny M A (evalArgs f true trees []) Q E s:=by
 match trees,hp,h with
 |[],_,h=>
  unfold evalArgs;show wpAny M A (spliced [] >>=_) Q E s;refine Ac (Ah h (fun vs s' h'=>?_) fun Z Z x=>x);exact wpAny_holding (Ac (Ag (Ac (Ag (Ag h')))))
 |(false,x)::rest,_,h=>exact evalArgs_plain h
 |(true,x)::rest,hp,_=>exact E3 hp
theorem B9{A:Around}{zz:Env}{s:Shared}{zy:List Addr}{f:Value}{first:List Value}{pos:Pos}{trees:List (Bool×Sem Value)}{xs:List Ent}{Q:Value->Shared->Prop}(hH:Ext H0 s.heap)(hc:Cn H0 f)(hp:trees.any (·.1)=false)
  (ha:wpAny (model V w) A (spliced trees) (Pu s zy (fun g vs=>MeansAll g vs xs)) CO s)
  (h:∀vs s₁,Pu s zy (fun g vs=>MeansAll g vs xs) vs s₁->wpAny (model V w) A (call f (first++vs)) Q CO s₁):
  wpAny (model V w) A (callWith pos f first trees []) Q CO s:=by
 refine callWith_of (P:=fun h=>Ext H0 h) (by rw[hp];rfl) (fun h e=>hc _ h e) (CI hp ?_);exact Aq ha fun vs s₁ q=>⟨hH.trans q.ext,h vs s₁ q⟩
theorem Sa{x:Str}{p pos:Pos}{args:List Expr}{f:Value}{xs:List Ent}{P:Heap->Value->Prop}(hf:Am V w H0 n sc σ zx (.Name x p) (.v f))(hc:Cn H0 f)(ha:Ey V w H0 n sc σ zx pos args xs)(hcall:FnP V w H0 n f xs P)
  (hb:∀zz,(backTo pos (starEach args zz)).any (·.1)=false):EvP V w H0 n sc σ zx (.Call (.Name x p) args [] pos) P:=by
 intro A zz s zy g o F;refine Call_Name rfl (Aq (hf A zz s zy g o F) fun v s₁ q=>?_);have e1:=q.val;subst e1;have F1:=F.ext q.ext;refine B9 (zz:=zz) F1.toBase.h0 hc (hb zz) (ha A zz s₁ zy g o F1) fun vs s2 q2=>?_;exact Aq (hcall A s2 zy vs g (F1.ext q2.ext).toBase q2.val) fun Z Z q3=>(q.trans q2).trans q3
theorem HW{k:Str->Option NameKind}{x:Str}:∀{binds:List (Str×Value)} {m:Str->Option Value},x∉binds.map (·.1)->bindL k binds m x=m x:=by
 intro binds
 induction binds with
 |nil=>
  intro m Z;exact rfl
 |cons hd0 r HW=>
  rcases hd0 with ⟨y,v⟩;intro m h;have h1:x≠y:=fun q=>h (by simp[q]);have h2:x∉r.map (·.1):=fun q=>h (by simp only[map_cons,mem_cons];exact .inr q);show bindL k r _ x=m x;rw[HW h2];split<;> simp[h1]
theorem HY{k:Str->Option NameKind}{x:Str}:∀{binds:List (Str×Value)} {m:Str->Option Value},x∉binds.map (·.1)->bindC k binds m x=m x:=by
 intro binds
 induction binds with
 |nil=>
  intro m Z;exact rfl
 |cons hd0 r HY=>
  rcases hd0 with ⟨y,v⟩;intro m h;have h1:x≠y:=fun q=>h (by simp[q]);have h2:x∉r.map (·.1):=fun q=>h (by simp only[map_cons,mem_cons];exact .inr q);show bindC k r _ x=m x;rw[HY h2];split<;> simp[h1]
theorem OM{k:Str->Option NameKind}{x:Str}{v:Value}(hk:k x=some .local){binds:List (Str×Value)}:∀{m:Str->Option Value},(binds.map (·.1)).Nodup->(x,v)∈binds->bindL k binds m x=some v:=by
 induction binds with
 |nil=>exact fun Z h=>BK h
 |cons p r ih=>
  intro m hn h;rw[map_cons,nodup_cons] at hn;rcases BF h with e|h
  ·rw[←e] at hn ⊢
   show bindL k r _ x=_;rw[HW hn.1,if_pos hk];exact if_pos rfl
  ·exact ih hn.2 h
theorem ON{k:Str->Option NameKind}{x:Str}{v:Value}(hk:k x≠some .local){binds:List (Str×Value)}:∀{m:Str->Option Value},(binds.map (·.1)).Nodup->(x,v)∈binds->bindC k binds m x=some v:=by
 induction binds with
 |nil=>exact fun Z h=>BK h
 |cons p r ih=>
  intro m hn h;rw[map_cons,nodup_cons] at hn;rcases BF h with e|h
  ·rw[←e] at hn ⊢
   show bindC k r _ x=_;rw[HY hn.1,if_neg hk];exact if_pos rfl
  ·exact ih hn.2 h
theorem Jd{g:Heap}{x:Str}{e:Ent}{ps:List Str}:∀{vs:List Value} {xs:List Ent},MeansAll g vs xs->(ps.zip xs).lookup x=some e->∃v,(x,v)∈ps.zip vs∧Means g v e:=by
 induction ps with
 |nil=>exact fun Z h=>CE h
 |cons p ps ih=>
  intro vs xs m h;cases vs with
  |nil=>cases xs with
   |nil=>exact CE h
   |cons=>exact m.elim
  |cons v vs=>cases xs with
   |nil=>exact m.elim
   |cons y ys=>
    rw[List.zip_cons_cons,lookup_cons] at h;cases q:x==p with
    |true=>
     rw[q] at h;rw[Option.some.inj h] at m;exact⟨v,by rw[show x=p from of_decide_eq_true q];exact .head _,m.1⟩
    |false=>
     rw[q] at h;exact(ih m.2 h).elim fun u c=>⟨u,.tail _ c.1,c.2⟩
structure DefIs(H0:Heap)(f:Addr)(fd:FuncData)(sc:Scope)(ps:List Str)(body:List Stmt):Prop where
 obj:∃o,H0.get? f=some o∧o.data=.func fd
 lim:H0.NoLimit
 rec':H0.CodeRec fd.code fd.qualname
 body:fd.body=.stmts body
 clo:fd.closure=[]
 scope:fd.scope=sc
 glob:fd.globals=mainGlobals
 bi:fd.builtins=builtinsNs
 bind:∀vs:List Value,vs.length=ps.length->bindArgs fd ⟨vs,[]⟩=pure (ps.zip vs)
noncomputable def Fa (sc:Scope) (ps:List Str):Bool:=
 sc.kind==.function && !sc.isCoroutine && !sc.isGenerator && decide ((cellsFrom 0 sc.names []).map (·.1)).Nodup && decide ps.Nodup &&
 ps.all (fun x=>sc.names.lookup x==some .local ||sc.names.lookup x==some .cell) &&
 sc.names.all (fun x=>x.2 !=.free) &&
 sc.names.all (fun x=>sc.names.lookup x.1 !=some .cell ||((cellsFrom 0 sc.names []).lookup x.1).isSome) && (cellsFrom 0 sc.names []).all (fun x=>sc.names.lookup x.1==some .cell)
theorem DefIs.callee{f:Addr}{fd:FuncData}{ps:List Str}{body:List Stmt}(D:DefIs H0 f fd sc ps body):Cn H0 (.ref f):=let⟨_,a,b⟩:=D.obj;Kc a b
theorem D8{cs cs':List (Str×Addr)}(h:cs.map (·.1)=cs'.map (·.1))(x:Str):(cs.lookup x).isSome=(cs'.lookup x).isSome:=by
 induction cs generalizing cs' with
 |nil=>cases cs' with|nil=>rfl|cons _ _=>exact Vz h
 |cons p r ih=>
  cases cs' with
  |nil=>exact VA h
  |cons q r'=>
   simp only[map_cons,List.cons.injEq] at h;obtain⟨a,b⟩:=p;obtain⟨c,d⟩:=q;simp only at h;refine BL h fun x1 x2=>?_;try clear h;revert x2;intro h;subst x1
   rw[lookup_cons,lookup_cons];cases x==a
   ·exact ih h
   ·rfl
noncomputable def Dh (cells:List (Str×Addr)):List (Str×NameKind)->List (Str×Addr)->List (Str×Addr)
 |[],acc=>acc
 |(x,k)::r,acc=>Dh cells r (if k==.free then (x,(cells.lookup x).getD 0)::acc else acc)
theorem Hn(cells:List (Str×Addr))(x:Str)(k:NameKind)(r:List (Str×NameKind))(acc:List (Str×Addr)):Dh cells ((x,k)::r) acc=Dh cells r (if k==.free then (x,(cells.lookup x).getD 0)::acc else acc):=rfl
theorem ED(n:Nat)(x:Str)(k:NameKind)(r:List (Str×NameKind))(acc:List (Str×Addr)):cellsFrom n ((x,k)::r) acc=if k==.cell then cellsFrom (n+1) r ((x,n)::acc) else cellsFrom n r acc:=rfl
theorem LN(h:Heap)(x:Str)(k:NameKind)(r:List (Str×NameKind)):pushCells h ((x,k)::r)=if k==.cell then pushCells (h.push {cls:=.type "cell",data:=.cell none}) r else pushCells h r:=rfl
theorem J0{scope:Scope}{zz:Env}(h:∀x∈scope.names,x.2=.free->(zz.cells.lookup x.1).isSome=true):closureFor scope zz=pure (Dh zz.cells scope.names []):=by
 have gen:∀(names:List (Str×NameKind)) (acc:List (Str×Addr)),(∀x∈names,x.2=.free->(zz.cells.lookup x.1).isSome=true)->
   (forIn names acc (fun x r=>(match x with|(name,kind)=>if(kind==.free)=true then (do let a ←cellOf zz name;pure (ForInStep.yield ((name,a)::r))) else pure (ForInStep.yield r):Sem (ForInStep (List (Str×Addr))))))=pure (Dh zz.cells names acc):=by
  intro names
  induction names with
  |nil=>intro acc Z;rfl
  |cons x r ih=>
   intro acc hx;obtain⟨x,k⟩:=x;rw[forIn_cons]
   by_cases hk:k=.free
   ·subst hk
    refine ex1 (Option.isSome_iff_exists.mp (hx (x,.free) mem_cons_self rfl)) fun c hc=>?_;have e1:cellOf zz x=pure c:=by unfold cellOf;rw[hc]
    simp only[beq_self_eq_true,if_true,e1];show(forIn r ((x,c)::acc) _:Sem _)=_
    (refine(ih _ fun y hy=>hx y (mem_cons_of_mem _ hy)).symm▸ ?_)
    simp[Hn,hc]
   ·have hb:(k==NameKind.free)=false:=by simpa using hk
    simp only[hb,Bool.false_eq_true,if_false];show(forIn r acc _:Sem _)=_
    (refine(ih _ fun y hy=>hx y (mem_cons_of_mem _ hy)).symm▸ ?_)
    simp[Hn,hb]
 have e:=congrArg (fun t:Sem (List (Str×Addr))=>t >>=fun cs=>pure cs) (gen scope.names [] h);exact Eq.trans (by rfl) (e.trans rfl)
theorem GY{cells:List (Str×Addr)}:∀{names:List (Str×NameKind)} {acc:List (Str×Addr)} {x:Str} {c:Addr},(x,c)∈Dh cells names acc->(x,c)∈acc∨((x,NameKind.free)∈names∧c=(cells.lookup x).getD 0):=by
 intro names
 induction names with
 |nil=>
  intro acc x c h;exact .inl h
 |cons hd0 r GY=>
  rcases hd0 with ⟨y,k⟩;intro acc x c h;rcases GY h with h|⟨h1,h2⟩
  ·by_cases hk:k=.free
   ·subst hk
    simp only[beq_self_eq_true,if_true] at h;rcases BF h with e|h
    ·cases e;exact .inr ⟨mem_cons_self,rfl⟩
    ·exact .inl h
   ·have hb:(k==NameKind.free)=false:=by simpa using hk
    simp only[hb,Bool.false_eq_true,if_false] at h;exact .inl h
  ·exact .inr ⟨mem_cons_of_mem _ h1,h2⟩
theorem Cu{cells:List (Str×Addr)}{x:Str}:∀{names:List (Str×NameKind)} {acc:List (Str×Addr)},((x,NameKind.free)∈names∨∃c,acc.lookup x=some c∧c=(cells.lookup x).getD 0)->(∀c,acc.lookup x=some c->c=(cells.lookup x).getD 0)->
  (Dh cells names acc).lookup x=some ((cells.lookup x).getD 0):=by
 intro names
 induction names with
 |nil=>
  intro acc h Z;rcases h with h|⟨c,h,rfl⟩
  ·exact BK h
  ·exact h
 |cons hd0 r Cu=>
  rcases hd0 with ⟨y,k⟩;intro acc h hc;rw[Hn]
  by_cases hk:k=.free
  ·subst hk
   simp only[beq_self_eq_true,if_true]
   by_cases hy:x=y
   ·subst hy
    exact Cu (.inr ⟨_,by rw[lookup_cons];simp,rfl⟩) (fun c e=>by rw[lookup_cons] at e;simp at e;exact e.symm)
   ·have e:(((y,(cells.lookup y).getD 0)::acc).lookup x)=acc.lookup x:=AS hy
    refine Cu ?_ (fun c q=>hc c (by rwa [e] at q));rcases h with h|h
    ·rcases BF h with q|h
     ·cases q;exact absurd rfl hy
     ·exact .inl h
    ·(refine e.symm▸ ?_);exact .inr h
  ·have hb:(k==NameKind.free)=false:=by simpa using hk
   simp only[hb,Bool.false_eq_true,if_false];refine Cu ?_ hc;rcases h with h|h
   ·rcases BF h with q|h
    ·cases q;exact absurd rfl hk
    ·exact .inl h
   ·exact .inr h
theorem Fb{cells:List (Str×Addr)}:∀(names:List (Str×NameKind)) (acc:List (Str×Addr)),(Dh cells names acc).map (·.1)=(names.filterMap fun x=>if x.2==.free then some x.1 else none).reverse++acc.map (·.1):=by
 intro names
 induction names with
 |nil=>
  intro acc;exact rfl
 |cons hd0 r Fb=>
  rcases hd0 with ⟨y,k⟩;intro acc;rw[Hn,Fb]
  by_cases hk:k=.free
  ·subst hk;simp
  ·have hb:(k==NameKind.free)=false:=by simpa using hk
   simp[hk]
theorem DJ:∀{names:List (Str×NameKind)} {h:Heap} {acc:List (Str×Addr)} {x:Str} {c:Addr},(x,c)∈cellsFrom h.objs.size names acc->(x,c)∈acc∨(h.objs.size≤c∧(pushCells h names).IsCell c none∧(x,NameKind.cell)∈names):=by
 intro names
 induction names with
 |nil=>
  intro h acc x c m;exact .inl m
 |cons hd0 r DJ=>
  rcases hd0 with ⟨y,k⟩;intro h acc x c m;rw[ED] at m;rw[LN]
  by_cases hk:k=.cell
  ·subst hk
   simp only[beq_self_eq_true,if_true] at m ⊢;have e:h.objs.size+1=(h.push {cls:=.type "cell",data:=.cell none}).objs.size:=(Heap.size_push ..).symm;rw[e] at m;rcases DJ m with m|⟨m1,m2,m3⟩
   ·rcases BF m with q|m
    ·cases q
     exact .inr ⟨le_refl _,⟨_,pushCells_keeps r _ _ _ (Heap.get?_push_size _ rfl),rfl⟩,mem_cons_self⟩
    ·exact .inl m
   ·exact .inr ⟨by have m1:=m1;rw[←e] at m1;exact le_of_succ_le m1,m2,mem_cons_of_mem _ m3⟩
  ·have hb:(k==NameKind.cell)=false:=by simpa using hk
   simp only[hb,Bool.false_eq_true,if_false] at m ⊢;rcases DJ m with m|⟨m1,m2,m3⟩
   ·exact .inl m
   ·exact .inr ⟨m1,m2,mem_cons_of_mem _ m3⟩
theorem C3:∀{names:List (Str×NameKind)} {b:Nat} {acc:List (Str×Addr)},(acc.Pairwise fun x y=>x.2≠y.2)->(∀p∈acc,p.2<b)->(cellsFrom b names acc).Pairwise fun x y=>x.2≠y.2:=by
 intro names
 induction names with
 |nil=>
  intro b acc h Z;exact h
 |cons hd0 r C3=>
  rcases hd0 with ⟨y,k⟩;intro b acc h hb;rw[ED];split
  ·refine C3 (List.pairwise_cons.mpr ⟨fun p hp=>ne_of_gt (hb p hp),h⟩) fun p hp=>?_
   rcases BF hp with rfl|hp
   ·exact lt_succ_self _
   ·exact lt_succ_of_lt (hb p hp)
  ·exact C3 h hb
theorem CJ{x:Str}:∀{names:List (Str×NameKind)} {b:Nat} {acc:List (Str×Addr)},(x,NameKind.cell)∉names->(cellsFrom b names acc).lookup x=acc.lookup x:=by
 intro names
 induction names with
 |nil=>
  intro b acc Z;exact rfl
 |cons hd0 r CJ=>
  rcases hd0 with ⟨y,k⟩;intro b acc h;rw[ED];split
  ·rename_i hk
   have hk:k=.cell:=of_decide_eq_true hk;subst hk;have hy:x≠y:=fun q=>h (by rw[q];exact mem_cons_self);rw[CJ fun m=>h (mem_cons_of_mem _ m),AS hy]
  ·exact CJ fun m=>h (mem_cons_of_mem _ m)
theorem Cz{x:Str}:∀{names:List (Str×NameKind)} {b:Nat} {acc:List (Str×Addr)},((x,NameKind.cell)∈names∨(acc.lookup x).isSome=true)->((cellsFrom b names acc).lookup x).isSome=true:=by
 intro names
 induction names with
 |nil=>
  intro b acc h;exact h.elim (BK) id
 |cons hd0 r Cz=>
  rcases hd0 with ⟨y,k⟩;intro b acc h;rw[ED]
  by_cases hk:k=.cell
  ·subst hk
   simp only[beq_self_eq_true,if_true];refine Cz ?_
   by_cases hy:x=y
   ·subst hy;exact .inr (by rw[lookup_cons];simp)
   ·rw[AS hy]
    rcases h with h|h
    ·rcases BF h with q|h
     ·cases q;exact absurd rfl hy
     ·exact .inl h
    ·exact .inr h
  ·have hb:(k==NameKind.cell)=false:=by simpa using hk
   simp only[hb,Bool.false_eq_true,if_false];refine Cz ?_;rcases h with h|h
   ·rcases BF h with q|h
    ·cases q;exact absurd rfl hk
    ·exact .inl h
   ·exact .inr h
noncomputable def BQ (sc scope:Scope):Bool:=
 scope.kind==.function && decide (scope.names.map (·.1)).Nodup && scope.names.all (fun x=>x.2 !=.free ||(sc.names.lookup x.1==some .cell ||sc.names.lookup x.1==some .free)) &&
 scope.names.all (fun x=>x.2 !=.local ||scope.names.lookup x.1==some .local)
noncomputable def CR (sc scope:Scope):Scope:={scope with names:=scope.names.map fun(x,k)=>if(k==.free && sc.kind==.function && sc.names.lookup x==some .cell) then (x,.cell) else (x,k)}
noncomputable def Cj (scope:Scope) (σ:AN):AN:=scope.names.filterMap fun x=>if x.2==.free then (σ.lookup x.1).map fun e=>(x.1,e) else none
theorem Fc{α:Type}{l:List (Str×α)}{x:Str}{c:α}(hn:(l.map (·.1)).Nodup)(h:(x,c)∈l):l.lookup x=some c:=by
 induction l with
 |nil=>exact BK h
 |cons p r ih=>
  rw[map_cons,nodup_cons] at hn;rcases BF h with e|h
  ·rw[←e,lookup_cons,beq_self_eq_true]
  ·have:x≠p.1:=fun q=>hn.1 (by rw[←q];exact mem_map.mpr ⟨_,h,rfl⟩)
   exact(AS this).trans (ih hn.2 h)
theorem KX{scope:Scope}{σ:AN}{x:Str}{e:Ent}(h:(Cj scope σ).lookup x=some e):(x,NameKind.free)∈scope.names∧σ.lookup x=some e:=by
 have m:=mem_of_lookup h;unfold Cj at m;refine Ad (List.mem_filterMap.mp m) fun x1 hy q=>?_;rcases x1 with ⟨y,k⟩
 by_cases hk:k=.free
 ·subst hk
  simp only[beq_self_eq_true,if_true] at q;cases hl:σ.lookup y with
  |none=>rw[hl] at q;exact CE q
  |some d=>rw[hl] at q;simp at q;refine BL q fun x1 x2=>?_;try clear q;subst x1;subst x2;exact⟨hy,hl⟩
 ·have hb:(k==NameKind.free)=false:=by simpa using hk
  simp[hb] at q
theorem Kd{M:Model}{Γ:Ctx}{p:Pos}{t:Sem PySem.Fin}{fs:List Frame}{s s':Shared}{e:End}(h:Runs M Γ p t fs s e s'):s.toks≤s'.toks:=by
 induction h with
 |done|raise|yield=>exact le_refl _
 |again _ _ ih|rule _ ih|«at» _ ih|load _ _ ih|update _ _ ih|loadIfAlive _ ih|point _ ih|alloc _ ih|ask _ ih|choose _ _ ih|os _ ih|handled _ ih|genState _ _ ih|stack _ ih|thread _ ih|newGen _ ih|callSusp _ ih|resumeJustStarted _ _ _ ih|resumeThrowFresh _ _ ih|resumeRunning _ _ ih|resumeFinished _ _ ih|segSuspOut _ _ ih=>exact ih
 |fresh _ ih=>exact le_trans (le_succ _) ih
 |call _ _ ih1 ih2|resumeFresh _ _ _ _ ih1 ih2|resumeSuspended _ _ _ _ ih1 ih2|segRet _ _ ih1 ih2|segGen _ _ ih1 ih2|segSuspGen _ _ _ _ ih1 ih2=>exact le_trans ih1 ih2
theorem MT{M:Model}{Γ:Ctx}{p:Pos}{g:Nat}{r:Resume}{s s':Shared}{res:GenResult}(h:Wakes M Γ p g r s res s'):s.toks≤s'.toks:=by
 have run:∀{Γ:Ctx} {p:Pos} {t:Sem PySem.Fin} {fs:List Frame} {st:GenState},(∃e1 s₁,Runs M Γ p t fs (s.setGen g st) e1 s₁∧e1.quiet=true∧res=e1.result∧s'=s₁.setGen g e1.genState)->s.toks≤s'.toks:=fun⟨_,s₁,h1,_,_,e⟩=>by
  rw[e];have q:=Kd h1;exact q
 have two:∀{P:Prop} {s₁:Shared},P∧s'=s₁->s₁.toks=s.toks->s.toks≤s'.toks:=fun h e=>by rw[h.2,e];exact le_refl _
 revert h
 delta Wakes
 cases s.gens[g]? with
 |none=>exact False.elim
 |some st=>cases st with
  |fresh c=>cases r with
   |send v=>cases v<;> first|exact run|exact fun h=>two h rfl
   |throw x=>exact fun h=>two h rfl
  |suspended k0 l c0 p₀ fs cl=>exact run
  |running|finished=>exact fun h=>two h rfl
theorem Sb{α:Type}{M:Model}{Γ:Ctx}{Q:α->Pos->Shared->Prop}{E:Value->Pos->Shared->Prop}{k:Nat}(t:Sem α):∀(p:Pos) (s:Shared),k≤s.toks->Sem.wp M Γ t Q E p s->Sem.wp M Γ t (fun a p s'=>k≤s'.toks∧Q a p s') E p s:=by
 induction t with
 |pure x=>exact fun p s hk h=>⟨hk,h⟩
 |raise v=>exact fun p s hk h=>h
 |unsupported|finish|yield|fork|await|register=>exact fun p s hk h=>h
 |rule _ k ih|«at» _ k ih|alloc _ k ih|loadIfAlive _ k ih|point _ k ih|ask k ih|os _ _ k ih|handled _ k ih|newGen _ k ih|stack k ih|thread k ih=>exact fun p s hk h=>ih _ _ _ hk h
 |fresh k ih=>exact fun p s hk h=>ih _ _ {s with toks:=s.toks+1} (le_succ_of_le hk) h
 |load a _ k ih|genState a k ih=>exact fun p s hk ⟨o,ho,h⟩=>⟨o,ho,ih _ _ _ hk h⟩
 |update a _ f k ih=>exact fun p s hk ⟨ha,h⟩=>⟨ha,ih _ _ {s with heap:=s.heap.update a f} hk h⟩
 |choose src n k ih=>exact fun p s hk ⟨ha,h⟩=>⟨ha,ih _ _ {s with drawn:=s.drawn.bump src} hk h⟩
 |call c h g l k ih=>exact fun p s hk ⟨r,s',hr,h⟩=>⟨r,s',hr,ih r p s' (le_trans hk (Kd hr)) h⟩
 |resume g r l k ih=>exact fun p s hk ⟨res,s',hw,h⟩=>⟨res,s',hw,ih _ _ _ (le_trans hk (MT hw)) h⟩
theorem Bv{α:Type}{M:Model}{A:Around}{t:Sem α}{Q:α->Shared->Prop}{E:Value->Shared->Prop}{s:Shared}{k:Nat}(hk:k≤s.toks)(h:wpAny M A t Q E s):wpAny M A t (fun a s'=>k≤s'.toks∧Q a s') E s:=
 fun Γ p hΓ=>Sb t p s hk (h Γ p hΓ)
structure AccK(β:Type) where
 R:Heap->List Addr->Addr->β->Prop
 move:∀{h h':Heap} {zy zy':List Addr} {D:Addr} {b:β},(∀o,h.get? D=some o->h'.get? D=some o)->Ext (vis h zy) (vis h' zy')->R h zy D b->R h' zy' D b
 alive:∀{h:Heap} {zy:List Addr} {D:Addr} {b:β},R h zy D b->∃o,h.get? D=some o
noncomputable def listK:AccK (List PyData) where
 R:=fun h zy D ds=>∃vs,h.IsList D (toArray vs)∧F2 (fun v d=>Rd d (vis h zy) v) vs ds
 move:=fun hD x ⟨vs,⟨o,e,r⟩,f⟩=>⟨vs,⟨o,hD o e,r⟩,f.imp fun Z Z q=>q.ext x⟩
 alive:=fun⟨_,⟨o,e,_⟩,_⟩=>⟨o,e⟩
def UM(D:Addr)(zz:Env)(zx:Aw):Prop:=D≠zz.locals∧(∀p∈zz.cells,p.2≠D)∧∀p∈zx,p.1≠D
section
variable{V:Program}{w:World}{H0:Heap}{n:Nat}{sc:Scope}{σ:AN}{β:Type}{K:AccK β}
def CoP(V:Program)(w:World)(H0:Heap)(n:Nat)(sc:Scope)(σ:AN)(zx:Aw)(xs:List Str)(K:AccK β)(t:Env->Value->Sem Unit)(b b':β):Prop:=
 ∀A zz s zy D,Good n A->EnvOk sc zz->Fm H0 zy zx zz σ s.heap->D∈zy->UM D zz zx->K.R s.heap zy D b->
  wpAny (model V w) A (t zz (.ref D)) (fun Z s'=>∃h' tk,s'={s with heap:=h',toks:=tk}∧KeepBut (D::AZ zz xs) s.heap h'∧Fm H0 zy zx zz σ h'∧K.R h' zy D b') CO s
def PZ(j:Nat)(V:Program)(w:World)(H0:Heap)(n:Nat)(sc:Scope)(σ:AN)(zx:Aw)(xs:List Str)(K:AccK β)(t:Env->Value->Sem Unit)(b b':β):Prop:=
 ∀A zz s zy D,j≤s.toks->Good n A->EnvOk sc zz->Fm H0 zy zx zz σ s.heap->D∈zy->UM D zz zx->K.R s.heap zy D b->
  wpAny (model V w) A (t zz (.ref D)) (fun Z s'=>∃h' tk,s'={s with heap:=h',toks:=tk}∧KeepBut (D::AZ zz xs) s.heap h'∧Fm H0 zy zx zz σ h'∧K.R h' zy D b') CO s
theorem CoP.j{j:Nat}{zx:Aw}{xs:List Str}{t:Env->Value->Sem Unit}{b b':β}(h:CoP V w H0 n sc σ zx xs K t b b'):PZ j V w H0 n sc σ zx xs K t b b':=fun A zz s zy D Z=>h A zz s zy D
def OO(V:Program)(w:World)(H0:Heap)(n:Nat)(sc:Scope)(σ:AN)(zx:Aw)(ifs:List Expr)(p:Bool):Prop:=
 ∀A zz s zy,Good n A->EnvOk sc zz->Fm H0 zy zx zz σ s.heap->
  wpAny (model V w) A (forIn ifs true fun c r=>if r=true then do let ok ←isTrue c zz (eval c zz);pure (ForInStep.yield ok) else pure (ForInStep.yield r)) (Pu s zy (fun Z c=>c=p)) CO s
theorem BW{zx:Aw}:OO V w H0 n sc σ zx [] true:=fun A zz s zy g o F=>Ag (Pu.here rfl)
theorem Fd{zx:Aw}{c:Expr}{p:Bool}(h:FI V w H0 n sc σ zx c p):OO V w H0 n sc σ zx [c] p:=fun A zz s zy g o F=>wpAny_tests_one (h A zz s zy g o F)
theorem Sc{D:Addr}{zz:Env}{zx:Aw}(h:UM D zz zx)(xs:List Str):D∉AZ zz xs:=by
 intro m;refine Ad (mem_flatMap.mp m) fun x Z m=>?_;unfold DI at m;split at m
 ·exact h.1 (AU m)
 ·cases e:zz.cells.lookup x with
  |none=>rw[e] at m;exact BK m
  |some c=>rw[e] at m;replace m:=AU m;exact h.2.1 _ (mem_of_lookup e) m.symm
structure SrcT(V:Program)(w:World)(A:Around)(target:Expr)(g:Heap)(zy:List Addr)(I:Addr)(fp wr:List Addr)(ds:List Ent)(St:Nat->Heap->Prop):Prop where
 sub:∀b∈wr,b∈fp
 frame:∀i h h',St i h->(∀b∈fp,∀o,h.get? b=some o->h'.get? b=some o)->St i h'
 item:∀i (s:Shared) (e:Ent) (Q:Value->Shared->Prop) (E:Value->Shared->Prop),ds[i]? =some e->St i s.heap->Ext g (vis s.heap zy)->(∀b∈zy,∃o,s.heap.get? b=some o)->
  (∀v h' tk,Means (vis h' zy) v e->St (i+1) h'->(∀b o,b∉wr->s.heap.get? b=some o->h'.get? b=some o)->Q v {s with heap:=h',toks:=tk})->
  wpAny (model V w) A (pyNext (.ref I)) (fun r s'=>∃v,r=some v∧wpAny (model V w) A (letOwnedTupleGo target (.ref I) v) (fun Z s''=>Q v s'') E s') E s
 done:∀(s:Shared) (Q:Option Value->Shared->Prop) (E:Value->Shared->Prop),St ds.length s.heap->
  (∀h' tk,(∀b o,b∉wr->s.heap.get? b=some o->h'.get? b=some o)->Q none {s with heap:=h',toks:=tk})->wpAny (model V w) A (pyNext (.ref I)) Q E s
 self:∀i (s:Shared) (Q:Value->Shared->Prop) (E:Value->Shared->Prop),St i s.heap->Q (.ref I) s->wpAny (model V w) A (pyIter (.ref I)) Q E s
 alive:∀i h,St i h->∀b∈wr,∃o,h.get? b=some o
theorem SrcT.next{β:Type}{j:Nat}{A:Around}{target:Expr}{g:Heap}{zy:List Addr}{I:Addr}{fp wr:List Addr}{ds:List Ent}{St:Nat->Heap->Prop}(S:SrcT V w A target g zy I fp wr ds St){k:Value->Sem β}{z:Sem β}{Q:β->Shared->Prop}{E:Value->Shared->Prop}{s:Shared}{i:Nat}{e:Ent}
  (hj:j≤s.toks)(he:ds[i]? =some e)(st:St i s.heap)(hg:Ext g (vis s.heap zy))(hal:∀b∈zy,∃o,s.heap.get? b=some o)
  (h:∀v h' tk,j≤tk->Means (vis h' zy) v e->St (i+1) h'->(∀b o,b∉wr->s.heap.get? b=some o->h'.get? b=some o)->wpAny (model V w) A (k v) Q E {s with heap:=h',toks:=tk}):
  wpAny (model V w) A (pyNext (.ref I) >>=fun r=>match r with|none=>z|some v=>letOwnedTupleGo target (.ref I) v >>=fun Z=>k v) Q E s:=
 Ac (Ah (Bv hj (S.item i s e (fun v s''=>j≤s''.toks->wpAny (model V w) A (k v) Q E s'') E he st hg hal fun v h' tk a b c ht=>h v h' tk ht a b c))
  (fun r s' q=>by
   obtain⟨hj',v,rfl,q⟩:=q;exact Ac (Ah (Bv hj' q) (fun Z s'' z=>z.2 z.1) fun Z Z f=>f)) fun Z Z f=>f)
def Je(t:Expr):Prop:=(∃y p,t=.Name y p)∨∃es k p,t=.Tuple es k p
theorem Src.toT{A:Around}{target:Expr}{g:Heap}{zy:List Addr}{I:Addr}{fp wr:List Addr}{ds:List Ent}{St:Nat->Heap->Prop}(S:Src V w A g I fp wr ds St)(htg:Je target)(hw:Cf wr zy):
  SrcT V w A target g zy I fp wr ds St where
 sub:=S.walk.sub
 frame:=S.walk.frame
 item:=fun i s e Q E he st hg hal hQ=>by
  refine S.walk.item i s _ _ (List.getElem?_eq_some_iff.mp he).1 st fun v h₃ t3 hv st3 k3=>⟨v,rfl,?_⟩;refine Ad hv fun e' he' me=>?_;rw[he] at he';cases he';have fin:=hQ v h₃ t3 (me.ext (hg.trans (AW hw k3))) st3 k3;rcases htg with ⟨y,p,rfl⟩|⟨es,kk,p,rfl⟩
  ·exact Ag fin
  ·cases v with
   |ref a=>
    refine Bh (S.plain (i+1) h₃ st3) fun oo T e1 e2 e3=>?_;show wpAny _ A (load I >>=fun o=>_) _ _ _;refine Ac (wpAny_load e1 ?_)
    (refine e2.symm▸ ?_)
    cases hd:oo.data<;> (try exact Ag fin)
    simp only;have:(["enumerate","zip","dict_itemiterator","dict_reverseitemiterator","odict_iterator","itertools.zip_longest","itertools.pairwise"].contains T)=false:=e3
    (refine this.symm▸ ?_)
    exact Ag fin
   |_=>exact Ag fin
 done:=S.walk.done
 self:=S.walk.self
 alive:=S.alive
inductive IsSrcT(V:Program)(w:World)(A:Around)(target:Expr)(s:Shared)(zy:List Addr)(ds:List Ent)(it:Value)(s₂:Shared):Prop
 |mk:∀I fp wr St h₂ tk g₀,it=.ref I->s₂={s with heap:=h₂,toks:=tk}->Ext s.heap h₂->(∀zy',Cf wr zy'->SrcT V w A target g₀ zy' I fp wr ds St)->St 0 h₂->(∀b∈wr,s.heap.get? b=none)->(∀b∈fp,b<h₂.objs.size∧b∉zy)->Ext g₀ (vis h₂ (wr++zy))->IsSrcT V w A target s zy ds it s₂
def Tv(V:Program)(w:World)(H0:Heap)(n:Nat)(sc:Scope)(σ:AN)(zx:Aw)(target iter:Expr)(ds:List Ent):Prop:=
 ∀A zz s zy,Good n A->EnvOk sc zz->Fm H0 zy zx zz σ s.heap->wpAny (model V w) A (eval iter zz) (fun x s₁=>wpAny (model V w) A (pyIter x) (IsSrcT V w A target s zy ds) CO s₁) CO s
theorem Iv{zx:Aw}{target iter:Expr}{x:Ent}{ds:List Ent}(hi:Am V w H0 n sc σ zx iter x)(h:DS V w H0 n x ds)(htg:Je target):Tv V w H0 n sc σ zx target iter ds:=by
 intro A zz s zy g o F;refine Aq (hi A zz s zy g o F) fun v s₁ q=>?_;refine Ah (h A s₁ zy v g (F.ext q.ext).toBase q.val) (fun it s2 q2=>?_) fun Z Z f=>f;obtain⟨h₁,t₁,rfl,ex1,_⟩:=q;obtain⟨I,fp,wr,St,h2,tk,a,rfl,c,S,d,e,f⟩:=q2;have fr:∀b∈wr,s.heap.get? b=none:=fun b hb=>by
  cases q:s.heap.get? b with
  |none=>rfl
  |some o=>have:=e b hb;rw[ex1 _ _ q] at this;exact E4 this
 exact⟨I,fp,wr,St,h2,tk,vis h₁ zy,a,rfl,ex1.trans c,fun zy' hw=>S.toT htg hw,d,fr,fun b hb=>⟨let⟨_,q⟩:=(f b hb).1;Heap.lt_size q,fun m=>(f b hb).2 m⟩,DQ c e⟩
inductive CompI{β:Type}(j:Nat)(H0:Heap)(s:Shared)(wr zy:List Addr)(zx:Aw)(zz:Env)(σ:AN)(g₀:Heap)(K:AccK β)(D:Addr)(B:Nat->β)(St:Nat->Heap->Prop)(own:List Addr)(m k:Nat)(s':Shared):Prop
 |mk:∀i h' tk,s'={s with heap:=h',toks:=tk}->j≤tk->i≤m->k=m - i->St i h'->Fm H0 (wr++zy) zx zz σ h'->Ext g₀ (vis h' (wr++zy))->K.R h' (wr++zy) D (B i)->KeepBut own s.heap h'->CompI j H0 s wr zy zx zz σ g₀ K D B St own m k s'
theorem Ke{j:Nat}{e:Expr}{d:Nat}{target iter:Expr}{ifs:List Expr}{tail:Env->Value->Sem Unit}{xs:List Str}{ds:List Ent}{zx:Aw}(B:Nat->β)
  (hturn:∀it acc zz,compTurn e d it acc zz=(do
   standAt iter.pos
   match ←pyNext it with
   |none=>pure (.done .next)
   |some v=>
    letOwnedTupleGo target it v
    assign target zz v
    let mut ok:=true
    for c in ifs do
     if ok then ok ←isTrue c zz (eval c zz)
    if ok then tail zz acc
    again (.compLoop e d it acc zz)))
  (hfr:∀it acc zz,(Code.compLoop e d it acc zz).isFrame=false)(hq:∀it acc zz,(Code.compLoop e d it acc zz).quiet=true)(hun:∀(A:Around) it acc zz,A.under (Code.compLoop e d it acc zz)=A)
  (turn:∀i x,ds[i]? =some x->∃bs p,MR V w H0 n sc target x bs∧Cf (bs.map (·.1)) xs∧(∀y∈bs.map (·.1),σ.lookup y=none)∧OO V w H0 n sc (bs++σ) zx ifs p∧
   (p=true->PZ j V w H0 n sc (bs++σ) zx xs K tail (B i) (B (i+1)))∧(p=false->B (i+1)=B i))
  {A:Around}{zz:Env}{s:Shared}{zy:List Addr}{D I:Addr}{fp wr:List Addr}{St:Nat->Heap->Prop}{g₀:Heap}{R:Result->Shared->Prop}
  (hj:j≤s.toks)(g:Good n A)(o:EnvOk sc zz)(S:SrcT V w A target g₀ (wr++zy) I fp wr ds St)(hst:St 0 s.heap)(F:Fm H0 (wr++zy) zx zz σ s.heap)(hD:D∈zy)(hoff:UM D zz zx)(hDw:D∉wr)(hDf:D∉fp)
  (hwr:∀b∈wr,b∉AI zz zx∧b∉zy)(hfp:∀b∈fp,b∉AI zz zx)(hg:Ext g₀ (vis s.heap (wr++zy)))(hK:K.R s.heap (wr++zy) D (B 0))(hhid:Cf (AI zz zx) zy)
  (hR:∀h' tk,KeepBut (wr++D::AZ zz xs) s.heap h'->Fm H0 zy zx zz σ h'->K.R h' zy D (B ds.length)->R (.ok .next) {s with heap:=h',toks:=tk}):
  codeAny (model V w) A (.compLoop e d (.ref I) (.ref D) zz) R s:=by
 refine codeAny_loop (hq _ _ _) (CompI j H0 s wr zy zx zz σ g₀ K D B St (wr++D::AZ zz xs) ds.length)
  (fun k s' hI=>?_) ds.length ⟨0,s.heap,s.toks,rfl,hj,zero_le _,rfl,hst,F,hg,hK,KeepBut.refl _ _⟩
 obtain⟨i,h',tk,rfl,hjt,hle,rfl,sti,Fi,gi,Ki,ki⟩:=hI;rw[hun];show wpAny _ A (if(Code.compLoop e d (.ref I) (.ref D) zz).isFrame=true then (compTurn e d (.ref I) (.ref D) zz).onRaise (leaving zz) else (compTurn e d (.ref I) (.ref D) zz).onRaise (fun x=>do noteFrame x zz;theTreesLotGoes x)) _ _ _;rw[if_neg (by rw[hfr];exact Bool.false_ne_true)];refine wpAny_noted ?_;rw[hturn];refine Ac (wpAny_standAt ?_);have wrh:Cf wr (wr++zy):=fun b hb=>mem_append_left _ hb;have wro:∀b∈wr,b≠zz.locals∧(∀p∈zz.cells,p.2≠b)∧∀p∈zx,p.1≠b:=fun b hb=>
  ⟨fun q=>(hwr b hb).1 (q▸mem_cons_self),fun p hp q=>(hwr b hb).1 (q▸mem_cons_of_mem _ (mem_append_left _ (mem_map_of_mem hp))),
   fun p hp q=>(hwr b hb).1 (q▸mem_cons_of_mem _ (mem_append_right _ (mem_map_of_mem hp)))⟩
 by_cases hlt:i<ds.length
 ·obtain⟨x,he⟩:∃x,ds[i]? =some x:=⟨ds[i],by simp[hlt]⟩
  refine S.next (j:=j) hjt he sti gi Fi.alive fun v h₃ t3 hj3 me st3 k3=>?_;have F3:Fm H0 (wr++zy) zx zz σ h₃:=Fi.keepBut k3 wrh wro (fun b hb=>S.alive (i+1) h₃ st3 b hb);have v3:Ext (vis h' (wr++zy)) (vis h₃ (wr++zy)):=AW wrh k3;have K3:K.R h₃ (wr++zy) D (B i):=K.move (fun oo q=>k3 _ _ hDw q) v3 Ki;refine Ac (Tu fun Q1 hQ1 E1 Z=>?_);refine OK (turn i x he) fun bs p hAs hxs hσ hIf h1 h2=>?_;refine Ah (Bv (k:=j) hj3 (hAs A zz _ (wr++zy) zx σ v g o F3 me)) (fun Z s4 q4=>?_) fun Z Z f=>f.elim;obtain⟨hj4,h4,t4,rfl,k4,F4⟩:=q4;have v4:Ext (vis h₃ (wr++zy)) (vis h4 (wr++zy)):=AW (Hm F3 _) k4;have K4:K.R h4 (wr++zy) D (B i):=K.move (fun oo q=>k4 _ _ (Sc hoff _) q) v4 K3;refine hQ1 _ _ (Ac (Tu fun Q2 hQ2 E2 Z=>?_));refine Ah (Bv (k:=j) hj4 (hIf A zz _ (wr++zy) g o F4)) (fun ok s5 q5=>?_) fun Z Z f=>f.elim;refine BL q5 fun hj5 x2=>?_;revert x2;intro q5;have eok:=q5.val;subst eok;have F5:=F4.ext q5.ext;obtain⟨h5,t5,rfl,ex5,_⟩:=q5;have v5:=AK (wr++zy) ex5;have K5:K.R h5 (wr++zy) D (B i):=K.move (fun oo q=>ex5 _ _ q) v5 K4;have pl:∀a∈AZ zz (bs.map (·.1)),a∈AZ zz xs:=fun a m=>by
   refine Ad (mem_flatMap.mp m) fun y hy m=>?_;exact mem_flatMap.mpr ⟨y,hxs y hy,m⟩
  have back:∀(b:Str) (e:Ent),σ.lookup b=some e->(bs++σ).lookup b=some e:=fun y e hy=>by
   have hn:y∉bs.map (·.1):=fun m=>by rw[hσ y m] at hy;exact CE hy
   clear hAs hxs hσ hIf h1 h2 F4 F5 k4 pl
   induction bs with
   |nil=>exact hy
   |cons q r ih=>
    obtain⟨a,c⟩:=q;rw[cons_append,AS (fun z=>hn (by simp[z]))];exact ih fun m=>hn (by simp only[map_cons,mem_cons];exact .inr m)
  have k35:KeepBut (AZ zz xs) h₃ h5:=(k4.more pl).trans (ex5.keep _);have fin:∀(h6:Heap) (t6:Nat),j≤t6->KeepBut (D::AZ zz xs) h5 h6->Fm H0 (wr++zy) zx zz (bs++σ) h6->K.R h6 (wr++zy) D (B (i+1))->
    ∃m,m<ds.length - i∧CompI j H0 s wr zy zx zz σ g₀ K D B St (wr++D::AZ zz xs) ds.length m {s with heap:=h6,toks:=t6}:=by
   intro h6 t6 hj6 k6 F6 K6;have kk:KeepBut (D::AZ zz xs) h₃ h6:=(k35.more fun a m=>mem_cons_of_mem _ m).trans k6;have Dhid:∀a∈D::AZ zz xs,a∈wr++zy:=fun a m=>by
    rcases BF m with rfl|m
    ·exact mem_append_right _ hD
    ·exact mem_append_right _ (hhid a (AL zz zx xs a m))
   refine⟨ds.length - (i+1),sub_succ_lt_self _ _ hlt,i+1,h6,t6,rfl,hj6,hlt,rfl,?_,F6.sub back,gi.trans (v3.trans (AW Dhid kk)),K6,?_⟩
   ·refine S.frame _ _ _ st3 fun b hb oo e=>kk b oo (fun m=>?_) e
    rcases BF m with rfl|m
    ·exact hDf hb
    ·exact hfp b hb (AL zz zx xs b m)
   ·exact ki.trans ((KeepBut.more k3 fun b hb=>mem_append_left _ hb).trans (kk.more fun b hb=>mem_append_right _ hb))
  refine hQ2 _ _ ?_;cases ok with
  |false=>
   refine Ag ⟨rfl,fin h5 t5 hj5 (KeepBut.refl _ _) F5 (by rw[h2 rfl];exact K5)⟩
  |true=>
   refine Ac (Ah (Bv (k:=j) hj5 (h1 rfl A zz _ (wr++zy) D hj5 g o F5 (mem_append_right _ hD) hoff K5)) (fun Z s6 q6=>?_) fun Z Z f=>f.elim);obtain⟨hj6,h6,t6,rfl,k6,F6,K6⟩:=q6;exact Ag ⟨rfl,fin h6 t6 hj6 k6 F6 K6⟩
 ·have hi':i=ds.length:=R5 ‹_› ‹_›
  subst hi';refine Ac (S.done _ _ _ sti fun h₃ t3 k3=>?_);refine Ag ?_;have vl:Ext (vis h' (wr++zy)) (vis h₃ zy):=fun b' o' e''=>AQ (k3 b' o' (fun m=>(Al e'').2 (mem_append_left _ m)) (Al e'').1) fun m=>(Al e'').2 (mem_append_right _ m);refine hR h₃ t3 (ki.trans (KeepBut.more k3 fun b hb=>mem_append_left _ hb)) ?_ (K.move (fun oo q=>k3 _ _ hDw q) vl Ki);exact{
   base:=Fi.base.trans vl
   alive:=fun a m=>by
    refine ex1 (Fi.alive a (mem_append_right _ m)) fun oo e=>?_;exact⟨oo,k3 a oo (fun q=>(hwr a q).2 m) e⟩
   loc:=hhid _ mem_cons_self
   celh:=fun p hp=>hhid _ (mem_cons_of_mem _ (mem_append_left _ (mem_map_of_mem hp)))
   ledh:=fun p hp=>hhid _ (mem_cons_of_mem _ (mem_append_right _ (mem_map_of_mem hp)))
   ns:=by
    refine Ad Fi.ns fun m x2 q=>?_;rcases x2 with ⟨oo,es,ep,e0,r0⟩;refine⟨m,⟨oo,es,ep,k3 _ _ (fun q=>(wro _ q).1 rfl) e0,r0⟩,fun y e' p r=>?_⟩;refine Ad (q y e' p r) fun u a b=>?_;exact⟨u,a,b.ext vl⟩
   cell:=fun y e' p r=>by
    refine Bh (Fi.cell y e' p r) fun c u a x4 b=>?_;rcases x4 with ⟨oo,e1,e2⟩;exact⟨c,u,a,⟨oo,k3 _ _ (fun q=>(wro _ q).2.1 _ (mem_of_lookup a) rfl) e1,e2⟩,b.ext vl⟩
   cells:=fun p m=>let⟨u,oo,e1,e2⟩:=Fi.cells p m;⟨u,oo,k3 _ _ (fun q=>(wro _ q).2.1 p m rfl) e1,e2⟩
   ledg:=fun p m=>k3 _ _ (fun q=>(wro _ q).2.2 p m rfl) (Fi.ledg p m)
   apart:=Fi.apart
   off:=Fi.off
   ledoff:=Fi.ledoff}
theorem Jf{e:Expr}{d:Nat}{c:Comprehension}{it acc:Value}{zz:Env}{A:Around}{R:Result->Shared->Prop}{s:Shared}(hc:(clausesOf e)[d]? =some c)(ha:c.is_async=0)
  (hfr:(Code.compStart e d it acc zz).isFrame=false)(hq:(Code.compStart e d it acc zz).quiet=true)(hq':∀it,(Code.compLoop e d it acc zz).quiet=true)(hun:A.under (Code.compStart e d it acc zz)=A)
  (h:∀Q,Q it s->wpAny (model V w) A (pyIter it) Q CO s)(h0:codeAny (model V w) A (.compLoop e d it acc zz) R s):codeAny (model V w) A (.compStart e d it acc zz) R s:=by
 refine codeAny_of_tree ?_;rw[hun];show wpAny _ A (if(Code.compStart e d it acc zz).isFrame=true then (compStart e d it acc zz).onRaise (leaving zz) else (compStart e d it acc zz).onRaise (fun x=>do noteFrame x zz;standAt theWindowsPlace)) _ _ s;rw[if_neg (by rw[hfr];exact Bool.false_ne_true)];refine wpAny_notedAt ?_;unfold compStart
 (refine hc.symm▸ ?_)
 simp only[Option.elim,ha,bne_self_eq_false,Bool.false_eq_true,if_false];refine Ac (wpAny_askSetting (wpAny_ite ?_));split
 ·exact Ag ⟨hq' _,h0⟩
 ·refine Ac (wpAny_rule ?_)
  refine Ac (wpAny_standAt ?_);exact Ac (Ah (h (fun it' s'=>it'=it∧s'=s) ⟨rfl,rfl⟩) (fun it' s' q=>by refine BL q fun x1 x2=>?_;try clear q;subst x1;subst x2;exact Ag ⟨hq' _,h0⟩) fun Z Z f=>f.elim)
end
theorem OP{own zy:List Addr}{h h':Heap}(x:Ext h h')(hf:∀a∈own,h.get? a=none∨a∈zy):Ext (vis h zy) (vis h' (own++zy)):=fun b o e=>
 AQ (x b o (Al e).1) fun m=>by
  rcases Cx m with m|m
  ·rcases hf b m with q|q
   ·have:=(Al e).1;rw[q] at this;exact CE this
   ·exact(Al e).2 q
  ·exact(Al e).2 m
theorem CA{h:Heap}{a:Addr}(ha:h.objs.size≤a):h.get? a=none:=by
 cases e:h.get? a with
 |none=>rfl
 |some o=>exact absurd (Heap.lt_size e) (Nat.not_lt.mpr ha)
theorem MU{M:Model}{A:Around}{E:Value->Shared->Prop}{s:Shared}{scope:Scope}{globals:Addr}{cl:List (Str×Addr)}{qual:Str}{zz:Env}{Q:Env->Shared->Prop}
  (h:Q (newEnv scope s.heap.objs.size globals (cellsFrom (s.heap.objs.size+1) scope.names cl) qual none .none (some zz) builtinsNs) {s with heap:=pushCells (s.heap.push {cls:=.type "dict",data:=.dict #[]}) scope.names}):
  wpAny M A (newFunctionEnv scope globals cl [] qual none .none (some zz)) Q E s:=by
 simp only[newFunctionEnv,Option.isSome_some,if_true];refine Ac (wpAny_alloc ?_);refine Ac (wpAny_layCells _ (fun name kind cells=>by cases hkc:kind==NameKind.cell<;> exact rfl) _ _ _ _ ?_)
 (refine(show({s with heap:=s.heap.push {cls:=.type "dict",data:=.dict #[]}}:Shared).heap.objs.size=s.heap.objs.size+1 from Heap.size_push ..).symm▸ ?_)
 refine Ac ?_;rw[forIn_nil];exact Ag (Ag h)
theorem Jg:∀names:List (Str×NameKind),(names.filterMap fun x=>if x.2==.free then some x.1 else none)=(names.filter fun x=>x.2==.free).map (·.1):=by
 intro names
 induction names with
 |nil=>
  exact rfl
 |cons p r Jg=>
  (refine(List.filterMap_cons).symm▸ ?_;refine(filter_cons).symm▸ ?_;refine Jg.symm▸ ?_)
  cases hp:(p.2==NameKind.free)<;> exact rfl
noncomputable def Ho (scope:Scope) (zz:Env) (C:Addr):Env:=
 {newEnv scope C zz.globals (cellsFrom (C+1) scope.names (Dh zz.cells scope.names [])) zz.qual none .none (some zz) builtinsNs with scope:=relabel scope zz}
theorem KY{sc scope:Scope}{zz:Env}(h:zz.scope=sc):relabel scope zz=CR sc scope:=by
 subst h;unfold relabel CR Env.kindOf
 rfl
theorem MV{names:List (Str×NameKind)}{f:Str->NameKind->NameKind}:∀{x:Str},(names.map fun p=>(p.1,f p.1 p.2)).lookup x=(names.lookup x).map (f x):=by
 induction names with
 |nil=>intro x;rfl
 |cons p r ih=>
  intro x;obtain⟨y,k⟩:=p;rw[map_cons,lookup_cons,lookup_cons];cases q:x==y with
  |true=>
   have:x=y:=of_decide_eq_true q;subst this;rfl
  |false=>exact ih
theorem FS{sc scope:Scope}{x:Str}:(CR sc scope).names.lookup x=(scope.names.lookup x).map fun k=>if(k==.free && sc.kind==.function && sc.names.lookup x==some .cell) then NameKind.cell else k:=by
 rw[←MV (f:=fun x k=>if(k==.free && sc.kind==.function && sc.names.lookup x==some .cell) then NameKind.cell else k)];unfold CR
 congr 1
 apply map_congr_left;intro p Z;obtain⟨y,k⟩:=p;dsimp only;split<;> rfl
section
variable{β:Type}{K:AccK β}
theorem P6{scope:Scope}{zz:Env}{h₁ h₃:Heap}{zy add:List Addr}(hok:BQ sc scope=true)(o:EnvOk sc zz)(F:Fm H0 zy zx zz σ h₁)(x:Ext h₁ h₃)(hadd:∀a∈add,h₁.get? a=none∧∃ob,h₃.get? a=some ob):
  let zz':=Ho scope zz h₃.objs.size
  let h4:=pushCells (h₃.push {cls:=.type "dict",data:=.dict #[]}) scope.names
  EnvOk (CR sc scope) zz'∧Fm H0 ((zz'.locals::zz'.cells.map (·.2))++add++zy) zx zz' (Cj scope σ) h4∧Ext h₃ h4∧zz'.locals=h₃.objs.size∧
   (∀p∈zz'.cells,(p.2∈zy∧(p.1,NameKind.free)∈scope.names)∨(h₃.objs.size≤p.2∧(p.1,NameKind.cell)∈scope.names))∧Ext (vis h₁ zy) (vis h4 ((zz'.locals::zz'.cells.map (·.2))++add++zy)):=by
 revert hok o F x hadd;revert zy add;revert H0 sc σ zx scope zz h₁ h₃;refine no_implicit_lambda% (HS (by exact default) ?_);generalize FK _ _=t9;generalize t9.1.1.1=H0,t9.1.1.2=sc,t9.1.2.1=σ,t9.1.2.2=zx,t9.2.1.1=scope,t9.2.1.2=zz,t9.2.2.1=h₁,t9.2.2.2=h₃;refine no_implicit_lambda% (I8 (by exact default) ?_);generalize Ip _ _=t9;generalize t9.1=zy,t9.2=add;intro hok o F x hadd;intro zz' h4;simp only[BQ,Bool.and_eq_true,decide_eq_true_eq,all_eq_true,Bool.or_eq_true,bne_iff_ne,ne_eq,beq_iff_eq] at hok;refine BL hok fun x1 hloc=>?_;rcases x1 with ⟨⟨hk,hnd⟩,hfree⟩;have hfun:sc.kind=.function:=o.fn;have eL:zz'.locals=h₃.objs.size:=rfl;have eS:zz'.scope=CR sc scope:=KY o.scope;have eC:zz'.cells=cellsFrom (h₃.objs.size+1) scope.names (Dh zz.cells scope.names []):=rfl;have hclo:∀y,(y,NameKind.free)∈scope.names->(zz.cells.lookup y).isSome=true:=fun y hy=>by
  have:=hfree (y,.free) hy;simp at this;exact o.cells y this
 have clm:∀y c,(y,c)∈Dh zz.cells scope.names []->(y,NameKind.free)∈scope.names∧zz.cells.lookup y=some c:=fun y c hm=>by
  rcases GY hm with hm|⟨h1,h2⟩
  ·exact nomatch hm
  ·refine ex1 (Option.isSome_iff_exists.mp (hclo y h1)) fun c' hc=>?_
   rw[hc] at h2;exact⟨h1,by rw[hc,h2];rfl⟩
 have e34:Ext h₃ h4:=(An h₃ _).trans (pushCells_keeps scope.names _);have e14:=x.trans e34;have hsz:(h₃.push {cls:=.type "dict",data:=.dict #[]}).objs.size=h₃.objs.size+1:=Heap.size_push ..;have cm:∀p∈zz'.cells,((p.1,NameKind.free)∈scope.names∧zz.cells.lookup p.1=some p.2)∨(h₃.objs.size+1≤p.2∧h4.IsCell p.2 none∧(p.1,NameKind.cell)∈scope.names):=fun p hp=>by
  rw[eC,←hsz] at hp;rcases DJ (x:=p.1) (c:=p.2) hp with hm|⟨h1,h2,h3⟩
  ·exact .inl (clm _ _ hm)
  ·exact .inr ⟨hsz▸h1,h2,h3⟩
 have up:∀a∈(zz'.locals::zz'.cells.map (·.2))++add,h₁.get? a=none∨a∈zy:=fun a ha=>by
  rcases Cx ha with ha|ha
  ·rcases BF ha with rfl|ha
   ·left
    cases e:h₁.get? zz'.locals with
    |none=>rfl
    |some ob=>have:=Heap.lt_size (x _ _ e);rw[eL] at this;exact absurd this (lt_irrefl _)
   ·refine Ad (Ct ha) fun p hp x3=>?_;subst x3
    rcases cm p hp with ⟨_,h2⟩|⟨h1,_,_⟩
    ·exact .inr (F.celh _ (mem_of_lookup h2))
    ·left
     cases e:h₁.get? p.2 with
     |none=>rfl
     |some ob=>have h5:=Heap.lt_size (x _ _ e);exact absurd h5 (Nat.not_lt.mpr (le_of_succ_le h1))
  ·exact .inl (hadd a ha).1
 have gk:Ext (vis h₁ zy) (vis h4 ((zz'.locals::zz'.cells.map (·.2))++add++zy)):=OP e14 up;have lk:∀y,(CR sc scope).names.lookup y=(scope.names.lookup y).map fun k=>if(k==.free && sc.kind==.function && sc.names.lookup y==some .cell) then NameKind.cell else k:=fun y=>FS;have o':EnvOk (CR sc scope) zz':=⟨eS,o.glob,o.bi,hk,fun y hy=>by
  rw[eC];rw[lk] at hy;cases hl:scope.names.lookup y with
  |none=>rw[hl] at hy;exact nomatch hy
  |some k=>
   have hm:=mem_of_lookup hl;cases k with
   |cell=>exact Cz (.inl hm)
   |free=>
    refine Cz (.inr ?_);rw[Cu (.inl hm) (fun c e=>(by exact nomatch e))];rfl
   |_=>rw[hl] at hy;exact nomatch hy⟩
 have hns:h4.Ns zz'.locals fun Z=>none:=(Heap.Ns.new h₃ (.type "dict")).keeps (pushCells_keeps _ _);have sfree:∀y e,(Cj scope σ).lookup y=some e->scope.names.lookup y=some .free∧σ.lookup y=some e:=fun y e hy=>by
  refine BL (KX hy) fun a b=>?_;exact⟨Fc hnd a,b⟩
 refine⟨o',?_,e34,rfl,fun p hp=>?_,gk⟩
 ·exact{
   base:=F.base.trans gk
   alive:=fun a ha=>by
    rcases Cx ha with ha|ha
    ·rcases Cx ha with ha|ha
     ·rcases BF ha with rfl|ha
      ·refine FH hns fun ob Z Z e Z=>?_;exact⟨ob,e⟩
      ·refine Ad (Ct ha) fun p hp x3=>?_;subst x3
       rcases cm p hp with ⟨_,h2⟩|⟨_,h2,_⟩
       ·refine B8 (F.cells _ (mem_of_lookup h2)) fun v ob e Z=>?_;exact⟨ob,e14 _ _ e⟩
       ·refine Ad h2 fun ob e Z=>?_;exact⟨ob,e⟩
     ·refine ex1 ((hadd a ha).2) fun ob e=>?_;exact⟨ob,e34 _ _ e⟩
    ·refine ex1 (F.alive a ha) fun ob e=>?_;exact⟨ob,e14 _ _ e⟩
   loc:=.head _
   celh:=fun p hp=>mem_append_left _ (mem_append_left _ (mem_cons_of_mem _ (mem_map_of_mem hp)))
   ledh:=fun p hp=>mem_append_right _ (F.ledh p hp)
   ns:=⟨_,hns,fun y e hy hkl=>by
    refine BL (sfree y e hy) fun a Z=>?_;rw[Env.kindOf,eS,lk,a] at hkl;simp only[Option.map_some,Option.some.injEq] at hkl;split at hkl<;> exact nomatch hkl⟩
   cell:=fun y e hy Z=>by
    refine BL (sfree y e hy) fun a b=>?_;have hm:=mem_of_lookup a;refine ex1 (Option.isSome_iff_exists.mp (hclo y hm)) fun c hc=>?_;have hk':zz.kindOf y=some .cell∨zz.kindOf y=some .free:=by
     have:=hfree (y,.free) hm;simp at this;rw[o.kind];exact this
    refine Bh (F.cell y e b hk') fun c' v h1 h2 h3=>?_;refine⟨c',v,?_,h2.keeps e14,h3.ext gk⟩;rw[eC,CJ (fun m=>(by have:=Fc hnd m;rw[a] at this;exact nomatch this)),Cu (.inl hm) (fun c e=>(by exact nomatch e)),h1];rfl
   cells:=fun p hp=>by
    rcases cm p hp with ⟨_,h2⟩|⟨_,h2,_⟩
    ·refine ex1 (F.cells _ (mem_of_lookup h2)) fun v q=>?_;exact⟨v,q.keeps e14⟩
    ·exact⟨_,h2⟩
   ledg:=fun p hp=>e14 _ _ (F.ledg p hp)
   apart:=by
    rw[eC];refine C3 ?_ fun p hp=>?_
    ·have hn:((Dh zz.cells scope.names []).map (·.1)).Nodup:=by
      rw[Fb];simp only[map_nil,append_nil];rw[Jg];refine List.pairwise_reverse.mpr ?_;refine List.Pairwise.imp (fun h=>Ne.symm h) (?_:List.Nodup _);exact List.Nodup.sublist (List.Sublist.map _ List.filter_sublist) hnd
     refine List.Pairwise.imp_of_mem ?_ (List.pairwise_map.mp hn);intro a b ha hb hne hab;have h1:=(clm a.1 a.2 ha).2;have h2:=(clm b.1 b.2 hb).2;exact hne (name_of_addr F.apart (mem_of_lookup h1) (hab▸mem_of_lookup h2))
    ·refine BL (clm p.1 p.2 hp) fun Z h2=>?_
     refine B8 (F.cells _ (mem_of_lookup h2)) fun v ob e Z=>?_;exact lt_succ_of_lt (Heap.lt_size (x _ _ e))
   off:=fun p hp=>by
    rw[eL];rcases cm p hp with ⟨_,h2⟩|⟨h1,_,_⟩
    ·refine B8 (F.cells _ (mem_of_lookup h2)) fun v ob e Z=>?_
     exact ne_of_lt (Heap.lt_size (x _ _ e))
    ·exact ne_of_gt h1
   ledoff:=fun p hp=>by
    have lt:=Heap.lt_size (x _ _ (F.ledg p hp));refine⟨by rw[eL];exact ne_of_lt lt,fun q hq=>?_⟩;rcases cm q hq with ⟨_,h2⟩|⟨h1,_,_⟩
    ·exact(F.ledoff p hp).2 _ (mem_of_lookup h2)
    ·exact ne_of_lt (lt_of_lt_of_le lt (le_of_succ_le h1))}
 ·rcases cm p hp with ⟨h1,h2⟩|⟨h1,_,h3⟩
  ·exact .inl ⟨F.celh _ (mem_of_lookup h2),h1⟩
  ·exact .inr ⟨le_of_succ_le h1,h3⟩
end
section
variable{β:Type}{K:AccK β}
structure CompForm(e:Expr)(d:Nat)(c:Comprehension)(tail:Env->Value->Sem Unit):Prop where
 clause:(clausesOf e)[d]? =some c
 sync:c.is_async=0
 turn:∀it acc zz,compTurn e d it acc zz=(do
   standAt c.iter.pos
   match ←pyNext it with
   |none=>pure (.done .next)
   |some v=>
    letOwnedTupleGo c.target it v
    assign c.target zz v
    let mut ok:=true
    for t in c.ifs do
     if ok then ok ←isTrue t zz (eval t zz)
    if ok then tail zz acc
    again (.compLoop e d it acc zz))
 fr1:∀it acc zz,(Code.compLoop e d it acc zz).isFrame=false
 q1:∀it acc zz,(Code.compLoop e d it acc zz).quiet=true
 un1:∀(A:Around) it acc zz,A.under (Code.compLoop e d it acc zz)=A
 fr2:∀it acc zz,(Code.compStart e d it acc zz).isFrame=false
 q2:∀it acc zz,(Code.compStart e d it acc zz).quiet=true
 un2:∀(A:Around) it acc zz,A.under (Code.compStart e d it acc zz)=A
 targets:(∃y p,c.target=.Name y p)∨∃es k p,c.target=.Tuple es k p
def TurnsP(V:Program)(w:World)(H0:Heap)(n:Nat)(sc:Scope)(σ:AN)(zx:Aw)(c:Comprehension)(tail:Env->Value->Sem Unit)(xs:List Str)(K:AccK β)(ds:List Ent)(B:Nat->β):Prop:=
 ∀i x,ds[i]? =some x->∃bs p,MR V w H0 n sc c.target x bs∧Cf (bs.map (·.1)) xs∧(∀y∈bs.map (·.1),σ.lookup y=none)∧OO V w H0 n sc (bs++σ) zx c.ifs p∧
   (p=true->CoP V w H0 n sc (bs++σ) zx xs K tail (B i) (B (i+1)))∧(p=false->B (i+1)=B i)
def KZ(j:Nat)(V:Program)(w:World)(H0:Heap)(n:Nat)(sc:Scope)(σ:AN)(zx:Aw)(c:Comprehension)(tail:Env->Value->Sem Unit)(xs:List Str)(K:AccK β)(ds:List Ent)(B:Nat->β):Prop:=
 ∀i x,ds[i]? =some x->∃bs p,MR V w H0 n sc c.target x bs∧Cf (bs.map (·.1)) xs∧(∀y∈bs.map (·.1),σ.lookup y=none)∧OO V w H0 n sc (bs++σ) zx c.ifs p∧
   (p=true->PZ j V w H0 n sc (bs++σ) zx xs K tail (B i) (B (i+1)))∧(p=false->B (i+1)=B i)
theorem TurnsP.j{j:Nat}{c:Comprehension}{tail:Env->Value->Sem Unit}{xs:List Str}{ds:List Ent}{B:Nat->β}(h:TurnsP V w H0 n sc σ zx c tail xs K ds B):KZ j V w H0 n sc σ zx c tail xs K ds B:=fun i x hx=>
 let⟨bs,p,h1,h2,h3,h4,h5,h6⟩:=h i x hx;⟨bs,p,h1,h2,h3,h4,fun q=>(h5 q).j,h6⟩
def LP(j:Nat)(V:Program)(w:World)(H0:Heap)(n:Nat)(sc:Scope)(σ:AN)(zx:Aw)(e:Expr)(P:Heap->Value->Prop):Prop:=
 ∀A zz s zy,j≤s.toks->Good n A->EnvOk sc zz->Fm H0 zy zx zz σ s.heap->wpAny (model V w) A (eval e zz) (Pu s zy P) CO s
def TV(j:Nat)(V:Program)(w:World)(H0:Heap)(n:Nat)(sc:Scope)(σ:AN)(zx:Aw)(target iter:Expr)(ds:List Ent):Prop:=
 ∀A zz s zy,j≤s.toks->Good n A->EnvOk sc zz->Fm H0 zy zx zz σ s.heap->wpAny (model V w) A (eval iter zz) (fun x s₁=>wpAny (model V w) A (pyIter x) (IsSrcT V w A target s zy ds) CO s₁) CO s
def FT(V:Program)(w:World)(H0:Heap)(K:AccK β)(newAcc:Sem Value)(b:β):Prop:=
 ∀(A:Around) (s:Shared),Ext H0 s.heap->wpAny (model V w) A newAcc (fun acc s'=>∃o,acc=.ref s.heap.objs.size∧s'={s with heap:=s.heap.push o}∧o.isFreed=false∧∀zy,K.R (s.heap.push o) zy s.heap.objs.size b) CO s
theorem Da:FT V w H0 listK (newList []) []:=fun A s Z=>wpAny_newObj_type ⟨_,rfl,rfl,rfl,fun zy=>⟨[],⟨_,Heap.get?_push_size _ rfl,rfl,0,rfl⟩,.nil⟩⟩
theorem HZ{j:Nat}{e:Expr}{c:Comprehension}{tail:Env->Value->Sem Unit}{scope:Scope}{xs:List Str}{ds:List Ent}{newAcc:Sem Value}(B:Nat->β)(hf:CompForm e 0 c tail)(hok:BQ sc scope=true)
  (hxs:∀x∈xs,scope.names.lookup x=some .local∨scope.names.lookup x=some .cell)(hacc:FT V w H0 K newAcc (B 0))
  (turn:KZ j V w H0 n (CR sc scope) (Cj scope σ) zx c tail xs K ds B)
  {A:Around}{zz:Env}{s₁ s2:Shared}{zy:List Addr}{it:Value}(hj:j≤s2.toks)(g:Good n A)(o:EnvOk sc zz)(F:Fm H0 zy zx zz σ s₁.heap)(hsrc:IsSrcT V w A c.target s₁ zy ds it s2){RR:Value->Addr->Result->Shared->Prop}
  (hRR:∀D C h' tk,(∃m,h'.Ns C m)->Ext s₁.heap h'->s₁.heap.get? C=none->s₁.heap.get? D=none->D≠C->K.R h' (C::D::zy) D (B ds.length)->RR (.ref D) C (.ok .next) {s₁ with heap:=h',toks:=tk}):
  wpAny (model V w) A newAcc (fun acc s3=>wpAny (model V w) A (newFunctionEnv scope zz.globals (Dh zz.cells scope.names []) [] zz.qual none .none (some zz)) (fun cenv s4=>
   codeAny (model V w) A (.compStart e 0 it acc {cenv with scope:=relabel scope zz}) (RR acc cenv.locals) s4) CO s3) CO s2:=by
 obtain⟨I,fp,wr,St,h2,t2,g₀,rfl,rfl,ex2,SS,st0,fresh,fps,hg0⟩:=hsrc;have S:=SS wr fun Z h=>h;have W:=S;refine Ah (hacc A _ (F.toBase.h0.trans ex2)) (fun acc s3 q=>?_) fun Z Z f=>f;refine ex1 q fun ob h9=>?_;refine JX h9 fun x2 x3 hfr hK=>?_;clear h9;try clear q;subst x2;subst x3
 refine MU ?_;have e23:Ext h2 (h2.push ob):=An _ _;have D2:(h2.push ob).get? h2.objs.size=some ob:=Heap.get?_push_size _ hfr;have old:∀a oo,s₁.heap.get? a=some oo->a<h2.objs.size:=fun a oo q=>Heap.lt_size (ex2 _ _ q);have hadd:∀a∈h2.objs.size::wr,s₁.heap.get? a=none∧∃oo,(h2.push ob).get? a=some oo:=fun a ha=>by
  rcases BF ha with rfl|ha
  ·refine⟨?_,ob,D2⟩
   cases q:s₁.heap.get? h2.objs.size with
   |none=>rfl
   |some oo=>exact absurd (old _ _ q) (lt_irrefl _)
  ·refine ex1 (S.alive 0 _ st0 a ha) fun oo q=>?_
   exact⟨fresh a ha,oo,e23 _ _ q⟩
 refine Tt (P6 (h₃:=h2.push ob) hok o F (ex2.trans e23) hadd) fun o' F' e34 eL hcl gk=>?_;show codeAny (model V w) A (.compStart e 0 (.ref I) (.ref h2.objs.size) (Ho scope zz (h2.push ob).objs.size)) (RR (.ref h2.objs.size) (Ho scope zz (h2.push ob).objs.size).locals) {s₁ with heap:=pushCells ((h2.push ob).push {cls:=.type "dict",data:=.dict #[]}) scope.names,toks:=t2};generalize hE:Ho scope zz (h2.push ob).objs.size=zz' at o' F' eL hcl gk ⊢;generalize hH:pushCells ((h2.push ob).push {cls:=.type "dict",data:=.dict #[]}) scope.names=h4 at F' e34 gk ⊢;have hsz:(h2.push ob).objs.size=h2.objs.size+1:=Heap.size_push ..;have DL:h2.objs.size≠zz'.locals:=by rw[eL,hsz];exact ne_of_lt (lt_succ_self _)
 have hoff:UM h2.objs.size zz' zx:=by
  refine⟨DL,fun p hp q=>?_,fun p hp q=>?_⟩
  ·rcases hcl p hp with ⟨hm,_⟩|⟨hm,_⟩
   ·refine ex1 (F.alive _ hm) fun oo e1=>?_
    have:=old _ _ e1;rw[q] at this;exact lt_irrefl _ this
   ·rw[q,hsz] at hm;exact lt_irrefl _ hm
  ·have:=old _ _ (F.ledg p hp)
   rw[q] at this;exact lt_irrefl _ this
 have wlt:∀b∈wr,b<h2.objs.size:=fun b hb=>let⟨oo,q⟩:=S.alive 0 _ st0 b hb;Heap.lt_size q;have ownb:∀a∈AI zz' zx,(h2.objs.size<a)∨a∈zy:=fun a m=>by
  rcases BF m with rfl|m
  ·(refine eL.symm▸ ?_;refine hsz.symm▸ ?_);exact .inl (lt_succ_self _)
  ·rcases Cx m with m|m
   ·refine Ad (Ct m) fun p hp x3=>?_;subst x3
    rcases hcl p hp with ⟨q,_⟩|⟨q,_⟩
    ·exact .inr q
    ·rw[hsz] at q;exact .inl q
   ·refine Ad (Ct m) fun p hp x3=>?_;subst x3;exact .inr (F.ledh p hp)
 have hS:∀a,a∈wr++(AI zz' zx++h2.objs.size::zy)->a∈(zz'.locals::zz'.cells.map (·.2))++(h2.objs.size::wr)++zy:=fun a m=>by
  simp only[AI,mem_append,mem_cons] at m ⊢;rcases m with m|((m|m|m)|m|m)
  ·exact .inl (.inr (.inr m))
  ·exact .inl (.inl (.inl m))
  ·exact .inl (.inl (.inr m))
  ·refine Ad (Ct m) fun p hp x3=>?_;subst x3;exact .inr (F.ledh p hp)
  ·exact .inl (.inr (.inl m))
  ·exact .inr m
 have FL:Fm H0 (wr++(AI zz' zx++h2.objs.size::zy)) zx zz' (Cj scope σ) h4:=F'.less hS (mem_append_right _ (mem_append_left _ mem_cons_self))
  (fun p hp=>mem_append_right _ (mem_append_left _ (mem_cons_of_mem _ (mem_append_left _ (mem_map_of_mem hp)))))
  (fun p hp=>mem_append_right _ (mem_append_left _ (mem_cons_of_mem _ (mem_append_right _ (mem_map_of_mem hp)))))
 have e24:=e23.trans e34;have st4:St 0 h4:=W.frame 0 _ _ st0 fun b Z oo q=>e24 _ _ q;have hidold:∀a∈zy,a<h2.objs.size:=fun a m=>let⟨oo,q⟩:=F.alive a m;old _ _ q;have hgx:Ext (vis h2 (wr++zy)) (vis h4 (wr++(AI zz' zx++h2.objs.size::zy))):=fun b oo q=>by
  refine BL (Al q) fun q1 q2=>?_;refine AQ (e24 _ _ q1) fun m=>?_;have lt:=Heap.lt_size q1;rcases Cx m with m|m
  ·exact q2 (mem_append_left _ m)
  ·rcases Cx m with m|m
   ·rcases ownb b m with q|q
    ·exact lt_asymm q lt
    ·exact q2 (mem_append_right _ q)
   ·rcases BF m with rfl|m
    ·exact lt_irrefl _ lt
    ·exact q2 (mem_append_right _ m)
 have loop:codeAny (model V w) A (.compLoop e 0 (.ref I) (.ref h2.objs.size) zz') (RR (.ref h2.objs.size) zz'.locals) {s₁ with heap:=h4,toks:=t2}:=by
  refine Ke (e:=e) (d:=0) (tail:=tail) (K:=K) (zy:=AI zz' zx++h2.objs.size::zy) (g₀:=g₀) B hf.turn hf.fr1 hf.q1 hf.un1 turn hj g o' (SS _ fun b hb=>mem_append_left _ hb) st4 FL ?_ hoff (fun m=>lt_irrefl _ (wlt _ m)) (fun m=>lt_irrefl _ (fps _ m).1)
   (fun b hb=>⟨fun m=>?_,fun m=>?_⟩) (fun b hb m=>?_) (hg0.trans hgx) (K.move (fun oo q=>e34 _ _ q) (AK _ e34) (hK (wr++(AI zz' zx++h2.objs.size::zy)))) (fun a m=>mem_append_left _ m) fun h' tk kb F5 K5=>?_
  ·exact mem_append_right _ mem_cons_self
  ·rcases ownb b m with q|q
   ·exact lt_asymm q (wlt b hb)
   ·refine ex1 (F.alive b q) fun oo q=>?_;rw[fresh b hb] at q;exact nomatch q
  ·rcases Cx m with m|m
   ·rcases ownb b m with q|q
    ·exact lt_asymm q (wlt b hb)
    ·refine ex1 (F.alive b q) fun oo q=>?_;rw[fresh b hb] at q;exact nomatch q
   ·rcases BF m with rfl|m
    ·exact lt_irrefl _ (wlt _ hb)
    ·refine ex1 (F.alive b m) fun oo q=>?_;rw[fresh b hb] at q;exact nomatch q
  ·rcases ownb b m with q|q
   ·exact lt_asymm q (fps b hb).1
   ·exact(fps b hb).2 q
  ·have C1:s₁.heap.get? zz'.locals=none:=by
    cases q:s₁.heap.get? zz'.locals with
    |none=>rfl
    |some oo=>have:=old _ _ q;rw[eL,hsz] at this;exact absurd this (Nat.not_lt.mpr (le_succ _))
   have hnd:(scope.names.map (·.1)).Nodup:=by
    simp only[BQ,Bool.and_eq_true,decide_eq_true_eq] at hok;exact hok.1.1.2
   refine hRR _ _ h' tk (let⟨m,q,_⟩:=F5.ns;⟨m,q⟩) (fun b oo q=>?_) C1 (hadd _ mem_cons_self).1 DL (K.move (fun Z q=>q) (EQ h' fun a m=>?_) K5)
   ·refine kb b oo (fun m=>?_) (e24 _ _ (ex2 _ _ q))
    rcases Cx m with m|m
    ·rw[fresh b m] at q;exact nomatch q
    ·rcases BF m with rfl|m
     ·rw[(hadd _ mem_cons_self).1] at q;exact nomatch q
     ·refine Ad (mem_flatMap.mp m) fun x hx m=>?_
      unfold DI at m;split at m
      ·rw[AU m,C1] at q;exact nomatch q
      ·cases hl:zz'.cells.lookup x with
       |none=>rw[hl] at m;exact nomatch m
       |some cc=>
        rw[hl] at m;replace m:=AU m;subst m;rcases hcl _ (mem_of_lookup hl) with ⟨_,hm⟩|⟨hm,_⟩
        ·have:=Fc hnd hm
         rcases hxs x hx with h1|h1<;> rw[this] at h1<;> exact nomatch h1
        ·have:=old _ _ q
         rw[hsz] at hm;exact absurd this (Nat.not_lt.mpr (le_of_succ_le hm))
   ·rcases BF m with rfl|m
    ·exact mem_append_left _ mem_cons_self
    ·exact mem_append_right _ m
 refine Jf (e:=e) (d:=0) hf.clause hf.sync (hf.fr2 _ _ _) (hf.q2 _ _ _) (hf.q1 · _ _) (hf.un2 _ _ _ _) (fun Q hQ=>W.self 0 _ _ _ st4 hQ) loop
theorem EJ{scope:Scope}{zz:Env}(hok:BQ sc scope=true)(o:EnvOk sc zz):closureFor scope zz=pure (Dh zz.cells scope.names []):=by
 simp only[BQ,Bool.and_eq_true,decide_eq_true_eq,all_eq_true,Bool.or_eq_true,bne_iff_ne,ne_eq,beq_iff_eq] at hok;refine BL hok fun x1 hloc=>?_;rcases x1 with ⟨⟨hk,hnd⟩,hfree⟩;refine J0 fun x hx hf=>o.cells x.1 ?_;have:=hfree x hx;simpa [hf] using this
theorem Fm.drop{own zy:List Addr}{zz:Env}{σ:AN}{h h':Heap}(Fi:Fm H0 (own++zy) zx zz σ h)(k3:KeepBut own h h')(hn:∀a∈own,a∉zy)(hl:zz.locals∈zy)(hc:∀p∈zz.cells,p.2∈zy)(hd:∀p∈zx,p.1∈zy):Fm H0 zy zx zz σ h':=by
 have vl:Ext (vis h (own++zy)) (vis h' zy):=fun b' o' e''=>AQ (k3 b' o' (fun m=>(Al e'').2 (mem_append_left _ m)) (Al e'').1) fun m=>(Al e'').2 (mem_append_right _ m);exact{
  base:=Fi.base.trans vl
  alive:=fun a m=>by
   refine ex1 (Fi.alive a (mem_append_right _ m)) fun oo e=>?_;exact⟨oo,k3 a oo (fun q=>hn a q m) e⟩
  loc:=hl
  celh:=hc
  ledh:=hd
  ns:=by
   refine Ad Fi.ns fun m x2 q=>?_;rcases x2 with ⟨oo,es,ep,e0,r0⟩;refine⟨m,⟨oo,es,ep,k3 _ _ (fun q=>hn _ q hl) e0,r0⟩,fun y e' p r=>?_⟩;refine Ad (q y e' p r) fun u a b=>?_;exact⟨u,a,b.ext vl⟩
  cell:=fun y e' p r=>by
   refine Bh (Fi.cell y e' p r) fun c u a x4 b=>?_;rcases x4 with ⟨oo,e1,e2⟩;exact⟨c,u,a,⟨oo,k3 _ _ (fun q=>hn _ q (hc _ (mem_of_lookup a))) e1,e2⟩,b.ext vl⟩
  cells:=fun p m=>let⟨u,oo,e1,e2⟩:=Fi.cells p m;⟨u,oo,k3 _ _ (fun q=>hn _ q (hc p m)) e1,e2⟩
  ledg:=fun p m=>k3 _ _ (fun q=>hn _ q (hd p m)) (Fi.ledg p m)
  apart:=Fi.apart
  off:=Fi.off
  ledoff:=Fi.ledoff}
theorem LQ{j:Nat}{e:Expr}{c:Comprehension}{gs:List Comprehension}{tail:Env->Value->Sem Unit}{scope:Scope}{xs:List Str}{ds:List Ent}{newAcc:Sem Value}{pos:Pos}{P:Heap->Value->Prop}(B:Nat->β)
  (hf:CompForm e 0 c tail)(hgs:clausesOf e=c::gs)(hok:BQ sc scope=true)(hxs:∀x∈xs,scope.names.lookup x=some .local∨scope.names.lookup x=some .cell)(hacc:FT V w H0 K newAcc (B 0))
  (he:∀zz,eval e zz=comprehension e scope zz pos newAcc false (eval c.iter zz))(hs:∀zz x,foldedSetIterable c.iter zz x=pure x)
  (hi:TV j V w H0 n sc σ zx c.target c.iter ds)(turn:KZ j V w H0 n (CR sc scope) (Cj scope σ) zx c tail xs K ds B)
  (hP:∀h zy D,D∉zy->K.R h zy D (B ds.length)->P (vis h zy) (.ref D)):LP j V w H0 n sc σ zx e P:=by
 intro A zz s zy hj g o F;rw[he];have hok':=hok;simp only[BQ,Bool.and_eq_true,decide_eq_true_eq,all_eq_true,Bool.or_eq_true,bne_iff_ne,ne_eq,beq_iff_eq] at hok';refine BL hok' fun x1 hloc=>?_;rcases x1 with ⟨⟨hk,hnd⟩,hfree⟩;refine wpAny_comprehension_free (use:=none) hgs (hs zz) (EJ hok o) hk (fun y hy hl=>(hloc y hy).resolve_left fun q=>q hl) ?_;refine Ah (Bv (k:=j) hj (hi A zz s zy hj g o F)) (fun v s₁ q=>Ah (Bv (k:=j) q.1 q.2) (fun it s2 q2=>?_) fun Z Z f=>f) fun Z Z f=>f;refine BL q2 fun hj2 x2=>?_;revert x2;intro q2;have F1:=F;have ex₁:Ext s.heap s.heap:=Ext.refl _;refine HZ (RR:=fun acc C=>compPost (model V w) A CO none (Pu s zy P) acc C) B hf hok hxs hacc turn hj2 g o F1 q2 ?_;intro D C h' tk hn hx hC hD hDC hR;refine ex1 hn fun m x2=>?_;revert x2;intro hn;refine⟨m,hn,fun h'' hs''=>?_⟩;have k:=AF hs'';refine⟨h'',tk,rfl,fun b ob eb=>?_,hP _ _ _ (fun hm=>?_) (K.move (fun oo q=>k D oo (by simpa using hDC) q) (fun b ob eb=>?_) hR)⟩
 ·refine k b ob (fun hm=>?_) (hx b ob (ex₁ b ob eb))
  have:=ex₁ b ob eb;rw[AU hm,hC] at this;exact nomatch this
 ·refine ex1 (F1.alive D hm) fun oo q=>?_;rw[hD] at q;exact nomatch q
 ·refine BL (Al eb) fun e1 e2=>?_
  refine AQ (k b ob (fun hm=>e2 ?_) e1) fun hm=>e2 (mem_cons_of_mem _ (mem_cons_of_mem _ hm));rw[AU hm];exact mem_cons_self
theorem IQ{e:Expr}{c:Comprehension}{gs:List Comprehension}{tail:Env->Value->Sem Unit}{scope:Scope}{xs:List Str}{ds:List Ent}{newAcc:Sem Value}{pos:Pos}{P:Heap->Value->Prop}(B:Nat->β)
  (hf:CompForm e 0 c tail)(hgs:clausesOf e=c::gs)(hok:BQ sc scope=true)(hxs:∀x∈xs,scope.names.lookup x=some .local∨scope.names.lookup x=some .cell)(hacc:FT V w H0 K newAcc (B 0))
  (he:∀zz,eval e zz=comprehension e scope zz pos newAcc false (eval c.iter zz))(hs:∀zz x,foldedSetIterable c.iter zz x=pure x)
  (hi:Tv V w H0 n sc σ zx c.target c.iter ds)(turn:TurnsP V w H0 n (CR sc scope) (Cj scope σ) zx c tail xs K ds B)
  (hP:∀h zy D,D∉zy->K.R h zy D (B ds.length)->P (vis h zy) (.ref D)):EvP V w H0 n sc σ zx e P:=fun A zz s zy=>LQ (j:=0) B hf hgs hok hxs hacc he hs (fun A zz s zy Z=>hi A zz s zy) turn.j hP A zz s zy (zero_le _)
theorem FU{e:Expr}{c:Comprehension}{gs:List Comprehension}{tail:Env->Value->Sem Unit}{scope:Scope}{xs:List Str}{ds:List Ent}{newAcc:Sem Value}{pos spos py:Pos}{y:Str}{d:PyData}(B:Nat->β)
  (hf:CompForm e 0 c tail)(hgs:clausesOf e=c::gs)(hok:BQ sc scope=true)(hxs:∀x∈xs,scope.names.lookup x=some .local∨scope.names.lookup x=some .cell)(hacc:FT V w H0 K newAcc (B 0))
  (he:∀zz use,evalThenUse e zz use=(do let _ ←comprehension e scope zz pos newAcc false (eval c.iter zz) (some use)))(hs:∀zz x,foldedSetIterable c.iter zz x=pure x)
  (hsw:∀zz,EnvOk sc zz->swapsWith e (some (.Name y py)) spos.line zz=pure true)(hy:Az sc y)
  (hi:Tv V w H0 n sc σ zx c.target c.iter ds)(turn:TurnsP V w H0 n (CR sc scope) (Cj scope σ) zx c tail xs K ds B)
  (hP:∀h zy D,D∉zy->K.R h zy D (B ds.length)->Rd d (vis h zy) (.ref D)):N7 V w H0 n sc σ zx (.Assign [.Name y py] e spos) (.next ((y,.d d)::σ)):=by
 intro A zz s zy g o F;show wpAny _ A (standAt spos >>=fun Z=>swapsWithSole [.Name y py] e spos.line zz >>=fun b=>if b=true then (evalThenUse e zz (fun v=>assignAll v ((assignEach [.Name y py] zz).map (·.2))) >>=fun Z=>pure Flow.next) else _) _ _ s;refine Ac (wpAny_standAt (Ac ?_));show wpAny _ A (swapsWith e (some (.Name y py)) spos.line zz) _ _ s;rw[hsw zz o];refine Ag ?_;rw[if_pos rfl,he];have hok':=hok;simp only[BQ,Bool.and_eq_true,decide_eq_true_eq,all_eq_true,Bool.or_eq_true,bne_iff_ne,ne_eq,beq_iff_eq] at hok';refine BL hok' fun x1 hloc=>?_;rcases x1 with ⟨⟨hk,hnd⟩,hfree⟩;generalize hU:(fun v=>assignAll v ((assignEach [PySem.Expr.Name y py] zz).map (·.2)))=U;have hU':∀v,U v=assign (.Name y py) zz v:=fun v=>by(refine(hU)▸ ?_);rfl
 clear hU;suffices key:wpAny (model V w) A (comprehension e scope zz pos newAcc false (eval c.iter zz) (some U)) (fun Z s'=>Fin H0 s zy zz zx (.next ((y,.d d)::σ)) .next s') CO s by
  exact Ac (Ac (Ah key (fun Z s' q=>Ag (Ag q)) fun Z Z f=>f))
 refine wpAny_comprehension_free (use:=some U) hgs (hs zz) (EJ hok o) hk (fun y hy hl=>(hloc y hy).resolve_left fun q=>q hl) ?_;refine Ah (hi A zz s zy g o F) (fun v s₁ q=>Ah q (fun it s2 q2=>?_) fun Z Z f=>f) fun Z Z f=>f;have F1:=F;have ex₁:Ext s.heap s.heap:=Ext.refl _;refine HZ (RR:=fun acc C=>compPost (model V w) A CO (some U) (fun Z s'=>Fin H0 s zy zz zx (.next ((y,.d d)::σ)) .next s') acc C) B hf hok hxs hacc turn.j (zero_le _) g o F1 q2 ?_;intro D C h' tk hn hx hC hD hDC hR;refine ex1 hn fun m x2=>?_;revert x2;intro hn;have F2:=F1.ext hx;have hDh:D∉zy:=fun hm=>by refine ex1 (F1.alive D hm) fun oo q=>?_;rw[hD] at q;exact nomatch q
 have hCh:C∉zy:=fun hm=>by refine ex1 (F1.alive C hm) fun oo q=>?_;rw[hC] at q;exact nomatch q
 have rd:Rd d (vis h' zy) (.ref D):=hP _ _ _ hDh (K.move (fun Z q=>q) (EQ h' fun a m=>mem_cons_of_mem _ (mem_cons_of_mem _ m)) hR);have nD:D∉C::zy:=fun hm=>(BF hm).elim hDC hDh;have sub3:∀a∈C::zy,a∈C::D::zy:=fun a m=>(BF m).elim (fun q=>q▸mem_cons_self) fun m=>mem_cons_of_mem _ (mem_cons_of_mem _ m);have rdC:Rd d (vis h' (C::zy)) (.ref D):=hP _ _ _ nD (K.move (fun Z q=>q) (EQ h' sub3) hR);show wpAny _ A (U (.ref D)) _ _ _;rw[hU'];have FC:Fm H0 (C::zy) zx zz σ h':=F1.more (own:=[C]) hx (fun a ha=>by rw[AU ha];exact hC) (fun a ha=>by(refine(AU ha).symm▸ ?_);refine FH hn fun oo Z Z q Z=>?_;exact⟨oo,q⟩);refine wpAny_assign_Name (Ah (E8 (e:=.d d) FC rdC o.kf (Cm o hy)) (fun Z s3 q3=>?_) fun Z Z f=>f);refine Bh q3 fun h₃ t3 x3 k3 F3=>?_;try clear q3;subst x3
 have Cpl:C∉DI zz y:=fun hm=>by
  have:=EC F y C hm;exact hCh this
 refine⟨m,hn.at' fun oo q=>k3 C oo Cpl q,fun h'' hs''=>?_⟩;have k:=AF hs'';have kk:KeepBut [C] h₃ h'':=k;have F4:Fm H0 zy zx zz ((y,.d d)::σ) h'':=Fm.drop (own:=[C]) F3 kk (fun a ha q=>hCh (AU ha▸q)) F.loc F.celh F.ledh;refine⟨h'',t3,rfl,fun b ob nb eb=>?_,rfl,F4⟩;refine k b ob (fun hm=>?_) (k3 b ob (fun hm=>nb (AL zz zx [y] b (by simpa [AZ] using hm))) (hx b ob (ex₁ b ob eb)));have:=ex₁ b ob eb;rw[AU hm,hC] at this;exact nomatch this
end
def Ca(slice:Expr):Prop:=∀o i,subscripted slice false o i=operate [o,i] (getItem o i)
theorem Fe{value slice:Expr}{pos:Pos}{xs:List PyData}{k:Int}{d:PyData}(hv:Am V w H0 n sc σ zx value (.d (.list xs)))(hi:Am V w H0 n sc σ zx slice (.d (.int k)))
  (h0:0≤k)(hk:k<2 ^ 63)(hd:xs[k.toNat]? =some d)(hs:Ca slice):Am V w H0 n sc σ zx (.Subscript value slice pos) (.d d):=by
 intro A zz s zy g o F;refine PyProof.Rows.Subscript_ (Aq (hv A zz s zy g o F) fun v s₁ q1=>Aq (hi A zz s₁ zy g o (F.ext q1.ext)) fun i s2 q2=>?_);refine ex1 (Ax q2.val) fun t x2=>?_;subst x2;refine Bh (CG (q1.val.ext (AK zy q2.ext))) fun l vs x3 hl f=>?_;subst x3;refine Ad (f.get hd) fun u hu hr=>?_;have hl':=Bq (Bp _ _) hl;exact tail_any hl'.typeIs slot_list_getitem.lookup (wpAny_getItem_list hl' h0 hk (by simpa using hu) ((q1.trans q2).trans (Pu.here hr))) (hs _ _)
theorem H1{value slice:Expr}{pos:Pos}{xs:List PyData}{k:Int}{d:PyData}(hv:Am V w H0 n sc σ zx value (.d (.list xs)))(hi:Am V w H0 n sc σ zx slice (.d (.int k)))
  (h0:k<0)(hk: -(2 ^ 63)≤k)(hl: -(xs.length:Int)≤k)(hd:xs[(k+xs.length).toNat]? =some d)(hs:Ca slice):Am V w H0 n sc σ zx (.Subscript value slice pos) (.d d):=by
 intro A zz s zy g o F;refine PyProof.Rows.Subscript_ (Aq (hv A zz s zy g o F) fun v s₁ q1=>Aq (hi A zz s₁ zy g o (F.ext q1.ext)) fun i s2 q2=>?_);refine ex1 (Ax q2.val) fun t x2=>?_;subst x2;refine Bh (CG (q1.val.ext (AK zy q2.ext))) fun l vs x3 hl1 f=>?_;subst x3;refine Ad (f.get hd) fun u hu hr=>?_;have hl':=Bq (Bp _ _) hl1;have e:=f.length;exact tail_any hl'.typeIs slot_list_getitem.lookup (wpAny_getItem_list_neg hl' h0 (by rw[size_toArray,e];exact hl) hk (by(refine(size_toArray).symm▸ ?_;refine e.symm▸ ?_);simpa using hu) ((q1.trans q2).trans (Pu.here hr))) (hs _ _)
theorem Bf{value slice:Expr}{pos:Pos}{x:Str}{k:Int}{c:Nat}(hv:Am V w H0 n sc σ zx value (.d (.str x)))(hi:Am V w H0 n sc σ zx slice (.d (.int k)))
  (hr:(decide (k< -(2 ^ 63:Int)) ||decide (k ≥ 2 ^ 63))=false)(hc:(seqIndex? k x.length).bind (x.cps[·]?)=some c)(hs:Ca slice):Am V w H0 n sc σ zx (.Subscript value slice pos) (.d (.str ⟨#[c]⟩)):=by
 intro A zz s zy g o F;refine PyProof.Rows.Subscript_ (Aq (hv A zz s zy g o F) fun v s₁ q1=>Aq (hi A zz s₁ zy g o (F.ext q1.ext)) fun i s2 q2=>?_);refine ex1 (Ax q2.val) fun t x2=>?_;subst x2;refine ex1 (AR (q1.val)) fun t' x2=>?_;subst x2;exact tail_any (typeIs_str _ _ _) PySem.F.slot_str_getitem.lookup (PyProof.Rows.getItem_str hr hc ((q1.trans q2).trans (Pu.tok (BO _ _ _)))) (hs _ _)
def N8(V:Program)(w:World)(H0:Heap)(n:Nat)(sc:Scope)(σ:AN)(zx:Aw)(e:Option Expr)(k:Option Int):Prop:=
 ∀A zz s zy,Good n A->EnvOk sc zz->Fm H0 zy zx zz σ s.heap->wpAny (model V w) A (evalPart e zz) (Pu s zy (fun Z v=>IsPart v k)) CO s
theorem Kg:N8 V w H0 n sc σ zx none none:=fun A zz s zy g o F=>Ag (Pu.here .none)
theorem Kh{e:Expr}{k:Int}(h:Am V w H0 n sc σ zx e (.d (.int k))):N8 V w H0 n sc σ zx (some e) (some k):=
 fun A zz s zy g o F=>wpAny_evalPart_some (Aq (h A zz s zy g o F) fun v s' q=>by
  refine ex1 (Ax q.val) fun t x2=>?_;subst x2;exact q.trans (Pu.here (.int _ _)))
noncomputable def Jh (xs:List PyData) (lo hi:Option Int):List PyData:=(xs.drop (kms_lo lo xs.length)).take (kms_hi hi xs.length - kms_lo lo xs.length)
theorem GK{value:Expr}{lower upper:Option Expr}{p pos:Pos}{xs:List PyData}{lo hi:Option Int}(hv:Am V w H0 n sc σ zx value (.d (.list xs)))(hl:N8 V w H0 n sc σ zx lower lo)(hu:N8 V w H0 n sc σ zx upper hi)
  (hz:xs.length≤sizeLine)(ht:∀o r,letTemporaryGo value o r=pure ()):Am V w H0 n sc σ zx (.Subscript value (.Slice lower upper none p) pos) (.d (.list (Jh xs lo hi))):=by
 intro A zz s zy g o F;refine PyProof.Rows.Subscript_ (Aq (hv A zz s zy g o F) fun v s₁ q1=>?_);have F1:=F.ext q1.ext;refine wpAny_Slice (Aq (hl A zz s₁ zy g o F1) fun vl s2 q2=>Aq (hu A zz s2 zy g o (F1.ext q2.ext)) fun vu s3 q3=>?_);have F3:=(F1.ext q2.ext).ext q3.ext;refine Ag ?_;refine Bh (CG ((q1.val.ext (AK zy q2.ext)).ext (AK zy q3.ext))) fun l vs x3 hl1 f=>?_;subst x3;have hl':=Bq (Bp _ _) hl1;have e:=f.length;refine subscriptTail_ops (Heap.IsList.typeIs (s:={s3 with heap:=s3.heap.push {cls:=.type "slice",data:=.fields #[vl,vu,.none]}}) (hl'.push _)) list_getitem_lookup
  (wpAny_getItem_list_slice (hl'.push _) (Heap.IsSliceOf.new ..) q2.val q3.val .none (by nofun) ?_ (by rw[size_toArray,e];exact hz)) rfl (ht _)
 rw[kms_pick_eq];have e1:=An s3.heap {cls:=.type "slice",data:=.fields #[vl,vu,.none]};have e2:=An (s3.heap.push {cls:=.type "slice",data:=.fields #[vl,vu,.none]}) {cls:=.type "list",data:=.seq (kms_pick vs lo hi).toArray};refine((q1.trans q2).trans q3).trans ⟨_,_,rfl,e1.trans e2,D9 ⟨_,De (F3.toBase.ext e1) _,rfl,0,rfl⟩ ?_⟩;have f':F2 (fun v d=>Rd d (vis s3.heap zy) v) (kms_pick vs lo hi) (Jh xs lo hi):=by
  unfold kms_pick Jh
  (refine e.symm▸ ?_)
  exact(f.drop _).take _
 exact f'.imp fun Z Z r=>(r.ext (AK zy e1)).ext (AK zy e2)
theorem Ji{elt:Expr}{xs:List Str}{b:List PyData}{d:PyData}(h:Am V w H0 n sc σ zx elt (.d d))(hz:b.length≤sizeLine):
  CoP V w H0 n sc σ zx xs listK (fun zz acc=>do let _ ←call (.builtin "list.append") [acc,←eval elt zz]) b (b++[d]):=by
 intro A zz s zy D g o F hD hoff hK;refine Ac (Aq (h A zz s zy g o F) fun v s₁ q=>?_);obtain⟨h₁,t₁,rfl,ex,r⟩:=q;refine Ad hK fun vs hl f=>?_;refine Ac (wpAny_list_append (Bq ex hl) (fun h2 hl2 hs=>?_) (by rw[size_toArray,f.length];exact hz));refine Ag ?_;have k:=AF hs;have vk:Ext (vis h₁ zy) (vis h2 zy):=AW (fun a m=>by rw[AU m];exact hD) k;refine⟨h2,t₁,rfl,(ex.keep _).trans (k.more fun a m=>by rw[AU m];exact mem_cons_self),?_,?_⟩
 ·refine(F.ext ex).keepBut k (fun a m=>by rw[AU m];exact hD) (fun a m=>by(refine(AU m).symm▸ ?_);exact⟨hoff.1,hoff.2.1,hoff.2.2⟩) (fun a m=>?_)
  (refine(AU m).symm▸ ?_);refine Ad hl2 fun oo e Z=>?_;exact⟨oo,e⟩
 ·refine⟨vs++[v],by simpa using hl2,?_⟩
  exact(f.imp fun Z Z q=>(q.ext (AK zy ex)).ext vk).append (.cons (r.ext vk) .nil)
theorem FV{elt target iter:Expr}{ifs:List Expr}{scope:Scope}{pos:Pos}(ht:(∃y p,target=.Name y p)∨∃es k p,target=.Tuple es k p):
  CompForm (.ListComp elt [⟨target,iter,ifs,0⟩] scope pos) 0 ⟨target,iter,ifs,0⟩ (fun zz acc=>do let _ ←call (.builtin "list.append") [acc,←eval elt zz]) where
 clause:=rfl
 sync:=rfl
 turn:=fun Z Z Z=>rfl
 fr1:=fun Z Z Z=>rfl
 q1:=fun Z Z Z=>rfl
 un1:=fun A Z Z Z=>Around.under_of_weight rfl rfl
 fr2:=fun Z Z Z=>rfl
 q2:=fun Z Z Z=>rfl
 un2:=fun A Z Z Z=>Around.under_of_weight rfl rfl
 targets:=ht
def Ff{α:Type}(V:Program)(w:World)(H0:Heap)(n:Nat)(sc:Scope)(σ:AN)(zx:Aw)(target:Expr)(ifs:List Expr)(elt:Expr)(xs:List Str)(enc:α->Ent)(F:α->Option PyData)(a:α):Prop:=
 ∃bs p,MR V w H0 n sc target (enc a) bs∧bs.map (·.1)=xs∧(∀y∈xs,σ.lookup y=none)∧OO V w H0 n sc (bs++σ) zx ifs p∧
  (p=true->∃d,F a=some d∧Am V w H0 n sc (bs++σ) zx elt (.d d))∧(p=false->F a=none)
theorem H2{α:Type}{items:List α}{enc:α->Ent}{F:α->Option PyData}{target iter elt:Expr}{ifs:List Expr}{xs:List Str}(hz:items.length≤sizeLine)
  (turn:∀a∈items,Ff V w H0 n sc σ zx target ifs elt xs enc F a):
  TurnsP V w H0 n sc σ zx ⟨target,iter,ifs,0⟩ (fun zz acc=>do let _ ←call (.builtin "list.append") [acc,←eval elt zz]) xs listK (items.map enc) (fun i=>(items.take i).filterMap F):=by
 intro i x hx;rw[getElem?_map] at hx;cases ha:items[i]? with
 |none=>rw[ha] at hx;exact CE hx
 |some a=>
  rw[ha] at hx;replace hx:=Option.some.inj hx;subst hx;have hm:a∈items:=mem_of_getElem? ha;refine OK (turn a hm) fun bs p h1 h2 h3 h4 h5 h6=>?_;have e:(items.take (i+1)).filterMap F=(items.take i).filterMap F++(F a).toList:=by
   rw[List.take_succ,ha,List.filterMap_append];simp -iota only[Option.toList];cases hF:F a<;> simp[hF]
  have hlen:((items.take i).filterMap F).length≤sizeLine:=le_trans (length_filterMap_le ..) (le_trans (by rw[length_take];exact min_le_right _ _) hz);refine⟨bs,p,h1,fun y hy=>by(refine(h2)▸ ?_);exact hy,fun y hy=>h3 y (by(refine(h2)▸ ?_);exact hy),h4,fun hp=>?_,fun hp=>?_⟩
  ·refine Ad (h5 hp) fun d hd hE=>?_
   show CoP _ _ _ _ _ _ _ _ _ _ _ ((items.take (i+1)).filterMap F);rw[e,hd];exact Ji hE hlen
  ·show(items.take (i+1)).filterMap F=_
   rw[e,h6 hp];simp
theorem ES{h:Heap}{zy:List Addr}{D:Addr}{ds:List PyData}(hD:D∉zy)(hK:listK.R h zy D ds):Rd (.list ds) (vis h zy) (.ref D):=by
 refine Ad hK fun vs x2 f=>?_;rcases x2 with ⟨oo,e,r⟩;exact D9 ⟨oo,AQ e hD,r⟩ f
theorem FA{α:Type}{items:List α}{enc:α->Ent}(F:α->Option PyData){target iter elt:Expr}{ifs:List Expr}{scope:Scope}{pos:Pos}{xs:List Str}{x:Ent}(ht:(∃y p,target=.Name y p)∨∃es k p,target=.Tuple es k p)
  (hok:BQ sc scope=true)(hxs:∀x∈xs,scope.names.lookup x=some .local∨scope.names.lookup x=some .cell)(hs:∀zz x,foldedSetIterable iter zz x=pure x)
  (hi:Am V w H0 n sc σ zx iter x)(hsrc:DS V w H0 n x (items.map enc))(hz:items.length≤sizeLine)
  (turn:∀a∈items,Ff V w H0 n (CR sc scope) (Cj scope σ) zx target ifs elt xs enc F a):Am V w H0 n sc σ zx (.ListComp elt [⟨target,iter,ifs,0⟩] scope pos) (.d (.list (items.filterMap F))):=by
 refine IQ (K:=listK) (fun i=>(items.take i).filterMap F) (FV ht) rfl hok hxs (by simpa using Da) (fun zz=>rfl) hs (Iv hi hsrc ht) (H2 hz turn) fun h zy D hD hK=>?_;have:=ES hD hK;rwa [length_map,take_length] at this
theorem TW{α:Type}{items:List α}{enc:α->Ent}(F:α->Option PyData){target iter elt:Expr}{ifs:List Expr}{scope:Scope}{pos:Pos}{xs:List Str}(ht:(∃y p,target=.Name y p)∨∃es k p,target=.Tuple es k p)
  (hok:BQ sc scope=true)(hxs:∀x∈xs,scope.names.lookup x=some .local∨scope.names.lookup x=some .cell)(hs:∀zz x,foldedSetIterable iter zz x=pure x)
  (hi:Tv V w H0 n sc σ zx target iter (items.map enc))(hz:items.length≤sizeLine)
  (turn:∀a∈items,Ff V w H0 n (CR sc scope) (Cj scope σ) zx target ifs elt xs enc F a):Am V w H0 n sc σ zx (.ListComp elt [⟨target,iter,ifs,0⟩] scope pos) (.d (.list (items.filterMap F))):=by
 refine IQ (K:=listK) (fun i=>(items.take i).filterMap F) (FV ht) rfl hok hxs (by simpa using Da) (fun zz=>rfl) hs hi (H2 hz turn) fun h zy D hD hK=>?_;have:=ES hD hK;rwa [length_map,take_length] at this
theorem Dj{α:Type}{items:List α}{enc:α->Ent}(F:α->Option PyData){target iter elt:Expr}{ifs:List Expr}{scope:Scope}{pos spos py:Pos}{xs:List Str}{x:Ent}{y:Str}(ht:(∃y p,target=.Name y p)∨∃es k p,target=.Tuple es k p)
  (hok:BQ sc scope=true)(hxs:∀x∈xs,scope.names.lookup x=some .local∨scope.names.lookup x=some .cell)(hs:∀zz x,foldedSetIterable iter zz x=pure x)
  (hsw:∀zz,EnvOk sc zz->swapsWith (.ListComp elt [⟨target,iter,ifs,0⟩] scope pos) (some (.Name y py)) spos.line zz=pure true)(hy:Az sc y)
  (hi:Am V w H0 n sc σ zx iter x)(hsrc:DS V w H0 n x (items.map enc))(hz:items.length≤sizeLine)
  (turn:∀a∈items,Ff V w H0 n (CR sc scope) (Cj scope σ) zx target ifs elt xs enc F a):
  N7 V w H0 n sc σ zx (.Assign [.Name y py] (.ListComp elt [⟨target,iter,ifs,0⟩] scope pos) spos) (.next ((y,.d (.list (items.filterMap F)))::σ)):=by
 refine FU (K:=listK) (fun i=>(items.take i).filterMap F) (FV ht) rfl hok hxs (by simpa using Da) (fun zz use=>rfl) hs hsw hy (Iv hi hsrc ht) (H2 hz turn) fun h zy D hD hK=>?_;have:=ES hD hK;rwa [length_map,take_length] at this
section
variable{β:Type}{K:AccK β}
theorem Jj{e:Expr}{d:Nat}{c:Comprehension}{tail:Env->Value->Sem Unit}{xs xs2:List Str}{ds:List Ent}(B:Nat->β)(hf:CompForm e d c tail)(hi:Tv V w H0 n sc σ zx c.target c.iter ds)
  (hs:∀zz x,foldedSetIterable c.iter zz x=pure x)(turn:TurnsP V w H0 n sc σ zx c tail xs2 K ds B)(hxs:Cf xs2 xs):
  CoP V w H0 n sc σ zx xs K (fun zz acc=>do
   let x ←eval c.iter zz
   standAt c.iter.pos
   let x ←foldedSetIterable c.iter zz x
   let _ ←runOwn (.compStart e d (←holding [x] (pyIter x)) acc zz) zz) (B 0) (B ds.length):=by
 intro A zz s zy D g o F hD hoff hK;refine Ac (Ah (hi A zz s zy g o F) (fun v s₁ q=>Ac (wpAny_standAt (Ac (wpAny_of_eq (hs zz v) (Ac (wpAny_holding (Ah q (fun it s2 q₂=>?_) fun Z Z f=>f))))))) fun Z Z f=>f);obtain⟨I,fp,wr,St,h2,t2,g₀,rfl,rfl,ex2,SS,st0,fresh,fps,hg0⟩:=q₂;have S:=SS (wr++zy) fun Z h=>mem_append_left _ h;have W:=S;have F1:=F;have ex₁:Ext s.heap s.heap:=Ext.refl _;have F2:Fm H0 (wr++zy) zx zz σ h2:=F1.more ex2 fresh (fun b hb=>S.alive 0 _ st0 b hb);have gm:Ext (vis s.heap zy) (vis h2 (wr++zy)):=DQ ex2 fresh;have nw:∀b∈wr,∀a∈zy,b≠a:=fun b hb a ha q=>by
  refine ex1 (F1.alive a ha) fun oo e=>?_;rw[←q,fresh b hb] at e;exact CE e
 refine Ac (wpAny_runOwn (h:=none) (show codeAny (model V w) A _ _ _ from ?_));refine Jf (e:=e) (d:=d) hf.clause hf.sync (hf.fr2 _ _ _) (hf.q2 _ _ _) (hf.q1 · _ _) (hf.un2 _ _ _ _) (fun Q hQ=>W.self 0 _ _ _ st0 hQ) ?_;refine Ke (j:=0) (e:=e) (d:=d) (tail:=tail) (K:=K) (zy:=zy) (g₀:=g₀) B hf.turn hf.fr1 hf.q1 hf.un1 turn.j (zero_le _) g o S st0 F2 hD hoff (fun m=>nw _ m D hD rfl) (fun m=>(fps _ m).2 hD)
  (fun b hb=>⟨fun m=>nw b hb b (B1 F1 b m) rfl,fun m=>nw b hb b m rfl⟩) (fun b hb m=>(fps b hb).2 (B1 F1 b m)) hg0
  (K.move (fun oo q=>ex2 _ _ (ex₁ _ _ q)) ((AK zy ex₁).trans gm) hK) (B1 F1) fun h' tk kb F5 K5=>?_
 refine Ag ⟨h',tk,rfl,fun b oo nb eb=>?_,F5,K5⟩;have e1:=ex₁ b oo eb;refine kb b oo (fun m=>?_) (ex2 _ _ e1);rcases Cx m with m|m
 ·rw[fresh b m] at e1;exact CE e1
 ·rcases BF m with rfl|m
  ·exact nb mem_cons_self
  ·refine Ad (mem_flatMap.mp m) fun y hy m=>?_
   exact nb (mem_cons_of_mem _ (mem_flatMap.mpr ⟨y,hxs y hy,m⟩))
theorem Kj{elt t1 i1 t2 i2:Expr}{ifs1 ifs2:List Expr}{scope:Scope}{pos:Pos}(ht:(∃y p,t1=.Name y p)∨∃es k p,t1=.Tuple es k p):
  CompForm (.ListComp elt [⟨t1,i1,ifs1,0⟩,⟨t2,i2,ifs2,0⟩] scope pos) 0 ⟨t1,i1,ifs1,0⟩ (fun zz acc=>do
   let x ←eval i2 zz
   standAt i2.pos
   let x ←foldedSetIterable i2 zz x
   let _ ←runOwn (.compStart (.ListComp elt [⟨t1,i1,ifs1,0⟩,⟨t2,i2,ifs2,0⟩] scope pos) 1 (←holding [x] (pyIter x)) acc zz) zz) where
 clause:=rfl
 sync:=rfl
 turn:=fun it acc zz=>by
  have h:compTurn (.ListComp elt [⟨t1,i1,ifs1,0⟩,⟨t2,i2,ifs2,0⟩] scope pos) 0 it acc zz=(do
   standAt i1.pos
   match ←pyNext it with
   |none=>pure (.done .next)
   |some v=>
    letOwnedTupleGo t1 it v
    assign t1 zz v
    let mut ok:=true
    for c in ifs1 do
     if ok then ok ←isTrue c zz (eval c zz)
    if ok then
     let x ←eval i2 zz
     standAt i2.pos
     let x ←foldedSetIterable i2 zz x
     let _ ←runOwn (.compStart (.ListComp elt [⟨t1,i1,ifs1,0⟩,⟨t2,i2,ifs2,0⟩] scope pos) 1 (←holding [x] (pyIter x)) acc zz) zz
    again (.compLoop (.ListComp elt [⟨t1,i1,ifs1,0⟩,⟨t2,i2,ifs2,0⟩] scope pos) 0 it acc zz)):=rfl
  rw[h];refine bind_congr fun Z=>bind_congr fun r=>?_;cases r with
  |none=>rfl
  |some v=>
   refine bind_congr fun Z=>bind_congr fun Z=>bind_congr fun ok=>?_;cases ok with
   |false=>rfl
   |true=>simp only[if_true,bind_assoc,pure_bind]
 fr1:=fun Z Z Z=>rfl
 q1:=fun Z Z Z=>rfl
 un1:=fun A Z Z Z=>Around.under_of_weight rfl rfl
 fr2:=fun Z Z Z=>rfl
 q2:=fun Z Z Z=>rfl
 un2:=fun A Z Z Z=>Around.under_of_weight rfl rfl
 targets:=ht
theorem Kk{elt t1 i1 t2 i2:Expr}{ifs1 ifs2:List Expr}{scope:Scope}{pos:Pos}(ht:(∃y p,t2=.Name y p)∨∃es k p,t2=.Tuple es k p):
  CompForm (.ListComp elt [⟨t1,i1,ifs1,0⟩,⟨t2,i2,ifs2,0⟩] scope pos) 1 ⟨t2,i2,ifs2,0⟩ (fun zz acc=>do let _ ←call (.builtin "list.append") [acc,←eval elt zz]) where
 clause:=rfl
 sync:=rfl
 turn:=fun Z Z Z=>rfl
 fr1:=fun Z Z Z=>rfl
 q1:=fun Z Z Z=>rfl
 un1:=fun A Z Z Z=>Around.under_of_weight rfl rfl
 fr2:=fun Z Z Z=>rfl
 q2:=fun Z Z Z=>rfl
 un2:=fun A Z Z Z=>Around.under_of_weight rfl rfl
 targets:=ht
theorem Iw{α:Type}{items:List α}{enc:α->Ent}{F:α->Option PyData}{target iter elt:Expr}{ifs:List Expr}{xs:List Str}{b:List PyData}(hz:b.length+items.length≤sizeLine)
  (turn:∀a∈items,Ff V w H0 n sc σ zx target ifs elt xs enc F a):
  TurnsP V w H0 n sc σ zx ⟨target,iter,ifs,0⟩ (fun zz acc=>do let _ ←call (.builtin "list.append") [acc,←eval elt zz]) xs listK (items.map enc) (fun i=>b++(items.take i).filterMap F):=by
 intro i x hx;rw[getElem?_map] at hx;cases ha:items[i]? with
 |none=>rw[ha] at hx;exact CE hx
 |some a=>
  rw[ha] at hx;replace hx:=Option.some.inj hx;subst hx;have hm:a∈items:=mem_of_getElem? ha;refine OK (turn a hm) fun bs p h1 h2 h3 h4 h5 h6=>?_;have e:b++(items.take (i+1)).filterMap F=(b++(items.take i).filterMap F)++(F a).toList:=by
   rw[take_add_one,ha,List.filterMap_append,append_assoc];simp -iota only[Option.toList];cases hF:F a<;> simp[hF]
  have hlen:(b++(items.take i).filterMap F).length≤sizeLine:=by
   have h1:((items.take i).filterMap F).length≤(items.take i).length:=length_filterMap_le ..;rw[length_take] at h1;rw[length_append];exact le_trans (add_le_add_left (le_trans h1 (min_le_right _ _)) _) ‹_›
  refine⟨bs,p,h1,fun y hy=>by(refine(h2)▸ ?_);exact hy,fun y hy=>h3 y (by(refine(h2)▸ ?_);exact hy),h4,fun hp=>?_,fun hp=>?_⟩
  ·refine Ad (h5 hp) fun d hd hE=>?_
   show CoP _ _ _ _ _ _ _ _ _ _ _ (b++(items.take (i+1)).filterMap F);rw[e,hd];exact Ji hE hlen
  ·show b++(items.take (i+1)).filterMap F=_
   rw[e,h6 hp];simp
theorem TX{α γ:Type}{items:List α}{enc:α->Ent}{items2:α->List γ}{enc2:α->γ->Ent}(F:α->γ->Option PyData){elt t1 i1 t2 i2:Expr}{ifs2:List Expr}{scope:Scope}{pos:Pos}{xs1 xs2:List Str}{x:Ent}(ht1:(∃y p,t1=.Name y p)∨∃es k p,t1=.Tuple es k p)(ht2:(∃y p,t2=.Name y p)∨∃es k p,t2=.Tuple es k p)
  (hok:BQ sc scope=true)(hxs:∀x∈xs1++xs2,scope.names.lookup x=some .local∨scope.names.lookup x=some .cell)(hs1:∀zz x,foldedSetIterable i1 zz x=pure x)(hs2:∀zz x,foldedSetIterable i2 zz x=pure x)
  (hi:Am V w H0 n sc σ zx i1 x)(hsrc:DS V w H0 n x (items.map enc))(hz:(items.map fun a=>(items2 a).length).sum≤sizeLine)
  (turn:∀a∈items,∃bs x2,MR V w H0 n (CR sc scope) t1 (enc a) bs∧bs.map (·.1)=xs1∧(∀y∈xs1,(Cj scope σ).lookup y=none)∧
   Am V w H0 n (CR sc scope) (bs++Cj scope σ) zx i2 x2∧DS V w H0 n x2 ((items2 a).map (enc2 a))∧∀c∈items2 a,Ff V w H0 n (CR sc scope) (bs++Cj scope σ) zx t2 ifs2 elt xs2 (enc2 a) (F a) c):
  Am V w H0 n sc σ zx (.ListComp elt [⟨t1,i1,[],0⟩,⟨t2,i2,ifs2,0⟩] scope pos) (.d (.list (items.flatMap fun a=>(items2 a).filterMap (F a)))):=by
 have hlen:∀l:List α,(l.flatMap fun a=>(items2 a).filterMap (F a)).length≤(l.map fun a=>(items2 a).length).sum:=fun l=>by
  induction l with
  |nil=>exact le_refl _
  |cons a l ih=>
   rw[flatMap_cons,length_append,map_cons,sum_cons];have:((items2 a).filterMap (F a)).length≤(items2 a).length:=length_filterMap_le ..;exact add_le_add this ih
 refine IQ (K:=listK) (xs:=xs1++xs2) (fun i=>(items.take i).flatMap fun a=>(items2 a).filterMap (F a)) (Kj ht1) rfl hok hxs (by simpa using Da) (fun zz=>rfl) hs1 (Iv hi hsrc ht1) ?_ fun h zy D hD hK=>?_
 ·intro i x hx
  rw[getElem?_map] at hx;cases ha:items[i]? with
  |none=>rw[ha] at hx;exact CE hx
  |some a=>
   rw[ha] at hx;replace hx:=Option.some.inj hx;subst hx;have hm:a∈items:=mem_of_getElem? ha;refine OK (turn a hm) fun bs x2 h1 h2 h3 h4 h5 h6=>?_;refine⟨bs,true,h1,fun y hy=>mem_append_left _ (by(refine(h2)▸ ?_);exact hy),fun y hy=>h3 y (by(refine(h2)▸ ?_);exact hy),BW,fun Z=>?_,E3⟩;have e:((items.take (i+1)).flatMap fun a=>(items2 a).filterMap (F a))=((items.take i).flatMap fun a=>(items2 a).filterMap (F a))++(items2 a).filterMap (F a):=by
    rw[take_add_one,ha,flatMap_append];simp
   have bound:((items.take i).flatMap fun a=>(items2 a).filterMap (F a)).length+(items2 a).length≤sizeLine:=by
    have h7:=hlen (items.take i);have h8:((items.take (i+1)).map fun a=>(items2 a).length).sum≤(items.map fun a=>(items2 a).length).sum:=by
     have:=congrArg (fun l=>(l.map fun a=>(items2 a).length).sum) (take_append_drop (i+1) items);simp only[map_append,sum_append] at this;rw[←this];exact le_add_right _ _
    rw[take_add_one,ha,map_append,sum_append] at h8;simp only[Option.toList,map_cons,map_nil,sum_cons,sum_nil] at h8
    lia
   have tp:=Iw (iter:=i2) bound h6;have:=Jj (K:=listK) (xs:=xs1++xs2) _ (Kk (elt:=elt) (t1:=t1) (i1:=i1) (ifs1:=[]) (i2:=i2) (ifs2:=ifs2) (scope:=scope) (pos:=pos) ht2) (Iv h4 h5 ht2) hs2 tp (fun y hy=>mem_append_right _ hy);simp only[take_zero,List.filterMap_nil,append_nil,length_map,take_length] at this;show CoP _ _ _ _ _ _ _ _ _ _ _ ((items.take (i+1)).flatMap fun a=>(items2 a).filterMap (F a));rw[e];exact this
 ·have:=ES hD hK
  rwa [length_map,take_length] at this
end
inductive LedOk(zy:List Addr)(L:Aw)(h:Heap):Prop
 |mk:(∀p∈L,p.1∈zy)->(∀p∈L,h.get? p.1=some p.2)->LedOk zy L h
inductive GP{α:Type}(H0:Heap)(s:Shared)(zy:List Addr)(zz:Env)(zx:Aw)(Ψ:Heap->α->AN->Aw->Prop)(a:α)(s':Shared):Prop
 |mk:∀h' tk zy' σ' zx',s'={s with heap:=h',toks:=tk}->KeepBut (AI zz zx) s.heap h'->Fm H0 zy' zx' zz σ' h'->Cf zy zy'->MN zy zy' s.heap->GF zx zx' s.heap->Ψ (vis h' zy') a σ' zx'->GP H0 s zy zz zx Ψ a s'
theorem FW{zz:Env}{zx:Aw}{b:Addr}(h:b∈zx.map (·.1)):b∈AI zz zx:=mem_cons_of_mem _ (mem_append_right _ h)
theorem EE{zz:Env}{zx zx':Aw}{h:Heap}(hl:GF zx zx' h){b:Addr}(hb:b∈AI zz zx'):b∈AI zz zx∨h.get? b=none:=by
 rcases BF hb with rfl|hb
 ·exact .inl mem_cons_self
 ·rcases Cx hb with hb|hb
  ·exact .inl (mem_cons_of_mem _ (mem_append_left _ hb))
  ·refine Ad (Ct hb) fun p hp x3=>?_;subst x3
   exact(hl p hp).imp FW id
theorem GP.vis{α:Type}{H0:Heap}{s:Shared}{zy zy':List Addr}{zz:Env}{zx:Aw}{h':Heap}(ho:Cf (AI zz zx) zy)(k:KeepBut (AI zz zx) s.heap h')(hf:MN zy zy' s.heap):Ext (vis s.heap zy) (vis h' zy'):=fun b o e=>
 AQ (k b o (fun m=>(Al e).2 (ho b m)) (Al e).1) fun m=>by
  rcases hf b m with m|m
  ·exact(Al e).2 m
  ·rw[(Al e).1] at m;exact E4 m
theorem GP.glue{β:Type}{H0:Heap}{s s2:Shared}{zy zy1:List Addr}{zz:Env}{zx zx₁:Aw}{σ σ₁:AN}{Φ:Heap->β->AN->Aw->Prop}{b:β}{h₁:Heap}{t₁:Nat}(F:Fm H0 zy zx zz σ s.heap)
  (k1:KeepBut (AI zz zx) s.heap h₁)(F1:Fm H0 zy1 zx₁ zz σ₁ h₁)(hm1:Cf zy zy1)(hf1:MN zy zy1 s.heap)(hl1:GF zx zx₁ s.heap)
  (q:GP H0 {s with heap:=h₁,toks:=t₁} zy1 zz zx₁ Φ b s2):GP H0 s zy zz zx Φ b s2:=by
 obtain⟨h2,t2,zy2,σ2,zx2,rfl,k2,F2,hm2,hf2,hl2,p2⟩:=q;have back:∀b,h₁.get? b=none->s.heap.get? b=none∨b∈AI zz zx:=fun b e=>by
  by_cases m:b∈AI zz zx
  ·exact .inr m
  ·cases q:s.heap.get? b with
   |none=>exact .inl rfl
   |some o=>rw[k1 b o m q] at e;exact E4 e
 have back':∀b,h₁.get? b=none->s.heap.get? b=none:=fun b e=>by
  rcases back b e with h|h
  ·exact h
  ·refine ex1 (F1.alive b (hm1 b (B1 F b h))) fun o q=>?_
   rw[q] at e;exact E4 e
 refine⟨h2,t2,zy2,σ2,zx2,rfl,fun b o nb e=>?_,F2,fun b m=>hm2 b (hm1 b m),fun b m=>?_,fun p m=>?_,p2⟩
 ·refine k2 b o (fun m=>?_) (k1 b o nb e)
  rcases EE hl1 m with q|q
  ·exact nb q
  ·rw[e] at q;exact E4 q
 ·rcases hf2 b m with q|q
  ·exact hf1 b q
  ·exact .inr (back' b q)
 ·rcases hl2 p m with q|q
  ·refine Ad (Ct q) fun p' hp' e=>?_
   (refine(e)▸ ?_);exact hl1 p' hp'
  ·exact .inr (back' _ q)
theorem GP.then{α β:Type}{H0:Heap}{s s₁:Shared}{zy:List Addr}{zz:Env}{zx:Aw}{σ:AN}{Ψ:Heap->α->AN->Aw->Prop}{Φ:Heap->β->AN->Aw->Prop}{a:α}{M:Model}{A:Around}{m:Sem β}
  (F:Fm H0 zy zx zz σ s.heap)(x:GP H0 s zy zz zx Ψ a s₁)
  (hk:∀zy1 σ₁ zx₁,Fm H0 zy1 zx₁ zz σ₁ s₁.heap->Ψ (Internal.vis s₁.heap zy1) a σ₁ zx₁->Ext (Internal.vis s.heap zy) (Internal.vis s₁.heap zy1)->wpAny M A m (GP H0 s₁ zy1 zz zx₁ Φ) CO s₁):
  wpAny M A m (GP H0 s zy zz zx Φ) CO s₁:=by
 obtain⟨h₁,t₁,zy1,σ₁,zx₁,rfl,k1,F1,hm1,hf1,hl1,p1⟩:=x;exact Ah (hk zy1 σ₁ zx₁ F1 p1 (GP.vis (α:=α) (H0:=H0) (B1 F) k1 hf1)) (fun b s2 q=>GP.glue F k1 F1 hm1 hf1 hl1 q) fun Z Z f=>f
def GS{α:Type}(V:Program)(w:World)(H0:Heap)(n:Nat)(sc:Scope)(σ:AN)(zx:Aw)(m:Env->Sem α)(Ψ:Heap->α->AN->Aw->Prop):Prop:=
 ∀A zz s zy,Good n A->EnvOk sc zz->Fm H0 zy zx zz σ s.heap->wpAny (model V w) A (m zz) (GP H0 s zy zz zx Ψ) CO s
theorem GP.of_pu{α:Type}{s s':Shared}{zy:List Addr}{zz:Env}{P:Heap->α->Prop}{a:α}(F:Fm H0 zy zx zz σ s.heap)(x:Pu s zy P a s'):GP H0 s zy zz zx (fun g v σ' zx'=>P g v∧σ'=σ∧zx'=zx) a s':=by
 obtain⟨h',tk,rfl,ex,p⟩:=x;exact⟨h',tk,zy,σ,zx,rfl,ex.keep _,F.ext ex,fun Z m=>m,fun Z m=>.inl m,fun p m=>.inl (mem_map_of_mem m),p,rfl,rfl⟩
theorem GP.mono{α:Type}{s s':Shared}{zy:List Addr}{zz:Env}{Ψ Φ:Heap->α->AN->Aw->Prop}{a:α}(x:GP H0 s zy zz zx Ψ a s')(h:∀g σ' zx',Ψ g a σ' zx'->Φ g a σ' zx'):GP H0 s zy zz zx Φ a s':=by
 obtain⟨h',tk,zy',σ',zx',e,k,F,m1,m2,m3,p⟩:=x;exact⟨h',tk,zy',σ',zx',e,k,F,m1,m2,m3,h _ _ _ p⟩
theorem GP.to{α β:Type}{s s':Shared}{zy:List Addr}{zz:Env}{Ψ:Heap->α->AN->Aw->Prop}{Φ:Heap->β->AN->Aw->Prop}{a:α}{b:β}(x:GP H0 s zy zz zx Ψ a s')(h:∀g σ' zx',Ψ g a σ' zx'->Φ g b σ' zx'):GP H0 s zy zz zx Φ b s':=by
 obtain⟨h',tk,zy',σ',zx',e,k,F,m1,m2,m3,p⟩:=x;exact⟨h',tk,zy',σ',zx',e,k,F,m1,m2,m3,h _ _ _ p⟩
theorem GP.here{α:Type}{s:Shared}{zy:List Addr}{zz:Env}{Ψ:Heap->α->AN->Aw->Prop}{a:α}(F:Fm H0 zy zx zz σ s.heap)(h:Ψ (Internal.vis s.heap zy) a σ zx):GP H0 s zy zz zx Ψ a s:=
 ⟨s.heap,s.toks,zy,σ,zx,rfl,KeepBut.refl _ _,F,fun Z m=>m,fun Z m=>.inl m,fun p m=>.inl (mem_map_of_mem m),h⟩
theorem AV{α:Type}{m:Env->Sem α}{Ψ Φ:Heap->α->AN->Aw->Prop}(h:GS V w H0 n sc σ zx m Ψ)(hi:∀g a σ' zx',Ψ g a σ' zx'->Φ g a σ' zx'):GS V w H0 n sc σ zx m Φ:=
 fun A zz s zy g o F=>Ah (h A zz s zy g o F) (fun a s' q=>q.mono (hi · a)) fun Z Z f=>f
theorem EF{α:Type}{m:Env->Sem α}{Ψ:Heap->α->AN->Aw->Prop}(h:∀Φ:Heap->α->AN->Aw->Prop,(∀{g a σ' zx'},Ψ g a σ' zx'->Φ g a σ' zx')->GS V w H0 n sc σ zx m Φ):GS V w H0 n sc σ zx m Ψ:=h Ψ fun q=>q
theorem FX{e:Expr}{P:Heap->Value->Prop}(h:EvP V w H0 n sc σ zx e P):GS V w H0 n sc σ zx (eval e) (fun g v σ' zx'=>P g v∧σ'=σ∧zx'=zx):=
 fun A zz s zy g o F=>Ah (h A zz s zy g o F) (fun a s' q=>GP.of_pu F q) fun Z Z f=>f
noncomputable abbrev Ba:=Heap->Flow->AN->Aw->Prop
noncomputable abbrev Ek (σ:AN) (zx:Aw):Ba:=fun Z fl σ' zx'=>fl=.next∧σ'=σ∧zx'=zx
abbrev GT(V:Program)(w:World)(H0:Heap)(n:Nat)(sc:Scope)(σ:AN)(zx:Aw)(st:Stmt)(Ψ:Ba):Prop:=GS V w H0 n sc σ zx (exec st) Ψ
abbrev GX(V:Program)(w:World)(H0:Heap)(n:Nat)(sc:Scope)(σ:AN)(zx:Aw)(sts:List Stmt)(Ψ:Ba):Prop:=GS V w H0 n sc σ zx (execs sts) Ψ
theorem BX{st:Stmt}{σ':AN}(h:N7 V w H0 n sc σ zx st (.next σ')):GT V w H0 n sc σ zx st (Ek σ' zx):=by
 intro A zz s zy g o F;refine Ah (h A zz s zy g o F) (fun fl s' q=>?_) fun Z Z f=>f;obtain⟨h',tk,rfl,k,e,F'⟩:=q;exact⟨h',tk,zy,σ',zx,rfl,k,F',fun Z m=>m,fun Z m=>.inl m,fun p m=>.inl (mem_map_of_mem m),e,rfl,rfl⟩
theorem DD{e:Expr}{pos:Pos}{P:Heap->Value->Prop}(h:EvP V w H0 n sc σ zx e P):GT V w H0 n sc σ zx (.Return (some e) pos) (fun g fl Z zx'=>(∃v,fl=.ret v∧P g v)∧zx'=zx):=by
 intro A zz s zy g o F;exact wpAny_Return_some (Ah (h A zz s zy g o F) (fun v s' q=>by
  obtain⟨h',tk,zy',σ',zx',e,k,F',m1,m2,m3,p⟩:=GP.of_pu F q;exact⟨h',tk,zy',σ',zx',e,k,F',m1,m2,m3,⟨v,rfl,p.1⟩,p.2.2⟩) fun Z Z f=>f)
theorem AC{Ψ:Ba}(h:∀g,Ψ g .next σ zx):GX V w H0 n sc σ zx [] Ψ:=fun A zz s zy g o F=>wpAny_execs_nil (GP.here F (h _))
theorem C4{st:Stmt}{rest:List Stmt}{Ψ Φ:Ba}(h:GT V w H0 n sc σ zx st Ψ)(hr:∀g σ' zx',Ψ g .next σ' zx'->GX V w H0 n sc σ' zx' rest Φ)(hs:∀g fl σ' zx',fl≠ .next->Ψ g fl σ' zx'->Φ g fl σ' zx'):
  GX V w H0 n sc σ zx (st::rest) Φ:=by
 intro A zz s zy g o F;refine wpAny_execs_cons (Ah (h A zz s zy g o F) (fun fl s₁ q=>?_) fun Z Z f=>f);cases fl with
 |next=>exact q.then F fun zy1 σ₁ zx₁ F1 p1 Z=>hr _ σ₁ zx₁ p1 A zz s₁ zy1 g o F1
 |_=>exact q.mono fun g σ' zx' p=>hs g _ σ' zx' (by intro e;exact nomatch e) p
theorem AG{st:Stmt}{rest:List Stmt}{R:Heap->AN->Aw->Prop}{Φ:Ba}(h:GT V w H0 n sc σ zx st (fun g fl σ' zx'=>fl=.next∧R g σ' zx'))(hr:∀g σ' zx',R g σ' zx'->GX V w H0 n sc σ' zx' rest Φ):GX V w H0 n sc σ zx (st::rest) Φ:=
 C4 h (fun g σ' zx' q=>hr g σ' zx' q.2) fun g fl σ' zx' hn q=>absurd q.1 hn
theorem AA{st:Stmt}{rest:List Stmt}{σ₁:AN}{zx₁:Aw}{Φ:Ba}(h:GT V w H0 n sc σ zx st (Ek σ₁ zx₁))(hr:GX V w H0 n sc σ₁ zx₁ rest Φ):GX V w H0 n sc σ zx (st::rest) Φ:=
 C4 h (fun g σ' zx' ⟨_,a,b⟩=>by subst a b;exact hr) fun g fl σ' zx' hn ⟨a,_⟩=>absurd a hn
theorem Gq{st:Stmt}{rest:List Stmt}{Φ:Ba}(h:GT V w H0 n sc σ zx st Φ)(hn:∀g σ' zx',¬Φ g .next σ' zx'):GX V w H0 n sc σ zx (st::rest) Φ:=
 C4 h (fun g σ' zx' p=>absurd p (hn g σ' zx')) fun Z Z Z Z Z p=>p
theorem DE{σ':AN}{sts:List Stmt}{Ψ:Ba}(h:GX V w H0 n sc σ' zx sts Ψ)(hs:∀x e,σ'.lookup x=some e->σ.lookup x=some e):GX V w H0 n sc σ zx sts Ψ:=
 fun A zz s zy g o F=>h A zz s zy g o (F.sub hs)
theorem BR{test:Expr}{body orelse:List Stmt}{pos:Pos}{b:Bool}{Ψ:Ba}(h:FI V w H0 n sc σ zx test b)(h1:b=true->GX V w H0 n sc σ zx body Ψ)(h2:b=false->GX V w H0 n sc σ zx orelse Ψ):
  GT V w H0 n sc σ zx (.If test body orelse pos) Ψ:=by
 intro A zz s zy g o F;refine wpAny_If (Ah (h A zz s zy g o F) (fun c s₁ q=>?_) fun Z Z f=>f);have e:=q.val;subst e;cases c with
 |true=>exact(GP.of_pu F q).then F fun zy1 σ₁ zx₁ F1 p1 Z=>by refine CZ p1 fun Z x2 x3=>?_;try clear p1;subst x2;subst x3;exact h1 rfl A zz s₁ zy1 g o F1
 |false=>exact(GP.of_pu F q).then F fun zy1 σ₁ zx₁ F1 p1 Z=>by refine CZ p1 fun Z x2 x3=>?_;try clear p1;subst x2;subst x3;exact h2 rfl A zz s₁ zy1 g o F1
inductive KeepU(own fr:List Addr)(h h':Heap):Prop
 |mk:(∀b o,b∉own->b∉fr->h.get? b=some o->h'.get? b=some o)->(∀b∈fr,∀o,h.get? b=some o->(∀vs,o.data≠ .fields vs)->∃sl,h'.get? b=some {o with slots:=sl})->KeepU own fr h h'
theorem KeepU.refl(own fr:List Addr)(h:Heap):KeepU own fr h h:=⟨fun Z Z Z Z e=>e,fun Z Z o e Z=>⟨o.slots,e⟩⟩
theorem KeepU.trans{own fr:List Addr}{h h' h'':Heap}(x:KeepU own fr h h')(y:KeepU own fr h' h''):KeepU own fr h h'':=
 ⟨fun b o n1 n2 e=>y.1 b o n1 n2 (x.1 b o n1 n2 e),fun b m o e d=>by
  refine ex1 (x.2 b m o e d) fun sl e1=>?_;refine ex1 (y.2 b m _ e1 d) fun sl' e2=>?_;exact⟨sl',e2⟩⟩
theorem KeepU.of_but{own fr:List Addr}{h h':Heap}(k:KeepBut own h h')(hf:∀b∈fr,b∉own):KeepU own fr h h':=⟨fun b o n Z e=>k b o n e,fun b m o e Z=>⟨o.slots,k b o (hf b m) e⟩⟩
theorem KeepU.but{own:List Addr}{h h':Heap}(k:KeepU own [] h h'):KeepBut own h h':=fun b o n e=>k.1 b o n (BK) e
noncomputable abbrev Ck (zw:List Env):List Addr:=zw.map (·.locals)
structure FrOk(A:Around)(zz:Env)(zw:List Env)(zy:List Addr)(h:Heap):Prop where
 stack:A.frames=some (zz::zw)
 fn:∀e∈zz::zw,e.scope.kind≠ .module∧e.frame=some e.locals
 low:∀b∈Ck zw,b∈zy∧∃o,h.get? b=some o∧∀vs,o.data≠ .fields vs
def Fk(x:Bool)(A:Around)(zz:Env)(zw:List Env)(zy:List Addr)(h:Heap):Prop:=if x=true then FrOk A zz zw zy h else zw=[]
def GG(zw:List Env)(zz:Env)(zx:Aw):Prop:=∀b∈Ck zw,b∉AI zz zx
theorem Fk.low{x:Bool}{A:Around}{zz:Env}{zw:List Env}{zy:List Addr}{h:Heap}(k:Fk x A zz zw zy h):∀b∈Ck zw,b∈zy∧∃o,h.get? b=some o∧∀vs,o.data≠ .fields vs:=by
 cases x with
 |true=>exact FrOk.low (show FrOk A zz zw zy h from k)
 |false=>intro b m;rw[show zw=[] from k] at m;exact BK m
theorem Fk.move{x:Bool}{A:Around}{zz:Env}{zw:List Env}{zy zy' own:List Addr}{h h':Heap}(k:Fk x A zz zw zy h)(hm:Cf zy zy')(ku:KeepU own (Ck zw) h h'):Fk x A zz zw zy' h':=by
 cases x with
 |true=>
  have f:FrOk A zz zw zy h:=k;exact(show FrOk A zz zw zy' h' from⟨f.stack,f.fn,fun b m=>by
   obtain⟨h1,o,e,d⟩:=f.low b m;refine ex1 (ku.2 b m o e d) fun sl e1=>?_;exact⟨hm b h1,_,e1,d⟩⟩)
 |false=>exact k
inductive GPf{α:Type}(H0:Heap)(s:Shared)(zy:List Addr)(zz:Env)(zx:Aw)(fr:List Addr)(Ψ:Heap->α->AN->Aw->Prop)(a:α)(s':Shared):Prop
 |mk:∀h' tk zy' σ' zx',s'={s with heap:=h',toks:=tk}->KeepU (AI zz zx) fr s.heap h'->Fm H0 zy' zx' zz σ' h'->Cf zy zy'->MN zy zy' s.heap->GF zx zx' s.heap->Ψ (vis h' zy') a σ' zx'->GPf H0 s zy zz zx fr Ψ a s'
theorem GPf.vis{H0:Heap}{s:Shared}{zy zy':List Addr}{zz:Env}{zx:Aw}{fr:List Addr}{h':Heap}(ho:Cf (AI zz zx) zy)(hr:Cf fr zy)(k:KeepU (AI zz zx) fr s.heap h')(hf:MN zy zy' s.heap):Ext (vis s.heap zy) (vis h' zy'):=fun b o e=>
 AQ (k.1 b o (fun m=>(Al e).2 (ho b m)) (fun m=>(Al e).2 (hr b m)) (Al e).1) fun m=>by
  rcases hf b m with m|m
  ·exact(Al e).2 m
  ·rw[(Al e).1] at m;exact E4 m
theorem Eh{zw:List Env}{zz:Env}{zx zx':Aw}{h:Heap}(o:GG zw zz zx)(hlow:∀b∈Ck zw,∃ob,h.get? b=some ob)(m3:GF zx zx' h):GG zw zz zx':=fun b m hb=>by
 rcases EE m3 hb with q|q
 ·exact o b m q
 ·refine ex1 (hlow b m) fun ob e=>?_
  rw[e] at q;exact E4 q
section
variable{x:Bool}
theorem GPf.glue{β:Type}{s s2:Shared}{zy zy1:List Addr}{zz:Env}{zx₁:Aw}{σ₁:AN}{fr:List Addr}{Φ:Heap->β->AN->Aw->Prop}{b:β}{h₁:Heap}{t₁:Nat}(F:Fm H0 zy zx zz σ s.heap)(hr:∀b∈fr,b∈zy∧∃o,s.heap.get? b=some o)
  (k1:KeepU (AI zz zx) fr s.heap h₁)(F1:Fm H0 zy1 zx₁ zz σ₁ h₁)(hm1:Cf zy zy1)(hf1:MN zy zy1 s.heap)(hl1:GF zx zx₁ s.heap)
  (q:GPf H0 {s with heap:=h₁,toks:=t₁} zy1 zz zx₁ fr Φ b s2):GPf H0 s zy zz zx fr Φ b s2:=by
 obtain⟨h2,t2,zy2,σ2,zx2,rfl,k2,F2,hm2,hf2,hl2,p2⟩:=q;have back:∀b,h₁.get? b=none->s.heap.get? b=none:=fun b e=>by
  cases q:s.heap.get? b with
  |none=>rfl
  |some o=>
   exfalso
   by_cases m:b∈zy
   ·refine ex1 (F1.alive b (hm1 b m)) fun o' q'=>?_
    rw[q'] at e;exact E4 e
   ·rw[k1.1 b o (fun z=>m (B1 F b z)) (fun z=>m (hr b z).1) q] at e;exact E4 e
 refine⟨h2,t2,zy2,σ2,zx2,rfl,⟨fun b o nb nf e=>?_,fun b m o e d=>?_⟩,F2,fun b m=>hm2 b (hm1 b m),fun b m=>?_,fun p m=>?_,p2⟩
 ·refine k2.1 b o (fun m=>?_) nf (k1.1 b o nb nf e)
  rcases EE hl1 m with q|q
  ·exact nb q
  ·rw[e] at q;exact E4 q
 ·refine ex1 (k1.2 b m o e d) fun sl e1=>?_
  refine ex1 (k2.2 b m _ e1 d) fun sl2 e2=>?_;exact⟨sl2,e2⟩
 ·rcases hf2 b m with q|q
  ·exact hf1 b q
  ·exact .inr (back b q)
 ·rcases hl2 p m with q|q
  ·refine Ad (Ct q) fun p' hp' e=>?_
   (refine(e)▸ ?_);exact hl1 p' hp'
  ·exact .inr (back _ q)
def MJ{α:Type}(x:Bool)(V:Program)(w:World)(H0:Heap)(n:Nat)(sc:Scope)(σ:AN)(zx:Aw)(m:Env->Sem α)(Ψ:Heap->α->AN->Aw->Prop):Prop:=
 ∀A zz zw s zy,Good n A->EnvOk sc zz->Fm H0 zy zx zz σ s.heap->Fk x A zz zw zy s.heap->GG zw zz zx->wpAny (model V w) A (m zz) (GPf H0 s zy zz zx (Ck zw) Ψ) CO s
theorem Fg{α:Type}{m:Env->Sem α}{Ψ:Heap->α->AN->Aw->Prop}(h:GS V w H0 n sc σ zx m Ψ):MJ x V w H0 n sc σ zx m Ψ:=fun A zz zw s zy g o F K O=>
 Ah (h A zz s zy g o F) (fun a s' q=>by
  obtain⟨h',tk,zy',σ',zx',e,k,F',m1,m2,m3,p⟩:=q;exact⟨h',tk,zy',σ',zx',e,.of_but k O,F',m1,m2,m3,p⟩) fun Z Z f=>f
theorem K0{α:Type}{m:Env->Sem α}{Ψ:Heap->α->AN->Aw->Prop}(h:MJ false V w H0 n sc σ zx m Ψ):GS V w H0 n sc σ zx m Ψ:=fun A zz s zy g o F=>
 Ah (h A zz [] s zy g o F rfl (fun b m=>BK m)) (fun a s' q=>by
  obtain⟨h',tk,zy',σ',zx',e,k,F',m1,m2,m3,p⟩:=q;exact⟨h',tk,zy',σ',zx',e,k.but,F',m1,m2,m3,p⟩) fun Z Z f=>f
theorem GPf.mono{α:Type}{s s':Shared}{zy:List Addr}{zz:Env}{fr:List Addr}{Ψ Φ:Heap->α->AN->Aw->Prop}{a:α}(y:GPf H0 s zy zz zx fr Ψ a s')(h:∀g σ' zx',Ψ g a σ' zx'->Φ g a σ' zx'):GPf H0 s zy zz zx fr Φ a s':=by
 obtain⟨h',tk,zy',σ',zx',e,k,F,m1,m2,m3,p⟩:=y;exact⟨h',tk,zy',σ',zx',e,k,F,m1,m2,m3,h _ _ _ p⟩
theorem GPf.to{α β:Type}{s s':Shared}{zy:List Addr}{zz:Env}{fr:List Addr}{Ψ:Heap->α->AN->Aw->Prop}{Φ:Heap->β->AN->Aw->Prop}{a:α}{b:β}(x:GPf H0 s zy zz zx fr Ψ a s')(h:∀g σ' zx',Ψ g a σ' zx'->Φ g b σ' zx'):GPf H0 s zy zz zx fr Φ b s':=by
 obtain⟨h',tk,zy',σ',zx',e,k,F,m1,m2,m3,p⟩:=x;exact⟨h',tk,zy',σ',zx',e,k,F,m1,m2,m3,h _ _ _ p⟩
theorem GPf.here{α:Type}{s:Shared}{zy:List Addr}{zz:Env}{fr:List Addr}{Ψ:Heap->α->AN->Aw->Prop}{a:α}(F:Fm H0 zy zx zz σ s.heap)(h:Ψ (Internal.vis s.heap zy) a σ zx):GPf H0 s zy zz zx fr Ψ a s:=
 ⟨s.heap,s.toks,zy,σ,zx,rfl,KeepU.refl _ _ _,F,fun Z m=>m,fun Z m=>.inl m,fun p m=>.inl (mem_map_of_mem m),h⟩
theorem GPf.then{α β:Type}{s s₁:Shared}{zy:List Addr}{zz:Env}{zw:List Env}{Ψ:Heap->α->AN->Aw->Prop}{Φ:Heap->β->AN->Aw->Prop}{a:α}{A:Around}{m:Sem β}
  (F:Fm H0 zy zx zz σ s.heap)(K:Fk x A zz zw zy s.heap)(O:GG zw zz zx)(y:GPf H0 s zy zz zx (Ck zw) Ψ a s₁)
  (hk:∀zy1 σ₁ zx₁,Fm H0 zy1 zx₁ zz σ₁ s₁.heap->Fk x A zz zw zy1 s₁.heap->GG zw zz zx₁->Ψ (Internal.vis s₁.heap zy1) a σ₁ zx₁->Ext (Internal.vis s.heap zy) (Internal.vis s₁.heap zy1)->wpAny (model V w) A m (GPf H0 s₁ zy1 zz zx₁ (Ck zw) Φ) CO s₁):
  wpAny (model V w) A m (GPf H0 s zy zz zx (Ck zw) Φ) CO s₁:=by
 obtain⟨h₁,t₁,zy1,σ₁,zx₁,rfl,k1,F1,hm1,hf1,hl1,p1⟩:=y;have lo:=K.low;have al:∀b∈Ck zw,∃ob,s.heap.get? b=some ob:=fun b m=>let⟨_,o,e,_⟩:=lo b m;⟨o,e⟩;exact Ah (hk zy1 σ₁ zx₁ F1 (K.move hm1 k1) (Eh O al hl1) p1 (GPf.vis (H0:=H0) (B1 F) (fun b m=>(lo b m).1) k1 hf1)) (fun b s2 q=>GPf.glue F (fun b m=>⟨(lo b m).1,al b m⟩) k1 F1 hm1 hf1 hl1 q) fun Z Z f=>f
theorem GPf.of_pu{α:Type}{s s':Shared}{zy:List Addr}{zz:Env}{fr:List Addr}{P:Heap->α->Prop}{a:α}(F:Fm H0 zy zx zz σ s.heap)(hf:∀b∈fr,b∉AI zz zx)(y:Pu s zy P a s'):GPf H0 s zy zz zx fr (fun g v σ' zx'=>P g v∧σ'=σ∧zx'=zx) a s':=by
 obtain⟨h',tk,rfl,ex,p⟩:=y;exact⟨h',tk,zy,σ,zx,rfl,.of_but (ex.keep _) hf,F.ext ex,fun Z m=>m,fun Z m=>.inl m,fun p m=>.inl (mem_map_of_mem m),p,rfl,rfl⟩
abbrev HT(x:Bool)(V:Program)(w:World)(H0:Heap)(n:Nat)(sc:Scope)(σ:AN)(zx:Aw)(st:Stmt)(Ψ:Ba):Prop:=MJ x V w H0 n sc σ zx (exec st) Ψ
abbrev HX(x:Bool)(V:Program)(w:World)(H0:Heap)(n:Nat)(sc:Scope)(σ:AN)(zx:Aw)(sts:List Stmt)(Ψ:Ba):Prop:=MJ x V w H0 n sc σ zx (execs sts) Ψ
theorem ET{α:Type}{m:Env->Sem α}{Ψ Φ:Heap->α->AN->Aw->Prop}(h:MJ x V w H0 n sc σ zx m Ψ)(hi:∀g a σ' zx',Ψ g a σ' zx'->Φ g a σ' zx'):MJ x V w H0 n sc σ zx m Φ:=
 fun A zz zw s zy g o F K O=>Ah (h A zz zw s zy g o F K O) (fun a s' q=>q.mono (hi · a)) fun Z Z f=>f
theorem N9{α:Type}{m:Env->Sem α}{Ψ:Heap->α->AN->Aw->Prop}(h:∀Φ:Heap->α->AN->Aw->Prop,(∀{g a σ' zx'},Ψ g a σ' zx'->Φ g a σ' zx')->MJ x V w H0 n sc σ zx m Φ):MJ x V w H0 n sc σ zx m Ψ:=h Ψ fun q=>q
theorem Dk{Ψ:Ba}(h:∀g,Ψ g .next σ zx):HX x V w H0 n sc σ zx [] Ψ:=fun A zz zw s zy g o F K O=>wpAny_execs_nil (GPf.here F (h _))
theorem Dm{st:Stmt}{rest:List Stmt}{Ψ Φ:Ba}(h:HT x V w H0 n sc σ zx st Ψ)(hr:∀g σ' zx',Ψ g .next σ' zx'->HX x V w H0 n sc σ' zx' rest Φ)(hs:∀g fl σ' zx',fl≠ .next->Ψ g fl σ' zx'->Φ g fl σ' zx'):
  HX x V w H0 n sc σ zx (st::rest) Φ:=by
 intro A zz zw s zy g o F K O;refine wpAny_execs_cons (Ah (h A zz zw s zy g o F K O) (fun fl s₁ q=>?_) fun Z Z f=>f);cases fl with
 |next=>exact q.then F K O fun zy1 σ₁ zx₁ F1 K1 O1 p1 Z=>hr _ σ₁ zx₁ p1 A zz zw s₁ zy1 g o F1 K1 O1
 |_=>exact q.mono fun g σ' zx' p=>hs g _ σ' zx' (by intro e;exact nomatch e) p
theorem B3{st:Stmt}{rest:List Stmt}{R:Heap->AN->Aw->Prop}{Φ:Ba}(h:HT x V w H0 n sc σ zx st (fun g fl σ' zx'=>fl=.next∧R g σ' zx'))(hr:∀g σ' zx',R g σ' zx'->HX x V w H0 n sc σ' zx' rest Φ):HX x V w H0 n sc σ zx (st::rest) Φ:=
 Dm h (fun g σ' zx' q=>hr g σ' zx' q.2) fun g fl σ' zx' hn q=>absurd q.1 hn
theorem IR{st:Stmt}{rest:List Stmt}{σ₁:AN}{zx₁:Aw}{Φ:Ba}(h:HT x V w H0 n sc σ zx st (Ek σ₁ zx₁))(hr:HX x V w H0 n sc σ₁ zx₁ rest Φ):HX x V w H0 n sc σ zx (st::rest) Φ:=
 Dm h (fun g σ' zx' ⟨_,a,b⟩=>by subst a b;exact hr) fun g fl σ' zx' hn ⟨a,_⟩=>absurd a hn
theorem TY{σ':AN}{sts:List Stmt}{Ψ:Ba}(h:HX x V w H0 n sc σ' zx sts Ψ)(hs:∀x e,σ'.lookup x=some e->σ.lookup x=some e):HX x V w H0 n sc σ zx sts Ψ:=
 fun A zz zw s zy g o F K O=>h A zz zw s zy g o (F.sub hs) K O
theorem CS{st:Stmt}{Ψ:Ba}(h:GT V w H0 n sc σ zx st Ψ):HT x V w H0 n sc σ zx st Ψ:=Fg h
theorem DU{sts:List Stmt}{Ψ:Ba}(h:GX V w H0 n sc σ zx sts Ψ):HX x V w H0 n sc σ zx sts Ψ:=Fg h
theorem Fh{st:Stmt}{Ψ:Ba}(h:HT false V w H0 n sc σ zx st Ψ):GT V w H0 n sc σ zx st Ψ:=K0 h
theorem MW{test:Expr}{body orelse:List Stmt}{pos:Pos}{Θ:Heap->Bool->AN->Aw->Prop}{Ψ:Ba}(h:MJ x V w H0 n sc σ zx (fun zz=>isTrue test zz (eval test zz)) Θ)(h1:∀g σ' zx',Θ g true σ' zx'->HX x V w H0 n sc σ' zx' body Ψ)(h2:∀g σ' zx',Θ g false σ' zx'->HX x V w H0 n sc σ' zx' orelse Ψ):
  HT x V w H0 n sc σ zx (.If test body orelse pos) Ψ:=by
 intro A zz zw s zy g o F K O;refine wpAny_If (Ah (h A zz zw s zy g o F K O) (fun c s₁ q=>?_) fun Z Z f=>f);cases c with
 |true=>exact q.then F K O fun zy1 σ₁ zx₁ F1 K1 O1 p1 Z=>h1 _ _ _ p1 A zz zw s₁ zy1 g o F1 K1 O1
 |false=>exact q.then F K O fun zy1 σ₁ zx₁ F1 K1 O1 p1 Z=>h2 _ _ _ p1 A zz zw s₁ zy1 g o F1 K1 O1
theorem K7{test:Expr}{b:Bool}(h:FI V w H0 n sc σ zx test b):MJ x V w H0 n sc σ zx (fun zz=>isTrue test zz (eval test zz)) (fun Z c σ' zx'=>c=b∧σ'=σ∧zx'=zx):=
 fun A zz zw s zy g o F K O=>Ah (h A zz s zy g o F) (fun c s₁ q=>(GPf.of_pu F O q)) fun Z Z f=>f
theorem P7{test:Expr}{body orelse:List Stmt}{pos:Pos}{b:Bool}{Ψ:Ba}(h:FI V w H0 n sc σ zx test b)(h1:b=true->HX x V w H0 n sc σ zx body Ψ)(h2:b=false->HX x V w H0 n sc σ zx orelse Ψ):
  HT x V w H0 n sc σ zx (.If test body orelse pos) Ψ:=
 MW (K7 h) (fun g σ' zx' ⟨e,a,c⟩=>by subst a c;exact h1 e.symm) fun g σ' zx' ⟨e,a,c⟩=>by subst a c;exact h2 e.symm
theorem Hp{test:Expr}{body orelse:List Stmt}{pos:Pos}(I:Nat->AN->Aw->Prop){Ψ:Ba}(k:Nat)
  (turn:∀i σ' zx',I i σ' zx'->∃Θ,MJ x V w H0 n sc σ' zx' (fun zz=>isTrue test zz (eval test zz)) Θ∧
   (∀g σ₁ zx₁,Θ g true σ₁ zx₁->HX x V w H0 n sc σ₁ zx₁ body (fun g fl σ₁ zx₁=>match fl with|.next|.cont=>∃j,j<i∧I j σ₁ zx₁|.brk=>Ψ g .next σ₁ zx₁|.ret v=>Ψ g (.ret v) σ₁ zx₁))∧
   (∀g σ₁ zx₁,Θ g false σ₁ zx₁->HX x V w H0 n sc σ₁ zx₁ orelse Ψ))
  (h0:I k σ zx):HT x V w H0 n sc σ zx (.While test body orelse pos) Ψ:=by
 intro A zz zw s zy g o F K O;have lo:=K.low;have al:∀b∈Ck zw,b∈zy∧∃ob,s.heap.get? b=some ob:=fun b m=>let⟨h1,o,e,_⟩:=lo b m;⟨h1,o,e⟩;refine wpAny_While (codeAny_whileLoop (fun i s'=>GPf H0 s zy zz zx (Ck zw) (fun Z (Z:Unit) σ' zx'=>I i σ' zx') () s') (fun i s' hI=>Tu fun Q hQ E Z=>?_) k (GPf.here F h0));obtain⟨h₁,t₁,zy1,σ₁,zx₁,rfl,k1,F1,m1,m2,m3,p1⟩:=id hI;have K1:=K.move m1 k1;have O1:=Eh O (fun b m=>(al b m).2) m3;refine Dz (turn i σ₁ zx₁ p1) fun Θ ht hb hb'=>?_;refine Ah (ht A zz zw _ zy1 g o F1 K1 O1) (fun c s2 q=>?_) fun Z Z f=>f.elim;obtain⟨h2,t2,zy2,σ2,zx2,rfl,k2,F2,n1,n2,n3,p2⟩:=q;have K2:=K1.move n1 k2;have al1:∀b∈Ck zw,b∈zy1∧∃ob,h₁.get? b=some ob:=fun b m=>let⟨h1,o,e,_⟩:=K1.low b m;⟨h1,o,e⟩;have O2:=Eh O1 (fun b m=>(al1 b m).2) n3;refine hQ _ _ ?_;cases c with
 |true=>
  refine Ah (hb _ _ _ p2 A zz zw _ zy2 g o F2 K2 O2) (fun fl s3 q3=>?_) fun Z Z f=>f.elim;have q3':GPf H0 {s with heap:=h₁,toks:=t₁} zy1 zz zx₁ (Ck zw) _ fl s3:=GPf.glue (t₁:=t2) F1 al1 k2 F2 n1 n2 n3 q3;have q4:=GPf.glue F al k1 F1 m1 m2 m3 q3';cases fl with
  |next=>
   obtain⟨h',tk,zy',σ',zx',e,k,F',u1,u2,u3,j,hj,p⟩:=q4;exact⟨j,hj,h',tk,zy',σ',zx',e,k,F',u1,u2,u3,p⟩
  |cont=>
   obtain⟨h',tk,zy',σ',zx',e,k,F',u1,u2,u3,j,hj,p⟩:=q4;exact⟨j,hj,h',tk,zy',σ',zx',e,k,F',u1,u2,u3,p⟩
  |brk=>exact q4.to fun Z Z Z h=>h
  |ret v=>exact q4.to fun Z Z Z h=>h
 |false=>
  refine Ah (hb' _ _ _ p2 A zz zw _ zy2 g o F2 K2 O2) (fun fl s3 q3=>?_) fun Z Z f=>f.elim;have q3':GPf H0 {s with heap:=h₁,toks:=t₁} zy1 zz zx₁ (Ck zw) _ fl s3:=GPf.glue (t₁:=t2) F1 al1 k2 F2 n1 n2 n3 q3;exact GPf.glue F al k1 F1 m1 m2 m3 q3'
theorem Hq{test:Expr}{body orelse:List Stmt}{pos:Pos}(I:Nat->AN->Aw->Prop){Ψ:Ba}(k:Nat)
  (turn:∀i σ' zx',I i σ' zx'->∃b,FI V w H0 n sc σ' zx' test b∧
   (b=true->GX V w H0 n sc σ' zx' body (fun g fl σ₁ zx₁=>match fl with|.next|.cont=>∃j,j<i∧I j σ₁ zx₁|.brk=>Ψ g .next σ₁ zx₁|.ret v=>Ψ g (.ret v) σ₁ zx₁))∧
   (b=false->GX V w H0 n sc σ' zx' orelse Ψ))
  (h0:I k σ zx):GT V w H0 n sc σ zx (.While test body orelse pos) Ψ:=
 K0 (Hp I k (fun i σ' zx' hI=>by
  refine Dz (turn i σ' zx' hI) fun b ht h1 h2=>?_;refine⟨_,K7 ht,fun g σ₁ zx₁ p=>?_,fun g σ₁ zx₁ p=>?_⟩
  ·refine CZ p fun x1 x2 x3=>?_;try clear p;subst x1;subst x2;subst x3;exact Fg (h1 rfl)
  ·refine CZ p fun x1 x2 x3=>?_;try clear p;subst x1;subst x2;subst x3;exact Fg (h2 rfl)) h0)
end
inductive IsSrcF(V:Program)(w:World)(A:Around)(s:Shared)(zy fixed:List Addr)(ds:List Ent)(it:Value)(s₂:Shared):Prop
 |mk:∀I fp wr St h₂ tk,it=.ref I->s₂={s with heap:=h₂,toks:=tk}->Ext s.heap h₂->Src V w A (vis s.heap zy) I fp wr ds St->St 0 h₂->(∀b∈wr,s.heap.get? b=none)->(∀b∈fp,(∃o,h₂.get? b=some o)∧(b∉zy∨b∈fixed))->IsSrcF V w A s zy fixed ds it s₂
section
variable{x:Bool}
def Vh(V:Program)(w:World)(H0:Heap)(n:Nat)(sc:Scope)(σ:AN)(zx:Aw)(fixed:List Addr)(iter:Expr)(ds:List Ent):Prop:=
 ∀A zz s zy,Good n A->EnvOk sc zz->Fm H0 zy zx zz σ s.heap->wpAny (model V w) A (eval iter zz) (fun v s₁=>Pu s zy (fun Z Z=>True) v s₁∧wpAny (model V w) A (pyIter v) (IsSrcF V w A s₁ zy fixed ds) CO s₁) CO s
theorem GZ{iter:Expr}{y:Ent}{ds:List Ent}(hi:Am V w H0 n sc σ zx iter y)(h:DS V w H0 n y ds):Vh V w H0 n sc σ zx [] iter ds:=by
 intro A zz s zy g o F;refine Aq (hi A zz s zy g o F) fun v s₁ q=>⟨q.mono fun Z Z=>trivial,?_⟩;refine Ah (h A s₁ zy v g (F.ext q.ext).toBase q.val) (fun it s2 q2=>?_) fun Z Z f=>f;obtain⟨I,fp,wr,St,h2,tk,e1,e2,e3,e4,e5,e6,e7⟩:=q2;exact⟨I,fp,wr,St,h2,tk,e1,e2,e3,e4,e5,e6,fun b m=>⟨(e7 b m).1,.inl (e7 b m).2⟩⟩
end
section
variable{x:Bool}
inductive ForI(H0:Heap)(s:Shared)(wr zy:List Addr)(zz:Env)(zx:Aw)(fr:List Addr)(g h₂:Heap)(St:Nat->Heap->Prop)(J:Nat->AN->Aw->Prop)(m k:Nat)(s':Shared):Prop
 |mk:∀i h' tk zy' σ' zx',s'={s with heap:=h',toks:=tk}->i≤m->k=m - i->St i h'->Fm H0 zy' zx' zz σ' h'->J i σ' zx'->Ext g (vis h' zy')->KeepU (wr++AI zz zx) fr h₂ h'->
   Cf (wr++zy) zy'->MN (wr++zy) zy' h₂->GF zx zx' h₂->ForI H0 s wr zy zz zx fr g h₂ St J m k s'
theorem Fj{target iter:Expr}{body:List Stmt}{pos:Pos}{ds:List Ent}(fx:Aw)(J:Nat->AN->Aw->Prop){Ψ:Ba}(hi:Vh V w H0 n sc σ zx (fx.map (·.1)) iter ds)(h0:J 0 σ zx)(hfx:∀i σ' zx',J i σ' zx'->∀p∈fx,p∈zx')
  (turn:∀i e σ' zx',ds[i]? =some e->J i σ' zx'->∃bs,MR V w H0 n sc target e bs∧
   HX x V w H0 n sc (bs++σ') zx' body (fun g fl σ₁ zx₁=>match fl with|.next|.cont=>J (i+1) σ₁ zx₁|.brk=>∀g,Ψ g .next σ₁ zx₁|.ret v=>∀g',Ext g g'->Ψ g' (.ret v) σ₁ zx₁))
  (hend:∀g σ' zx',J ds.length σ' zx'->Ψ g .next σ' zx')
  (hs:∀zz x,foldedSetIterable iter zz x=pure x)(ht:(∃y p,target=.Name y p)∨∃es k p,target=.Tuple es k p):
  HT x V w H0 n sc σ zx (.For target iter body [] pos) Ψ:=by
 revert hi h0 hfx turn hend hs ht;revert V w H0 n sc σ zx x target iter body pos ds fx J Ψ;refine no_implicit_lambda% (FM (by exact((((default,w0),default),default),default)) ?_);generalize CF _ _=t9;generalize t9.1.1.1.1=V,t9.1.1.1.2=w,t9.1.1.2.1=H0,t9.1.1.2.2=n,t9.1.2.1.1=sc,t9.1.2.1.2=σ,t9.1.2.2.1=zx,t9.1.2.2.2=x,t9.2.1.1.1=target,t9.2.1.1.2=iter,t9.2.1.2.1=body,t9.2.1.2.2=pos,t9.2.2.1.1=ds,t9.2.2.1.2=fx,t9.2.2.2.1=J,t9.2.2.2.2=Ψ;intro hi h0 hfx turn hend hs ht;intro A zz zw s zy g o F K O;refine wpAny_For (Ah (hi A zz s zy g o F) (fun v s₁ q=>?_) fun Z Z f=>f.elim) (hs zz);refine BL q fun x1 hit=>?_;revert x1;intro q;have F1:=F.ext q.ext;have ku1:KeepU (AI zz zx) (Ck zw) s.heap s₁.heap:=.of_but (q.ext.keep _) O;have K1:Fk x A zz zw zy s₁.heap:=K.move (fun Z m=>m) ku1;obtain⟨h₁,t₁,rfl,ex₁,_⟩:=q;refine Ah hit (fun it s2 q2=>?_) fun Z Z f=>f.elim;obtain⟨I,fp,wr,St,h₂,t2,rfl,rfl,ex2,S,st0,fresh,fps⟩:=q2;have W:=S.walk;have F2:Fm H0 (wr++zy) zx zz σ h₂:=F1.more ex2 fresh (fun b hb=>S.alive 0 _ st0 b hb);have gm:Ext (vis h₁ zy) (vis h₂ (wr++zy)):=DQ ex2 fresh;have ex02:Ext s.heap h₂:=fun b oo e=>ex2 b oo (ex₁ b oo e);have ku2:KeepU (AI zz zx) (Ck zw) s.heap h₂:=.of_but (ex02.keep _) O;have K2:Fk x A zz zw (wr++zy) h₂:=K.move (fun Z m=>mem_append_right _ m) ku2;have lo:=K.low;have freshS:∀b∈wr,s.heap.get? b=none:=fun b hb=>by
  cases q:s.heap.get? b with
  |none=>rfl
  |some oo=>have:=fresh b hb;rw[ex₁ b oo q] at this;exact E4 this
 have wrh2:∀b∈wr,∃oo,h₂.get? b=some oo:=fun b hb=>S.alive 0 _ st0 b hb;have wrn0:∀(zx':Aw),GF zx zx' h₂->∀b∈wr,b∉AI zz zx':=fun zx' hl b hb m=>by
  rcases EE (zz:=zz) (zx:=zx) hl m with m|m
  ·refine ex1 (F.alive b (B1 F b m)) fun oo e=>?_
   rw[freshS b hb] at e;exact CE e
  ·refine ex1 (wrh2 b hb) fun oo e=>?_
   rw[e] at m;exact E4 m
 have wrf:∀b∈wr,b∉Ck zw:=fun b hb m=>by
  obtain⟨_,oo,e,_⟩:=lo b m;rw[freshS b hb] at e;exact CE e
 have out:∀{β:Type} {Φ:Heap->β->AN->Aw->Prop} {b:β} {s':Shared} {h':Heap} {tk:Nat} {zy':List Addr} {σ':AN} {zx':Aw},s'={s with heap:=h',toks:=tk}->KeepU (wr++AI zz zx) (Ck zw) h₂ h'->Fm H0 zy' zx' zz σ' h'->Cf (wr++zy) zy'->
   MN (wr++zy) zy' h₂->GF zx zx' h₂->Φ (vis h' zy') b σ' zx'->GPf H0 s zy zz zx (Ck zw) Φ b s':=by
  intro β Φ b s' h' tk zy' σ' zx' e k F' m1 m2 m3 p;have back:∀b,h₂.get? b=none->s.heap.get? b=none:=fun b e=>by
   cases q:s.heap.get? b with
   |none=>rfl
   |some oo=>rw[ex02 b oo q] at e;exact E4 e
  refine⟨h',tk,zy',σ',zx',e,⟨fun b oo nb nf e=>k.1 b oo (fun m=>?_) nf (ex02 b oo e),fun b m oo e d=>k.2 b m oo (ex02 b oo e) d⟩,F',fun b m=>m1 b (mem_append_right _ m),fun b m=>?_,fun p m=>(m3 p m).imp id (back _),p⟩
  ·rcases Cx m with m|m
   ·rw[freshS b m] at e;exact CE e
   ·exact nb m
  ·rcases m2 b m with m|m
   ·rcases Cx m with m|m
    ·exact .inr (freshS b m)
    ·exact .inl m
   ·exact .inr (back b m)
 refine codeAny_loop' rfl (ForI H0 s wr zy zz zx (Ck zw) (vis h₁ zy) h₂ St J ds.length)
  (fun k s' hI=>?_) ds.length ⟨0,h₂,t2,wr++zy,σ,zx,rfl,zero_le _,rfl,st0,F2,h0,gm,KeepU.refl _ _ _,fun Z m=>m,fun Z m=>.inl m,fun p m=>.inl (mem_map_of_mem m)⟩
 obtain⟨i,h',tk,zy',σ',zx',rfl,hle,rfl,sti,Fi,ji,gi,ki,m1,m2,m3⟩:=hI;show wpAny _ A ((forTurn target (.ref I) body [] zz).onRaise (fun x=>do noteFrame x zz;theTreesLotGoes x)) _ _ _;refine wpAny_noted ?_;simp -iota only[forTurn];refine Ac (wpAny_standAt (Ac (wpAny_onRaise (Tu fun Q1 hQ1 E1 hE1=>?_))));have wrh:Cf wr zy':=fun b hb=>m1 b (mem_append_left _ hb);have wrn:∀b∈wr,b∉AI zz zx':=wrn0 zx' m3;have wro:∀b∈wr,b≠zz.locals∧(∀p∈zz.cells,p.2≠b)∧∀p∈zx',p.1≠b:=fun b hb=>
  ⟨fun q=>wrn b hb (q▸mem_cons_self),fun p hp q=>wrn b hb (q▸mem_cons_of_mem _ (mem_append_left _ (mem_map_of_mem hp))),
   fun p hp q=>wrn b hb (q▸mem_cons_of_mem _ (mem_append_right _ (mem_map_of_mem hp)))⟩
 have Ki:Fk x A zz zw zy' h':=by
  have kk:KeepU (wr++AI zz zx) (Ck zw) s.heap h':=⟨fun b oo nb nf e=>ki.1 b oo nb nf (ex02 b oo e),fun b m oo e d=>ki.2 b m oo (ex02 b oo e) d⟩;cases x with
  |true=>
   have f:FrOk A zz zw zy s.heap:=K;exact(show FrOk A zz zw zy' h' from⟨f.stack,f.fn,fun b m=>by
    obtain⟨h1,oo,e,d⟩:=f.low b m;refine ex1 (kk.2 b m oo e d) fun sl e1=>?_;exact⟨m1 b (mem_append_right _ h1),_,e1,d⟩⟩)
  |false=>exact K
 have Oi:GG zw zz zx':=fun b m hb=>by
  rcases EE m3 hb with q|q
  ·exact O b m q
  ·obtain⟨_,oo,e,_⟩:=K2.low b m
   rw[e] at q;exact E4 q
 by_cases hlt:i<ds.length
 ·refine W.item i _ _ _ hlt sti fun v h₃ t3 hv st3 k3=>?_
  refine Ad hv fun e he me=>?_;have F3:Fm H0 zy' zx' zz σ' h₃:=Fi.keepBut k3 wrh wro (fun b hb=>S.alive (i+1) h₃ st3 b hb);have ku3:KeepU wr (Ck zw) h' h₃:=.of_but k3 (fun b m hb=>wrf b hb m);have K3:Fk x A zz zw zy' h₃:=by
   cases x with
   |true=>
    have f:FrOk A zz zw zy' h':=Ki;exact(show FrOk A zz zw zy' h₃ from⟨f.stack,f.fn,fun b m=>by
     obtain⟨h1,oo,e,d⟩:=f.low b m;refine ex1 (ku3.2 b m oo e d) fun sl e1=>?_;exact⟨h1,_,e1,d⟩⟩)
   |false=>exact Ki
  have g3:Ext (vis h₁ zy) (vis h₃ zy'):=gi.trans (AW wrh k3);refine Ad (turn i e σ' zx' he ji) fun bs hAs hEx=>?_;have go:∀(Q:Unit->Shared->Prop) (E:Value->Shared->Prop) (s5:Shared),s5.heap=h₃->Q () s5->wpAny (model V w) A (letOwnedTupleGo target (.ref I) v) Q E s5:=by
   clear hQ1 hE1;intro Q E s5 hs5 hQ;rcases ht with ⟨y,p,rfl⟩|⟨es,kk,p,rfl⟩
   ·exact Ag hQ
   ·cases v with
    |ref a=>
     refine Bh (S.plain (i+1) h₃ st3) fun oo T e1 e2 e3=>?_;show wpAny _ A (load I >>=fun o=>_) _ _ _;refine Ac (wpAny_load (by rw[hs5];exact e1) ?_)
     (refine e2.symm▸ ?_)
     cases hd:oo.data<;> (try exact Ag hQ)
     simp only;have:(["enumerate","zip","dict_itemiterator","dict_reverseitemiterator","odict_iterator","itertools.zip_longest","itertools.pairwise"].contains T)=false:=e3
     (refine this.symm▸ ?_)
     exact Ag hQ
    |_=>exact Ag hQ
  refine hQ1 _ _ ?_;refine Ac (go _ _ _ rfl ?_);refine Ac (Ah (hAs A zz _ zy' zx' σ' v g o F3 (me.ext g3)) (fun Z s4 q₄=>?_) fun Z Z f=>f.elim);refine Bh q₄ fun h4 t4 x3 k₄ F4=>?_;try clear q₄;subst x3
  have k4:KeepBut (AI zz zx') h₃ h4:=k₄.more (AL zz zx' _);have ku4:KeepU (AI zz zx') (Ck zw) h₃ h4:=.of_but k4 Oi;have K4:=K3.move (fun Z m=>m) ku4;refine Ac (Ah (hEx A zz zw _ zy' g o F4 K4 Oi) (fun fl s5 q5=>Tu fun Q2 hQ2 E2 Z=>?_) fun Z Z f=>f.elim);obtain⟨h5,t5,zy5,σ5,zx5,rfl,k5,F5,n1,n2,n3,p5⟩:=q5;have k45:KeepU (AI zz zx') (Ck zw) h₃ h5:=ku4.trans k5;have back4:∀b,h4.get? b=none->h₂.get? b=none:=fun b e4=>by
   cases q:h₂.get? b with
   |none=>rfl
   |some oo=>
    exfalso
    by_cases mh:b∈zy'
    ·refine ex1 (F4.alive b mh) fun ob q4=>?_
     rw[q4] at e4;exact E4 e4
    ·have nw:b∉wr++AI zz zx:=fun mb=>mh (by
      rcases Cx mb with mb|mb
      ·exact wrh b mb
      ·exact m1 b (mem_append_right _ (B1 F1 b mb)))
     have nf:b∉Ck zw:=fun m=>mh (m1 b (mem_append_right _ (lo b m).1));have a1:=ki.1 b oo nw nf q;have a3:=k3 b oo (fun m=>mh (wrh b m)) a1;rw[k4 b oo (fun m=>mh (B1 F4 b m)) a3] at e4;exact E4 e4
  have kk:KeepU (wr++AI zz zx) (Ck zw) h₂ h5:=by
   refine⟨fun b oo nb nf e2=>?_,fun b m oo e2 d=>?_⟩
   ·have a1:=ki.1 b oo nb nf e2
    have a3:=k3 b oo (fun m=>nb (mem_append_left _ m)) a1;refine k45.1 b oo (fun m=>?_) nf a3;rcases EE (zz:=zz) (zx:=zx) m3 m with m|m
    ·exact nb (mem_append_right _ m)
    ·rw[e2] at m;exact E4 m
   ·refine ex1 (ki.2 b m oo e2 d) fun sl a1=>?_
    refine ex1 (ku3.2 b m _ a1 d) fun sl' a3=>?_;refine ex1 (k45.2 b m _ a3 d) fun sl'' a4=>?_;exact⟨sl'',a4⟩
  have AU:Cf (wr++zy) zy5:=fun b m=>n1 b (m1 b m);have BF:MN (wr++zy) zy5 h₂:=fun b m=>by
   rcases n2 b m with m|m
   ·exact m2 b m
   ·exact .inr (back4 b m)
  have Cx:GF zx zx5 h₂:=fun p m=>by
   rcases n3 p m with m|m
   ·refine Ad (Ct m) fun p' hp' e=>?_
    (refine(e)▸ ?_);exact m3 p' hp'
   ·exact .inr (back4 _ m)
  have st5:J (i+1) σ5 zx5->St (i+1) h5:=fun j5=>W.frame _ _ _ st3 fun b hb oo e=>by
   rcases(fps b hb).2 with q|q
   ·refine k45.1 b oo (fun m=>?_) (fun m=>q (lo b m).1) e
    rcases EE (zz:=zz) (zx:=zx) m3 m with z|z
    ·exact q (B1 F1 b z)
    ·refine ex1 ((fps b hb).1) fun ob z'=>?_
     rw[z'] at z;exact E4 z
   ·refine Ad (Ct q) fun p hp x3=>?_;subst x3
    have a1:=F3.ledg _ (hfx i σ' zx' ji p hp);rw[e] at a1;cases a1;exact F5.ledg _ (hfx _ _ _ j5 p hp)
  have gk:Ext (vis h₃ zy') (vis h5 zy5):=fun b oo e=>AQ (k45.1 b oo (fun m=>(Al e).2 (B1 F4 b m)) (fun m=>(Al e).2 (m1 b (mem_append_right _ (lo b m).1))) (Al e).1) fun m=>by
   rcases n2 b m with m|m
   ·exact(Al e).2 m
   ·have:h4.get? b=some oo:=k4 b oo (fun mo=>(Al e).2 (B1 F4 b mo)) (Al e).1
    rw[this] at m;exact E4 m
  cases fl with
  |next=>exact Ag (hQ2 _ _ (.inl ⟨rfl,ds.length - (i+1),sub_succ_lt_self _ _ hlt,i+1,h5,t5,zy5,σ5,zx5,rfl,hlt,rfl,st5 p5,F5,p5,g3.trans gk,kk,AU,BF,Cx⟩))
  |cont=>exact Ag (hQ2 _ _ (.inl ⟨rfl,ds.length - (i+1),sub_succ_lt_self _ _ hlt,i+1,h5,t5,zy5,σ5,zx5,rfl,hlt,rfl,st5 p5,F5,p5,g3.trans gk,kk,AU,BF,Cx⟩))
  |brk=>exact Ag (hQ2 _ _ (out rfl kk F5 AU BF Cx (p5 _)))
  |ret v=>exact Ag (hQ2 _ _ (out rfl kk F5 AU BF Cx (p5 _ (Ext.refl _))))
 ·have hi':i=ds.length:=R5 ‹_› ‹_›
  subst hi';refine W.done _ _ _ sti fun h₃ t3 k3=>?_;refine hQ1 _ _ (Ag (.inr ⟨rfl,?_⟩));refine codeAny_block (wpAny_execs_nil ?_);have inr:∀a,a∈zy'->a∉wr->a∈zy'.filter (fun a=>!decide (a∈wr)):=fun a h1 h2=>mem_filter.mpr ⟨h1,by simpa using h2⟩;have hl1:zz.locals∈zy'.filter (fun a=>!decide (a∈wr)):=inr _ Fi.loc fun m=>(wro _ m).1 rfl;have hl2:∀p∈zz.cells,p.2∈zy'.filter (fun a=>!decide (a∈wr)):=fun p hp=>inr _ (Fi.celh p hp) fun m=>(wro _ m).2.1 p hp rfl;have hl3:∀p∈zx',p.1∈zy'.filter (fun a=>!decide (a∈wr)):=fun p hp=>inr _ (Fi.ledh p hp) fun m=>(wro _ m).2.2 p hp rfl;have Fw:Fm H0 (wr++zy'.filter (fun a=>!decide (a∈wr))) zx' zz σ' h':=Fi.less (fun a m=>by
    rcases Cx m with m|m
    ·exact wrh a m
    ·exact(mem_filter.mp m).1) (mem_append_right _ hl1) (fun p hp=>mem_append_right _ (hl2 p hp)) fun p hp=>mem_append_right _ (hl3 p hp)
  have F3:Fm H0 (zy'.filter (fun a=>!decide (a∈wr))) zx' zz σ' h₃:=Fm.drop Fw k3 (fun a m q=>by simpa [m] using (mem_filter.mp q).2) hl1 hl2 hl3;have ku3:KeepU wr (Ck zw) h' h₃:=.of_but k3 (fun b m hb=>wrf b hb m);refine⟨h₃,t3,_,σ',zx',rfl,⟨fun b oo nb nf e=>?_,fun b m oo e d=>?_⟩,F3,fun b m=>inr b (m1 b (mem_append_right _ m)) fun q=>?_,fun b m=>?_,fun p m=>(m3 p m).imp id fun e=>?_,hend _ _ _ ji⟩
  ·have nw:b∉wr:=fun m=>by rw[freshS b m] at e;exact CE e
   exact k3 b oo nw (ki.1 b oo (fun m=>by
    rcases Cx m with m|m
    ·exact nw m
    ·exact nb m) nf (ex02 b oo e))
  ·refine ex1 (ki.2 b m oo (ex02 b oo e) d) fun sl a1=>?_
   refine ex1 (ku3.2 b m _ a1 d) fun sl' a2=>?_;exact⟨sl',a2⟩
  ·refine ex1 (F.alive b m) fun oo e=>?_
   rw[freshS b q] at e;exact CE e
  ·rcases m2 b (mem_filter.mp m).1 with q|q
   ·rcases Cx q with q|q
    ·exact .inr (freshS b q)
    ·exact .inl q
   ·refine .inr ?_
    cases z:s.heap.get? b with
    |none=>rfl
    |some oo=>rw[ex02 b oo z] at q;exact E4 q
  ·cases z:s.heap.get? p.1 with
   |none=>rfl
   |some oo=>rw[ex02 _ oo z] at e;exact E4 e
theorem MX{target iter:Expr}{body:List Stmt}{pos:Pos}{x:Ent}{ds:List Ent}(J:Nat->AN->Aw->Prop){Ψ:Ba}(hi:Am V w H0 n sc σ zx iter x)(hsrc:DS V w H0 n x ds)(h0:J 0 σ zx)
  (turn:∀i e σ' zx',ds[i]? =some e->J i σ' zx'->∃bs,MR V w H0 n sc target e bs∧
   GX V w H0 n sc (bs++σ') zx' body (fun g fl σ₁ zx₁=>match fl with|.next|.cont=>J (i+1) σ₁ zx₁|.brk=>∀g,Ψ g .next σ₁ zx₁|.ret v=>∀g',Ext g g'->Ψ g' (.ret v) σ₁ zx₁))
  (hend:∀g σ' zx',J ds.length σ' zx'->Ψ g .next σ' zx')
  (hs:∀zz x,foldedSetIterable iter zz x=pure x)(ht:(∃y p,target=.Name y p)∨∃es k p,target=.Tuple es k p):
  GT V w H0 n sc σ zx (.For target iter body [] pos) Ψ:=
 K0 (Fj [] J (GZ hi hsrc) h0 (fun Z Z Z Z p m=>BK m) (fun i e σ' zx' he j=>by
  refine Ad (turn i e σ' zx' he j) fun bs a b=>?_;exact⟨bs,a,Fg b⟩) hend hs ht)
theorem K8{σ':AN}(h:∀y e,σ.lookup y=some e->σ'.lookup y=some e):∀(bs:AN) y e,(bs++σ).lookup y=some e->(bs++σ').lookup y=some e:=by
 intro bs
 induction bs with
 |nil=>
  intro y e q;exact h y e q
 |cons p bs K8=>
  intro y e q;rw[cons_append,lookup_cons] at q ⊢;cases c:y==p.1
  ·rw[c] at q;exact K8 y e q
  ·rw[c] at q;exact q
theorem P8{st:Stmt}{σ':AN}{Ψ:Ba}(h:GT V w H0 n sc σ zx st Ψ)(hi:∀g fl σ₁ zx₁,Ψ g fl σ₁ zx₁->fl=.next∧(∀y e,σ'.lookup y=some e->σ₁.lookup y=some e)∧zx₁=zx):N7 V w H0 n sc σ zx st (.next σ'):=by
 intro A zz s zy g o F;refine Ah (h A zz s zy g o F) (fun fl s' q=>?_) fun Z Z f=>f;obtain⟨h',tk,zy',σ₁,zx₁,rfl,k,F',m1,_,_,p⟩:=q;refine CZ (hi _ _ _ _ p) fun x1 hs x3=>?_;subst x1;subst x3;exact⟨h',tk,rfl,k,rfl,(F'.sub hs).less m1 F.loc F.celh F.ledh⟩
theorem P9{sts:List Stmt}{σ':AN}(h:II V w H0 n sc σ zx sts (.next σ')):GX V w H0 n sc σ zx sts (Ek σ' zx):=by
 intro A zz s zy g o F;refine Ah (h A zz s zy g o F) (fun fl s' q=>?_) fun Z Z f=>f;obtain⟨h',tk,rfl,k,e,F'⟩:=q;exact⟨h',tk,zy,σ',zx,rfl,k,F',fun Z m=>m,fun Z m=>.inl m,fun p m=>.inl (mem_map_of_mem m),e,rfl,rfl⟩
theorem MY{target iter:Expr}{body:List Stmt}{pos:Pos}{x:Ent}{ds:List Ent}(J:Nat->AN)(hi:Am V w H0 n sc σ zx iter x)(hsrc:DS V w H0 n x ds)
  (h0:∀y e,(J 0).lookup y=some e->σ.lookup y=some e)
  (turn:∀i e,ds[i]? =some e->∃bs,MR V w H0 n sc target e bs∧II V w H0 n sc (bs++J i) zx body (.next (J (i+1))))
  (hs:∀zz x,foldedSetIterable iter zz x=pure x)(ht:(∃y p,target=.Name y p)∨∃es k p,target=.Tuple es k p):
  N7 V w H0 n sc σ zx (.For target iter body [] pos) (.next (J ds.length)):=
 P8 (MX (fun i σ' zx'=>(∀y e,(J i).lookup y=some e->σ'.lookup y=some e)∧zx'=zx) (Ψ:=fun Z fl σ' zx'=>fl=.next∧(∀y e,(J ds.length).lookup y=some e->σ'.lookup y=some e)∧zx'=zx) hi hsrc ⟨h0,rfl⟩ (fun i e σ' zx' he j=>by
  refine BL j fun hs' x2=>?_;try clear j;subst x2
  refine Ad (turn i e he) fun bs a b=>?_;refine⟨bs,a,AV (P9 (TU b (K8 hs' bs))) fun g fl σ₁ zx₁ p=>?_⟩;refine CZ p fun x1 x2 x3=>?_;try clear p;subst x1;subst x2;subst x3
  exact⟨fun Z Z h=>h,rfl⟩) (fun g σ' zx' j=>⟨rfl,j⟩) hs ht) fun Z Z Z Z p=>p
end
structure DefG(H0:Heap)(f:Addr)(fd:FuncData)(sc:Scope)(body:List Stmt):Prop where
 obj:∃o,H0.get? f=some o∧o.data=.func fd
 lim:H0.NoLimit
 rec':H0.CodeRec fd.code fd.qualname
 body:fd.body=.stmts body
 clo:fd.closure=[]
 scope:fd.scope=sc
 glob:fd.globals=mainGlobals
 bi:fd.builtins=builtinsNs
theorem DefG.callee{H0:Heap}{f:Addr}{fd:FuncData}{sc:Scope}{body:List Stmt}(D:DefG H0 f fd sc body):Cn H0 (.ref f):=let⟨_,a,b⟩:=D.obj;Kc a b
theorem DefIs.g{H0:Heap}{f:Addr}{fd:FuncData}{sc:Scope}{ps:List Str}{body:List Stmt}(D:DefIs H0 f fd sc ps body):DefG H0 f fd sc body:=⟨D.obj,D.lim,D.rec',D.body,D.clo,D.scope,D.glob,D.bi⟩
section
variable{x:Bool}
def Kl(V:Program)(w:World)(H0:Heap)(fd:FuncData)(ps:List Str)(xs xs':List Ent):Prop:=
 ∀A s zy vs,Base H0 zy s.heap->MeansAll (vis s.heap zy) vs xs->wpAny (model V w) A (bindArgs fd ⟨vs,[]⟩) (Pu s zy (fun g bs=>∃ws,bs=ps.zip ws∧MeansAll g ws xs')) CO s
theorem Cb{fd:FuncData}{ps:List Str}{xs:List Ent}(h:∀vs:List Value,vs.length=ps.length->bindArgs fd ⟨vs,[]⟩=pure (ps.zip vs))(hl:xs.length=ps.length):Kl V w H0 fd ps xs xs:=fun A s zy vs B m=>by
 rw[h vs ((CH m).length.trans hl)];exact Ag (Pu.here ⟨vs,rfl,m⟩)
theorem H3{f:Addr}{fd:FuncData}{ps:List Str}{body:List Stmt}{xs xs':List Ent}{L:Aw}{A:Around}{s:Shared}{zy:List Addr}{vs:List Value}{R:Result->Shared->Prop}(D:DefG H0 f fd sc body)(hb:Kl V w H0 fd ps xs xs')(hsc:Fa sc ps=true)(hl:xs'.length=ps.length)
  (g:Good (n+1) A)(B:Base H0 zy s.heap)(LO:LedOk zy L s.heap)(hm:MeansAll (vis s.heap zy) vs xs)
  (h:∀zz h₁ t₁,EnvOk sc zz->zz.frame=some zz.locals->Fm H0 (AI zz []++zy) L zz (ps.zip xs') h₁->Ext s.heap h₁->(∀b∈AI zz [],s.heap.get? b=none)->
   wpAny (model V w) (A.deeper zz) (execs body zz) (fun fl s'=>R (.ok (.ret (match fl with|.ret v=>v|_=>.none))) s') (fun e s'=>wpAny (model V w) (A.deeper zz) (leaving zz e) (fun Z s''=>R (.error e) s'') (fun e' s''=>R (.error e') s'') s') {s with heap:=h₁,toks:=t₁}):
  codeAny (model V w) A (.call (.ref f) ⟨vs,[]⟩) R s:=by
 revert D hb hsc hl g B LO hm h;revert R;revert V w H0 n sc f fd ps body xs xs' L A s zy vs;refine no_implicit_lambda% (FM (by exact((((default,w0),default),default),(default,(({},{}),default)))) ?_);generalize CF _ _=t9;generalize t9.1.1.1.1=V,t9.1.1.1.2=w,t9.1.1.2.1=H0,t9.1.1.2.2=n,t9.1.2.1.1=sc,t9.1.2.1.2=f,t9.1.2.2.1=fd,t9.1.2.2.2=ps,t9.2.1.1.1=body,t9.2.1.1.2=xs,t9.2.1.2.1=xs',t9.2.1.2.2=L,t9.2.2.1.1=A,t9.2.2.1.2=s,t9.2.2.2.1=zy,t9.2.2.2.2=vs;refine no_implicit_lambda% (Io (default) ?_);generalize HR _ _=R;intro D hb hsc hl g B LO hm h;simp only[Fa,Bool.and_eq_true,decide_eq_true_eq,all_eq_true,Bool.not_eq_true'] at hsc;refine BL hsc fun x1 hcl2=>?_;rcases x1 with ⟨⟨⟨⟨⟨⟨⟨hk,hco⟩,hge⟩,hnd⟩,hps⟩,hset⟩,hfree⟩,hcl⟩;have hk:sc.kind=.function:=of_decide_eq_true hk;refine Ad D.obj fun oo ho hd=>?_;have hnames:∀L,(cellsFrom L sc.names []).map (·.1)=(cellsFrom 0 sc.names []).map (·.1):=fun L=>cellsFrom_names sc.names L 0 [] [] rfl;have hsc':=D.scope;subst hsc';refine codeAny_call_function g.depth (B.h0 _ _ ho) hd hco hge D.body (D.rec'.keeps B.h0) ?_;refine Ah (hb A.in1 s zy vs B hm) (fun bs s0 q=>?_) fun Z Z f=>f.elim;obtain⟨h₀,t0,rfl,ex0,ws,rfl,mw⟩:=q;have B0:Base H0 zy h₀:=B.ext ex0;have LO0:LedOk zy L h₀:=⟨LO.1,fun p hp=>ex0 _ _ (LO.2 p hp)⟩;have hlv:ws.length=ps.length:=(CH mw).length.trans hl;have hmem:∀p∈ps.zip ws,p.1∈ps:=fun p hp=>by
  obtain⟨a,b⟩:=p;exact(List.of_mem_zip hp).1
 (refine(D.clo).symm▸ ?_)
 refine wpAny_newFunctionEnv_cells hk ?_ fun zz he s₁ X=>?_
 ·intro p hp
  have:=hset p.1 (hmem p hp);simp only[Bool.or_eq_true,beq_iff_eq] at this;rcases this with h1|h1
  ·exact .inl h1
  ·refine .inr ⟨h1,?_⟩
   rw[D8 (hnames _)];have:=hcl (p.1,.cell) (mem_of_lookup (l:=fd.scope.names) h1);simpa [h1] using this
 ·refine⟨D.lim.keeps (fun b o e=>X.toInCall.keep _ _ (B0.h0 _ _ e)),codeAny_func ?_⟩
  refine ex2 X.toInCall.same fun h₁ tk1 e1=>?_;have keep:=X.toInCall.keep;have fr:∀a,h₀.objs.size≤a->h₀.get? a=none:=fun a ha=>by
   cases e:h₀.get? a with
   |none=>rfl
   |some o=>exact absurd (Heap.lt_size e) (Nat.not_lt.mpr ha)
  have hL:h₀.get? h₀.objs.size=none:=fr _ (le_refl _);have eL:zz.locals=h₀.objs.size:=by rw[he];rfl
  have eF:zz.frame=some zz.locals:=by rw[he];rfl
  have eC:zz.cells=cellsFrom (h₀.objs.size+1) fd.scope.names []:=by rw[he];rfl
  have eS:zz.scope=fd.scope:=by rw[he];rfl
  have eG:zz.globals=mainGlobals:=by rw[he];exact D.glob
  have eB:zz.builtins=builtinsNs:=by rw[he];exact D.bi
  clear he;have hndc:(zz.cells.map (·.1)).Nodup:=by rw[eC,hnames];exact hnd
  have o:EnvOk fd.scope zz:=⟨eS,eG,eB,hk,fun x hx=>by
   rw[eC,D8 (hnames _)];rcases hx with hx|hx
   ·have:=hcl (x,.cell) (mem_of_lookup hx)
    simpa [hx] using this
   ·have:=hfree (x,.free) (mem_of_lookup hx)
    exact EP this⟩
  have cellIs:∀p∈zz.cells,s₁.heap.IsCell p.2 (bindC zz.kindOf (ps.zip ws) (fun Z=>none) p.1):=fun p hp=>X.cell p.1 p.2 (lookup_of_mem_nodup hndc hp);have ownNew:∀a∈AI zz [],h₀.get? a=none:=fun a ha=>by
   rcases BF ha with rfl|ha
   ·rw[eL];exact hL
   ·simp only[map_nil,append_nil] at ha
    refine Ad (Ct ha) fun p hp x3=>?_;subst x3;have:=X.above p.1 p.2 hp;exact fr _ (le_of_lt (eL▸this))
  have gk:Ext (vis h₀ zy) (vis s₁.heap (AI zz []++zy)):=DQ keep ownNew;have hvn:((ps.zip ws).map (·.1))=ps:=by rw[List.map_fst_zip];omega
  have F:Fm H0 (AI zz []++zy) L zz (ps.zip xs') s₁.heap:={
   base:=B0.base.trans gk
   alive:=fun a ha=>by
    rcases Cx ha with ha|ha
    ·rcases BF ha with rfl|ha
     ·refine FH X.toInCall.ns fun o Z Z e Z=>?_;exact⟨o,e⟩
     ·simp only[map_nil,append_nil] at ha
      refine Ad (Ct ha) fun p hp x3=>?_;subst x3;refine Ad (cellIs p hp) fun o e Z=>?_;exact⟨o,e⟩
    ·refine ex1 (B0.alive a ha) fun o e=>?_;exact⟨o,keep _ _ e⟩
   loc:=.head _
   celh:=fun p hp=>mem_append_left _ (mem_cons_of_mem _ (mem_append_left _ (mem_map_of_mem hp)))
   ledh:=fun p hp=>mem_append_right _ (LO0.1 p hp)
   ns:=⟨_,X.toInCall.ns,fun y e hy hkl=>by
    refine Ad (Jd mw hy) fun v mv me=>?_;exact⟨v,OM hkl (by rw[hvn];exact hps) mv,me.ext gk⟩⟩
   cell:=fun y e hy hkc=>by
    refine Ad (Jd mw hy) fun v mv me=>?_;have hkc':fd.scope.names.lookup y=some .cell:=by
     rw[Env.kindOf,eS] at hkc;rcases hkc with q|q
     ·exact q
     ·have:=hfree (y,.free) (mem_of_lookup q)
      exact EP this
    refine ex1 (Option.isSome_iff_exists.mp (o.cells y (.inl hkc'))) fun c hc=>?_;refine⟨c,v,hc,?_,me.ext gk⟩;have:=X.cell y c hc;rwa [ON (by rw[Env.kindOf,eS,hkc'];decide) (by rw[hvn];exact hps) mv] at this
   cells:=fun p hp=>⟨_,cellIs p hp⟩
   ledg:=fun p hp=>keep _ _ (LO0.2 p hp)
   apart:=X.apart
   off:=fun p hp=>ne_of_gt (X.above p.1 p.2 hp)
   ledoff:=fun p hp=>by
    have a:=LO0.2 p hp;refine⟨fun q=>?_,fun c hc q=>?_⟩
    ·rw[q,ownNew _ mem_cons_self] at a;exact CE a
    ·rw[q,ownNew _ (mem_cons_of_mem _ (mem_append_left _ (mem_map_of_mem hc)))] at a;exact CE a}
  have keep':Ext h₀ s₁.heap:=keep;rw[e1] at F keep' ⊢;exact h zz h₁ tk1 o eF F (fun b ob e=>keep' _ _ (ex0 _ _ e)) fun b m=>by
   have:=ownNew b m;cases q:s.heap.get? b with
   |none=>rfl
   |some ob=>rw[ex0 _ _ q] at this;exact E4 this
theorem K9{f:Addr}{fd:FuncData}{ps:List Str}{body:List Stmt}{xs:List Ent}{x:Ent}(D:DefIs H0 f fd sc ps body)(hsc:Fa sc ps=true)(hl:xs.length=ps.length)(h:II V w H0 n sc (ps.zip xs) [] body (.ret x)):
  FnP V w H0 (n+1) (.ref f) xs (fun g v=>Means g v x):=by
 intro A s zy vs g B hm;refine wpAny_call (H3 (L:=[]) D.g (Cb D.bind hl) hsc hl g B ⟨(fun p m=>BK m),(fun p m=>BK m)⟩ hm fun zz h₁ t₁ o eF F ex hnew=>?_);refine Ah (h _ zz _ _ g.deeper o F) (fun fl s' q=>?_) fun Z Z f=>f.elim;obtain⟨h2,t2,rfl,k,v,rfl,_,m⟩:=q;exact Pu.mk h2 t2 rfl (fun b ob e=>k b ob (fun m=>by rw[hnew b m] at e;exact CE e) (ex b ob e)) (m.ext (EQ _ fun a m=>mem_append_right _ m))
end
noncomputable def Qa:Stmt->List Stmt×Scope
 |.FunctionDef _ _ b _ _ _ s _ _ _=>(b,s)
 |.ClassDef _ _ _ b _ _ _ _ _ _ _=>(b,default)
 |.For _ _ b _ _=>(b,default)
 |.While _ b _ _=>(b,default)
 |_=>([],default)
noncomputable def AD (s:Stmt):List Stmt:=(Qa s).1
noncomputable def Ap (s:Stmt):Scope:=(Qa s).2
noncomputable def B7 (k:Nat):Stmt:=(PySem.Challenge.pw_rx0086_01.main.body[k]?).getD (.Pass default)
noncomputable abbrev S (x:String):Str:=Str.ofString x
noncomputable def sg (c:Nat):Str:=⟨#[c]⟩
noncomputable def Fl (i:Int):Str:=sg (if i=0 then 97 else if i=1 then 65 else 98)
noncomputable def Cw (x:Int):Str:=Fl (x.fmod 3)++(if((x.fdiv 3).fmod 4)<3 then Fl ((x.fdiv 3).fmod 4) else S "")
noncomputable def El (sc:Scope) (x:Str):Bool:=(sc.names.lookup x==some .local ||sc.names.lookup x==some .cell ||sc.names.lookup x==some .free) && x !="__debug__" && x !="__classdict__"
theorem Aa{x:Str}{pos:Pos}{e:Ent}(hs:σ.lookup x=some e)(h:El sc x=true):Am V w H0 n sc σ zx (.Name x pos) e:=by
 simp only[El,Bool.and_eq_true,Bool.or_eq_true,beq_iff_eq,bne_iff_ne] at h;refine R7 hs ?_ (by simpa using h.1.2) (by simpa using h.2);rcases h.1.1 with (h|h)|h
 ·exact .inl h
 ·exact .inr (.inl h)
 ·exact .inr (.inr h)
noncomputable def BA (sc:Scope) (x:Str):Bool:=sc.names.lookup x==some .globalImplicit && x !="__debug__"
theorem DA{x:Str}{pos:Pos}{v:Value}(hg:GIs H0 x v)(h:BA sc x=true):Am V w H0 n sc σ zx (.Name x pos) (.v v):=by
 simp only[BA,Bool.and_eq_true,beq_iff_eq,bne_iff_ne] at h;exact R8 hg h.1 (by simpa using h.2)
theorem Ab{x:Str}(h:(sc.names.lookup x==some .local ||sc.names.lookup x==some .cell)=true):Az sc x:=by
 simpa [Az] using h
theorem TZ(c:Nat):(sg c).length=1:=rfl
theorem Jk{t b c:Expr}{pos:Pos}{p:Bool}{d x y:PyData}(h:FI V w H0 n sc σ zx t p)(h1:p=true->Am V w H0 n sc σ zx b (.d x))(h2:p=false->Am V w H0 n sc σ zx c (.d y))(e:d=if p then x else y):
  Am V w H0 n sc σ zx (.IfExp t b c pos) (.d d):=by rw[e];exact EH h h1 h2
theorem Km{k:Int}(h0:0≤k)(h1:k<3):(seqIndex? k (S "aAb").length).bind ((S "aAb").cps[·]?)=some (if k=0 then 97 else if k=1 then 65 else 98):=by
 have:k=0∨k=1∨k=2:=by lia
 rcases this with rfl|rfl|rfl<;> decide +kernel
theorem D0{k:Int}(h0:0≤k)(h1:k<64):(decide (k< -(2 ^ 63:Int)) ||decide (k ≥ 2 ^ 63))=false:=by
 simp;lia
theorem Oa{a b:Str}(h:a.length≤1000)(h':b.length≤1000):(a++b).length≤sizeLine:=by
 rw[Str.length_append];have:sizeLine=2 ^ 24:=rfl;lia
theorem Hr{x:Int}{k:Int}(h:0<k):0≤x.fmod k∧x.fmod k<k:=⟨Int.fmod_nonneg_of_pos _ h,Int.fmod_lt_of_pos _ h⟩
theorem Jl(i:Int):(Fl i).length=1:=rfl
theorem OQ(x:Int):II V w H0 n (Ap (B7 21)) [(S "x",.d (.int x))] [] (AD (B7 21)) (.ret (.d (.str (Cw x)))):=by
 have h3:=Hr (x:=x) (k:=3) (by decide);have h4:=Hr (x:=x.fdiv 3) (k:=4) (by decide);have vx:∀pos,Am V w H0 n (Ap (B7 21)) [(S "x",.d (.int x))] [] (.Name "x" pos) (.d (.int x)):=fun pos=>Aa rfl rfl;refine BP (Bu ?_);refine AO (x:=.d (.str (Fl (x.fmod 3)))) (y:=.d (.str (if((x.fdiv 3).fmod 4)<3 then Fl ((x.fdiv 3).fmod 4) else S ""))) ?_ ?_ (N4 (Oa (by rw[Jl];decide) (by split;rw[Jl];decide;decide)))
 ·exact Bf Bz (AO (vx _) Ao (E7 (by decide))) (D0 h3.1 (Int.lt_trans h3.2 (by decide))) (Km h3.1 h3.2) (fun Z Z=>rfl)
 ·refine Jk (p:=decide ((x.fdiv 3).fmod 4<3)) (x:=.str (Fl ((x.fdiv 3).fmod 4))) (y:=.str (S "")) ?_ (fun h=>?_) (fun Z=>Bz) ?_
  ·exact Ar (AO (AO (vx _) Ao (Go (by decide) (by decide))) Ao (E7 (by decide))) Ao Ei rfl
  ·exact Bf Bz (AO (AO (vx _) Ao (Go (by decide) (by decide))) Ao (E7 (by decide))) (D0 h4.1 (Int.lt_trans (of_decide_eq_true h) (by decide))) (Km h4.1 (of_decide_eq_true h)) (fun Z Z=>rfl)
  ·by_cases q:(x.fdiv 3).fmod 4<3<;> simp[q]
noncomputable def MZ (i:Int):Str:=sg (if i=0 then 97 else if i=1 then 98 else if i=2 then 63 else 42)
theorem La{k:Int}(h0:0≤k)(h1:k<4):(seqIndex? k (S "ab?*").length).bind ((S "ab?*").cps[·]?)=some (if k=0 then 97 else if k=1 then 98 else if k=2 then 63 else 42):=by
 have:k=0∨k=1∨k=2∨k=3:=by lia
 rcases this with rfl|rfl|rfl|rfl<;> decide +kernel
noncomputable def Hs (x:Int):Str:=if 0<(x.fdiv 12).fmod 16 then MZ ((x.fdiv 12).fmod 4)++MZ ((x.fdiv 48).fmod 4) else S ""
theorem Qb(x:Int):II V w H0 n (Ap (B7 22)) [(S "x",.d (.int x))] [] (AD (B7 22)) (.ret (.d (.str (Hs x)))):=by
 have h3:=Hr (x:=x.fdiv 12) (k:=4) (by decide);have h4:=Hr (x:=x.fdiv 48) (k:=4) (by decide);have vx:∀pos,Am V w H0 n (Ap (B7 22)) [(S "x",.d (.int x))] [] (.Name "x" pos) (.d (.int x)):=fun pos=>Aa rfl rfl;refine BP (Bu ?_);refine Jk (p:=decide (0<(x.fdiv 12).fmod 16)) (x:=.str (MZ ((x.fdiv 12).fmod 4)++MZ ((x.fdiv 48).fmod 4))) (y:=.str (S "")) ?_ (fun h=>?_) (fun Z=>Bz) ?_
 ·exact Ar (AO (AO (vx _) Ao (Go (by decide) (by decide))) Ao (E7 (by decide))) Ao Jb rfl
 ·refine AO (x:=.d (.str (MZ ((x.fdiv 12).fmod 4)))) (y:=.d (.str (MZ ((x.fdiv 48).fmod 4)))) ?_ ?_ (N4 (Oa (by show 1≤1000;decide) (by show 1≤1000;decide)))
  ·exact Bf Bz (AO (AO (vx _) Ao (Go (by decide) (by decide))) Ao (E7 (by decide))) (D0 h3.1 (TQ h3.2)) (La h3.1 h3.2) (fun Z Z=>rfl)
  ·exact Bf Bz (AO (AO (vx _) Ao (Go (by decide) (by decide))) Ao (E7 (by decide))) (D0 h4.1 (TQ h4.2)) (La h4.1 h4.2) (fun Z Z=>rfl)
 ·unfold Hs;by_cases q:0<(x.fdiv 12).fmod 16<;> simp[q]
inductive Has(V:Program)(w:World)(H0:Heap)(x:Str)(n:Nat)(xs:List Ent)(P:Heap->Value->Prop):Prop
 |mk:∀f,GIs H0 x f->Cn H0 f->FnP V w H0 n f xs P->Has V w H0 x n xs P
abbrev CB(V:Program)(w:World)(H0:Heap)(x:Str)(n:Nat)(xs:List PyData)(d:PyData):Prop:=Has V w H0 x n (xs.map .d) (Rd d)
theorem Has.le{x:Str}{k:Nat}{xs:List Ent}{P:Heap->Value->Prop}(h:Has V w H0 x n xs P)(hk:n≤k):Has V w H0 x k xs P:=let⟨f,a,b,c⟩:=h;⟨f,a,b,c.le hk⟩
theorem AT{x:Str}{p pos:Pos}{args:List Expr}{xs:List Ent}{P:Heap->Value->Prop}{k:Nat}(h:Has V w H0 x k xs P)(hk:k≤n)(hg:BA sc x=true)(ha:Ey V w H0 n sc σ zx pos args xs)
  (hb:∀zz,(backTo pos (starEach args zz)).any (·.1)=false):EvP V w H0 n sc σ zx (.Call (.Name x p) args [] pos) P:=by
 obtain⟨f,a,b,c⟩:=h;exact Sa (DA a hg) b ha (c.le hk) hb
theorem Bk{pos:Pos}{a:Expr}{x:Ent}(h:Am V w H0 n sc σ zx a x)(hb:∀zz,backTo pos (starEach [a] zz)=[(false,eval a zz)]):Ey V w H0 n sc σ zx pos [a] [x]:=BM h Bc hb
theorem Bo{pos:Pos}{a b:Expr}{x y:Ent}(h:Am V w H0 n sc σ zx a x)(h':Am V w H0 n sc σ zx b y)(hb:∀zz,backTo pos (starEach [a,b] zz)=(false,eval a zz)::backTo pos (starEach [b] zz))(hb':∀zz,backTo pos (starEach [b] zz)=[(false,eval b zz)]):Ey V w H0 n sc σ zx pos [a,b] [x,y]:=
 BM h (BM h' Bc hb') hb
theorem Cq{e:Expr}{a:Bool}(h:FI V w H0 n sc σ zx e a):LM V w H0 n sc σ zx .And [e] a:=by
 have:=BH (b:=true) h fun Z=>N3;rwa [Bool.and_true] at this
theorem DK{e:Expr}{a:Bool}(h:FI V w H0 n sc σ zx e a):LM V w H0 n sc σ zx .Or [e] a:=by
 have:=DB (b:=false) h fun Z=>N3;rwa [Bool.or_false] at this
theorem LR{ds:List PyData}(hz:ds.length≤sizeLine):FnP V w H0 n (.builtin "len") [.d (.list ds)] (Rd (.int ds.length)):=by
 intro A s zy vs g B m;obtain⟨v,rfl,m1⟩:=C7 m;refine Bh (CG m1) fun l vs x3 hl f=>?_;subst x3;have e:=f.length;refine PyProof.Rows.len_list (Bq (Bp _ _) hl) (by rw[size_toArray,e];exact MM ‹_›) ?_
 (refine(size_toArray).symm▸ ?_;refine e.symm▸ ?_)
 exact Pu.tok (BN _ _ _)
theorem M0{x:Str}(hz:x.length≤sizeLine):FnP V w H0 n (.builtin "len") [.d (.str x)] (Rd (.int x.length)):=by
 intro A s zy vs g B m;obtain⟨v,rfl,m1⟩:=C7 m;refine ex1 (AR m1) fun t x2=>?_;subst x2;exact PySem.P.len_str (Int.not_le.mpr (MM ‹_›)) (Pu.tok (BN _ _ _))
theorem Fn(hg:GIs H0 "len" (.builtin "len")){ds:List PyData}(hz:ds.length≤sizeLine):Has V w H0 "len" n [.d (.list ds)] (Rd (.int ds.length)):=⟨_,hg,Be,LR hz⟩
theorem Ix(hg:GIs H0 "len" (.builtin "len")){x:Str}(hz:x.length≤sizeLine):Has V w H0 "len" n [.d (.str x)] (Rd (.int x.length)):=⟨_,hg,Be,M0 hz⟩
noncomputable def LS (xs:List Str):PyData:=.list (xs.map .str)
noncomputable def G0 (p:Str×Str):PyData:=.list [.str p.1,.str p.2]
noncomputable def BY (js:List (Str×Str)):PyData:=.list (js.map G0)
noncomputable def C5 (js:List (Str×Str)) (x:Int):List (Str×Str):=js++(if js.length<8∧Cw x∉js.map (·.1) then [(Cw x,Hs x)] else [])
noncomputable def Kn (xs:List Int):List (Str×Str):=xs.foldl C5 []
theorem Lb{a b:Str}(ha:PyData.strOk a=true)(hb:PyData.strOk b=true):PyData.strOk (a++b)=true:=by
 unfold PyData.strOk at *
 (rewrite [Str.cps_append];refine(Array.all_append).symm▸ ?_;refine ha.symm▸ ?_;refine hb.symm▸ ?_);rfl
theorem CT{c:Nat}(h:c<0x110000):PyData.strOk (sg c)=true:=by
 simp[PyData.strOk,sg];assumption
theorem Ht(i:Int):PyData.strOk (Fl i)=true:=by
 unfold Fl;refine CT ?_;split<;> (try split)<;> decide
theorem Iy(x:Int):PyData.strOk (Cw x)=true:=by
 unfold Cw;refine Lb (Ht _) ?_;split
 ·exact Ht _
 ·decide +kernel
theorem DM:∀{xs:List Str},(∀x∈xs,PyData.strOk x=true)->Bt (xs.map .str)=true:=by
 intro xs
 induction xs with
 |nil=>
  intro Z;exact rfl
 |cons x xs DM=>
  intro h;rw[map_cons,AX,Ec,h x mem_cons_self,DM fun y hy=>h y (mem_cons_of_mem _ hy)];rfl
theorem Em{x:Str}(h:PyData.strOk x=true):Cp (.str x)=true:=by show(PyData.strOk x && _)=true;rw[h];rfl
theorem Ob{xs:List Str}{a:Str}:((xs.map PyData.str).any fun y=>PySem.Spec.same y (.str a))=decide (a∈xs):=by
 induction xs with
 |nil=>rfl
 |cons x xs ih=>
  rw[map_cons,any_cons,ih,PySem.Spec.same]
  by_cases h:x=a
  ·subst h;simp
  ·have:(x==a)=false:=by simpa using h
   rw[this];simp[Ne.symm h]
def H4(js:List (Str×Str)):Prop:=js.length≤8∧∀p∈js,PyData.strOk p.1=true
theorem LT{js:List (Str×Str)}{x:Int}(h:H4 js):H4 (C5 js x):=by
 unfold C5;split
 ·rename_i q
  refine⟨by rw[length_append];simp;lia,fun p hp=>?_⟩;rcases Cx hp with hp|hp
  ·exact h.2 p hp
  ·rw[AU hp];exact Iy x
 ·rw[append_nil];exact h
theorem Hu{xs:List Int}:∀{js:List (Str×Str)},H4 js->H4 (xs.foldl C5 js):=by
 induction xs with
 |nil=>exact id
 |cons x xs ih=>exact fun h=>ih (LT h)
theorem UN(xs:List Int):H4 (Kn xs):=Hu ⟨zero_le _,fun Z h=>BK h⟩
theorem Ai{k:Nat}(h:k≤1000000):k≤sizeLine:=by have:sizeLine=2 ^ 24:=rfl;exact le_trans h (by decide)
theorem Jm{iter:Expr}{scope:Scope}{pos p1 p2 p3 p4:Pos}{a b:Str}{k:Nat}{js:List (Str×Str)}(hi:Am V w H0 n sc σ zx iter (.d (BY js)))(hz:js.length≤8)(hok:BQ sc scope=true)
  (hx:scope.names.lookup a=some .local)(hy:scope.names.lookup b=some .local)(hab:a≠b)(hv:El (CR sc scope) a=true)
  (hna:(Cj scope σ).lookup a=none)(hnb:(Cj scope σ).lookup b=none)
  (hs:∀zz x,foldedSetIterable iter zz x=pure x):
  Am V w H0 n sc σ zx (.ListComp (.Name a p1) [⟨.Tuple [.Name a p2,.Name b p3] k p4,iter,[],0⟩] scope pos) (.d (LS (js.map (·.1)))):=by
 have:=FA (items:=js) (enc:=fun p=>.d (G0 p)) (F:=fun p=>some (.str p.1)) (xs:=[b,a]) (elt:=.Name a p1) (ifs:=[]) (target:=.Tuple [.Name a p2,.Name b p3] k p4) (pos:=pos) (.inr ⟨_,_,_,rfl⟩) hok
  (fun x hx'=>by
   rcases BF hx' with rfl|hx'
   ·exact .inl hy
   ·(refine(AU hx').symm▸ ?_);exact .inl hx) hs hi
  (by have:=BG (V:=V) (w:=w) (H0:=H0) (n:=n) (ds:=js.map G0);rw[map_map] at this;exact this) (Ai (le_trans hz (by decide))) (fun p Z=>by
   have sa:Az (CR sc scope) a:=.inl (by rw[FS,hx];rfl);have sb:Az (CR sc scope) b:=.inl (by rw[FS,hy];rfl);refine⟨_,true,DZ (FR (ds:=[.str p.1,.str p.2])) (Af sa) (Af sb) (fun Z=>rfl),rfl,fun y hy'=>?_,BW,fun Z=>⟨_,rfl,Aa ?_ hv⟩,E3⟩
   ·rcases BF hy' with rfl|hy'
    ·exact hnb
    ·rw[AU hy'];exact hna
   ·show((b,Ent.d (.str p.2))::(a,Ent.d (.str p.1))::Cj scope σ).lookup a=_
    rw[AS hab,Dg])
 have e:js.filterMap (fun p=>some (PyData.str p.1))=(js.map (·.1)).map .str:=by
  rw[filterMap_eq_map',map_map];rfl
 rw[e] at this;exact this
theorem Sd{σ:AN}:∀x e,([]:AN).lookup x=some e->σ.lookup x=some e:=fun x e h=>CE h
theorem Bl{σ σ':AN}(h:(σ'.map fun p=>σ.lookup p.1)=σ'.map fun p=>some p.2):∀x e,σ'.lookup x=some e->σ.lookup x=some e:=by
 induction σ' with
 |nil=>intro x e q;exact CE q
 |cons p r ih=>
  intro x e q;rw[map_cons,map_cons] at h;rw[lookup_cons] at q;cases c:x==p.1
  ·rw[c] at q;exact ih (List.cons.inj h).2 x e q
  ·rw[c] at q;cases q
   rw[eq_of_beq c];exact(List.cons.inj h).1
theorem FY{σ σ':AN}{y:Str}{d:Ent}(h:σ.lookup y=some d)(hr:∀x e,σ'.lookup x=some e->σ.lookup x=some e):∀x e,((y,d)::σ').lookup x=some e->σ.lookup x=some e:=fun x e hx=>by
 by_cases q:x=y
 ·subst q;rw[Dg] at hx;cases hx;exact h
 ·rw[AS q] at hx;exact hr x e hx
theorem En{α β:Type}{f:β->α->β}{b:β}{l:List α}{i:Nat}{a:α}(h:l[i]? =some a):(l.take (i+1)).foldl f b=f ((l.take i).foldl f b) a:=by
 rw[take_add_one,h,foldl_append];rfl
theorem OR(hlen:GIs H0 "len" (.builtin "len"))(hname:∀x,CB V w H0 "_law_name" n [.int x] (.str (Cw x)))(hpat:∀x,CB V w H0 "_law_pattern" n [.int x] (.str (Hs x)))(ns:List Int):
  II V w H0 n (Ap (B7 23)) [(S "numbers",.d (.list (ns.map .int))),(S "many",.d (.int 8))] [] (AD (B7 23)) (.ret (.d (BY (Kn ns)))):=by
 refine Bn (σ':=[(S "jobs",.d (BY []))]++[(S "numbers",.d (.list (ns.map .int))),(S "many",.d (.int 8))]) (Av (AE (ds:=[]) Bc (by decide)) (Af (Ab rfl)) (fun Z Z=>rfl) (fun Z Z=>rfl) (fun Z=>rfl)) ?_;refine Bn (MY (J:=fun i=>[(S "jobs",.d (BY ((ns.take i).foldl C5 []))),(S "many",.d (.int 8))]) (ds:=(ns.map PyData.int).map .d) (x:=.d (.list (ns.map .int))) (Aa rfl rfl) BG (Bl rfl) ?_ (fun Z Z=>rfl) (.inl ⟨_,_,rfl⟩)) ?_
 ·intro i e he
  simp only[getElem?_map,Option.map_map,Option.map_eq_some_iff] at he;refine Ad he fun x hx x3=>?_;try clear he;subst x3
  generalize hjs:(ns.take i).foldl C5 []=js;have hok:H4 js:=by rw[←hjs];exact Hu ⟨zero_le _,fun Z h=>BK h⟩
  have vj:∀sc zx pos,El sc "jobs"=true->Am V w H0 n sc ([(S "x",.d (.int x))]++[(S "jobs",.d (BY js)),(S "many",.d (.int 8))]) zx (.Name "jobs" pos) (.d (BY js)):=fun sc zx pos h=>Aa rfl h;refine⟨[(S "x",.d (.int x))],Af (Ab rfl),MS (Bn (Av (x:=.d (BY (C5 js x))) ?_ (Af (Ab rfl)) (fun Z Z=>rfl) (fun Z Z=>rfl) (fun Z=>rfl)) EI) ?_⟩
  ·have e:C5 js x=js++(if js.length<8∧Cw x∉js.map (·.1) then [(Cw x,Hs x)] else []):=rfl
   rw[e];have hm:BY (js++(if js.length<8∧Cw x∉js.map (·.1) then [(Cw x,Hs x)] else []))=.list (js.map G0++(if js.length<8∧Cw x∉js.map (·.1) then [(Cw x,Hs x)] else []).map G0):=by
    unfold BY;rw[map_append]
   rw[hm];have h8:=hok.1;refine AO (vj _ _ _ rfl) (y:=.d (.list ((if js.length<8∧Cw x∉js.map (·.1) then [(Cw x,Hs x)] else []).map G0))) ?_ (EB (Ai (by rw[length_map,length_map];split<;> simp<;> exact le_trans h8 (by decide))))
   refine Jk (p:=decide (((js.map G0).length:Int)<8) && (!decide (Cw x∈js.map (·.1)))) (x:=.list [G0 (Cw x,Hs x)]) (y:=.list []) (AH (BH ?_ fun Z=>Cq ?_)) (fun Z=>?_) (fun Z=>AE (ds:=[]) Bc (by decide)) ?_
   ·exact Ar (AT (Fn (n:=n) hlen (Ai (by rw[length_map];exact le_trans h8 (by decide)))) (le_refl _) rfl (Bk (vj _ _ _ rfl) fun Z=>rfl) fun Z=>rfl) (Aa rfl rfl) Ei rfl
   ·refine Ar (x:=.d (.str (Cw x))) (y:=.d (LS (js.map (·.1)))) ?_ ?_ ?_ rfl
    ·exact AT (hname x) (le_refl _) rfl (Bk (Aa rfl rfl) fun Z=>rfl) fun Z=>rfl
    ·exact Jm (vj _ _ _ rfl) h8 rfl rfl rfl (by decide +kernel) rfl rfl rfl fun Z Z=>rfl
    ·have:=Kb (V:=V) (w:=w) (H0:=H0) (n:=n) (d:=.str (Cw x)) (xs:=(js.map (·.1)).map .str) (Em (Iy x)) (DM fun y hy=>by
      refine Ad (Ct hy) fun p hp x3=>?_;subst x3;exact hok.2 p hp)
     rw[Ob] at this;exact this
   ·exact AE (ds:=[G0 (Cw x,Hs x)]) (Bk (AE (ds:=[.str (Cw x),.str (Hs x)]) (Bo (AT (hname x) (le_refl _) rfl (Bk (Aa rfl rfl) fun Z=>rfl) fun Z=>rfl)
     (AT (hpat x) (le_refl _) rfl (Bk (Aa rfl rfl) fun Z=>rfl) fun Z=>rfl) (fun Z=>rfl) fun Z=>rfl) (Ai (by simp))) fun Z=>rfl) (Ai (succ_pos _))
   ·rw[length_map]
    have e8:((js.length:Int)<8)=(js.length<8):=propext UJ;simp only[e8]
    by_cases h1:js.length<8<;> by_cases h2:Cw x∈js.map (·.1)<;> simp only[h1,h2,not_true_eq_false,not_false_eq_true,and_true,and_false,if_true,if_false,decide_true,decide_false,Bool.not_true,Bool.not_false,Bool.and_true,Bool.and_false,Bool.false_eq_true]<;> rfl
  ·(refine(En hx).symm▸ ?_;refine hjs.symm▸ ?_)
   exact Bl rfl
 ·refine BP (Bu ?_)
  have e:Kn ns=(ns.take ((ns.map PyData.int).map Ent.d).length).foldl C5 []:=by
   rw[length_map,length_map,take_length];rfl
  rw[e];exact Aa rfl rfl
noncomputable def G1 (x:Str):List PyData:=x.cps.toList.map fun c=>.str (sg c)
theorem IS{x:Str}(ha:x.cps.all (·<128)=true):DS V w H0 n (.d (.str x)) ((G1 x).map .d):=by
 intro A s zy v g B ra;refine ex1 (AR ra) fun t x2=>?_;subst x2;refine wpAny_pyIter_ascii ha ⟨s.heap.objs.size,[s.heap.objs.size],[s.heap.objs.size],(fun i h=>h.IsStrIter s.heap.objs.size "str_ascii_iterator" x t i),_,s.toks,rfl,rfl,An _ _,⟨?_,?_,?_⟩,?_,?_,?_⟩
 ·have W:=Walks.strAscii (prog:=V) (w:=w) g.hh s.heap.objs.size x t
  have e:x.cps.size=((G1 x).map Ent.d).length:=by simp[G1]
  rw[e] at W;refine Walks.imp W fun i v p=>?_;refine B8 p fun c u a x4=>?_;try clear p;subst x4
  refine⟨.d (.str (sg c)),?_,BO _ _ _⟩;simp[G1,a]
 ·intro i h st b hb
  refine Ad st fun o e Z=>?_;rw[AU hb];exact⟨o,e⟩
 ·intro i h st
  refine Dz st fun o e c Z=>?_;exact⟨o,_,e,c,by decide⟩
 ·exact⟨_,Heap.get?_push_size _ rfl,rfl,rfl⟩
 ·intro b hb
  rw[AU hb];exact CA (le_refl _)
 ·intro b hb
  (refine(AU hb).symm▸ ?_)
  exact⟨⟨_,Heap.get?_push_size _ rfl⟩,B.fresh⟩
theorem G2{A:Around}{I:Addr}{fp wr:List Addr}{N:Nat}{P:Nat->Value->Prop}{St:Nat->Heap->Prop}(W:Walks V w A I fp wr N P St):∀(k i:Nat) (s:Shared) (Q:List Value->Shared->Prop),i+k≤N->St i s.heap->
  (∀vs h' tk,vs.length=k->(∀j v,vs[j]? =some v->P (i+j) v)->St (i+k) h'->KeepBut wr s.heap h'->Q vs {s with heap:=h',toks:=tk})->wpAny (model V w) A (draw (.ref I) k) Q CO s:=by
 intro k
 induction k with
 |zero=>
  intro i s Q Z st hQ;exact Ag (hQ [] s.heap s.toks rfl (fun j v h=>CE h) st (KeepBut.refl _ _))
 |succ k G2=>
  intro i s Q hle st hQ;show wpAny _ _ (pyNext (.ref I) >>=_) Q CO s;refine Ac (W.item i s _ _ (lt_of_lt_of_le (Nat.lt_add_of_pos_right (succ_pos k)) ‹_›) st fun v h₁ t₁ hp st1 k1=>?_);refine Ac (wpAny_holding (G2 (i+1) _ _ (by lia) st1 fun vs h2 t2 hl hP st2 k2=>Ag ?_));refine hQ (v::vs) h2 t2 (by exact congrArg _ hl) (fun j u hj=>?_) (by rw[add_comm k 1,←add_assoc];exact st2) (KeepBut.trans k1 k2);cases j with
  |zero=>replace hj:=Option.some.inj hj;subst hj;exact hp
  |succ j=>simp at hj;rw[add_comm j 1,←add_assoc];exact hP j u hj
theorem Hv{α β:Type}{R:α->β->Prop}{as:List α}:∀{bs:List β},as.length=bs.length->(∀(j:Nat) (a:α),as[j]? =some a->∃b,bs[j]? =some b∧R a b)->F2 R as bs:=by
 induction as with
 |nil=>intro bs hl Z;rw[List.length_eq_zero_iff.mp hl.symm];exact .nil
 |cons a as ih=>
  intro bs hl h;cases bs with
  |nil=>exact Vj hl
  |cons b bs=>exact .cons ((h 0 a rfl).elim fun b' q=>by rw[Option.some.inj q.1];exact q.2) (ih (Nat.succ.inj hl) fun j x hj=>h (j+1) x hj)
theorem Se{x:Ent}{es:List Ent}(hs:DS V w H0 n x es)(hn:∀A s zy v,Good n A->Base H0 zy s.heap->Means (vis s.heap zy) v x->∀Q,Q false s->wpAny (model V w) A (notIterableAtAll v) Q CO s):MQ V w H0 n x es:=by
 revert hs hn;revert x es;revert V w H0 n;refine no_implicit_lambda% (JZ (by exact((default,w0),default)) ?_);generalize Iq _ _=t9;generalize t9.1.1=V,t9.1.2=w,t9.2.1=H0,t9.2.2=n;refine no_implicit_lambda% (I8 (by exact(.d .none,default)) ?_);generalize Ip _ _=t9;generalize t9.1=x,t9.2=es;intro hs hn;intro A s zy v g B hm;unfold unpackItems;refine Ac (hn A s zy v g B hm _ ?_);simp only[Bool.false_eq_true,if_false];refine Ac (wpAny_holding (Ah (hs A s zy v g B hm) (fun it s2 q=>?_) fun Z Z f=>f));obtain⟨I,fp,wr,St,h₂,t2,rfl,rfl,ex2,S,st0,fresh,fps⟩:=q;refine Ac (wpAny_holding (G2 S.walk es.length 0 _ _ (by lia) st0 fun vs h₃ t3 hl hP st3 k3=>?_));rw[if_neg (by lia)];refine Ac (wpAny_holding (S.walk.done _ _ _ (by simpa using st3) fun h4 t4 k4=>?_));simp only[Option.isSome_none,Bool.false_eq_true,if_false];have ext:Ext s.heap h4:=fun b o e=>by
  have nb:b∉wr:=fun m=>by rw[fresh b m] at e;exact CE e
  exact k4 b o nb (k3 b o nb (ex2 b o e))
 refine Ag ⟨h4,t4,rfl,ext,?_⟩;exact FQ (Hv hl fun j a hj=>by
  refine Ad (hP j a hj) fun e h1 h2=>?_;exact⟨e,by simpa using h1,h2.ext (AK zy ext)⟩)
theorem Sf{x:Str}(ha:x.cps.all (·<128)=true):MQ V w H0 n (.d (.str x)) ((G1 x).map .d):=
 Se (IS ha) fun A s zy v g B m Q hQ=>by
  refine ex1 (AR m) fun t x2=>?_;subst x2;unfold notIterableAtAll;refine Ac (wpAny_specialOf (typeIs_str s x t) PySem.F.slot_str_iter.lookup ?_);exact Ag hQ
theorem Dn{value:Expr}{lower:Expr}{p pos:Pos}{x:Str}{i:Int}(hv:Am V w H0 n sc σ zx value (.d (.str x)))(hl:Am V w H0 n sc σ zx lower (.d (.int i)))
  (hz:x.length≤sizeLine)(ht:∀o r,letTemporaryGo value o r=pure ()):Am V w H0 n sc σ zx (.Subscript value (.Slice (some lower) none none p) pos) (.d (.str (Txt.slice x (some i) none))):=by
 intro A zz s zy g o F;refine PyProof.Rows.Subscript_ (Aq (hv A zz s zy g o F) fun v s₁ q1=>?_);have F1:=F.ext q1.ext;refine wpAny_Slice (wpAny_evalPart_some (Aq (hl A zz s₁ zy g o F1) fun vl s2 q2=>Ag (Ag ?_)));refine ex1 (AR q1.val) fun t x2=>?_;subst x2;refine ex1 (Ax q2.val) fun u x2=>?_;subst x2;refine tail_of_ItemOn (SBH.sliceItem_sn (P:=fun h'=>Ext s2.heap h') (fun h ob e=>e.trans (An _ _)) (Ext.refl _) (fun h' t' k e=>?_) hz) rfl (ht _);exact(q1.trans q2).trans ⟨h',k,rfl,e,BO _ _ _⟩
theorem T0(c:Nat)(l:List Nat):Txt.slice ⟨(c::l).toArray⟩ (some 1) none=⟨l.toArray⟩:=by
 rw[slice_from_eq (b:=(c::l).length) (by decide) (by simp[Str.length];lia) rfl];simp
noncomputable def Tw (f:List Nat->Bool):List Nat->Bool
 |[]=>f []
 |c::l=>f (c::l) ||Tw f l
noncomputable def UO (s:Str) (f:List Nat->Bool):List Nat->Bool
 |[]=>false
 |c::l=>(s==S "any" ||s==sg c) && f l
noncomputable def UP:Option Str->(List Nat->Bool)->List Nat->Bool
 |none=>Tw
 |some s=>UO s
noncomputable def BS (ps:List (Option Str)):List Nat->Bool:=ps.foldr UP List.isEmpty
noncomputable def BD:Option Str->PyData
 |none=>.none
 |some s=>.str s
noncomputable def AM (ps:List (Option Str)):PyData:=.list (ps.map BD)
def Gr(ps:List (Option Str)):Prop:=∀s,some s∈ps->PyData.strOk s=true
theorem FZ:∀{ps:List (Option Str)},Gr ps->Bt (ps.map BD)=true:=by
 intro ps
 induction ps with
 |nil=>
  intro Z;exact rfl
 |cons p ps FZ=>
  intro h;have hr:=FZ fun s hs=>h s (mem_cons_of_mem _ hs);rw[map_cons,AX,hr,Bool.and_true];cases p with
  |none=>rfl
  |some s=>exact h s mem_cons_self
theorem F0:∀ps:List (Option Str),PyData.depthAll (ps.map BD)=0:=by
 intro ps
 induction ps with
 |nil=>
  exact rfl
 |cons p ps F0=>
  rw[map_cons,PyData.depthAll,F0];cases p<;> rfl
theorem G3{ps:List (Option Str)}(h:Gr ps):Cp (AM ps)=true:=by
 unfold Cp AM;rw[Eb,FZ h,PyData.depth,F0];rfl
theorem EU:Cp (.list [])=true:=by exact rfl
theorem EV{ds:List PyData}:PySem.Spec.same (.list ds) (.list [])=ds.isEmpty:=by
 cases ds<;> simp[PySem.Spec.same,PySem.Spec.sameAll]
noncomputable def tx (l:List Nat):Str:=⟨l.toArray⟩
theorem tx_nil:(tx []==S "")=true:=by exact rfl
theorem tx_cons{c:Nat}{l:List Nat}:(tx (c::l)==S "")=false:=by
 have:tx (c::l)≠S "":=fun e=>by
  have h2:(S "").length=0:=by exact rfl
  rw[←e] at h2;simp[tx,Str.length] at h2
 exact rfl
theorem LU{c:Nat}{l:List Nat}:(seqIndex? 0 (tx (c::l)).length).bind ((tx (c::l)).cps[·]?)=some c:=by
 simp[tx,Str.length,seqIndex?]
theorem UQ(d:PyData)(ds:List PyData):Jh (d::ds) (some 1) none=ds:=by
 unfold Jh kms_lo kms_hi;simp only[show¬((1:Int)<0) by decide,if_false,length_cons];have:min (1:Int).toNat (ds.length+1)=1:=by
  show min 1 (ds.length+1)=1;exact rfl
 (refine this.symm▸ ?_);simp
def EK(l:List Nat):Prop:=∀c∈l,c<128
theorem Qc{l:List Nat}(h:EK l):PyData.strOk (tx l)=true:=by
 simp only[PyData.strOk,tx];rw[Array.all_eq_true'];intro c hc;have:=h c (by exact hc.1);simp;exact lt_of_lt_of_le this (by decide)
theorem Jn(ps:List (Option Str))(l:List Nat)(hp:Gr ps)(hl:EK l)(hzp:ps.length≤1000)(hzl:l.length≤1000)
  (ih:∀ps' l',ps'.length+l'.length<ps.length+l.length->Gr ps'->EK l'->ps'.length≤1000->l'.length≤1000->CB V w H0 "_law_takes" n [AM ps',.str (tx l')] (.bool (BS ps' l'))):
  II V w H0 n (Ap (B7 24)) [(S "parts",.d (AM ps)),(S "name",.d (.str (tx l)))] [] (AD (B7 24)) (.ret (.d (.bool (BS ps l)))):=by
 revert hp hl hzp hzl ih;revert ps l;revert V w H0 n;refine no_implicit_lambda% (JZ (by exact((default,w0),default)) ?_);generalize Iq _ _=t9;generalize t9.1.1=V,t9.1.2=w,t9.2.1=H0,t9.2.2=n;refine no_implicit_lambda% (I8 (by exact default) ?_);generalize Ip _ _=t9;generalize t9.1=ps,t9.2=l;intro hp hl hzp hzl ih;generalize hσ:([(S "parts",.d (AM ps)),(S "name",.d (.str (tx l)))]:AN)=σ;have vp:∀pos,Am V w H0 n (Ap (B7 24)) σ [] (.Name "parts" pos) (.d (AM ps)):=fun pos=>by subst hσ;exact Aa rfl rfl
 have vn:∀pos,Am V w H0 n (Ap (B7 24)) σ [] (.Name "name" pos) (.d (.str (tx l))):=fun pos=>by subst hσ;exact Aa rfl rfl
 have zp:(ps.map BD).length≤sizeLine:=Ai (by rw[length_map];exact le_trans hzp (by decide));have zl:(tx l).length≤sizeLine:=Ai (by show l.toArray.size≤_;rw[size_toArray];exact le_trans hzl (by decide));have tEmpty:∀pos p1 p2,FI V w H0 n (Ap (B7 24)) σ [] (.Compare (.Name "parts" p1) [.Eq] [.List [] p2] pos) (ps.map BD).isEmpty:=fun pos p1 p2=>
  Ar (vp _) (AE (ds:=[]) Bc (by decide)) (by have:=Jc (V:=V) (w:=w) (H0:=H0) (n:=n) (G3 hp) EU;rwa [AM,EV] at this) rfl
 have eEmpty:∀pos p1 p2,Am V w H0 n (Ap (B7 24)) σ [] (.Compare (.Name "parts" p1) [.Eq] [.List [] p2] pos) (.d (.bool (ps.map BD).isEmpty)):=fun pos p1 p2=>
  DX (vp _) (AE (ds:=[]) Bc (by decide)) (by have:=Jc (V:=V) (w:=w) (H0:=H0) (n:=n) (G3 hp) EU;rwa [AM,EV] at this) rfl
 have tName:∀pos p1 k p2,FI V w H0 n (Ap (B7 24)) σ [] (.Compare (.Name "name" p1) [.Eq] [.Constant (.str (S "")) k p2] pos) (tx l==S ""):=fun pos p1 k p2=>Ar (vn _) Bz DY rfl;have eName:∀pos p1 k p2,Am V w H0 n (Ap (B7 24)) σ [] (.Compare (.Name "name" p1) [.Eq] [.Constant (.str (S "")) k p2] pos) (.d (.bool (tx l==S ""))):=fun pos p1 k p2=>DX (vn _) Bz DY rfl;have head:∀d ds,ps.map BD=d::ds->∀pos p1 k p2,Am V w H0 n (Ap (B7 24)) σ [] (.Subscript (.Name "parts" p1) (.Constant (.int 0) k p2) pos) (.d d):=fun d ds e pos p1 k p2=>
  Fe (xs:=d::ds) (by have:=vp p1;rwa [AM,e] at this) Ao (by decide) (by decide) rfl (fun Z Z=>rfl)
 have rest:∀d ds,ps.map BD=d::ds->∀pos p1 k p2 p3,Am V w H0 n (Ap (B7 24)) σ [] (.Subscript (.Name "parts" p1) (.Slice (some (.Constant (.int 1) k p2)) none none p3) pos) (.d (.list ds)):=fun d ds e pos p1 k p2 p3=>by
  have:=GK (V:=V) (w:=w) (H0:=H0) (n:=n) (sc:=Ap (B7 24)) (σ:=σ) (zx:=[]) (p:=p3) (pos:=pos) (xs:=d::ds) (lower:=some (.Constant (.int 1) k p2)) (upper:=none) (by have:=vp p1;rwa [AM,e] at this) (Kh Ao) Kg (by(refine(e)▸ ?_);exact zp) (fun Z Z=>rfl);rwa [UQ] at this
 have nrest:∀c l',l=c::l'->∀pos p1 k p2 p3,Am V w H0 n (Ap (B7 24)) σ [] (.Subscript (.Name "name" p1) (.Slice (some (.Constant (.int 1) k p2)) none none p3) pos) (.d (.str (tx l'))):=fun c l' e pos p1 k p2 p3=>by
  have:=Dn (V:=V) (w:=w) (H0:=H0) (n:=n) (sc:=Ap (B7 24)) (σ:=σ) (zx:=[]) (p:=p3) (pos:=pos) (lower:=.Constant (.int 1) k p2) (i:=1) (vn p1) Ao zl (fun Z Z=>rfl);rw[e] at this;unfold tx at this;rwa [T0] at this
 have nhead:∀c l',l=c::l'->∀pos p1 k p2,Am V w H0 n (Ap (B7 24)) σ [] (.Subscript (.Name "name" p1) (.Constant (.int 0) k p2) pos) (.d (.str (sg c))):=fun c l' e pos p1 k p2=>
  Bf (vn _) Ao (D0 (by decide) (by decide)) (by(refine e.symm▸ ?_);exact LU) (fun Z Z=>rfl)
 clear hσ
 match ps,l with
 |[],l=>
  have et:BS [] l=((tx l==S "") && true):=by
   rw[Bool.and_true];cases l with
   |nil=>exact tx_nil.symm
   |cons c l=>exact tx_cons.symm
  rw[et];refine BP (ER (b:=true ||true) (AH (DB (tEmpty _ _ _) fun h=>by exact nomatch h)) (fun Z=>BP (Bu ?_)) fun h=>by exact nomatch h);refine Ci (E5 (eName _ _ _ _) fun Z=>Ez (Ci (I9 (b:=true) (eEmpty _ _ _) fun h=>by exact nomatch h)))
 |none::ps',[]=>
  have et:BS (none::ps') []=(true && (false ||BS ps' [])):=rfl;rw[et];refine BP (ER (b:=false ||(true && true)) (AH (DB (tEmpty _ _ _) fun Z=>DK (AH (BH (Ar (head _ _ rfl _ _ _ _) BV GW rfl) fun Z=>Cq (by have:=tName;rw[tx_nil] at this;exact this _ _ _ _))))) (fun Z=>BP (Bu ?_)) fun h=>by exact nomatch h);have e1:=eName;rw[tx_nil] at e1;refine Ci (E5 (e1 _ _ _ _) fun Z=>Ez (Ci (I9 (eEmpty _ _ _) fun Z=>Ez ?_)));exact AT (ih ps' [] (lt_succ_self _) (fun s hs=>hp s (mem_cons_of_mem _ hs)) hl (by simp at hzp;exact le_succ_of_le hzp) (by assumption)) (le_refl _) rfl (Bo (rest _ _ rfl _ _ _ _ _) (vn _) (fun Z=>rfl) fun Z=>rfl) fun Z=>rfl
 |none::ps',c::l'=>
  have et:BS (none::ps') (c::l')=(BS ps' (c::l') ||BS (none::ps') l'):=rfl;rw[et];refine Bn (σ':=σ) (ER (b:=false ||(true && false)) (AH (DB (tEmpty _ _ _) fun Z=>DK (AH (BH (Ar (head _ _ rfl _ _ _ _) BV GW rfl) fun Z=>Cq (by have:=tName;rw[tx_cons] at this;exact this _ _ _ _))))) (fun h=>by exact nomatch h) fun Z=>EI) ?_;refine BP (ER (b:=true) (Ar (head _ _ rfl _ _ _ _) BV GW rfl) (fun Z=>BP (Bu ?_)) fun h=>by exact nomatch h);refine Ci (I9 ?_ fun Z=>Ez ?_)
  ·exact AT (ih ps' (c::l') (by simp) (fun s hs=>hp s (mem_cons_of_mem _ hs)) hl (by simp at hzp;exact le_succ_of_le hzp) hzl) (le_refl _) rfl (Bo (rest _ _ rfl _ _ _ _ _) (vn _) (fun Z=>rfl) fun Z=>rfl) fun Z=>rfl
  ·exact AT (ih (none::ps') l' (lt_succ_self _) hp (fun x hx=>hl x (mem_cons_of_mem _ hx)) hzp (by simp at hzl;exact le_succ_of_le hzl)) (le_refl _) rfl (Bo (vp _) (nrest _ _ rfl _ _ _ _ _) (fun Z=>rfl) fun Z=>rfl) fun Z=>rfl
 |some x::ps',[]=>
  have et:BS (some x::ps') []=((tx [] !=S "") && false):=(Bool.and_false _).symm;rw[et];refine Bn (σ':=σ) (ER (b:=false ||(false && true)) (AH (DB (tEmpty _ _ _) fun Z=>DK (AH (BH (Ar (head _ _ rfl _ _ _ _) BV (Gp (by intro q;exact nomatch q)) rfl) fun h=>by exact nomatch h)))) (fun h=>by exact nomatch h) fun Z=>EI) ?_;refine Bn (σ':=σ) (ER (b:=false) (Ar (head _ _ rfl _ _ _ _) BV (Gp (by intro q;exact nomatch q)) rfl) (fun h=>by exact nomatch h) fun Z=>EI) ?_;refine BP (Bu (Ci (E5 (DX (vn _) Bz HU rfl) fun h=>?_)));rw[bne,tx_nil] at h;exact nomatch h
 |some x::ps',c::l'=>
  have et:BS (some x::ps') (c::l')=((tx (c::l') !=S "") && (([PyData.str (S "any"),PyData.str (sg c)].any fun y=>PySem.Spec.same y (.str x)) && BS ps' l')):=by
   rw[bne,tx_cons,Bool.not_false,Bool.true_and];show(_ && _)=_
   congr 1
   simp only[any_cons,any_nil,Bool.or_false,PySem.Spec.same];rw[Bool.beq_comm,Bool.beq_comm (a:=x)]
  rw[et];refine Bn (σ':=σ) (ER (b:=false ||(false && true)) (AH (DB (tEmpty _ _ _) fun Z=>DK (AH (BH (Ar (head _ _ rfl _ _ _ _) BV (Gp (by intro q;exact nomatch q)) rfl) fun h=>by exact nomatch h)))) (fun h=>by exact nomatch h) fun Z=>EI) ?_;refine Bn (σ':=σ) (ER (b:=false) (Ar (head _ _ rfl _ _ _ _) BV (Gp (by intro q;exact nomatch q)) rfl) (fun h=>by exact nomatch h) fun Z=>EI) ?_;refine BP (Bu (Ci (E5 (DX (vn _) Bz HU rfl) fun Z=>E5 ?_ fun Z=>Ez ?_)))
  ·refine DX (head _ _ rfl _ _ _ _) (AE (ds:=[.str (S "any"),.str (sg c)]) (Bo Bz (nhead _ _ rfl _ _ _ _) (fun Z=>rfl) fun Z=>rfl) (Ai (by simp))) (MP (Em (hp x mem_cons_self)) ?_) rfl
   rw[AX,AX,Ej,Ec,Ec,show PyData.strOk (S "any")=true by kernel_rfl,CT (by have:=hl c mem_cons_self;exact lt_of_lt_of_le this (by decide))];rfl
  ·exact AT (ih ps' l' (by simp;lia) (fun s hs=>hp s (mem_cons_of_mem _ hs)) (fun x hx=>hl x (mem_cons_of_mem _ hx)) (by simp at hzp;exact le_succ_of_le hzp) (by simp at hzl;exact le_succ_of_le hzl)) (le_refl _) rfl
    (Bo (rest _ _ rfl _ _ _ _ _) (nrest _ _ rfl _ _ _ _ _) (fun Z=>rfl) fun Z=>rfl) fun Z=>rfl
theorem OS{f:Addr}{fd:FuncData}(hg:GIs H0 "_law_takes" (.ref f))(D:DefIs H0 f fd (Ap (B7 24)) [S "parts",S "name"] (AD (B7 24))):
  ∀(m:Nat) (ps:List (Option Str)) (l:List Nat),ps.length+l.length≤m->Gr ps->EK l->ps.length≤1000->l.length≤1000->CB V w H0 "_law_takes" (m+1) [AM ps,.str (tx l)] (.bool (BS ps l)):=by
 intro m
 induction m with
 |zero=>
  intro ps l hm hp hl h1 h2;exact⟨_,hg,D.callee,K9 (xs:=[.d (AM ps),.d (.str (tx l))]) D rfl rfl (Jn ps l hp hl h1 h2 fun ps' l' h=>by lia)⟩
 |succ m ih=>
  intro ps l hm hp hl h1 h2;exact⟨_,hg,D.callee,K9 (xs:=[.d (AM ps),.d (.str (tx l))]) D rfl rfl (Jn ps l hp hl h1 h2 fun ps' l' h a b c d=>ih ps' l' (by lia) a b c d)⟩
theorem Jo{e:Expr}{pos:Pos}{i:Int}(h:Am V w H0 n sc σ zx e (.d (.int i))):Am V w H0 n sc σ zx (.UnaryOp .USub e pos) (.d (.int (-i))):=by
 intro A zz s zy g o F;show wpAny _ A (eval e zz >>=fun v=>standAt pos >>=fun Z=>holding [v] (unaryOp .USub v)) _ _ s;refine Ac (Aq (h A zz s zy g o F) fun v s₁ q=>Ac (wpAny_standAt (wpAny_holding ?_)));refine ex1 (Ax q.val) fun t x2=>?_;subst x2;exact PyProof.Rows.neg_int (q.trans (Pu.tok (BN _ _ _)))
theorem Fo{x:Str}{p pos:Pos}{args:List Expr}{xs:List PyData}{d:PyData}{k:Nat}(h:CB V w H0 x k xs d)(hk:k≤n)(hg:BA sc x=true)(ha:Ey V w H0 n sc σ zx pos args (xs.map .d))
  (hb:∀zz,(backTo pos (starEach args zz)).any (·.1)=false):Am V w H0 n sc σ zx (.Call (.Name x p) args [] pos) (.d d):=AT h hk hg ha hb
noncomputable def Jp (p:Nat×Nat) (l:List Nat):Bool:=
 (p.1==42 ||(p.1==63 ||p.1==l.headD 0)) && ((p.2==42 ||(p.2==63 ||p.2==l.getLastD 0)) && (l.length==2 ||(p.1==42 ||p.2==42)))
def AJ(c:Nat):Prop:=c=97∨c=98∨c=63∨c=42
theorem Gs{c:Nat}(h:AJ c):c<128:=by rcases h with rfl|rfl|rfl|rfl<;> decide
theorem Sg{a b:Nat}(ha:AJ a)(hb:AJ b):(!(Builtin.Str.occurrences (tx [a,b]) (S "*") 0 (tx [a,b]).length 1).isEmpty)=(a==42 ||b==42):=by
 rcases ha with rfl|rfl|rfl|rfl<;> rcases hb with rfl|rfl|rfl|rfl<;> decide +kernel
theorem Fp(a b:Nat):(sg a==sg b)=(a==b):=by
 by_cases h:a=b
 ·subst h;simp
 ·have:sg a≠sg b:=fun e=>by
   have h2:=congrArg Str.cps e;simp[sg] at h2;exact h h2
  rw[show(sg a==sg b)=false by simpa using this,show(a==b)=false by simpa using h]
theorem Oc(x a b c:Nat):([PyData.str (sg a),PyData.str (sg b),PyData.str (sg c)].any fun y=>PySem.Spec.same y (.str (sg x)))=(x==a ||(x==b ||x==c)):=by
 simp only[any_cons,any_nil,Bool.or_false,PySem.Spec.same,Fp]
 (refine(Bool.beq_comm (a:=a)).symm▸ ?_;refine(Bool.beq_comm (a:=b)).symm▸ ?_;refine(Bool.beq_comm (a:=c)).symm▸ ?_;rfl)
theorem Qd{c:Nat}{l:List Nat}:(seqIndex? (-1) (tx (c::l)).length).bind ((tx (c::l)).cps[·]?)=some ((c::l).getLastD 0):=by
 have e:seqIndex? (-1) (tx (c::l)).length=some l.length:=by
  simp[tx,Str.length,seqIndex?]
  lia
 rw[e];simp only[tx,Option.bind_some,List.getElem?_toArray];rw[getLastD_eq_getLast?,List.getLast?_eq_getElem?];simp
theorem OT(hlen:GIs H0 "len" (.builtin "len")){a b c:Nat}{l:List Nat}(ha:AJ a)(hb:AJ b)(hl:EK (c::l))(hz:l.length≤100):
  II V w H0 n (Ap (B7 25)) [(S "pattern",.d (.str (tx [a,b]))),(S "name",.d (.str (tx (c::l))))] [] (AD (B7 25)) (.ret (.d (.bool (Jp (a,b) (c::l))))):=by
 revert hlen ha hb hl hz;revert V w H0 n a b c l;refine no_implicit_lambda% (HS (by exact(((default,w0),default),default)) ?_);generalize FK _ _=t9;generalize t9.1.1.1=V,t9.1.1.2=w,t9.1.2.1=H0,t9.1.2.2=n,t9.2.1.1=a,t9.2.1.2=b,t9.2.2.1=c,t9.2.2.2=l;intro hlen ha hb hl hz;have vn:∀σ:AN,σ.lookup (S "name")=some (.d (.str (tx (c::l))))->∀pos,Am V w H0 n (Ap (B7 25)) σ [] (.Name "name" pos) (.d (.str (tx (c::l)))):=fun σ h pos=>Aa h rfl;have hlast:(c::l).getLastD 0<128:=by
  rw[getLastD_eq_getLast?];cases h:(c::l).getLast? with
  |none=>decide
  |some x=>exact hl x (mem_of_getLast? h)
 refine Bn (σ':=[(S "last",.d (.str (sg b))),(S "first",.d (.str (sg a)))]++[(S "pattern",.d (.str (tx [a,b]))),(S "name",.d (.str (tx (c::l))))])
  (Av (bs:=[(S "last",.d (.str (sg b))),(S "first",.d (.str (sg a)))]) (Aa rfl rfl) (DZ (b1:=[(S "first",.d (.str (sg a)))]) (b2:=[(S "last",.d (.str (sg b)))]) (Sf (x:=tx [a,b]) (by simp[tx];exact⟨Gs ha,Gs hb⟩)) (Af (Ab rfl)) (Af (Ab rfl)) fun Z=>rfl) (fun Z Z=>rfl) (fun Z Z=>rfl) fun Z=>rfl) ?_
 refine Bn (E9 (x:=.d (.tuple [.bool (a==42 ||(a==63 ||a==c)),.bool (b==42 ||(b==63 ||b==(c::l).getLastD 0))])) (e1:=.d (.bool (a==42 ||(a==63 ||a==c)))) (e2:=.d (.bool (b==42 ||(b==63 ||b==(c::l).getLastD 0)))) ?_ C9 (Ab rfl) (Ab rfl) (fun Z Z=>rfl) ?_) ?_
 ·refine DR (ds:=[.bool _,.bool _]) (Bo ?_ ?_ (fun Z=>rfl) fun Z=>rfl) (Ai (by simp))
  ·rw[←Oc]
   refine DX (Aa rfl rfl) (AE (ds:=[.str (sg 42),.str (sg 63),.str (sg c)]) (BM Bz (Bo Bz (Bf (vn _ rfl _) Ao (D0 (by decide) (by decide)) LU fun Z Z=>rfl) (fun Z=>rfl) fun Z=>rfl) fun Z=>rfl) (Ai (by simp)))
    (MP (Em (CT (by have:=Gs ha;exact lt_of_lt_of_le this (by decide)))) ?_) rfl
   have:=hl c mem_cons_self;rw[AX,AX,AX,Ej,Ec,Ec,Ec,CT (by decide),CT (by decide),CT (lt_of_lt_of_le this (by decide))];rfl
  ·rw[←Oc]
   refine DX (Aa rfl rfl) (AE (ds:=[.str (sg 42),.str (sg 63),.str (sg _)]) (BM Bz (Bo Bz (Bf (vn _ rfl _) (Jo Ao) (k:= -1) (by decide) Qd fun Z Z=>rfl) (fun Z=>rfl) fun Z=>rfl) fun Z=>rfl) (Ai (by simp)))
    (MP (Em (CT (by have:=Gs hb;exact lt_of_lt_of_le this (by decide)))) ?_) rfl
   rw[AX,AX,AX,Ej,Ec,Ec,Ec,CT (by decide),CT (by decide),CT (lt_of_lt_of_le hlast (by decide))];rfl
 ·intro zz o
  have hs:=o.scope;cases zz;simp only at hs;subst hs
  rfl
 ·refine BP (Bu (Ci (E5 (Aa rfl rfl) fun Z=>E5 (Aa rfl rfl) fun Z=>Ez (Ci (I9 (a:=(c::l).length==2) ?_ fun Z=>Ez ?_)))))
  ·have e2:((c::l).length==2)=(((tx (c::l)).length:Int)==2):=by
    have:(tx (c::l)).length=(c::l).length:=by exact rfl
    rw[this]
    by_cases q:(c::l).length=2
    ·(refine q.symm▸ ?_);rfl
    ·rw[show((c::l).length==2)=false by simpa using q,show(((c::l).length:Int)==2)=false by simp only[beq_eq_false_iff_ne];lia]
   rw[e2];exact DX (AT (Ix (n:=n) hlen (Ai (by simp[tx,Str.length];exact le_trans hz (by decide)))) (le_refl _) rfl (Bk (vn _ rfl _) fun Z=>rfl) fun Z=>rfl) Ao KW rfl
  ·(refine(Sg ha hb)▸ ?_)
   exact DX Bz (Aa rfl rfl) TT rfl
noncomputable def G4 (f0:Value) (TI TO:Addr):Obj:={cls:=.type "zip",dict:=none,data:=.fields #[f0,.bool false,.bool false,.ref TI,.ref TO],slots:=#[]}
noncomputable def Do (a b:Value):Obj:={cls:=.type "tuple",data:=.seq #[a,b]}
section
variable{V:Program}{w:World}{A:Around}{E:Value->Shared->Prop}{s:Shared}{z TI TO i1 i2:Addr}{N1 N2:Nat}{P1 P2:Nat->Value->Prop}{St1 St2:Nat->Heap->Prop}
structure Apart5(z TI TO i1 i2:Addr):Prop where
 a:TI≠z
 b:TO≠z
 c:i1≠z
 d:i2≠z
 e:TI≠TO
 f:TI≠i1
 g:TI≠i2
 h:TO≠i1
 i:TO≠i2
 j:i1≠i2
def UR(z TI TO i1 i2:Addr)(St1 St2:Nat->Heap->Prop)(f0:Value)(k:Nat)(h:Heap):Prop:=
 h.get? z=some (G4 f0 TI TO)∧h.get? TI=some (Do (.ref i1) (.ref i2))∧(∃a b,h.get? TO=some (Do a b))∧St1 k h∧St2 k h
abbrev Qe(z TO i1 i2:Addr)(h h':Heap):Prop:=∀c o,c≠z->c≠TO->c≠i1->c≠i2->h.get? c=some o->h'.get? c=some o
theorem B4{p:Addr}{h h':Heap}(hs:Heap.SameBut p h h'){c:Addr}{o:Obj}(n:c≠p)(e:h.get? c=some o):h'.get? c=some o:=hs.extBut c o n e
theorem St.stay{it p:Addr}{N:Nat}{P:Nat->Value->Prop}{St:Nat->Heap->Prop}{h h':Heap}{k:Nat}{A:Around}(D:Draws V w A it [it] N P St)(st:St k h)(hs:Heap.SameBut p h h')(n:it≠p):St k h':=
 D.frame k h h' st fun b hb o e=>by rw[AU hb] at e ⊢;exact B4 hs n e
theorem Qf(AP:Apart5 z TI TO i1 i2)(D1:∀A:Around,A.handled=none->Draws V w A i1 [i1] N1 P1 St1)(D2:∀A:Around,A.handled=none->Draws V w A i2 [i2] N2 P2 St2)(hh:A.handled=none){k:Nat}(hk1:k<N1)(hk2:k<N2)
  (st:UR z TI TO i1 i2 St1 St2 .none k s.heap){Q:Value->Shared->Prop}
  (hQ:∀x y (T:Addr) h' tk,P1 k x->P2 k y->UR z TI TO i1 i2 St1 St2 (rawInt T) (k+1) h'->h'.get? T=some (Do x y)->s.heap.get? T=none->T≠z->T≠TO->T≠i1->T≠i2->Qe z TO i1 i2 s.heap h'->Q (.ref T) {s with heap:=h',toks:=tk}):
  wpAny (model V w) A (Builtin.«zip.__next__» ⟨[.ref z],[]⟩) (fun fin s'=>∃v,fin=.done (.ret v)∧Q v s') E s:=by
 revert AP D1 D2 hh hk1 hk2 st hQ;revert k Q;revert V w A E s z TI TO i1 i2 N1 N2 P1 P2 St1 St2;refine no_implicit_lambda% (FM (by exact((((default,w0),({},default)),(({},default),default)),default)) ?_);generalize CF _ _=t9;generalize t9.1.1.1.1=V,t9.1.1.1.2=w,t9.1.1.2.1=A,t9.1.1.2.2=E,t9.1.2.1.1=s,t9.1.2.1.2=z,t9.1.2.2.1=TI,t9.1.2.2.2=TO,t9.2.1.1.1=i1,t9.2.1.1.2=i2,t9.2.1.2.1=N1,t9.2.1.2.2=N2,t9.2.2.1.1=P1,t9.2.2.1.2=P2,t9.2.2.2.1=St1,t9.2.2.2.2=St2;refine no_implicit_lambda% (I8 (by exact default) ?_);generalize Ip _ _=t9;generalize t9.1=k,t9.2=Q;intro AP D1 D2 hh hk1 hk2 st hQ;refine JY st fun hz hTI x3 s1 s2=>?_;rcases x3 with ⟨a,b,hTO⟩;show wpAny _ _ (field (.ref z) 2 >>=_) _ _ _;refine Ac (wpAny_field hz rfl (x:=.bool false) rfl ?_);show wpAny _ _ (field (.ref z) 3 >>=_) _ _ _;refine Ac (wpAny_field hz rfl (x:=.ref TI) rfl (Ac (wpAny_seqItems hTI rfl ?_)));show wpAny _ _ (Builtin.SmallTypes.ownedTupleIsFree (.ref z) >>=_) _ _ _;refine Ac ?_;unfold Builtin.SmallTypes.ownedTupleIsFree;refine Ac (wpAny_field hz rfl (x:=.none) rfl (Ag ?_));simp -iota only[if_true];refine Ac (wpAny_rule (Ac (wpAny_field hz rfl (x:=.ref TO) rfl (Ac (wpAny_setField_rec hz (succ_pos _) fun g1 z1 b1=>?_)))));refine Ac ?_;simp -iota only[List.zipIdx_cons,List.zipIdx_nil,forIn_cons,forIn_nil];refine Ac (Ac (wpAny_onRaise ?_));show wpAny _ _ (Builtin.SmallTypes.nextOf (.ref i1) >>=_) _ _ _;refine Ac ((D1 A hh).item k _ _ _ hk1 (St.stay (D1 A hh) s1 b1 AP.c) fun x g2 t2 px s1' b2=>Ag ?_);have TO2:g2.get? TO=some (Do a b):=B4 b2 AP.h (B4 b1 AP.b hTO);refine Ac (wpAny_seqItems TO2 rfl (Ac (wpAny_updateSeq_pair TO2 fun g3 TO3 b3=>Ac (wpAny_letGo (Ag ?_)))))
 replace TO3:g3.get? TO=some (Do x b):=TO3
 refine Ac (Ac (wpAny_onRaise ?_));show wpAny _ _ (Builtin.SmallTypes.nextOf (.ref i2) >>=_) _ _ _;have s2':St2 k g3:=St.stay (D2 A hh) (St.stay (D2 A hh) (St.stay (D2 A hh) s2 b1 AP.d) b2 AP.j.symm) b3 AP.i.symm;refine Ac ((D2 A hh).item k _ _ _ hk2 s2' fun y g4 t4 py s2'' b4=>Ag ?_);have TO4:g4.get? TO=some (Do x b):=B4 b4 AP.i TO3;refine Ac (wpAny_seqItems TO4 rfl (Ac (wpAny_updateSeq_pair TO4 fun g5 TO5 b5=>Ac (wpAny_letGo (Ag (Ag ?_))))))
 replace TO5:g5.get? TO=some (Do x y):=TO5
 refine Ac (wpAny_seqItems TO5 rfl (Ac (wpAny_newTuple ?_)));have z5:g5.get? z=some (G4 .ellipsis TI TO):=B4 b5 AP.b.symm (B4 b4 AP.d.symm (B4 b3 AP.b.symm (B4 b2 AP.c.symm z1)));have kz:Qe z TO i1 i2 s.heap g5:=fun c o c1 c2 c3 c4 e=>B4 b5 c2 (B4 b4 c4 (B4 b3 c2 (B4 b2 c3 (B4 b1 c1 e))));have s1'':St1 (k+1) g5:=St.stay (D1 A hh) (St.stay (D1 A hh) (St.stay (D1 A hh) s1' b3 AP.h.symm) b4 AP.j) b5 AP.h.symm;have s2f:St2 (k+1) g5:=St.stay (D2 A hh) s2'' b5 AP.i.symm;refine ex1 ((D1 A hh).live _ _ s1'') fun o1 e1=>?_;refine ex1 ((D2 A hh).live _ _ s2f) fun o2 e2=>?_;have sz:g5.objs.size=s.heap.objs.size:=by rw[b5.1,b4.1,b3.1,b2.1,b1.1]
 show wpAny _ _ (Builtin.SmallTypes.ownedTupleHandOut (.ref z) (.ref g5.objs.size) >>=_) _ _ _;refine Ac ?_;unfold Builtin.SmallTypes.ownedTupleHandOut;have z6:(g5.push (Do x y)).get? z=some (G4 .ellipsis TI TO):=Heap.get?_push_of_some _ z5;refine Ac (wpAny_setField_rec z6 (succ_pos _) fun g7 z7 b7=>wpAny_setField_rec z7 (by simp) fun g8 z8 b8=>Ag ⟨_,rfl,?_⟩);have up:∀c o,c≠z->g5.get? c=some o->g8.get? c=some o:=fun c o n e=>B4 b8 n (B4 b7 n (Heap.get?_push_of_some _ e));have nz:∀{c o},g5.get? c=some o->g5.objs.size≠c:=fun e=>ne_of_gt (Heap.lt_size e);refine hQ x y g5.objs.size g8 t4 px py ⟨z8,up _ _ AP.a (B4 b5 AP.e (B4 b4 AP.g (B4 b3 AP.e (B4 b2 AP.f (B4 b1 AP.a hTI))))),⟨_,_,up _ _ AP.b TO5⟩,?_,?_⟩ ?_ (CA (le_of_eq sz.symm)) (nz z5) (nz TO5) (nz e1) (nz e2) fun c o c1 c2 c3 c4 e=>up c o c1 (kz c o c1 c2 c3 c4 e)
 ·exact(D1 A hh).frame _ _ _ s1'' fun b hb o e=>by rw[AU hb] at e ⊢;exact up _ _ AP.c e
 ·exact(D2 A hh).frame _ _ _ s2f fun b hb o e=>by rw[AU hb] at e ⊢;exact up _ _ AP.d e
 ·exact B4 b8 (nz z5) (B4 b7 (nz z5) (Heap.get?_push_size _ rfl))
theorem Qg(AP:Apart5 z TI TO i1 i2)(D1:∀A:Around,A.handled=none->Draws V w A i1 [i1] N1 P1 St1)(hh:A.handled=none)(st:UR z TI TO i1 i2 St1 St2 .none N1 s.heap){Q:PySem.Fin->Shared->Prop}
  (hE:∀h' e tk,Qe z TO i1 i2 s.heap h'->(∃o,h'.get? e=some o∧o.cls=.type "StopIteration")->E (.ref e) {s with heap:=h',toks:=tk}):
  wpAny (model V w) A (Builtin.«zip.__next__» ⟨[.ref z],[]⟩) Q E s:=by
 revert AP D1 hh st hE;revert Q;revert St1 St2;revert i1 i2 N1 P1;revert V w A E s z TI TO;refine no_implicit_lambda% (HS (by exact(((default,w0),({},default)),(({},default),default))) ?_);generalize FK _ _=t9;generalize t9.1.1.1=V,t9.1.1.2=w,t9.1.2.1=A,t9.1.2.2=E,t9.2.1.1=s,t9.2.1.2=z,t9.2.2.1=TI,t9.2.2.2=TO;refine no_implicit_lambda% (JZ (by exact default) ?_);generalize Iq _ _=t9;generalize t9.1.1=i1,t9.1.2=i2,t9.2.1=N1,t9.2.2=P1;refine no_implicit_lambda% (I8 (by exact default) ?_);generalize Ip _ _=t9;generalize t9.1=St1,t9.2=St2;refine no_implicit_lambda% (Io (default) ?_);generalize HR _ _=Q;intro AP D1 hh st hE;refine JY st fun hz hTI x3 s1 s2=>?_;rcases x3 with ⟨a,b,hTO⟩;show wpAny _ _ (field (.ref z) 2 >>=_) _ _ _;refine Ac (wpAny_field hz rfl (x:=.bool false) rfl ?_);show wpAny _ _ (field (.ref z) 3 >>=_) _ _ _;refine Ac (wpAny_field hz rfl (x:=.ref TI) rfl (Ac (wpAny_seqItems hTI rfl ?_)));show wpAny _ _ (Builtin.SmallTypes.ownedTupleIsFree (.ref z) >>=_) _ _ _;refine Ac ?_;unfold Builtin.SmallTypes.ownedTupleIsFree;refine Ac (wpAny_field hz rfl (x:=.none) rfl (Ag ?_));simp -iota only[if_true];refine Ac (wpAny_rule (Ac (wpAny_field hz rfl (x:=.ref TO) rfl (Ac (wpAny_setField_rec hz (succ_pos _) fun g1 z1 b1=>?_)))));refine Ac ?_;simp -iota only[List.zipIdx_cons,List.zipIdx_nil,forIn_cons,forIn_nil];refine Ac (Ac (wpAny_onRaise ?_));show wpAny _ _ (Builtin.SmallTypes.nextOf (.ref i1) >>=_) _ _ _;refine Ac ((D1 A hh).done _ _ _ (St.stay (D1 A hh) s1 b1 AP.c) fun g2 e b2 he=>?_);refine Ad he fun oe hoe hce=>?_;have z2:g2.get? z=some (G4 .ellipsis TI TO):=b2 _ _ AP.c.symm z1;have nez:e≠z:=fun q=>by
  rw[q,z2] at hoe;cases hoe;simp[G4] at hce
 exact wpAny_setField_rec z2 (succ_pos _) fun g3 Z b3=>hE g3 e s.toks (fun c o c1 c2 c3 c4 q=>B4 b3 c1 (b2 _ _ c3 (B4 b1 c1 q))) ⟨oe,B4 b3 nez hoe,hce⟩
theorem Qh(AP:Apart5 z TI TO i1 i2)(D1:∀A:Around,A.handled=none->Draws V w A i1 [i1] N1 P1 St1)(D2:∀A:Around,A.handled=none->Draws V w A i2 [i2] N2 P2 St2)(hh:A.handled=none){ds:List (PyData×PyData)}(hl1:ds.length=N1)(hl2:ds.length=N2)
  (hP1:∀i v p,ds[i]? =some p->P1 i v->∀g,Rd p.1 g v)(hP2:∀i v p,ds[i]? =some p->P2 i v->∀g,Rd p.2 g v){es:List Expr}{k:Nat}{p:Pos}{g:Heap}{zy:List Addr}(hhid:∀b∈[z,TO,i1,i2],b∈zy):
  SrcT V w A (.Tuple es k p) g zy z [z,TI,TO,i1,i2] [z,TO,i1,i2] (ds.map fun p=>.d (.tuple [p.1,p.2])) (fun i h=>UR z TI TO i1 i2 St1 St2 .none i h) where
 sub:=fun b hb=>by simp at hb ⊢;rcases hb with rfl|rfl|rfl|rfl<;> simp
 frame:=fun i h h' st hk=>by
  refine JY st fun hz hTI x3 s1 s2=>?_;rcases x3 with ⟨a,b,hTO⟩;exact⟨hk z (.head _) _ hz,hk TI (.tail _ (.head _)) _ hTI,⟨a,b,hk TO (.tail _ (.tail _ (.head _))) _ hTO⟩,(D1 A hh).frame _ _ _ s1 fun b hb o e=>hk b (by rw[AU hb];simp) o e,(D2 A hh).frame _ _ _ s2 fun b hb o e=>hk b (by rw[AU hb];simp) o e⟩
 item:=fun i s e Q E he st hg hal hQ=>by
  rw[getElem?_map] at he;cases hd:ds[i]? with
  |none=>rw[hd] at he;exact CE he
  |some q=>
   rw[hd] at he;simp at he;subst he;have hlt:i<ds.length:=(List.getElem?_eq_some_iff.mp hd).1;have hT:s.TypeIs (.ref z) "zip":=⟨_,st.1,rfl⟩;unfold pyNext;refine Ac (wpAny_attempt (wpAny_callSpecial?_slot (name:=Str.ofString "__next__") hT PySem.F.slot_zip_next
    (wpAny_call_entry PySem.F.slot_zip_next hT PySem.F.entry_zip_next (Qf (A:=A.in1) AP D1 D2 hh (by lia) (by lia) st fun x y T h' tk p1 p2 st' hTp hTn t1 t2 t3 t4 kz=>?_) (PySem.F.args_zip_next_1 _))))
   refine Ag ⟨_,rfl,?_⟩;unfold letOwnedTupleGo;refine Ac (wpAny_load st'.1 ?_);show wpAny _ _ (if(["enumerate","zip","dict_itemiterator","dict_reverseitemiterator","odict_iterator","itertools.zip_longest","itertools.pairwise"].contains "zip" &&
    (#[rawInt T,.bool false,.bool false,.ref TI,.ref TO]:Array Value)[0]? ==some (rawInt T))=true then _ else _) _ _ _
   rw[if_pos (by simp)];refine Ac (wpAny_rule ?_);show wpAny _ _ (setField (.ref z) 0 .none) _ _ _;refine wpAny_setField_rec st'.1 (succ_pos _) fun h'' z'' b''=>?_;refine JY st' fun Z hTI x3 s1 s2=>?_;rcases x3 with ⟨a,b,hTO⟩;have Thid:T∉zy:=fun m=>by refine ex1 (hal T m) fun o e=>?_;rw[hTn] at e;exact CE e
   have T2:h''.get? T=some (Do x y):=B4 b'' t1 hTp;refine hQ (.ref T) h'' tk ?_ ⟨z'',B4 b'' AP.a hTI,⟨a,b,B4 b'' AP.b hTO⟩,St.stay (D1 A hh) s1 b'' AP.c,St.stay (D2 A hh) s2 b'' AP.d⟩ fun c o nc e=>?_
   ·exact Hj (vs:=[x,y]) ⟨_,AQ T2 Thid,rfl,0,rfl⟩ (.cons (hP1 i x q hd p1 _) (.cons (hP2 i y q hd p2 _) .nil))
   ·simp only[mem_cons,not_mem_nil,or_false,not_or] at nc
    exact B4 b'' nc.1 (kz c o nc.1 nc.2.1 nc.2.2.1 nc.2.2.2 e)
 done:=fun s Q E st hQ=>by
  rw[length_map,hl1] at st;have hT:s.TypeIs (.ref z) "zip":=⟨_,st.1,rfl⟩;unfold pyNext;refine Ac (wpAny_attempt (wpAny_callSpecial?_slot (name:=Str.ofString "__next__") hT PySem.F.slot_zip_next
   (wpAny_call_entry PySem.F.slot_zip_next hT PySem.F.entry_zip_next (Qg (A:=A.in1) AP D1 hh st fun h' e tk kz he=>?_) (PySem.F.args_zip_next_1 _))))
  refine Ad he fun o ho hc=>?_;refine Ac (wpAny_isInstance (T:="StopIteration") (b:=true) ⟨o,ho,hc⟩ isSubtype_stop ?_);refine Ag (hQ _ _ fun c o nc e=>?_);simp only[mem_cons,not_mem_nil,or_false,not_or] at nc;exact kz c o nc.1 nc.2.1 nc.2.2.1 nc.2.2.2 e
 self:=fun i s Q E st hQ=>by
  have hT:s.TypeIs (.ref z) "zip":=⟨_,st.1,rfl⟩;refine wpAny_pyIter_slot hT PySem.F.slot_zip_iter (wpAny_call_entry PySem.F.slot_zip_iter hT PySem.F.entry_zip_iter ?_ (PySem.F.args_zip_iter_1 _));show wpAny _ _ (ret (.ref z)) _ _ s;exact Ag ⟨_,rfl,"zip",_,hT,PySem.F.slot_zip_next.lookup,hQ⟩
 alive:=fun i h st b hb=>by
  refine JY st fun hz hTI x3 s1 s2=>?_;rcases x3 with ⟨a,c,hTO⟩;simp at hb;rcases hb with rfl|rfl|rfl|rfl
  ·exact⟨_,hz⟩
  ·exact⟨_,hTO⟩
  ·exact(D1 A hh).live _ _ s1
  ·exact(D2 A hh).live _ _ s2
end
noncomputable def Tx (x:Str) (t:Tok):Obj:={cls:=.type "str_ascii_iterator",data:=.fields #[.str x t,.int 0 0]}
noncomputable abbrev Sh (h:Heap) (x:Str) (t:Tok):Heap:=h.push (Tx x t)
noncomputable abbrev T1 (h:Heap) (x y:Str) (t u:Tok):Heap:=(Sh h x t).push (Tx y u)
noncomputable abbrev Si (h:Heap) (x y:Str) (t u:Tok):Heap:=(T1 h x y t u).push (Do (.ref h.objs.size) (.ref (Sh h x t).objs.size))
noncomputable abbrev Sj (h:Heap) (x y:Str) (t u:Tok):Heap:=(Si h x y t u).push (Do .none .none)
noncomputable abbrev Ty (h:Heap) (x y:Str) (t u:Tok):Heap:=(Sj h x y t u).push (G4 .none (T1 h x y t u).objs.size (Si h x y t u).objs.size)
theorem Lc(vs:List Value):Builtin.SmallTypes.newClass "zip" ⟨.type "zip"::vs,[]⟩=pure (.type "zip",vs):=by
 unfold Builtin.SmallTypes.newClass;show(isType (.type "zip") >>=fun b=>if(!b)=true then _ else _)=_;rw[show isType (.type "zip")=pure true from rfl];show(isSubtype (.type "zip") (.type "zip") >>=fun b=>if(!b)=true then _ else _)=_
 (refine sub_zip.symm▸ ?_)
 rfl
theorem Jq(x y:Str)(t u:Tok)(ha:x.cps.all (·<128)=true)(hb:y.cps.all (·<128)=true):
  Meets (Builtin.«zip.__new__» ⟨[.type "zip",.str x t,.str y u],[]⟩) (fun Z R s=>R (.ok (.ret (.ref (Sj s.heap x y t u).objs.size))) {s with heap:=Ty s.heap x y t u}):=
 .of_wp fun V w A R s h=>by
  unfold Builtin.«zip.__new__»;rw[Lc];refine Ac (Ag ?_);show wpAny _ A.in1 (Builtin.SmallTypes.iterAll [.str x t,.str y u] >>=_) _ _ s;refine Ac ?_;unfold Builtin.SmallTypes.iterAll;simp -iota only[forIn_cons,forIn_nil];refine Ac (Ac (Ac (wpAny_holding (wpAny_pyIter_ascii ha (Ag ?_)))));refine Ac (Ac (wpAny_holding (wpAny_pyIter_ascii hb (Ag ?_))));refine Ag (Ag ?_);refine Ac (wpAny_newObj_type ?_ (by show(2:Nat)≤_;decide));refine Ac (wpAny_newObj_type ?_ (by show(2:Nat)≤_;decide));unfold Builtin.SmallTypes.newRecord;refine Ac (wpAny_newObj_type (T:="zip") ?_ ?_)
  ·exact Ag ⟨_,rfl,h⟩
  ·show(5:Nat)≤_
   decide
theorem Hw{l:List Nat}(h:EK l):(tx l).cps.all (·<128)=true:=by
 rw[Array.all_eq_true'];intro c hc;simpa using h c (by exact hc.1)
theorem Qi(h:Heap)(x y:Str)(t u:Tok):(Sh h x t).objs.size=h.objs.size+1∧(T1 h x y t u).objs.size=h.objs.size+2∧(Si h x y t u).objs.size=h.objs.size+3∧(Sj h x y t u).objs.size=h.objs.size+4∧(Ty h x y t u).objs.size=h.objs.size+5:=by
 refine⟨?_,?_,?_,?_,?_⟩<;> simp[Sh,T1,Si,Sj,Ty,Heap.size_push]
theorem T3(h:Heap)(x y:Str)(t u:Tok):Ext h (Ty h x y t u):=
 ((((An _ _).trans (An _ _)).trans (An _ _)).trans (An _ _)).trans (An _ _)
noncomputable def Fq (x y:List Nat):List (PyData×PyData):=(x.zip y).map fun q=>(.str (sg q.1),.str (sg q.2))
theorem Ko{x y:List Nat}{i:Nat}{p:PyData×PyData}(h:(Fq x y)[i]? =some p):∃a b,x[i]? =some a∧y[i]? =some b∧p=(.str (sg a),.str (sg b)):=by
 unfold Fq at h;rw[getElem?_map] at h;cases e:(x.zip y)[i]? with
 |none=>rw[e] at h;exact CE h
 |some q=>
  rw[e] at h;have:=List.getElem?_zip_eq_some.mp e;exact⟨q.1,q.2,this.1,this.2,by exact(Option.some.inj h).symm⟩
theorem T4{es args:List Expr}{kx:Nat}{tp p pos:Pos}{x y:List Nat}(hf:Am V w H0 n sc σ zx (.Name "zip" p) (.v (.type "zip")))(ha:Ey V w H0 n sc σ zx pos args [.d (.str (tx x)),.d (.str (tx y))])
  (hl:x.length=y.length)(hx:EK x)(hy:EK y)(hb:∀zz,(backTo pos (starEach args zz)).any (·.1)=false):
  Tv V w H0 n sc σ zx (.Tuple es kx tp) (.Call (.Name "zip" p) args [] pos) ((Fq x y).map fun q=>.d (.tuple [q.1,q.2])):=by
 intro A zz s zy g o F;refine Call_Name rfl (Aq (hf A zz s zy g o F) fun v s₁ q=>?_);have e1:=q.val;subst e1;have F1:=F.ext q.ext;refine B9 (zz:=zz) F1.toBase.h0 B2 (hb zz) (ha A zz s₁ zy g o F1) fun vs s2 q2=>?_;have ext2:Ext s.heap s2.heap:=q.ext.trans q2.ext;have F2:=F1.ext q2.ext;obtain⟨h₂,t2,e2,_,m₂⟩:=q.trans q2;obtain⟨u,v,rfl,m1,m2⟩:=GU m₂;refine ex1 (AR m1) fun t x2=>?_;subst x2;refine ex1 (AR m2) fun u x2=>?_;subst x2;subst e2;simp only at ext2 F2;refine callType_new PySem.F.called_zip (by decide) (PySem.F.typeCall_zip_2 _ _) (PySem.F.newCall_zip_2 _ _) (fun obj=>PySem.F.args_object_init_3 obj _ _) PySem.F.entry_zip_new (Jq _ _ t u (Hw hx) (Hw hy)) ?_;refine JY (Qi h₂ (tx x) (tx y) t u) fun z1 z2 z3 z4 z5=>?_;have AP:Apart5 (Sj h₂ (tx x) (tx y) t u).objs.size (T1 h₂ (tx x) (tx y) t u).objs.size (Si h₂ (tx x) (tx y) t u).objs.size h₂.objs.size (Sh h₂ (tx x) t).objs.size:=by
  constructor<;> (intro q;have q:(_:Nat)=_:=q;lia)
 have gz:(Ty h₂ (tx x) (tx y) t u).get? (Sj h₂ (tx x) (tx y) t u).objs.size=some (G4 .none (T1 h₂ (tx x) (tx y) t u).objs.size (Si h₂ (tx x) (tx y) t u).objs.size):=Heap.get?_push_size _ rfl;have ST:∀zy',(∀b∈[(Sj h₂ (tx x) (tx y) t u).objs.size,(Si h₂ (tx x) (tx y) t u).objs.size,h₂.objs.size,(Sh h₂ (tx x) t).objs.size],b∈zy')->SrcT V w A (.Tuple es kx tp) (vis s.heap zy) zy' _ _ _ _ _:=fun zy' hh=>Qh (k:=kx) (es:=es) (p:=tp) AP (D1:=fun A hA=>Draws.strAscii hA _ (tx x) t) (D2:=fun A hA=>Draws.strAscii hA _ (tx y) u) g.hh (ds:=Fq x y)
  (by simp[Fq,tx,hl]) (by simp[Fq,tx,hl]) (fun i v p e ⟨c,k,a,b⟩ g=>by
   refine Bh (Ko e) fun a' b' h1 h2 x5=>?_;subst x5;have:c=a':=by simpa [tx,h1] using a.symm
   subst this;subst b;exact BO _ _ _) (fun i v p e ⟨c,k,a,b⟩ g=>by
   refine Bh (Ko e) fun a' b' h1 h2 x5=>?_;subst x5;have:c=b':=by simpa [tx,h2] using a.symm
   subst this;subst b;exact BO _ _ _) hh
 have z0:UR (Sj h₂ (tx x) (tx y) t u).objs.size (T1 h₂ (tx x) (tx y) t u).objs.size (Si h₂ (tx x) (tx y) t u).objs.size h₂.objs.size (Sh h₂ (tx x) t).objs.size
   (fun i h=>h.IsStrIter h₂.objs.size "str_ascii_iterator" (tx x) t i) (fun i h=>h.IsStrIter (Sh h₂ (tx x) t).objs.size "str_ascii_iterator" (tx y) u i) .none 0 (Ty h₂ (tx x) (tx y) t u):=
  ⟨gz,Heap.get?_push_of_some _ (Heap.get?_push_of_some _ (Heap.get?_push_size _ rfl)),⟨_,_,Heap.get?_push_of_some _ (Heap.get?_push_size _ rfl)⟩,
   ⟨_,Heap.get?_push_of_some _ (Heap.get?_push_of_some _ (Heap.get?_push_of_some _ (Heap.get?_push_of_some _ (Heap.get?_push_size _ rfl)))),rfl,rfl⟩,
   ⟨_,Heap.get?_push_of_some _ (Heap.get?_push_of_some _ (Heap.get?_push_of_some _ (Heap.get?_push_size _ rfl))),rfl,rfl⟩⟩
 have fr:∀a,h₂.objs.size≤a->s.heap.get? a=none:=fun a ha=>by
  cases e:s.heap.get? a with
  |none=>rfl
  |some o=>exact absurd (Heap.lt_size (ext2 _ _ e)) (Nat.not_lt.mpr ha)
 refine⟨⟨_,gz,rfl⟩,(ST _ fun b h=>h).self 0 _ _ _ z0 ?_⟩;have exz:Ext s.heap (Ty h₂ (tx x) (tx y) t u):=ext2.trans (T3 _ _ _ _ _);have frw:∀b∈[(Sj h₂ (tx x) (tx y) t u).objs.size,(Si h₂ (tx x) (tx y) t u).objs.size,h₂.objs.size,(Sh h₂ (tx x) t).objs.size],s.heap.get? b=none:=fun b hb=>by
  refine fr b ?_;simp only[mem_cons,not_mem_nil,or_false] at hb;rcases hb with rfl|rfl|rfl|rfl
  ·show(_:Nat)≤_;lia
  ·show(_:Nat)≤_;lia
  ·exact le_refl _
  ·show(_:Nat)≤_;lia
 refine⟨_,_,_,_,_,_,vis s.heap zy,rfl,rfl,exz,ST,z0,frw,fun b hb=>?_,DQ exz frw⟩;have hlo:h₂.objs.size≤b∧b<(Ty h₂ (tx x) (tx y) t u).objs.size:=by
  simp only[mem_cons,not_mem_nil,or_false] at hb;rcases hb with rfl|rfl|rfl|rfl|rfl<;> constructor<;> first|exact le_refl _|(show(_:Nat)≤_;lia)|(show(_:Nat)<_;lia)
 refine⟨hlo.2,fun m=>?_⟩;refine ex1 (F.alive b m) fun oo e=>?_;rw[fr b hlo.1] at e;exact CE e
def M1(A:Around)(s:Shared)(x y:Value)(b:Bool):Prop:=
 ∀(V:Program) (w:World) (E:Value->Shared->Prop) (Q:Value->Shared->Prop),Q (.bool b) s->wpAny (model V w) A (richCompare .Lt x y) Q E s
theorem Qj{A:Around}{s:Shared}(a b:Int)(t u:Tok):M1 A s (.int a t) (.int b u) (decide (a<b)):=fun V w E Q h=>
 richCompare_gives (op:=.Lt) (typeIs_int s _ t) (typeIs_int s _ u) PySem.F.slot_int_lt PySem.F.entry_int_lt (PySem.F.args_int_lt_2 _ _) (gives_int_lt _ _ t u) (fun x=>GR Value.ctorIdx x rfl) h
theorem Qk{A:Around}{s:Shared}(x y:Str)(t u:Tok):M1 A s (.str x t) (.str y u) (decide (x.cps.toList<y.cps.toList)):=fun V w E Q h=>
 richCompare_gives (op:=.Lt) (typeIs_str s _ t) (typeIs_str s _ u) PySem.F.slot_str_lt PySem.F.entry_str_lt (PySem.F.args_str_lt_2 _ _) (gives_str_lt _ _ t u) (fun x=>GR Value.ctorIdx x rfl) h
def Tz(A:Around)(s:Shared)(xs ys:Array Value)(i:Nat)(b:Bool):Prop:=
 ∃d,i≤d∧(∀j,i≤j->j<d->∃u v,xs[j]? =some u∧ys[j]? =some v∧SeqAt.EqAt A s u v true)∧
  ((∃u v,xs[d]? =some u∧ys[d]? =some v∧SeqAt.EqAt A s u v false∧M1 A s u v b)∨((xs[d]? =none∨ys[d]? =none)∧b=decide (xs.size<ys.size)))
theorem Sk(l b:Addr)(xs ys:Array Value)(n n2:Nat)(dd dd2:Option Addr)(sl sl2:Array (Option Value))(r:Bool)(k:Nat):
  ∀i:Nat,xs.size - i=k->Meets (Builtin.«list.__eq__.loop» ⟨[.ref l,.ref b,rawInt i,rawInt 0],[]⟩)
   (fun A R s=>s.heap.get? l=some {cls:=.type "list",dict:=dd,data:=.seq xs n,slots:=sl}∧s.heap.get? b=some {cls:=.type "list",dict:=dd2,data:=.seq ys n2,slots:=sl2}∧
    Tz A.in1 s xs ys i r∧R (.ok (.ret (.bool r))) s):=by
 induction k using Nat.strongRecOn with
 |ind k ih=>
  intro i hk V w A R s h;refine JX h fun hl hb x3 x4=>?_;revert x4;intro h;rcases x3 with ⟨d,zy,hsame,hd⟩;show wpAny _ _ (PySem.Builtin.List.listItems (.ref l) >>=_) _ _ _;refine Ac (PySem.wpAny_listItems hl rfl ?_);show wpAny _ _ (PySem.Builtin.List.listItems (.ref b) >>=_) _ _ _;refine Ac (PySem.wpAny_listItems hb rfl ?_);simp -iota only[Int.toNat_natCast]
  by_cases hlt:i<d
  ·refine Bh (hsame i (le_refl _) hlt) fun u v e1 e2 eq=>?_
   (refine e1.symm▸ ?_;refine e2.symm▸ ?_)
   refine Ac (eq V w _ _ ?_);simp -iota only[if_true];have hi:i<xs.size:=(Array.getElem?_eq_some_iff.mp e1).1;refine Ag ⟨plainId_quiet MeetsSeq3.plain_eq_loop _,codeAny_builtin MeetsSeq3.entry_eq_loop (by
    rw[Around.under_plainId MeetsSeq3.plain_eq_loop _];exact ih (xs.size - (i+1)) (Vk hk hi) (i+1) rfl V w A R _ ⟨hl,hb,⟨d,hlt,fun j h1 h2=>hsame j (le_of_lt h1) h2,hd⟩,h⟩)⟩
  ·have hi:i=d:=R5 zy hlt
   subst hi;rcases hd with ⟨u,v,e1,e2,eq,lt⟩|⟨hn,hr⟩
   ·(refine e1.symm▸ ?_;refine e2.symm▸ ?_)
    refine Ac (eq V w _ _ ?_);simp -iota only[Bool.false_eq_true,if_false];refine Ac (PySem.wpAny_listItems hl rfl (Ac (PySem.wpAny_listItems hb rfl ?_)));simp only[e1,e2];exact Ac (lt V w _ _ (Ag h))
   ·have fin:wpAny (model V w) A.in1 (do let a ←PySem.Builtin.List.listItems (.ref l);let c ←PySem.Builtin.List.listItems (.ref b);ret (.bool (decide (a.size<c.size)))) (fun fin s'=>match fin with|.done f=>R (.ok f) s'|.again c'=>c'.quiet=true∧codeAny (model V w) A c' R s') (fun e s'=>R (.error e) s') s:=
     Ac (PySem.wpAny_listItems hl rfl (Ac (PySem.wpAny_listItems hb rfl (Ag (by(refine(hr)▸ ?_);exact h)))))
    rcases hn with e|e
    ·(refine e.symm▸ ?_);exact fin
    ·(refine e.symm▸ ?_)
     cases xs[i]?<;> exact fin
theorem J1(l b:Addr)(xs ys:Array Value)(n n2:Nat)(dd dd2:Option Addr)(sl sl2:Array (Option Value))(r:Bool):
  Meets (Builtin.«list.__lt__» ⟨[.ref l,.ref b],[]⟩)
   (fun A R s=>s.heap.get? l=some {cls:=.type "list",dict:=dd,data:=.seq xs n,slots:=sl}∧s.heap.get? b=some {cls:=.type "list",dict:=dd2,data:=.seq ys n2,slots:=sl2}∧
    Tz A.in1 s xs ys 0 r∧R (.ok (.ret (.bool r))) s):=by
 intro V w A R s h;refine JX h fun hl hb hd x4=>?_;revert x4;intro h;show wpAny _ _ (isInstance (.ref b) (.type "list") >>=_) _ _ _;refine Ac (wpAny_isInstance (T:="list") (b:=true) ⟨_,hb,rfl⟩ AutoSeq1.sub_list_list ?_);refine Ag ⟨plainId_quiet MeetsSeq3.plain_eq_loop _,codeAny_builtin MeetsSeq3.entry_eq_loop (by
  rw[Around.under_plainId MeetsSeq3.plain_eq_loop _];exact Sk l b xs ys n n2 dd dd2 sl sl2 r _ 0 rfl V w A R _ ⟨hl,hb,hd,h⟩)⟩
def LtD(m:Nat)(x y:PyData)(b:Bool):Prop:=∀(A:Around) (s:Shared) u v,A.units+m<cLine->Rd x s.heap u->Rd y s.heap v->M1 A s u v b
theorem Od{m:Nat}(a b:Int):LtD m (.int a) (.int b) (decide (a<b)):=fun A s u v Z ru rv=>by
 refine ex1 (Ax ru) fun t x2=>?_;subst x2;refine ex1 (Ax rv) fun t' x2=>?_;subst x2;exact Qj a b t t'
theorem Sl{m:Nat}(a b:Str):LtD m (.str a) (.str b) (decide (a.cps.toList<b.cps.toList)):=fun A s u v Z ru rv=>by
 refine ex1 (AR ru) fun t x2=>?_;subst x2;refine ex1 (AR rv) fun t' x2=>?_;subst x2;exact Qk a b t t'
inductive Lex(m:Nat):List PyData->List PyData->Bool->Prop
 |nilL {ys:List PyData}:Lex m [] ys (decide (0<ys.length))
 |nilR {x:PyData} {xs:List PyData}:Lex m (x::xs) [] false
 |same {x y:PyData} {xs ys:List PyData} {b:Bool} (hx:Cp x=true) (hy:Cp y=true) (h:PySem.Spec.same x y=true) (r:Lex m xs ys b):Lex m (x::xs) (y::ys) b
 |diff {x y:PyData} {xs ys:List PyData} {b:Bool} (hx:Cp x=true) (hy:Cp y=true) (h:PySem.Spec.same x y=false) (r:LtD m x y b):Lex m (x::xs) (y::ys) b
theorem Kp{A:Around}{s:Shared}{x y:PyData}{u v:Value}(hx:Cp x=true)(hy:Cp y=true)(hu:A.units+100<cLine)(ru:Rd x s.heap u)(rv:Rd y s.heap v):SeqAt.EqAt A s u v (PySem.Spec.same x y):=by
 refine ex1 ru fun as x2=>?_;revert x2;intro ru;refine ex1 rv fun bs x2=>?_;revert x2;intro rv;intro V w E Q hQ;refine SeqAt.eqBoolOverData V w A E s u v x y as bs Q ru rv (Eg _ (Bj hx)) (Eg _ (Bj hy)) ?_ (by rw[Hk (Bj hx) (Bj hy)];exact hQ);have h1:x.depth≤64:=by rw[Cp,Bool.and_eq_true] at hx;exact of_decide_eq_true hx.2
 exact lt_of_le_of_lt (add_le_add_left (le_trans (Nat.min_le_left _ _) (le_trans h1 (by decide))) _) hu
theorem Ql{m:Nat}{A:Around}{s:Shared}(hu:A.units+100<cLine)(hm:A.units+m<cLine){xs ys:List PyData}{b:Bool}(L:Lex m xs ys b):∀{vs ws:List Value},F2 (fun v d=>Rd d s.heap v) vs xs->F2 (fun v d=>Rd d s.heap v) ws ys->
  ∃d:Nat,(∀j:Nat,j<d->∃u v,vs[j]? =some u∧ws[j]? =some v∧SeqAt.EqAt A s u v true)∧
   ((∃u v,vs[d]? =some u∧ws[d]? =some v∧SeqAt.EqAt A s u v false∧M1 A s u v b)∨((vs[d]? =none∨ws[d]? =none)∧b=decide (vs.length<ws.length))):=by
 induction L with
 |nilL=>
  intro vs ws f1 f2;cases f1;exact⟨0,fun j h=>by exact(nomatch h),.inr ⟨.inl rfl,by rw[f2.length];rfl⟩⟩
 |nilR=>
  intro vs ws f1 f2;cases f2;exact⟨0,fun j h=>by exact(nomatch h),.inr ⟨.inr rfl,by exact rfl⟩⟩
 |same hx hy h r ih=>
  intro vs ws f1 f2;cases f1 with
  |cons r1 f1=>
  cases f2 with
  |cons r2 f2=>
  refine Ad (ih f1 f2) fun d h1 h2=>?_;refine⟨d+1,fun j hj=>?_,?_⟩
  ·cases j with
   |zero=>exact⟨_,_,rfl,rfl,by have:=Kp hx hy hu r1 r2;rwa [h] at this⟩
   |succ j=>simpa using h1 j (Nat.lt_of_succ_lt_succ ‹_›)
  ·simpa using h2
 |diff hx hy h r=>
  intro vs ws f1 f2;cases f1 with
  |cons r1 f1=>
  cases f2 with
  |cons r2 f2=>
  exact⟨0,fun j h=>by exact(nomatch h),.inl ⟨_,_,rfl,rfl,by have:=Kp hx hy hu r1 r2;rwa [h] at this,r A s _ _ hm r1 r2⟩⟩
theorem LV{m:Nat}{xs ys:List PyData}{b:Bool}(L:Lex m xs ys b)(h100:100≤m):LtD (m+2) (.list xs) (.list ys) b:=fun A s u v hu ru rv=>by
 refine Bh (CG ru) fun l vs x3 x4 f=>?_;subst x3;rcases x4 with ⟨⟨cls,dd,data,sl⟩,ho,hc,k,hd⟩;refine Bh (CG rv) fun l2 ws x3 x4 f2=>?_;subst x3;rcases x4 with ⟨⟨RZ,dd2,data2,sl2⟩,ho2,hc2,k2,hd2⟩;simp only at hc hd hc2 hd2;subst hc hd hc2 hd2;have hin:A.in1.units=A.units+1:=rfl;intro V w E Q hQ;refine richCompare_meets_room ⟨_,ho,rfl⟩ ⟨_,ho2,rfl⟩ PySem.F.slot_list_lt PySem.F.entry_list_lt (PySem.F.args_list_lt_2 _ _) (J1 l l2 _ _ k k2 dd dd2 sl sl2 b) ⟨ho,ho2,?_,?_⟩ (by lia)
 ·refine Ad (Ql (A:=A.in1) (s:=s) (by lia) (by lia) L f f2) fun d h1 h2=>?_
  exact⟨d,zero_le _,fun j Z hj=>by simpa using h1 j hj,by simpa using h2⟩
 ·exact⟨(fun q=>by exact nomatch q),hQ⟩
section
variable{V:Program}{w:World}{A:Around}{R:Result->Shared->Prop}{I S:Addr}{fp wr:List Addr}{N:Nat}{P:Nat->Value->Prop}{St:Nat->Heap->Prop}{bt:Nat->Nat->Bool}{h0:Heap}
noncomputable def Qm (v:Value) (c:Nat):Obj:={cls:=.type "list",dict:=none,data:=.seq #[v,v] c,slots:=#[]}
theorem OU(W:Walks V w A.in1 I fp wr N P St)(hcmp:∀i j u v (s:Shared),P i u->P j v->Ext h0 s.heap->M1 A.in1 s u v (bt i j))(hSf:S∉fp)(hS0:h0.get? S=none)(hw0:∀b∈wr,h0.get? b=none):
  ∀(k j:Nat) (s:Shared) (u:Value) (c:Nat),N - (j+1)=k->j+1≤N->St (j+1) s.heap->P (argBest bt j) u->s.heap.get? S=some (Qm u c)->Ext h0 s.heap->
   (∀v h' tk,P (argBest bt (N - 1)) v->Ext h0 h'->R (.ok (.ret v)) {s with heap:=h',toks:=tk})->codeAny (model V w) A (.builtin "min.loop" ⟨[.ref I,.none,.ref S],[]⟩) R s:=by
 have hSw:S∉wr:=fun h=>hSf (W.sub _ h);have keepE:∀{h h':Heap},Ext h0 h->KeepBut wr h h'->Ext h0 h':=fun e k b o q=>k b o (fun m=>by rw[hw0 b m] at q;exact CE q) (e b o q);have upE:∀{h:Heap} {f:Obj->Obj},Ext h0 h->Ext h0 (h.update S f):=fun e b o q=>(Heap.get?_update_other _ _ (fun m:S=b=>by rw[←m,hS0] at q;exact CE q)).trans (e b o q);intro k
 induction k with
 |zero=>
  intro j s u c hk hj st pu hS ex hR;have hN:j+1=N:=le_antisymm hj (Nat.le_of_sub_eq_zero hk);refine codeAny_builtin PySem.F.entry_min_loop ?_;rw[Around.under_plainId PySem.F.plain_min_loop _];show wpAny _ A.in1 (seqItems? (.ref S) >>=_) _ _ s;refine Ac (wpAny_seqItems hS rfl ?_);show wpAny _ A.in1 (tryCatch (pyNext (.ref I)) _ >>=_) _ _ s;refine Ac (wpAny_tryCatch (W.done s _ _ (hN▸st) fun h' tk kb=>?_));have hS':h'.get? S=some (Qm u c):=kb S _ hSw hS;show wpAny _ A.in1 (updateSeq S (fun Z=>#[]) >>=_) _ _ _;refine Ac (wpAny_updateSeq hS' rfl (Ac (wpAny_letGo (Ag ?_))));exact hR u _ tk (by(refine(hN)▸ ?_);exact pu) (upE (keepE ex kb))
 |succ k ih=>
  intro j s u c hk hj st pu hS ex hR;have hlt:j+1<N:=Nat.lt_of_sub_eq_succ hk;refine codeAny_builtin PySem.F.entry_min_loop ?_;rw[Around.under_plainId PySem.F.plain_min_loop _];show wpAny _ A.in1 (seqItems? (.ref S) >>=_) _ _ s;refine Ac (wpAny_seqItems hS rfl ?_);show wpAny _ A.in1 (tryCatch (pyNext (.ref I)) _ >>=_) _ _ s;refine Ac (wpAny_tryCatch (W.item (j+1) s _ _ hlt st fun v h' tk pv st' kb=>?_));have hS':h'.get? S=some (Qm u c):=kb S _ hSw hS;have ex':Ext h0 h':=keepE ex kb;show wpAny _ A.in1 (tryCatch (holding [v,v] (richCompare .Lt v u >>=_)) _ >>=_) _ _ _;refine Ac (wpAny_tryCatch (wpAny_holding (Ac (hcmp (j+1) (argBest bt j) v u {s with heap:=h',toks:=tk} pv pu ex' V w _ _ ?_))));refine Ac (wpAny_holding (wpAny_truthy_bool ?_));refine Ac (wpAny_letGo (Ag ?_));cases hb:bt (j+1) (argBest bt j) with
  |true=>
   simp -iota only[if_true];refine Ac (wpAny_updateSeq hS' rfl (Ac (wpAny_letGo ?_)));refine Ag ⟨plainId_quiet PySem.F.plain_min_loop _,ih (j+1) _ v c (congrArg pred hk) hlt (W.frame _ h' _ st' fun b hbf o e=>?_) (by simp only[argBest,hb,if_true];exact pv) (Heap.get?_update_self _ hS' rfl) (upE ex')
    fun v' h'' tk' pv' ex''=>hR v' h'' tk' pv' ex''⟩
   exact(Heap.get?_update_other _ _ (fun h:S=b=>hSf (by rw[h];exact hbf))).trans e
  |false=>
   simp -iota only[Bool.false_eq_true,if_false];refine Ac (wpAny_letGo ?_);exact Ag ⟨plainId_quiet PySem.F.plain_min_loop _,ih (j+1) _ u c (congrArg pred hk) hlt st' (by simp only[argBest,hb,Bool.false_eq_true,if_false];exact pu) hS' ex' fun v' h'' tk' pv' ex''=>hR v' h'' tk' pv' ex''⟩
theorem OV(W:Walks V w A.in1 I fp wr N P St)(hcmp:∀i j u v (s:Shared),P i u->P j v->Ext h0 s.heap->M1 A.in1 s u v (bt i j))(hSf:S∉fp)(hS0:h0.get? S=none)(hw0:∀b∈wr,h0.get? b=none)(hN:0<N)
  {s:Shared}{c:Nat}(st:St 0 s.heap)(hS:s.heap.get? S=some {cls:=.type "list",dict:=none,data:=.seq #[] c,slots:=#[]})(ex:Ext h0 s.heap)
  (hR:∀v h' tk,P (argBest bt (N - 1)) v->Ext h0 h'->R (.ok (.ret v)) {s with heap:=h',toks:=tk}):codeAny (model V w) A (.builtin "min.loop" ⟨[.ref I,.none,.ref S],[]⟩) R s:=by
 have hSw:S∉wr:=fun h=>hSf (W.sub _ h);refine codeAny_builtin PySem.F.entry_min_loop ?_;rw[Around.under_plainId PySem.F.plain_min_loop _];show wpAny _ A.in1 (seqItems? (.ref S) >>=_) _ _ s;refine Ac (wpAny_seqItems hS rfl ?_);show wpAny _ A.in1 (tryCatch (pyNext (.ref I)) _ >>=_) _ _ s;refine Ac (wpAny_tryCatch (W.item 0 s _ _ hN st fun v h' tk pv st' kb=>?_));have hS':=kb S _ hSw hS;show wpAny _ A.in1 (updateSeq S (fun Z=>#[v,v]) >>=_) _ _ _;refine Ac (wpAny_updateSeq hS' rfl ?_);have ex':Ext h0 h':=fun b o q=>kb b o (fun m=>by rw[hw0 b m] at q;exact CE q) (ex b o q);refine Ag ⟨plainId_quiet PySem.F.plain_min_loop _,OU W hcmp hSf hS0 hw0 _ 0 _ v _ rfl hN (W.frame _ h' _ st' fun b hbf o e=>?_) pv (Heap.get?_update_self _ hS' rfl) (fun b o q=>?_) fun v' h'' tk' pv' ex''=>hR v' h'' tk' pv' ex''⟩
 ·exact(Heap.get?_update_other _ _ (fun h:S=b=>hSf (by rw[h];exact hbf))).trans e
 ·exact(Heap.get?_update_other _ _ (fun m:S=b=>by rw[←m,hS0] at q;exact CE q)).trans (ex' b o q)
end
theorem T5{ds:List PyData}{bt:Nat->Nat->Bool}{d:PyData}(hn:0<ds.length)(hlt:∀i j x y,ds[i]? =some x->ds[j]? =some y->LtD 150 x y (bt i j))(hd:ds[argBest bt (ds.length - 1)]? =some d):
  FnP V w H0 (n+1) (.builtin "min") [.d (.list ds)] (Rd d):=by
 intro A s zy vs g B hm;obtain⟨v,rfl,m⟩:=C7 hm;refine call_function_tree PySem.F.kind_min PySem.F.plain_min PySem.F.entry_min (PySem.F.args_min1 _) ?_;show wpAny _ A.in1 (Builtin.Builtins.bindParams "min" ["key","default"] 0 ⟨[],[]⟩ >>=_) _ _ s;refine Ac (wpAny_of_eq (show Builtin.Builtins.bindParams "min" ["key","default"] 0 ⟨[],[]⟩=pure [none,none] from rfl) ?_);refine Ac (Ag ?_);refine Ac (Ah (BG (V:=V) (w:=w) (H0:=H0) (n:=n) A.in1 s zy v g.in1 B m) (fun it s2 q=>?_) fun Z Z f=>f.elim);obtain⟨I,fp,wr,St,h2,t2,rfl,rfl,ex2,SS,st0,fresh,fps⟩:=q;refine Ac (wpAny_newObj_type ?_);have hSf:h2.objs.size∉fp:=fun hm=>let⟨_,q⟩:=(fps _ hm).1;lt_irrefl _ (Heap.lt_size q);refine Ag ⟨plainId_quiet PySem.F.plain_min_loop _,OV (bt:=bt) (h0:=s.heap) (N:=ds.length) (by have:=SS.walk;rwa [length_map] at this) (fun i j u v s' pu pv ex=>?_) hSf ?_ fresh hn (SS.walk.frame _ _ _ st0 fun b Z o e=>Heap.get?_push_of_some _ e) (Heap.get?_push_size _ rfl) (fun b o e=>Heap.get?_push_of_some _ (ex2 b o e)) fun v h' tk pv ex=>?_⟩
 ·refine Ad pu fun e1 a1 b1=>?_
  refine Ad pv fun e2 a2 b2=>?_;rw[getElem?_map] at a1 a2;cases c1:ds[i]? with
  |none=>rw[c1] at a1;exact CE a1
  |some x=>
  cases c2:ds[j]? with
  |none=>rw[c2] at a2;exact CE a2
  |some y=>
  rw[c1] at a1;rw[c2] at a2;cases a1;cases a2;exact hlt i j x y c1 c2 A.in1 s' u v (by rw[show A.in1.units+150=A.units+(1+150) from add_assoc _ _ _];exact g.units (by decide)) (Rd.ext b1 fun b o e=>ex b o (Al e).1) (Rd.ext b2 fun b o e=>ex b o (Al e).1)
 ·cases q:s.heap.get? h2.objs.size with
  |none=>rfl
  |some o=>exact absurd (Heap.lt_size (ex2 _ _ q)) (lt_irrefl _)
 ·refine Ad pv fun e1 a1 b1=>?_
  rw[getElem?_map,hd] at a1;cases a1;exact⟨h',tk,rfl,ex,b1.ext (AK zy ex)⟩
theorem Oe(hg:GIs H0 "min" (.builtin "min")){ds:List PyData}{bt:Nat->Nat->Bool}{d:PyData}(hn:0<ds.length)(hlt:∀i j x y,ds[i]? =some x->ds[j]? =some y->LtD 150 x y (bt i j))(hd:ds[argBest bt (ds.length - 1)]? =some d):
  Has V w H0 "min" (n+1) [.d (.list ds)] (Rd d):=⟨_,hg,Be,T5 hn hlt hd⟩
theorem LW(ks:List Int)(val:Nat->Int)(h:∀i k,ks[i]? =some k->val i=k)(m:Nat)(hm:m≤ks.length):preSum val m=(ks.take m).sum:=by
 induction m with
 |zero=>rfl
 |succ m ih=>rw[preSum,ih (le_of_lt hm),List.take_succ_eq_append_getElem hm,sum_append,h m _ (getElem?_eq_getElem hm),sum_cons,sum_nil,Int.add_zero]
theorem T6{ks:List Int}:FnP V w H0 (n+1) (.builtin "sum") [.d (.list (ks.map .int))] (Rd (.int ks.sum)):=by
 revert ks;revert V w H0 n;refine no_implicit_lambda% (JZ (by exact((default,w0),default)) ?_);generalize Iq _ _=t9;generalize t9.1.1=V,t9.1.2=w,t9.2.1=H0,t9.2.2=n;refine no_implicit_lambda% (Io (default) ?_);generalize HR _ _=ks;intro A s zy vs g B hm;obtain⟨v,rfl,m⟩:=C7 hm;refine call_sum_walkG (Ah (BG (V:=V) (w:=w) (H0:=H0) (n:=n) A.in1 s zy v g.in1 B m) (fun it s2 q=>?_) fun Z Z f=>f.elim);obtain⟨I,fp,wr,St,h2,t2,rfl,rfl,ex2,SS,st0,fresh,fps⟩:=q;refine⟨I,fp,wr,ks.length,_,St,fun i=>(ks[i]?).getD 0,rfl,by have:=SS.walk;rwa [length_map,length_map] at this,st0,fun b hb=>let⟨_,q⟩:=(fps b hb).1;Heap.lt_size q,fun i v p=>?_,fun h' tk t' kb=>?_⟩
 ·refine Ad p fun e a b=>?_
  rw[getElem?_map,getElem?_map] at a;cases c:ks[i]? with
  |none=>rw[c] at a;exact CE a
  |some k=>
   rw[c] at a;cases a;refine ex1 (Ax b) fun t x2=>?_;subst x2;exact⟨t,by simp[c]⟩
 ·have ex:Ext s.heap h':=fun b o e=>kb b o (fun m=>by rw[fresh b m] at e;exact CE e) (ex2 b o e)
  rw[LW ks _ (fun i k h=>by rw[h];rfl) _ (le_refl _),take_length];exact⟨h',tk,rfl,ex,BN _ _ _⟩
theorem IT(hg:GIs H0 "sum" (.builtin "sum")){ks:List Int}:Has V w H0 "sum" (n+1) [.d (.list (ks.map .int))] (Rd (.int ks.sum)):=⟨_,hg,Be,T6⟩
theorem EW{value:Expr}{pa pos:Pos}{x:Str}(hv:Am V w H0 n sc σ zx value (.d (.str x)))(hfit:Builtin.Str.tooLong (Txt.lower x).length=false)(hbase:∀zz,attributeBase value "lower" zz (eval value zz)=eval value zz)(hline:(pa.endLine==pos.line)=true):
  Am V w H0 n sc σ zx (.Call (.Attribute value "lower" pa) [] [] pos) (.d (.str (Txt.lower x))):=by
 intro A zz s zy g o F;refine Call_method0 (hbase _) hline (Aq (hv A zz s zy g o F) fun v s₁ q=>?_);refine ex1 (AR q.val) fun t x2=>?_;subst x2;exact SB.lower hfit (q.trans (Pu.tok (BO _ _ _)))
def AB(c:Nat):Prop:=c=97∨c=65∨c=98
noncomputable def Qn (c:Nat):Nat:=if c==65 then 97 else c
noncomputable def Cd (a b:Nat):Int:=if a==b then 0 else if Qn a==Qn b then 1 else 2
noncomputable def Sm (ps:List Int):Int:=(ps[argBest (fun i j=>decide ((ps[i]?).getD 0<(ps[j]?).getD 0)) (ps.length - 1)]?).getD 0
noncomputable def CK (one two:List Nat):List (Nat×Nat):=
 if one.length<two.length then one.flatMap fun a=>two.map fun b=>(a,b) else if two.length<one.length then two.flatMap fun a=>one.map fun b=>(a,b) else one.zip two
noncomputable def Dp (one two:List Nat):Int:=
 let ps:=(CK one two).map fun p=>Cd p.1 p.2
 if one.length<two.length∨two.length<one.length then 2+Sm ps else ps.sum
noncomputable def CU (ps:List (Nat×Nat)):PyData:=.list (ps.map fun p=>.list [.str (sg p.1),.str (sg p.2)])
theorem Hx{c:Nat}(h:AB c):Txt.lower (sg c)=sg (Qn c)∧Builtin.Str.tooLong (Txt.lower (sg c)).length=false:=by
 rcases h with rfl|rfl|rfl<;> constructor<;> decide +kernel
theorem OW{c:Nat}(h:AB c):c<128:=by rcases h with rfl|rfl|rfl<;> decide
theorem Dq{l:List Nat}(h:∀c∈l,AB c):EK l:=fun c hc=>OW (h c hc)
theorem C8{l:List Nat}:(tx l).length=l.length:=by exact rfl
theorem Kq{l:List Nat}:G1 (tx l)=l.map fun c=>.str (sg c):=by exact rfl
theorem Eo(bt:Nat->Nat->Bool):∀m,argBest bt m≤m:=by
 intro m
 induction m with
 |zero=>
  exact le_refl _
 |succ m Eo=>
  rw[argBest];split
  ·exact le_refl _
  ·exact le_succ_of_le (Eo)
theorem Qo(hg:GIs H0 "min" (.builtin "min")){ps:List Int}(hn:0<ps.length):CB V w H0 "min" (n+1) [.list (ps.map .int)] (.int (Sm ps)):=by
 refine Oe hg (bt:=fun i j=>decide ((ps[i]?).getD 0<(ps[j]?).getD 0)) (by rwa [length_map]) (fun i j x y h1 h2=>?_) ?_
 ·rw[getElem?_map] at h1 h2
  cases c1:ps[i]? with
  |none=>rw[c1] at h1;exact CE h1
  |some k1=>
  cases c2:ps[j]? with
  |none=>rw[c2] at h2;exact CE h2
  |some k2=>
  rw[c1] at h1;rw[c2] at h2;cases h1;cases h2;exact Od k1 k2
 ·rw[length_map,getElem?_map]
  have hlt:argBest (fun i j=>decide ((ps[i]?).getD 0<(ps[j]?).getD 0)) (ps.length - 1)<ps.length:=by
   have:=Eo (fun i j=>decide ((ps[i]?).getD 0<(ps[j]?).getD 0)) (ps.length - 1);exact Nat.lt_of_le_pred ‹_› this
  (refine(getElem?_eq_getElem hlt).symm▸ ?_;rewrite [Sm];refine(getElem?_eq_getElem hlt).symm▸ ?_)
  rfl
theorem Bb(hlen:GIs H0 "len" (.builtin "len")){l:List Nat}{e:Expr}{p pos:Pos}(hz:l.length≤1000)(h:Am V w H0 n sc σ zx e (.d (.str (tx l))))(hgl:BA sc "len"=true)(hb:∀zz,backTo pos (starEach [e] zz)=[(false,eval e zz)]):
  Am V w H0 n sc σ zx (.Call (.Name "len" p) [e] [] pos) (.d (.int l.length)):=by
 have:=AT (pos:=pos) (p:=p) (Ix (V:=V) (w:=w) (n:=n) hlen (x:=tx l) (Ai (by rw[C8];exact le_trans hz (by decide)))) (le_refl _) hgl (Bk h hb) (fun zz=>by rw[hb];rfl);rwa [C8] at this
theorem Jr{α:Type}{l:List α}(z:l.length≤2)(p:1≤l.length):(∃a,l=[a])∨∃a b,l=[a,b]:=by
 rcases lt_or_ge l.length 2 with q|q
 ·exact .inl (length_eq_one_iff.mp (by lia))
 ·exact .inr (J9 (le_antisymm z q))
theorem OX{α β:Type}{short:List α}{long:List β}(zs:short.length≤2)(zl:long.length≤2):(short.map fun Z=>long.length).sum≤4:=by
 rw[List.map_const',List.sum_replicate_nat];exact Nat.mul_le_mul zs zl
theorem LX{one two:List Nat}(z1:one.length≤2)(z2:two.length≤2)(p1:1≤one.length)(p2:1≤two.length):(CK one two).length≤4∧1≤(CK one two).length:=by
 rcases Jr z1 p1 with ⟨a,rfl⟩|⟨a,b,rfl⟩<;> rcases Jr z2 p2 with ⟨c,rfl⟩|⟨c,d,rfl⟩<;> exact⟨Nat.le_of_ble_eq_true rfl,Nat.le_of_ble_eq_true rfl⟩
theorem M2(hlen:GIs H0 "len" (.builtin "len"))(hmin:GIs H0 "min" (.builtin "min"))(hsum:GIs H0 "sum" (.builtin "sum"))(hzip:GIs H0 "zip" (.type "zip")){one two:List Nat}
  (h1:∀c∈one,AB c)(h2:∀c∈two,AB c)(z1:one.length≤2)(z2:two.length≤2)(p1:1≤one.length)(p2:1≤two.length):
  II V w H0 (n+1) (Ap (B7 26)) [(S "one",.d (.str (tx one))),(S "two",.d (.str (tx two)))] [] (AD (B7 26)) (.ret (.d (.int (Dp one two)))):=by
 revert hlen hmin hsum hzip h1 h2 z1 z2 p1 p2;revert one two;revert V w H0 n;refine no_implicit_lambda% (JZ (by exact((default,w0),default)) ?_);generalize Iq _ _=t9;generalize t9.1.1=V,t9.1.2=w,t9.2.1=H0,t9.2.2=n;refine no_implicit_lambda% (I8 (by exact default) ?_);generalize Ip _ _=t9;generalize t9.1=one,t9.2=two;intro hlen hmin hsum hzip h1 h2 z1 z2 p1 p2;generalize hs:(if one.length<two.length then one else two)=short;generalize hg:(if one.length<two.length then two else one)=long;have hsl:∀c∈short,AB c:=by(refine(hs)▸ ?_);split<;> assumption
 have hll:∀c∈long,AB c:=by(refine(hg)▸ ?_);split<;> assumption
 have zs:short.length≤2:=by(refine(hs)▸ ?_);split<;> assumption
 have zl:long.length≤2:=by(refine(hg)▸ ?_);split<;> assumption
 have cast:∀a b:Nat,decide ((a:Int)<b)=decide (a<b):=fun a b=>by simp
 refine Bn (σ':=[(S "long",.d (.str (tx long))),(S "short",.d (.str (tx short)))]++[(S "one",.d (.str (tx one))),(S "two",.d (.str (tx two)))])
  (Av (x:=.d (.tuple [.str (tx short),.str (tx long)])) (bs:=[(S "long",.d (.str (tx long))),(S "short",.d (.str (tx short)))]) ?_ (DZ (b1:=[(S "short",.d (.str (tx short)))]) (b2:=[(S "long",.d (.str (tx long)))]) C9 (Af (Ab rfl)) (Af (Ab rfl)) fun Z=>rfl) (fun Z Z=>rfl) (fun Z Z=>rfl) fun Z=>rfl) ?_
 ·have e:PyData.tuple [.str (tx short),.str (tx long)]=if decide ((one.length:Int)<two.length) then PyData.tuple [.str (tx one),.str (tx two)] else PyData.tuple [.str (tx two),.str (tx one)]:=by
   (refine(hs)▸ ?_;refine(hg)▸ ?_;rewrite [cast])
   by_cases q:one.length<two.length<;> simp[q]
  rw[e];refine EH (Ar (Bb hlen (le_trans z1 (by decide)) (Aa rfl rfl) rfl fun Z=>rfl) (Bb hlen (le_trans z2 (by decide)) (Aa rfl rfl) rfl fun Z=>rfl) Ei rfl) (fun Z=>?_) fun Z=>?_
  ·exact DR (ds:=[.str _,.str _]) (Bo (Aa rfl rfl) (Aa rfl rfl) (fun Z=>rfl) fun Z=>rfl) (Ai (by simp))
  ·exact DR (ds:=[.str _,.str _]) (Bo (Aa rfl rfl) (Aa rfl rfl) (fun Z=>rfl) fun Z=>rfl) (Ai (by simp))
 generalize hσ:([(S "long",.d (.str (tx long))),(S "short",.d (.str (tx short)))]++[(S "one",.d (.str (tx one))),(S "two",.d (.str (tx two)))]:AN)=σ;have vl:∀pos,Am V w H0 (n+1) (Ap (B7 26)) σ [] (.Name "long" pos) (.d (.str (tx long))):=fun pos=>by subst hσ;exact Aa rfl rfl
 have vs:∀pos,Am V w H0 (n+1) (Ap (B7 26)) σ [] (.Name "short" pos) (.d (.str (tx short))):=fun pos=>by subst hσ;exact Aa rfl rfl
 refine Bn (σ':=[(S "letters",.d (CU (CK one two)))]++σ) (Av (x:=.d (CU (CK one two))) ?_ (Af (Ab rfl)) (fun Z Z=>rfl) (fun Z Z=>rfl) fun Z=>rfl) ?_
 ·have e:CU (CK one two)=if decide ((short.length:Int)<long.length) then CU (short.flatMap fun a=>long.map fun b=>(a,b)) else CU (one.zip two):=by
   (refine(hs)▸ ?_;refine(hg)▸ ?_;rewrite [cast,CK])
   by_cases q:one.length<two.length
   ·simp[q]
   ·by_cases q':two.length<one.length<;> simp[q,q']
  rw[e];refine EH (Ar (Bb hlen (le_trans zs (by decide)) (vs _) rfl fun Z=>rfl) (Bb hlen (le_trans zl (by decide)) (vl _) rfl fun Z=>rfl) Ei rfl) (fun Z=>?_) fun q=>?_
  ·have e2:CU (short.flatMap fun a=>long.map fun b=>(a,b))=.list (short.flatMap fun a=>long.filterMap fun b=>some (.list [.str (sg a),.str (sg b)])):=by
    unfold CU;rw[List.map_flatMap]
    congr 2
    funext a
    rw[filterMap_eq_map',map_map];rfl
   rw[e2];refine TX (items:=short) (enc:=fun a=>.d (.str (sg a))) (items2:=fun Z=>long) (enc2:=fun Z b=>.d (.str (sg b))) (F:=fun a b=>some (.list [.str (sg a),.str (sg b)])) (xs1:=[S "a"]) (xs2:=[S "b"])
    (.inl ⟨_,_,rfl⟩) (.inl ⟨_,_,rfl⟩) rfl (by decide +kernel) (fun Z Z=>rfl) (fun Z Z=>rfl) (vs _) (by have:=IS (V:=V) (w:=w) (H0:=H0) (n:=n+1) (Hw (Dq hsl));rwa [Kq,map_map] at this) ?_ fun a ha=>?_
   ·refine Ai ?_
    have:=OX zs zl;exact le_trans this (by decide)
   ·refine⟨[(S "a",.d (.str (sg a)))],.d (.str (tx long)),Af (Ab rfl),rfl,?_,?_,?_,fun b hb=>?_⟩
    ·intro y hy;rw[AU hy];subst hσ;rfl
    ·subst hσ;exact Aa rfl rfl
    ·have:=IS (V:=V) (w:=w) (H0:=H0) (n:=n+1) (Hw (Dq hll));rwa [Kq,map_map] at this
    ·refine⟨[(S "b",.d (.str (sg b)))],true,Af (Ab rfl),rfl,?_,BW,fun Z=>⟨_,rfl,?_⟩,E3⟩
     ·intro y hy;rw[AU hy];subst hσ;rfl
     ·subst hσ
      exact AE (ds:=[.str (sg a),.str (sg b)]) (Bo (Aa rfl rfl) (Aa rfl rfl) (fun Z=>rfl) fun Z=>rfl) (Ai (by simp))
  ·have el:one.length=two.length:=by
    have q2:¬short.length<long.length:=by rw[cast] at q;simpa using q
    rw[←hs,←hg] at q2
    by_cases c:one.length<two.length
    ·rw[if_pos c,if_pos c] at q2;contradiction
    ·rw[if_neg c,if_neg c] at q2;lia
   have e2:CU (one.zip two)=.list ((Fq one two).filterMap fun p=>some (.list [p.1,p.2])):=by
    unfold CU Fq;rw[filterMap_eq_map',map_map];rfl
   rw[e2];refine TW (xs:=[S "b",S "a"]) _ (.inr ⟨_,_,_,rfl⟩) rfl (by decide +kernel) (fun Z Z=>rfl) (T4 (DA hzip rfl) (Bo (by subst hσ;exact Aa rfl rfl) (by subst hσ;exact Aa rfl rfl) (fun Z=>rfl) fun Z=>rfl) el (Dq h1) (Dq h2) fun Z=>rfl) (Ai (by simp[Fq];lia)) fun p hp=>?_;refine⟨_,true,DZ (b1:=[(S "a",.d p.1)]) (b2:=[(S "b",.d p.2)]) C9 (Af (Ab rfl)) (Af (Ab rfl)) (fun Z=>rfl),rfl,fun y hy=>?_,BW,fun Z=>⟨_,rfl,?_⟩,E3⟩
   ·subst hσ
    rcases BF hy with rfl|hy
    ·rfl
    ·rw[AU hy];rfl
   ·subst hσ
    exact AE (ds:=[p.1,p.2]) (Bo (Aa rfl rfl) (Aa rfl rfl) (fun Z=>rfl) fun Z=>rfl) (Ai (by simp))
 generalize hL:CK one two=L;have hLl:∀p∈L,AB p.1∧AB p.2:=fun p hp=>by
  rw[←hL] at hp;unfold CK at hp;split at hp
  ·refine Ad (mem_flatMap.mp hp) fun a ha hb=>?_
   refine Ad (Ct hb) fun b hb' x3=>?_;subst x3;exact⟨h1 a ha,h2 b hb'⟩
  ·split at hp
   ·refine Ad (mem_flatMap.mp hp) fun a ha hb=>?_
    refine Ad (Ct hb) fun b hb' x3=>?_;subst x3;exact⟨h2 a ha,h1 b hb'⟩
   ·obtain⟨a,b⟩:=p
    have:=List.of_mem_zip hp;exact⟨h1 a this.1,h2 b this.2⟩
 have zL:L.length≤4∧1≤L.length:=by
  (refine(hL)▸ ?_)
  exact LX z1 z2 p1 p2
 refine Bn (Dj (items:=L) (enc:=fun p=>.d (.list [.str (sg p.1),.str (sg p.2)])) (fun p=>some (.int (Cd p.1 p.2))) (xs:=[S "b",S "a"]) (x:=.d (CU L)) (.inr ⟨_,_,_,rfl⟩) rfl (by decide +kernel) (fun Z Z=>rfl) (fun zz o=>by have q:=o.scope;cases zz;simp only at q;subst q;rfl) (Ab rfl) (Aa rfl rfl)
  (by have:=BG (V:=V) (w:=w) (H0:=H0) (n:=n+1) (ds:=L.map fun p=>.list [.str (sg p.1),.str (sg p.2)]);rw[map_map] at this;exact this) (Ai (by lia)) fun p hp=>?_) ?_
 ·refine⟨_,true,DZ (b1:=[(S "a",.d (.str (sg p.1)))]) (b2:=[(S "b",.d (.str (sg p.2)))]) (FR (ds:=[.str (sg p.1),.str (sg p.2)])) (Af (Ab rfl)) (Af (Ab rfl)) (fun Z=>rfl),rfl,fun y hy=>?_,BW,fun Z=>⟨_,rfl,?_⟩,E3⟩
  ·subst hσ
   rcases BF hy with rfl|hy
   ·rfl
   ·rw[AU hy];rfl
  ·subst hσ
   have la:=Hx (hLl p hp).1;have lb:=Hx (hLl p hp).2;have e:PyData.int (Cd p.1 p.2)=if sg p.1==sg p.2 then PyData.int 0 else if Txt.lower (sg p.1)==Txt.lower (sg p.2) then PyData.int 1 else PyData.int 2:=by
    (refine(la.1).symm▸ ?_;refine(lb.1).symm▸ ?_;rewrite [Fp,Fp,Cd])
    split
    ·rfl
    ·split<;> rfl
   rw[e];refine EH (Ar (Aa rfl rfl) (Aa rfl rfl) DY rfl) (fun Z=>Ao) fun Z=>?_;exact EH (Ar (EW (Aa rfl rfl) la.2 (fun Z=>rfl) rfl) (EW (Aa rfl rfl) lb.2 (fun Z=>rfl) rfl) DY rfl) (fun Z=>Ao) fun Z=>Ao
 have ep:L.filterMap (fun p=>some (PyData.int (Cd p.1 p.2)))=(L.map fun p=>Cd p.1 p.2).map .int:=by
  rw[filterMap_eq_map',map_map];rfl
 (refine ep.symm▸ ?_)
 have e:PyData.int (Dp one two)=if decide ((short.length:Int)<long.length) then PyData.int (2+Sm (L.map fun p=>Cd p.1 p.2)) else PyData.int (L.map fun p=>Cd p.1 p.2).sum:=by
  (refine(hs)▸ ?_;refine(hg)▸ ?_;rewrite [cast,Dp];refine hL.symm▸ ?_)
  by_cases q:one.length<two.length
  ·simp[q]
  ·by_cases q':two.length<one.length<;> simp[q,q']
 rw[e];subst hσ;refine BP (Bu (EH (Ar (Bb hlen (le_trans zs (by decide)) (Aa rfl rfl) rfl fun Z=>rfl) (Bb hlen (le_trans zl (by decide)) (Aa rfl rfl) rfl fun Z=>rfl) Ei rfl) (fun Z=>?_) fun Z=>?_))
 ·exact AO Ao (AT (Qo (n:=n) hmin (by rw[length_map];exact zL.2)) (le_refl _) rfl (Bk (Aa rfl rfl) fun Z=>rfl) fun Z=>rfl) Ea
 ·exact AT (IT (n:=n) hsum) (le_refl _) rfl (Bk (Aa rfl rfl) fun Z=>rfl) fun Z=>rfl
section
variable(V:Program)(w:World)
noncomputable abbrev DN:=PySem.strKind V w
inductive MapAt(g h:Heap)(d:Addr)(kvs:List (Str×PyData)):Prop
 |mk:(d==sysModules)=false->∀vs,h.DictOf (DN V w) d vs->F2 (fun(v:Str×Value) (p:Str×PyData)=>v.1=p.1∧Rd p.2 g v.2) vs kvs->MapAt g h d kvs
theorem MapAt.move{g g' h h':Heap}{d:Addr}{kvs:List (Str×PyData)}(hd:∀o,h.get? d=some o->h'.get? d=some o)(x:Ext g g')(m:MapAt V w g h d kvs):MapAt V w g' h' d kvs:=by
 obtain⟨n,vs,⟨o,es,ep,ho,r⟩,f⟩:=m;exact⟨n,vs,⟨o,es,ep,hd o ho,r⟩,f.imp fun Z Z q=>⟨q.1,q.2.ext x⟩⟩
inductive IsMap(kvs:List (Str×PyData))(g:Heap)(v:Value):Prop
 |mk:∀d,v=.ref d->MapAt V w g g d kvs->IsMap kvs g v
noncomputable def IJ (kvs:List (Str×PyData)):Ent:=.p (IsMap V w kvs) fun g g' v x ⟨d,e,m⟩=>⟨d,e,m.move V w (fun o q=>x _ _ q) x⟩
noncomputable def Sn:AccK (List (Str×PyData)) where
 R:=fun h zy D kvs=>MapAt V w (vis h zy) h D kvs
 move:=fun hD x m=>m.move V w hD x
 alive:=fun⟨_,vs,⟨o,es,ep,e,_⟩,_⟩=>⟨o,e⟩
end
theorem M3(hm:∃o,H0.get? mainGlobals=some o):FT V w H0 (Sn V w) newDict []:=fun A s x=>wpAny_newObj_type ⟨_,rfl,rfl,rfl,fun zy=>⟨by
 refine ex1 hm fun o e=>?_;have h1:=Heap.lt_size (x _ _ e);have h2:(1:Nat)<mainGlobals:=by decide
 have h3:(1:Nat)<s.heap.objs.size:=lt_trans h2 h1;have h4:s.heap.objs.size≠sysModules:=fun q=>by
  have:sysModules=(1:Nat):=rfl;rw[q,this] at h3;exact lt_irrefl _ h3
 simpa using h4,[],Heap.DictOf.new _,.nil⟩⟩
theorem Qp{kx vx target iter:Expr}{ifs:List Expr}{scope:Scope}{pos:Pos}(ht:(∃y p,target=.Name y p)∨∃es k p,target=.Tuple es k p):
  CompForm (.DictComp kx vx [⟨target,iter,ifs,0⟩] scope pos) 0 ⟨target,iter,ifs,0⟩ (fun zz acc=>do
   let kv ←eval kx zz
   let vv ←holding [kv] (eval vx zz)
   match acc with
   |.ref d=>do
    standAt {kx.pos with endLine:=vx.pos.endLine,endCol:=vx.pos.endCol}
    holding [kv,vv] (dictSet d kv vv)
   |_=>unsupported "internal:dictcomp") where
 clause:=rfl
 sync:=rfl
 turn:=fun Z Z Z=>rfl
 fr1:=fun Z Z Z=>rfl
 q1:=fun Z Z Z=>rfl
 un1:=fun A Z Z Z=>Around.under_of_weight rfl rfl
 fr2:=fun Z Z Z=>rfl
 q2:=fun Z Z Z=>rfl
 un2:=fun A Z Z Z=>Around.under_of_weight rfl rfl
 targets:=ht
theorem G5{kvs:List (Str×Value)}{k:Str}{v:Value}(h:k∉kvs.map (·.1)):stored kvs k v=kvs++[(k,v)]:=by
 unfold stored;rw[if_neg];intro q;refine Ad (any_eq_true.mp q) fun p hp e=>?_;exact h (mem_map.mpr ⟨p,hp,of_decide_eq_true e⟩)
theorem So{g:Heap}{vs:List (Str×Value)}{kvs:List (Str×PyData)}(h:F2 (fun(v:Str×Value) (p:Str×PyData)=>v.1=p.1∧Rd p.2 g v.2) vs kvs):vs.map (·.1)=kvs.map (·.1):=by
 induction h with
 |nil=>rfl
 |cons a _ ih=>(refine(map_cons).symm▸ ?_;refine(map_cons).symm▸ ?_;refine(a.1).symm▸ ?_;refine ih.symm▸ ?_;rfl)
theorem OY{kx vx:Expr}{xs:List Str}{b:List (Str×PyData)}{k:Str}{d:PyData}(hk:Am V w H0 n sc σ zx kx (.d (.str k)))(hv:Am V w H0 n sc σ zx vx (.d d))(hn:k∉b.map (·.1))(hz:b.length≤sizeLine):
  CoP V w H0 n sc σ zx xs (Sn V w) (fun zz acc=>do
   let kv ←eval kx zz
   let vv ←holding [kv] (eval vx zz)
   match acc with
   |.ref d=>do
    standAt {kx.pos with endLine:=vx.pos.endLine,endCol:=vx.pos.endCol}
    holding [kv,vv] (dictSet d kv vv)
   |_=>unsupported "internal:dictcomp") b (b++[(k,d)]):=by
 intro A zz s zy D g o F hD hoff hK;refine Ac (Aq (hk A zz s zy g o F) fun u s₁ q=>Ac (wpAny_holding (Aq (hv A zz s₁ zy g o (F.ext q.ext)) fun v s2 q2=>?_)));obtain⟨h2,t2,e2,ex,r⟩:=q.trans q2;have ru:=q.val;refine ex1 (AR ru) fun t x2=>?_;subst x2;subst e2;obtain⟨nd,vs,hl,f⟩:=MapAt.move V w (fun o e=>ex _ _ e) (AK zy ex) hK;refine Ac (wpAny_standAt (wpAny_holding (wpAny_dictSet_pairs (knd:=DN V w) (k:=k) (by show Value.isStrOf k (.str k t)=true;simp[Value.isStrOf]) hl (fun h₃ hl3 hs=>?_) (by rw[f.length];exact hz))));have k3:=AF hs;have vk:Ext (vis h2 zy) (vis h₃ zy):=AW (fun a m=>by rw[AU m];exact hD) k3;rw[G5 (by rw[So f];exact hn)] at hl3;refine⟨h₃,t2+1,rfl,(ex.keep _).trans (k3.more fun a m=>by rw[AU m];exact mem_cons_self),?_,?_⟩
 ·refine(F.ext ex).keepBut k3 (fun a m=>by rw[AU m];exact hD) (fun a m=>by(refine(AU m).symm▸ ?_);exact⟨hoff.1,hoff.2.1,hoff.2.2⟩) (fun a m=>?_)
  (refine(AU m).symm▸ ?_);refine FH hl3 fun oo es ep e Z=>?_;exact⟨oo,e⟩
 ·exact⟨nd,vs++[(k,v)],hl3,(f.imp fun Z Z q=>⟨q.1,q.2.ext vk⟩).append (.cons ⟨rfl,r.ext vk⟩ .nil)⟩
def Qq{α:Type}(V:Program)(w:World)(H0:Heap)(n:Nat)(sc:Scope)(σ:AN)(zx:Aw)(target:Expr)(kx vx:Expr)(xs:List Str)(enc:α->Ent)(F:α->Str×PyData)(a:α):Prop:=
 ∃bs,MR V w H0 n sc target (enc a) bs∧bs.map (·.1)=xs∧(∀y∈xs,σ.lookup y=none)∧Am V w H0 n sc (bs++σ) zx kx (.d (.str (F a).1))∧Am V w H0 n sc (bs++σ) zx vx (.d (F a).2)
theorem OZ{α:Type}{items:List α}{enc:α->Ent}{F:α->Str×PyData}{target iter kx vx:Expr}{xs:List Str}(hz:items.length≤sizeLine)(hnd:(items.map fun a=>(F a).1).Nodup)
  (turn:∀a∈items,Qq V w H0 n sc σ zx target kx vx xs enc F a):
  TurnsP V w H0 n sc σ zx ⟨target,iter,[],0⟩ (fun zz acc=>do
   let kv ←eval kx zz
   let vv ←holding [kv] (eval vx zz)
   match acc with
   |.ref d=>do
    standAt {kx.pos with endLine:=vx.pos.endLine,endCol:=vx.pos.endCol}
    holding [kv,vv] (dictSet d kv vv)
   |_=>unsupported "internal:dictcomp") xs (Sn V w) (items.map enc) (fun i=>(items.take i).map F):=by
 intro i x hx;rw[getElem?_map] at hx;cases ha:items[i]? with
 |none=>rw[ha] at hx;exact CE hx
 |some a=>
  rw[ha] at hx;replace hx:=Option.some.inj hx;subst hx;refine ex1 (turn a (mem_of_getElem? ha)) fun bs h9=>?_;refine JY h9 fun h1 h2 h3 h4 h5=>?_;clear h9;have e:(items.take (i+1)).map F=(items.take i).map F++[((F a).1,(F a).2)]:=by
   rw[take_add_one,ha,map_append];rfl
  have hlen:((items.take i).map F).length≤sizeLine:=by
   rw[length_map,length_take];exact le_trans (min_le_right _ _) hz
  have hnot:(F a).1∉((items.take i).map F).map (·.1):=by
   intro m;rw[map_map] at m;obtain⟨j,hj,e1⟩:=List.mem_iff_getElem.mp m;simp only[length_map,length_take] at hj;rw[getElem_map,List.getElem_take] at e1;have hi:=(List.getElem?_eq_some_iff.mp ha);have hji:j<i:=by lia
   have hlt:=hi.1;have:=List.pairwise_iff_getElem.mp hnd j i (by rw[length_map];exact lt_trans hji hlt) (by rw[length_map];exact hlt) hji;rw[getElem_map,getElem_map] at this;apply this
   (refine(hi.2).symm▸ ?_)
   exact e1
  refine⟨bs,true,h1,fun y hy=>by(refine(h2)▸ ?_);exact hy,fun y hy=>h3 y (by(refine(h2)▸ ?_);exact hy),BW,fun Z=>?_,E3⟩;show CoP _ _ _ _ _ _ _ _ _ _ _ ((items.take (i+1)).map F);rw[e];exact OY h4 h5 hnot hlen
theorem US{α:Type}{items:List α}{enc:α->Ent}(F:α->Str×PyData){target iter kx vx:Expr}{scope:Scope}{pos:Pos}{xs:List Str}{x:Ent}(hmg:∃o,H0.get? mainGlobals=some o)(ht:(∃y p,target=.Name y p)∨∃es k p,target=.Tuple es k p)
  (hok:BQ sc scope=true)(hxs:∀x∈xs,scope.names.lookup x=some .local∨scope.names.lookup x=some .cell)(hs:∀zz x,foldedSetIterable iter zz x=pure x)
  (hi:Am V w H0 n sc σ zx iter x)(hsrc:DS V w H0 n x (items.map enc))(hz:items.length≤sizeLine)(hnd:(items.map fun a=>(F a).1).Nodup)
  (turn:∀a∈items,Qq V w H0 n (CR sc scope) (Cj scope σ) zx target kx vx xs enc F a):Am V w H0 n sc σ zx (.DictComp kx vx [⟨target,iter,[],0⟩] scope pos) (IJ V w (items.map F)):=by
 refine IQ (K:=Sn V w) (fun i=>(items.take i).map F) (Qp ht) rfl hok hxs (by simpa using M3 hmg) (fun zz=>rfl) hs (Iv hi hsrc ht) (OZ hz hnd turn) fun h zy D hD hK=>?_;rw[length_map,take_length] at hK;exact⟨D,rfl,MapAt.move V w (fun o e=>AQ e hD) (Ext.refl _) hK⟩
theorem Sp{kvs:List (Str×PyData)}:DS V w H0 n (IJ V w kvs) (kvs.map fun p=>.d (.str p.1)):=by
 intro A s zy v g B m;obtain⟨d,rfl,nd,vs,⟨o,es,ep,ho,hr⟩,f⟩:=m;have ho':=Bp _ _ _ _ ho;have hat:s.heap.DictAt (DN V w) d vs ep:=⟨o,es,ho',hr⟩;have dne:d≠s.heap.objs.size:=ne_of_lt (Heap.lt_size ho');have dnh:d∉zy:=(Al ho).2;refine wpAny_pyIter_dict (knd:=DN V w) nd hat ⟨s.heap.objs.size,[s.heap.objs.size,d],[s.heap.objs.size],(fun i h=>h.IsKeyIter s.heap.objs.size d i vs.length ep∧h.DictAt (DN V w) d vs ep),_,s.toks,rfl,rfl,An _ _,⟨?_,?_,?_⟩,?_,?_,?_⟩
 ·have W:=Walks.dictKeys (prog:=V) (w:=w) (knd:=DN V w) g.hh s.heap.objs.size d dne vs ep
  have e:vs.length=(kvs.map fun p=>Ent.d (.str p.1)).length:=by rw[f.length,length_map]
  rw[e] at W;have:=Walks.imp (P':=fun i v=>∃e,(kvs.map fun p=>Ent.d (.str p.1))[i]? =some e∧Means (vis s.heap zy) v e) W fun i v p=>by
   refine B8 p fun k x h1 h2=>?_;refine ex1 (Value.isStrOf_shape h2) fun t x2=>?_;subst x2;refine Ad (f.get' h1) fun q h3 h4=>?_;refine⟨.d (.str q.1),by rw[getElem?_map,h3];rfl,?_⟩
   (refine(h4.1)▸ ?_);exact BO _ _ _
  rw[←e] at this ⊢;exact this
 ·intro i h st b hb
  refine BL st fun x1 Z=>?_;rcases x1 with ⟨o,e,_⟩;rw[AU hb];exact⟨o,e⟩
 ·intro i h st
  refine BL st fun x1 Z=>?_;rcases x1 with ⟨o,e,c,_⟩;exact⟨o,_,e,c,by decide⟩
 ·exact⟨⟨_,Heap.get?_push_size _ rfl,rfl,rfl⟩,⟨o,es,Heap.get?_push_of_some _ ho',hr⟩⟩
 ·intro b hb
  rw[AU hb];exact CA (le_refl _)
 ·intro b hb
  have hsz:(s.heap.push {cls:=.type "dict_keyiterator",data:=.fields #[.ref d,.int 0 0,.int vs.length 0,.int ep 0]}).objs.size=s.heap.objs.size+1:=Heap.size_push ..;rcases BF hb with rfl|hb
  ·exact⟨⟨_,Heap.get?_push_size _ rfl⟩,B.fresh⟩
  ·(refine(AU hb).symm▸ ?_)
   exact⟨⟨_,Heap.get?_push_of_some _ ho'⟩,dnh⟩
theorem LY{value slice:Expr}{pos:Pos}{kvs:List (Str×PyData)}{k:Str}{d:PyData}(hv:Am V w H0 n sc σ zx value (IJ V w kvs))(hi:Am V w H0 n sc σ zx slice (.d (.str k)))
  (hd:(kvs.find? fun p=>p.1=k).map (·.2)=some d)(hs:Ca slice):Am V w H0 n sc σ zx (.Subscript value slice pos) (.d d):=by
 intro A zz s zy g o F;refine PyProof.Rows.Subscript_ (Aq (hv A zz s zy g o F) fun v s₁ q1=>Aq (hi A zz s₁ zy g o (F.ext q1.ext)) fun i s2 q2=>?_);refine ex1 (AR q2.val) fun t x2=>?_;subst x2;obtain⟨a,rfl,m⟩:=q1.val;obtain⟨nd,vs,hl,f⟩:=m.move V w (fun o e=>Bp _ zy _ _ (AK zy q2.ext _ _ e)) (AK zy q2.ext);have hval:∃u,valueAt vs k=some u∧Rd d (vis s2.heap zy) u:=by
  clear hl hi hv q1 q2 m
  induction f with
  |nil=>exact CE hd
  |@cons v p vs kvs h1 f ih=>
   unfold valueAt;rw[find?_cons] at hd ⊢
   (refine(h1.1).symm▸ ?_)
   by_cases e:p.1=k
   ·rw[decide_eq_true e] at hd ⊢
    cases hd;exact⟨_,rfl,h1.2⟩
   ·rw[decide_eq_false e] at hd ⊢
    exact ih hd
 refine Ad hval fun u hu hr=>?_;exact tail_any hl.typeIs slot_dict_getitem.lookup (wpAny_getItem_of (knd:=DN V w) (by show Value.isStrOf k (.str k t)=true;simp[Value.isStrOf]) hl.mapOf hu ((q1.trans q2).trans (Pu.tok hr))) (hs _ _)
noncomputable abbrev NJ:=List (List Nat×List Nat)
noncomputable def Ga (p:List Nat×List Nat):Str×Str:=(tx p.1,tx p.2)
noncomputable def Ae (ls:List (List Nat)):PyData:=LS (ls.map tx)
def Ay(l:List Nat):Prop:=1≤l.length∧l.length≤2∧∀c∈l,AB c
def Js(p:List Nat):Prop:=p=[]∨∃a b,p=[a,b]∧AJ a∧AJ b
structure JobsOk(js:NJ):Prop where
 len:js.length≤8
 names:∀j∈js,Ay j.1
 pats:∀j∈js,Js j.2
 nodup:(js.map (·.1)).Nodup
noncomputable def CV (p o:List Nat):Bool:=match p with
 |[a,b]=>Jp (a,b) o
 |_=>false
noncomputable def Bd (js:NJ) (j:List Nat×List Nat):List (List Nat):=(js.map (·.1)).filter fun o=>o !=j.1 && (j.2 !=[] && CV j.2 o)
noncomputable def BU (js:NJ):List (List Nat×List (List Nat)):=js.map fun j=>(j.1,Bd js j)
noncomputable def CN (ns:List (List Nat×List (List Nat))):List (Str×PyData):=ns.map fun p=>(tx p.1,Ae p.2)
theorem Ep{a b:List Nat}(h:tx a=tx b):a=b:=by
 have:=congrArg (fun x=>x.cps.toList) h;simpa [tx] using this
theorem M4(a b:List Nat):(tx a==tx b)=(a==b):=by
 by_cases h:a=b
 ·subst h
  rw[show(tx a==tx a)=true from beq_self_eq_true _,show(a==a)=true from beq_self_eq_true _]
 ·have:tx a≠tx b:=fun e=>h (Ep e)
  rw[show(tx a==tx b)=false by simpa using this,show(a==b)=false by simpa using h]
theorem Ld(a b:List Nat):(tx a !=tx b)=(a !=b):=by rw[bne,bne,M4]
theorem Hy:S ""=tx []:=by
 have h:(tx []==S "")=true:=tx_nil;exact(eq_of_beq h).symm
theorem O0{l:List Nat}(h:Ay l):∃c r,l=c::r∧r.length≤100:=by
 cases l with
 |nil=>exact absurd h.1 (by decide)
 |cons c r=>exact⟨c,r,rfl,by have:=h.2.1;simp at this;exact le_trans this (by decide)⟩
theorem CL{α β:Type}{p:α->Bool}{f:α->β}(l:List α):l.filterMap (fun a=>if p a then some (f a) else none)=(l.filter p).map f:=by
 induction l with
 |nil=>rfl
 |cons a l ih=>
  rw[List.filterMap_cons,filter_cons];cases h:p a<;> simp[ih]
theorem Le{x:Str}{p pos:Pos}{args:List Expr}{xs:List PyData}{b:Bool}{k:Nat}(h:CB V w H0 x k xs (.bool b))(hk:k≤n)(hg:BA sc x=true)(ha:Ey V w H0 n sc σ zx pos args (xs.map .d))
  (hb:∀zz,(backTo pos (starEach args zz)).any (·.1)=false):FI V w H0 n sc σ zx (.Call (.Name x p) args [] pos) b:=
 CQ (Fo h hk hg ha hb) IN fun Z Z=>rfl
theorem M5(hmg:∃o,H0.get? mainGlobals=some o){js:NJ}(ok:JobsOk js)(hfits:∀a b l,AJ a->AJ b->Ay l->CB V w H0 "_law_fits" n [.str (tx [a,b]),.str (tx l)] (.bool (Jp (a,b) l))):
  II V w H0 n (Ap (B7 28)) [(S "jobs",.d (BY (js.map Ga)))] [] (AD (B7 28)) (.ret (IJ V w (CN (BU js)))):=by
 revert hmg ok hfits;revert js;revert V w H0 n;refine no_implicit_lambda% (JZ (by exact((default,w0),default)) ?_);generalize Iq _ _=t9;generalize t9.1.1=V,t9.1.2=w,t9.2.1=H0,t9.2.2=n;refine no_implicit_lambda% (Io (default) ?_);generalize HR _ _=js;intro hmg ok hfits;have en:js.map (fun j=>(Ga j).1)=(js.map (·.1)).map tx:=by rw[map_map];rfl
 have src:DS V w H0 n (.d (BY (js.map Ga))) (js.map fun j=>.d (G0 (Ga j))):=by
  have:=BG (V:=V) (w:=w) (H0:=H0) (n:=n) (ds:=(js.map Ga).map G0);rw[map_map,map_map] at this;unfold BY;rw[map_map];exact this
 have z8:=ok.len;refine Bn (σ':=[(S "names",.d (Ae (js.map (·.1))))]++[(S "jobs",.d (BY (js.map Ga)))]) (Av ?_ (Af (Ab rfl)) (fun zz o=>by have q:=o.scope;cases zz;simp only at q;subst q;rfl) (fun Z Z=>rfl) fun Z=>rfl) ?_
 ·have:=fun scope pos p1 p2 p3 p4 k pi h1 h2 h3=>Jm (V:=V) (w:=w) (H0:=H0) (n:=n) (sc:=Ap (B7 28)) (σ:=[(S "jobs",.d (BY (js.map Ga)))]) (zx:=[]) (iter:=.Name "jobs" pi) (scope:=scope) (pos:=pos) (p1:=p1) (p2:=p2) (p3:=p3) (p4:=p4) (a:=S "name") (b:=S "pattern") (k:=k) (js:=js.map Ga) (Aa rfl rfl) (by rw[length_map];exact z8) h1 h2 h3 (by decide +kernel)
  replace this:=(map_map)▸this
  unfold Ae;rw[map_map];exact this _ _ _ _ _ _ _ _ rfl rfl rfl rfl rfl rfl fun Z Z=>rfl
 refine BP (Bu ?_);have e2:CN (BU js)=js.map fun j=>(tx j.1,Ae (Bd js j)):=by
  rw[CN,BU,map_map];rfl
 rw[e2];refine US (items:=js) (enc:=fun j=>.d (G0 (Ga j))) (fun j=>(tx j.1,Ae (Bd js j))) (xs:=[S "pattern",S "name"]) hmg (.inr ⟨_,_,_,rfl⟩) rfl (by decide +kernel) (fun Z Z=>rfl) (Aa rfl rfl) src (Ai (le_trans z8 (by decide))) ?_ fun j hj=>?_
 ·have h:=ok.nodup
  have e3:js.map (fun j=>tx j.1)=(js.map (·.1)).map tx:=by rw[map_map];rfl
  show(js.map fun j=>tx j.1).Nodup;rw[e3];exact List.Pairwise.map tx (fun a b hab e=>hab (Ep e)) h
 refine⟨_,DZ (b1:=[(S "name",.d (.str (tx j.1)))]) (b2:=[(S "pattern",.d (.str (tx j.2)))]) (FR (ds:=[.str (tx j.1),.str (tx j.2)])) (Af (Ab rfl)) (Af (Ab rfl)) (fun Z=>rfl),rfl,fun y hy=>?_,Aa rfl rfl,?_⟩
 ·rcases BF hy with rfl|hy
  ·rfl
  ·rw[AU hy];rfl
 have hj':=ok.pats j hj;have e4:Ae (Bd js j)=.list ((js.map (·.1)).filterMap fun o=>if(o !=j.1 && (j.2 !=[] && CV j.2 o)) then some (PyData.str (tx o)) else none):=by
  rw[CL,Ae,LS,map_map];rfl
 show Am _ _ _ _ _ _ _ _ (.d (Ae (Bd js j)));rw[e4];refine FA (items:=js.map (·.1)) (enc:=fun o=>.d (.str (tx o))) (xs:=[S "other"]) (x:=.d (Ae (js.map (·.1)))) (fun o=>if(o !=j.1 && (j.2 !=[] && CV j.2 o)) then some (PyData.str (tx o)) else none) ?_ ?_ ?_ ?_ ?_ ?_ (Ai (by rw[length_map];exact le_trans z8 (by decide))) fun o ho=>?_
 ·exact .inl ⟨_,_,rfl⟩
 ·decide +kernel
 ·decide +kernel
 ·exact fun Z Z=>rfl
 ·exact Aa rfl rfl
 ·have:=BG (V:=V) (w:=w) (H0:=H0) (n:=n) (ds:=((js.map (·.1)).map tx).map .str)
  rw[map_map (f:=tx),map_map (f:=PyData.str ∘ tx)] at this;unfold Ae LS;rw[map_map (f:=tx)];exact this
 have hn:Ay o:=by
  refine Ad (Ct ho) fun j' hj2 x3=>?_;subst x3;exact ok.names j' hj2
 refine⟨[(S "other",.d (.str (tx o)))],_,Af (Ab rfl),rfl,fun y hy=>by rw[AU hy];rfl,Fd (p:=o !=j.1 && (j.2 !=[] && CV j.2 o)) ?_,fun h=>⟨_,if_pos h,Aa rfl rfl⟩,fun h=>by simp[h]⟩;refine AH (BH ?_ fun Z=>BH ?_ fun hp=>Cq ?_)
 ·rw[←Ld]
  exact Ar (Aa rfl rfl) (Aa rfl rfl) HU rfl
 ·rw[←Ld,←Hy]
  exact Ar (Aa rfl rfl) Bz HU rfl
 ·rcases hj' with e|⟨a,b,e,ha,hb⟩
  ·rw[e] at hp;exact EP hp
  ·have:CV j.2 o=Jp (a,b) o:=by rw[e];rfl
   rw[this];have q:=hfits a b o ha hb hn;rw[←e] at q;exact Le q (le_refl _) rfl (Bo (Aa rfl rfl) (Aa rfl rfl) (fun Z=>rfl) fun Z=>rfl) fun Z=>rfl
inductive CP(H0:Heap)(s:Shared)(zy:List Addr)(L:Aw)(Ψ:Heap->Value->Aw->Prop)(v:Value)(s':Shared):Prop
 |mk:∀h' tk zy' L',s'={s with heap:=h',toks:=tk}->KeepBut (L.map (·.1)) s.heap h'->Base H0 zy' h'->LedOk zy' L' h'->Cf zy zy'->MN zy zy' s.heap->GF L L' s.heap->Ψ (vis h' zy') v L'->CP H0 s zy L Ψ v s'
def TA(V:Program)(w:World)(H0:Heap)(n:Nat)(f:Value)(xs:List Ent)(L:Aw)(Ψ:Heap->Value->Aw->Prop):Prop:=
 ∀A s zy vs,Good n A->Base H0 zy s.heap->LedOk zy L s.heap->MeansAll (vis s.heap zy) vs xs->wpAny (model V w) A (call f vs) (CP H0 s zy L Ψ) CO s
theorem Of{f:Value}{xs:List Ent}{P:Heap->Value->Prop}(hP:∀g g' v,Ext g g'->P g v->P g' v)(h:TA V w H0 n f xs [] (fun g v Z=>P g v)):FnP V w H0 n f xs P:=by
 intro A s zy vs g B hm;refine Ah (h A s zy vs g B ⟨(fun p hp=>BK hp),(fun p hp=>BK hp)⟩ hm) (fun v s' q=>?_) fun Z Z f=>f;obtain⟨h',tk,zy',L',rfl,k,B',LO',m1,m2,m3,p⟩:=q;exact⟨h',tk,rfl,fun b o e=>k b o (BK) e,hP _ _ _ (EQ _ m1) p⟩
theorem Fm.call{zy zy':List Addr}{zz:Env}{h h':Heap}{L L' rest:Aw}(F:Fm H0 zy zx zz σ h)(hL:Cf L zx)(hr:∀p∈rest,p∈zx∧p.1∉L.map (·.1))(k:KeepBut (L.map (·.1)) h h')(B:Base H0 zy' h')(LO:LedOk zy' L' h')
  (m1:Cf zy zy')(m2:MN zy zy' h)(m3:GF L L' h):Fm H0 zy' (L'++rest) zz σ h':=by
 have hLo:Cf (L.map (·.1)) zy:=fun b m=>by refine Ad (Ct m) fun p hp x3=>?_;subst x3;exact F.ledh p (hL p hp)
 have vk:Ext (vis h zy) (vis h' zy'):=fun b o e=>AQ (k b o (fun m=>(Al e).2 (hLo b m)) (Al e).1) fun m=>by
  rcases m2 b m with m|m
  ·exact(Al e).2 m
  ·rw[(Al e).1] at m;exact E4 m
 have nl:zz.locals∉L.map (·.1):=fun m=>by refine Ad (Ct m) fun p hp e=>?_;exact(F.ledoff p (hL p hp)).1 e
 have nc:∀q∈zz.cells,q.2∉L.map (·.1):=fun q hq m=>by refine Ad (Ct m) fun p hp e=>?_;exact(F.ledoff p (hL p hp)).2 q hq e
 exact{
  toBase:=B
  loc:=m1 _ F.loc
  celh:=fun p hp=>m1 _ (F.celh p hp)
  ledh:=fun p hp=>by
   rcases Cx hp with hp|hp
   ·exact LO.1 p hp
   ·exact m1 _ (F.ledh p (hr p hp).1)
  ns:=by
   refine Ad F.ns fun m x2 q=>?_;rcases x2 with ⟨o,es,ep,e,r⟩;exact⟨m,⟨o,es,ep,k _ _ nl e,r⟩,fun y e a b=>let⟨v,c,d⟩:=q y e a b;⟨v,c,d.ext vk⟩⟩
  cell:=fun y e a b=>let⟨c,v,p,⟨o,e1,e2⟩,r⟩:=F.cell y e a b;⟨c,v,p,⟨o,k _ _ (nc (y,c) (mem_of_lookup p)) e1,e2⟩,r.ext vk⟩
  cells:=fun p m=>let⟨v,o,e1,e2⟩:=F.cells p m;⟨v,o,k _ _ (nc p m) e1,e2⟩
  ledg:=fun p hp=>by
   rcases Cx hp with hp|hp
   ·exact LO.2 p hp
   ·exact k _ _ (hr p hp).2 (F.ledg p (hr p hp).1)
  apart:=F.apart
  off:=F.off
  ledoff:=fun p hp=>by
   rcases Cx hp with hp|hp
   ·rcases m3 p hp with m|m
    ·refine Ad (Ct m) fun p' hp' e=>?_
     (refine(e)▸ ?_);exact F.ledoff p' (hL p' hp')
    ·refine⟨fun q=>?_,fun c hc q=>?_⟩
     ·refine Ad F.ns fun m' x2 Z=>?_;rcases x2 with ⟨o,es,ep,e,r⟩
      rw[q,e] at m;exact E4 m
     ·refine B8 (F.cells c hc) fun v o e1 e2=>?_
      rw[q,e1] at m;exact E4 m
   ·exact F.ledoff p (hr p hp).1}
theorem GP.of_cp{s s':Shared}{zy:List Addr}{zz:Env}{L rest:Aw}{Ψ:Heap->Value->Aw->Prop}{v:Value}(F:Fm H0 zy zx zz σ s.heap)(hL:Cf L zx)(hr:∀p∈rest,p∈zx∧p.1∉L.map (·.1))(x:CP H0 s zy L Ψ v s'):
  GP H0 s zy zz zx (fun g v σ' zx'=>σ'=σ∧∃L',Ψ g v L'∧zx'=L'++rest) v s':=by
 obtain⟨h',tk,zy',L',rfl,k,B,LO,m1,m2,m3,p⟩:=x;refine⟨h',tk,zy',σ,L'++rest,rfl,KeepBut.more k fun b m=>?_,F.call hL hr k B LO m1 m2 m3,m1,m2,fun p hp=>?_,rfl,L',p,rfl⟩
 ·refine Ad (Ct m) fun q hq x3=>?_;subst x3
  exact FW (mem_map_of_mem (hL q hq))
 ·rcases Cx hp with hp|hp
  ·rcases m3 p hp with m|m
   ·refine Ad (Ct m) fun q hq e=>?_
    (refine(e)▸ ?_);exact .inl (mem_map_of_mem (hL q hq))
   ·exact .inr m
  ·exact .inl (mem_map_of_mem (hr p hp).1)
theorem Sq(a b:Nat)(r t:List Nat):PySem.Spec.ltCps (a::r) (b::t)=(decide (a<b) ||(a==b && PySem.Spec.ltCps r t)):=rfl
theorem ltCps_no{a b:Nat}{r t:List Nat}:PySem.Spec.ltCps (a::r) (b::t)=false↔b≤a∧(a=b->PySem.Spec.ltCps r t=false):=by
 rw[Sq,Bool.or_eq_false_iff,decide_eq_false_iff_not,Nat.not_lt]
 by_cases e:a=b
 ·rw[e,beq_self_eq_true,Bool.true_and]
  exact and_congr_right fun Z=>⟨fun h Z=>h,fun h=>h rfl⟩
 ·rw[beq_eq_false_iff_ne.mpr e]
  exact and_congr_right fun Z=>⟨fun Z q=>absurd q e,fun Z=>rfl⟩
theorem LZ(a:List Nat):∀b:List Nat,PySem.Spec.ltCps a b=false->PySem.Spec.ltCps b a=false->a=b:=by
 induction a with
 |nil=>intro b h Z;cases b with
  |nil=>rfl
  |cons=>exact E3 h
 |cons a r ih=>
  intro b h h';cases b with
  |nil=>exact E3 h'
  |cons b t=>
   have h:=ltCps_no.mp h;have h':=ltCps_no.mp h';have e:=le_antisymm h'.1 h.1;rw[e,ih t (h.2 e) (h'.2 e.symm)]
theorem L8(a:List Nat):∀b c:List Nat,PySem.Spec.ltCps b a=false->PySem.Spec.ltCps c b=false->PySem.Spec.ltCps c a=false:=by
 induction a with
 |nil=>intro b c Z Z;cases c<;> rfl
 |cons a r ih=>
  intro b c h h';cases b with
  |nil=>exact E3 h
  |cons b t=>cases c with
   |nil=>exact E3 h'
   |cons c u=>
    have h:=ltCps_no.mp h;have h':=ltCps_no.mp h';exact ltCps_no.mpr ⟨le_trans h.1 h'.1,fun e=>ih t u (h.2 (le_antisymm (by rw[←e];exact h'.1) h.1)) (h'.2 (le_antisymm (by rw[e];exact h.1) h'.1))⟩
noncomputable def M6 (a b:List Nat):Bool:=!PySem.Spec.ltCps b a
noncomputable def Db (ls:List (List Nat)):List (List Nat):=ls.mergeSort M6
theorem Kr(a b c:List Nat)(h:M6 a b=true)(h':M6 b c=true):M6 a c=true:=by
 unfold M6 at *;simp only[Bool.not_eq_true'] at *;exact L8 a b c h h'
theorem Ks(a b:List Nat):(M6 a b ||M6 b a)=true:=by
 unfold M6;cases h:PySem.Spec.ltCps b a with
 |false=>rfl
 |true=>
  cases h2:PySem.Spec.ltCps a b with
  |false=>rfl
  |true=>
   exfalso;clear Ks
   induction a generalizing b with
   |nil=>cases b<;> simp[PySem.Spec.ltCps] at h
   |cons x r ih=>
    cases b with
    |nil=>simp[PySem.Spec.ltCps] at h2
    |cons y t=>
     simp only[PySem.Spec.ltCps,Bool.or_eq_true,decide_eq_true_eq,Bool.and_eq_true,beq_iff_eq] at h h2;rcases h with h|⟨e,h⟩
     ·rcases h2 with h2|⟨e2,h2⟩<;> lia
     ·subst e
      rcases h2 with h2|⟨_,h2⟩
      ·lia
      ·exact ih t h h2
theorem CC(ls:List (List Nat)):(Db ls).Perm ls:=List.mergeSort_perm ..
theorem Hz(ls:List (List Nat)):(Db ls).Pairwise fun a b=>M6 a b=true:=List.pairwise_mergeSort Kr Ks ls
theorem HA{ls out:List (List Nat)}(hp:out.Perm ls)(hs:out.Pairwise fun a b=>M6 a b=true):out=Db ls:=
 List.Perm.eq_of_pairwise (fun a b Z Z h h'=>by
  unfold M6 at h h';simp only[Bool.not_eq_true'] at h h';exact LZ a b h' h) hs (Hz ls) (hp.trans (CC ls).symm)
theorem D3:∀(ss:List Str) (p:Str),risingS p ss=true->(p::ss).Pairwise fun a b=>M6 a.cps.toList b.cps.toList=true:=by
 intro ss
 induction ss with
 |nil=>
  intro p Z;simp
 |cons x r D3=>
  intro p h;rw[risingS,Bool.and_eq_true] at h;have ih:=D3 x h.2;rw[List.pairwise_cons];refine⟨fun y hy=>?_,ih⟩;have h1:M6 p.cps.toList x.cps.toList=true:=h.1;rcases BF hy with rfl|hy
  ·exact h1
  ·rw[List.pairwise_cons] at ih
   exact Kr _ _ _ h1 (ih.1 y hy)
theorem IK{ss:List Str}(h:sortedS ss=true):ss.Pairwise fun a b=>M6 a.cps.toList b.cps.toList=true:=by
 cases ss with
 |nil=>exact .nil
 |cons x r=>exact D3 r x h
theorem T7(x:Str):tx x.cps.toList=x:=by exact rfl
theorem Kt{ls:List (List Nat)}{out:List Str}(hp:out.Perm (ls.map tx))(hs:sortedS out=true):out=(Db ls).map tx:=by
 have h1:(out.map fun x=>x.cps.toList).Perm ls:=by
  have:=hp.map fun x=>x.cps.toList;rw[map_map] at this;have e:ls.map ((fun x:Str=>x.cps.toList) ∘ tx)=ls:=by
   conv=>rhs;rw[←map_id ls]
   apply map_congr_left;intro a Z;simp[tx]
  rwa [e] at this
 have h2:(out.map fun x=>x.cps.toList).Pairwise fun a b=>M6 a b=true:=List.Pairwise.map _ (fun Z Z h=>h) (IK hs);have:=HA h1 h2
 (refine(this)▸ ?_;refine(map_map).symm▸ ?_)
 conv=>lhs;rw[←map_id out]
 apply map_congr_left;intro a Z;exact(T7 a).symm
theorem G6{g:Heap}{vs:List Value}{ss:List Str}(f:F2 (fun v d=>Rd d g v) vs (ss.map .str)):StrsAre vs ss:=by
 induction ss generalizing vs with
 |nil=>cases f;exact .nil
 |cons s ss ih=>
  cases f with
  |cons a f=>
   refine ex1 (AR a) fun t x2=>?_;subst x2;exact .cons s t (ih f)
theorem G7{g:Heap}{vs:List Value}{ss:List Str}(h:StrsAre vs ss):F2 (fun v d=>Rd d g v) vs (ss.map .str):=by
 induction h with
 |nil=>exact .nil
 |cons y t _ ih=>exact .cons (BO _ _ _) ih
theorem O3{ls:List (List Nat)}(hz:ls.length<64):FnP V w H0 n (.builtin "sorted") [.d (Ae ls)] (Rd (Ae (Db ls))):=by
 intro A s zy vs g B hm;obtain⟨v,rfl,m⟩:=C7 hm;refine Bh (CG m) fun l vs x3 hl f=>?_;subst x3;have hl':=Bq (Bp _ _) hl;refine sorted_strs hl' (G6 f) (by have:=f.length;rw[this,length_map,length_map];exact hz) fun out ss' h1 h2 h3=>?_;have e:=Kt h2 h3;subst e;have ex:Ext s.heap (sortedAll s.heap vs out):=fun b o e=>sortedAll_old e;refine ex1 (sortedAll_at s.heap vs out) fun k hk=>?_;have hn:s.heap.objs.size+1∉zy:=fun m=>by
  have:=B.low m;have h2:s.heap.objs.size+1<s.heap.objs.size:=this
  lia
 have:out=toArray out.toList:=by exact rfl
 refine⟨_,s.toks,rfl,ex,D9 (vs:=out.toList) ⟨_,AQ hk hn,rfl,k,?_⟩ (G7 h1)⟩;exact rfl
theorem M7(hg:GIs H0 "sorted" (.builtin "sorted")){ls:List (List Nat)}(hz:ls.length<64):CB V w H0 "sorted" n [Ae ls] (Ae (Db ls)):=⟨_,hg,Be,O3 hz⟩
noncomputable abbrev NN:=List (List Nat×List (List Nat))
noncomputable def Aj (rs:List (List (List Nat))):PyData:=.list (rs.map Ae)
noncomputable def As (ns:NN) (come:List (List Nat)):List (List Nat):=
 Db ((ns.filter fun p=>(!decide (p.1∈come)) && (p.2.filter fun q=>!decide (q∈come)).isEmpty).map (·.1))
noncomputable def Er (ns:NN):Nat->List (List Nat)->List (List (List Nat))
 |0,_=>[]
 |k+1,come=>if As ns come=[] then [] else As ns come::Er ns k (come++As ns come)
theorem Fr(ns:NN)(k:Nat)(come:List (List Nat)):Er ns (k+1) come=if As ns come=[] then [] else As ns come::Er ns k (come++As ns come):=rfl
noncomputable def left (ns:NN) (come:List (List Nat)):Nat:=(ns.filter fun p=>!decide (p.1∈come)).length
noncomputable def Lf (ns:NN):List (List (List Nat)):=Er ns (ns.length+1) []
structure NeedsOk(ns:NN):Prop where
 len:ns.length≤8
 names:∀p∈ns,Ay p.1
 needs:∀p∈ns,p.2.length≤8∧∀q∈p.2,Ay q
 nodup:(ns.map (·.1)).Nodup
theorem Gb{ns:NN}{come:List (List Nat)}{x:List Nat}(h:x∈As ns come):∃p∈ns,p.1=x∧x∉come:=by
 have:=(CC _).mem_iff.mp h;refine Ad (Ct this) fun p hp x3=>?_;subst x3;rw[mem_filter,Bool.and_eq_true] at hp;exact⟨p,hp.1,rfl,by simpa using hp.2.1⟩
theorem Lg{ns:NN}{come:List (List Nat)}(h:As ns come≠[]):left ns (come++As ns come)<left ns come:=by
 refine ex1 (List.exists_mem_of_ne_nil _ h) fun x hx=>?_;refine Dz (Gb hx) fun p hp x3 hn=>?_;subst x3;unfold left;have e:(ns.filter fun p=>!decide (p.1∈come++As ns come))=(ns.filter fun p=>!decide (p.1∈come)).filter fun p=>!decide (p.1∈As ns come):=by
  rw[List.filter_filter];apply filter_congr;intro a Z;simp only[mem_append]
  by_cases h1:a.1∈come<;> by_cases h2:a.1∈As ns come<;> simp[h1,h2]
 (refine e.symm▸ ?_)
 refine List.length_filter_lt_length_iff_exists.mpr ⟨p,mem_filter.mpr ⟨hp,by simpa using hn⟩,by simpa using hx⟩
theorem Fs{ns:NN}(k:Nat):∀(k':Nat) (come:List (List Nat)),left ns come<k->left ns come<k'->Er ns k come=Er ns k' come:=by
 induction k with
 |zero=>exact fun Z Z h Z=>absurd h (not_lt_zero _)
 |succ k ih=>
  intro k' come h h';cases k' with
  |zero=>exact absurd h' (not_lt_zero _)
  |succ k'=>
   rw[Fr,Fr]
   by_cases e:As ns come=[]
   ·rw[if_pos e,if_pos e]
   ·have l:=Lg e
    rw[if_neg e,if_neg e,ih k' _ (lt_of_lt_of_le l (Nat.le_of_lt_succ h)) (lt_of_lt_of_le l (Nat.le_of_lt_succ h'))]
theorem M8{ns:NN}{p:List Nat×List (List Nat)}(nd:(ns.map (·.1)).Nodup)(hp:p∈ns):((CN ns).find? fun q=>q.1=tx p.1).map (·.2)=some (Ae p.2):=by
 induction ns with
 |nil=>exact BK hp
 |cons a r ih=>
  rw[map_cons,nodup_cons] at nd;show(((tx a.1,Ae a.2)::CN r).find? fun q=>q.1=tx p.1).map (·.2)=_;rw[find?_cons];rcases BF hp with e|hp
  ·rw[e,decide_eq_true rfl];rfl
  ·rw[decide_eq_false fun e=>nd.1 (by rw[Ep e];exact mem_map_of_mem hp)]
   exact ih nd.2 hp
theorem Ft{l:List Nat}(h:Ay l):PyData.strOk (tx l)=true:=Qc (Dq h.2.2)
theorem Iz{ls:List (List Nat)}(h:∀l∈ls,Ay l):Bt ((ls.map tx).map .str)=true:=DM fun y hy=>by
 refine Ad (Ct hy) fun l hl x3=>?_;subst x3;exact Ft (h l hl)
theorem Fu:∀ss:List Str,PyData.depthAll (ss.map .str)=0:=by
 intro ss
 induction ss with
 |nil=>
  exact rfl
 |cons x r Fu=>
  rw[map_cons,PyData.depthAll,Fu];rfl
theorem Co{ls:List (List Nat)}(h:∀l∈ls,Ay l):Cp (Ae ls)=true:=by
 unfold Cp Ae LS;rw[Eb,Iz h,PyData.depth,Fu];rfl
theorem O4{ls:List (List Nat)}{a:List Nat}:(((ls.map tx).map PyData.str).any fun y=>PySem.Spec.same y (.str (tx a)))=decide (a∈ls):=by
 rw[Ob]
 by_cases h:a∈ls
 ·rw[decide_eq_true h,decide_eq_true (mem_map_of_mem h)]
 ·rw[decide_eq_false h,decide_eq_false]
  intro m;refine Ad (Ct m) fun b hb e=>?_;rw[Ep e] at hb;exact h hb
theorem Gu{ls:List (List Nat)}:DS V w H0 n (.d (Ae ls)) (ls.map fun l=>.d (.str (tx l))):=by
 have:=BG (V:=V) (w:=w) (H0:=H0) (n:=n) (ds:=(ls.map tx).map .str);rw[map_map (f:=tx),map_map (f:=PyData.str ∘ tx)] at this;unfold Ae LS;rw[map_map (f:=tx)];exact this
theorem Ku{ls:List (List Nat)}{a:List Nat}(ha:Ay a)(h:∀l∈ls,Ay l):Bm V w H0 n (compareOp .NotIn) (.d (.str (tx a))) (.d (Ae ls)) (Rd (.bool (!decide (a∈ls)))):=by
 have:=Kb (V:=V) (w:=w) (H0:=H0) (n:=n) (d:=.str (tx a)) (xs:=(ls.map tx).map .str) (Em (Ft ha)) (Iz h);rwa [O4] at this
theorem Jt{ls:List (List Nat)}(h:∀l∈ls,Ay l):Bm V w H0 n (compareOp .Eq) (.d (Ae ls)) (.d (.list [])) (Rd (.bool ls.isEmpty)):=by
 have:=Jc (V:=V) (w:=w) (H0:=H0) (n:=n) (Co h) EU;unfold Ae LS at this;rw[EV] at this;have e:((ls.map tx).map PyData.str).isEmpty=ls.isEmpty:=by cases ls<;> rfl
 rw[e] at this;exact this
theorem HB{st:Stmt}{rest:List Stmt}{Φ:Ba}(h:GT V w H0 n sc σ zx st (fun g fl σ' zx'=>fl≠ .next∧Φ g fl σ' zx')):GX V w H0 n sc σ zx (st::rest) Φ:=
 C4 h (fun g σ' zx' p=>absurd rfl p.1) fun Z Z Z Z Z p=>p.2
theorem Gc{e:Expr}{pos:Pos}{rest:List Stmt}{P:Heap->Value->Prop}{Φ:Ba}(h:EvP V w H0 n sc σ zx e P)(hi:∀g v σ',P g v->Φ g (.ret v) σ' zx):GX V w H0 n sc σ zx (.Return (some e) pos::rest) Φ:=
 HB (AV (DD h) fun g fl σ' zx' p=>by
  refine BL p fun x1 x2=>?_;try clear p;rcases x1 with ⟨v,rfl,p⟩;subst x2
  exact⟨(by intro e;exact PX e),hi g v σ' p⟩)
theorem Qr(hsort:GIs H0 "sorted" (.builtin "sorted")){ns:NN}(ok:NeedsOk ns):
  GX V w H0 n (Ap (B7 30)) [(S "needs",IJ V w (CN ns))] [] (AD (B7 30)) (fun g fl Z Z=>∃v,fl=.ret v∧Rd (Aj (Lf ns)) g v):=by
 revert hsort ok;revert ns;revert V w H0 n;refine no_implicit_lambda% (JZ (by exact((default,w0),default)) ?_);generalize Iq _ _=t9;generalize t9.1.1=V,t9.1.2=w,t9.2.1=H0,t9.2.2=n;refine no_implicit_lambda% (Io (default) ?_);generalize HR _ _=ns;intro hsort ok;refine AA (BX (Av (x:=.d (.tuple [.list [],.list []])) (bs:=[(S "come",.d (.list [])),(S "rounds",.d (.list []))]) (DR (ds:=[.list [],.list []]) (Bo (AE (ds:=[]) Bc (by decide)) (AE (ds:=[]) Bc (by decide)) (fun Z=>rfl) fun Z=>rfl) (Ai (by decide)))
  (DZ (b1:=[(S "rounds",.d (.list []))]) (b2:=[(S "come",.d (.list []))]) C9 (Af (Ab rfl)) (Af (Ab rfl)) fun Z=>rfl) (fun Z Z=>rfl) (fun zz o=>by have q:=o.scope;cases zz;simp only at q;subst q;rfl) fun Z=>rfl)) ?_
 have hlen8:∀come,(As ns come).length≤8:=fun come=>by
  rw[As,(CC _).length_eq,length_map];exact le_trans (length_filter_le ..) ok.len
 have hl8:∀come,left ns come≤8:=fun come=>le_trans (length_filter_le ..) ok.len;refine Gq (Hq (I:=fun i σ' zx'=>zx'=[]∧∃rs come,(∀x∈come,Ay x)∧come.length+8*left ns come≤64∧rs.length+left ns come≤8∧left ns come=i∧rs++Er ns (i+1) come=Lf ns∧∀x e,([(S "rounds",.d (Aj rs)),(S "come",.d (Ae come)),(S "needs",IJ V w (CN ns))]:AN).lookup x=some e->σ'.lookup x=some e) (left ns []) (fun i σ' zx' hI=>?_) ?_) ?_
 ·obtain⟨rfl,rs,come,hn,hl,hl2,hi,hr,hs⟩:=hI
  refine⟨true,CQ KV IN fun Z Z=>rfl,fun Z=>DE ?_ hs,E3⟩;have hg:∀x∈As ns come,Ay x:=fun x hx=>by
   refine Dz (Gb hx) fun p hp x3 Z=>?_;subst x3;exact ok.names p hp
  have hz:=hlen8 come;refine AA (σ₁:=[(S "group",.d (Ae (As ns come)))]++[(S "rounds",.d (Aj rs)),(S "come",.d (Ae come)),(S "needs",IJ V w (CN ns))]) (BX (Av (x:=.d (Ae (As ns come))) ?_ (Af (Ab rfl)) (fun Z Z=>rfl) (fun Z Z=>rfl) fun Z=>rfl)) ?_
  ·refine AT (M7 (n:=n) hsort (ls:=(ns.filter fun p=>(!decide (p.1∈come)) && (p.2.filter fun q=>!decide (q∈come)).isEmpty).map (·.1)) (by
    rw[length_map];have:=length_filter_le (fun p:List Nat×List (List Nat)=>(!decide (p.1∈come)) && (p.2.filter fun q=>!decide (q∈come)).isEmpty) ns;have:=ok.len;lia)) (le_refl _) rfl (Bk ?_ fun Z=>rfl) fun Z=>rfl
   have e4:Ae ((ns.filter fun p=>(!decide (p.1∈come)) && (p.2.filter fun q=>!decide (q∈come)).isEmpty).map (·.1))=.list (ns.filterMap fun p=>if((!decide (p.1∈come)) && (p.2.filter fun q=>!decide (q∈come)).isEmpty) then some (PyData.str (tx p.1)) else none):=by
    rw[CL,Ae,LS,map_map,map_map];rfl
   rw[e4];refine FA (items:=ns) (enc:=fun p=>.d (.str (tx p.1))) (xs:=[S "name"]) (x:=IJ V w (CN ns)) (fun p=>if((!decide (p.1∈come)) && (p.2.filter fun q=>!decide (q∈come)).isEmpty) then some (PyData.str (tx p.1)) else none) ?_ ?_ ?_ ?_ ?_ ?_ (Ai (by have:=ok.len;exact le_trans this (by decide))) fun p hp=>?_
   ·exact .inl ⟨_,_,rfl⟩
   ·decide +kernel
   ·decide +kernel
   ·exact fun Z Z=>rfl
   ·exact Aa rfl rfl
   ·have:=Sp (V:=V) (w:=w) (H0:=H0) (n:=n) (kvs:=CN ns)
    unfold CN at this ⊢;rw[map_map] at this;exact this
   refine⟨[(S "name",.d (.str (tx p.1)))],_,Af (Ab rfl),rfl,fun y hy=>by rw[AU hy];rfl,Fd (p:=(!decide (p.1∈come)) && (p.2.filter fun q=>!decide (q∈come)).isEmpty) ?_,fun h=>⟨_,if_pos h,Aa rfl rfl⟩,fun h=>by simp[h]⟩;refine AH (BH ?_ fun Z=>Cq ?_)
   ·exact Ar (Aa rfl rfl) (Aa rfl rfl) (Ku (ok.names p hp) hn) rfl
   ·refine Ar (x:=.d (Ae (p.2.filter fun q=>!decide (q∈come)))) ?_ (AE (ds:=[]) Bc (by decide)) (Jt fun l hl=>((ok.needs p hp).2 l (mem_filter.mp hl).1)) rfl
    have e5:Ae (p.2.filter fun q=>!decide (q∈come))=.list (p.2.filterMap fun q=>if(!decide (q∈come)) then some (PyData.str (tx q)) else none):=by
     rw[CL,Ae,LS,map_map];rfl
    rw[e5];refine FA (items:=p.2) (enc:=fun q=>.d (.str (tx q))) (xs:=[S "need"]) (x:=.d (Ae p.2)) (fun q=>if(!decide (q∈come)) then some (PyData.str (tx q)) else none) ?_ ?_ ?_ ?_ ?_ ?_ (Ai (by have:=(ok.needs p hp).1;exact le_trans this (by decide))) fun q hq=>?_
    ·exact .inl ⟨_,_,rfl⟩
    ·decide +kernel
    ·decide +kernel
    ·exact fun Z Z=>rfl
    ·exact LY (kvs:=CN ns) (k:=tx p.1) (Aa rfl rfl) (Aa rfl rfl) (M8 ok.nodup hp) fun Z Z=>rfl
    ·exact Gu
    ·refine⟨[(S "need",.d (.str (tx q)))],_,Af (Ab rfl),rfl,fun y hy=>by rw[AU hy];rfl,Fd (p:=!decide (q∈come)) ?_,fun h=>⟨_,if_pos h,Aa rfl rfl⟩,fun h=>by simp[h]⟩
     exact Ar (Aa rfl rfl) (Aa rfl rfl) (Ku ((ok.needs p hp).2 q hq) hn) rfl
  have vg:∀pos,Am V w H0 n (Ap (B7 30)) ([(S "group",.d (Ae (As ns come)))]++[(S "rounds",.d (Aj rs)),(S "come",.d (Ae come)),(S "needs",IJ V w (CN ns))]) [] (.Name "group" pos) (.d (Ae (As ns come))):=fun pos=>Aa rfl rfl;have go:Er ns (i+1) come=if As ns come=[] then [] else As ns come::Er ns i (come++As ns come):=rfl
  by_cases e:As ns come=[]
  ·refine HB (BR (b:=true) ?_ (fun Z=>?_) E3)
   ·have:=Jt (V:=V) (w:=w) (H0:=H0) (n:=n) hg
    rw[e] at this vg
    (refine e.symm▸ ?_)
    exact Ar (vg _) (AE (ds:=[]) Bc (by decide)) this rfl
   ·refine Gc (P:=Rd (Aj rs)) ?_ fun g v σ' p=>⟨(by intro q;exact PX q),v,rfl,?_⟩
    ·exact(show Am _ _ _ _ _ _ _ _ (.d (Aj rs)) from Aa rfl rfl)
    ·rw[go,if_pos e,append_nil] at hr
     (refine(hr)▸ ?_);exact p
  ·refine AA (BR (b:=false) ?_ (EP) fun Z=>AC fun g=>⟨rfl,rfl,rfl⟩) ?_
   ·have:=Jt (V:=V) (w:=w) (H0:=H0) (n:=n) hg
    rw[show(As ns come).isEmpty=false by simpa using e] at this;exact Ar (vg _) (AE (ds:=[]) Bc (by decide)) this rfl
   have hlt:=Lg e;refine AA (BX (Av (x:=.d (.tuple [Aj (rs++[As ns come]),Ae (come++As ns come)])) (bs:=[(S "come",.d (Ae (come++As ns come))),(S "rounds",.d (Aj (rs++[As ns come])))]) (DR (ds:=[Aj _,Ae _]) (Bo ?_ ?_ (fun Z=>rfl) fun Z=>rfl) (Ai (by simp)))
    (DZ (b1:=[(S "rounds",.d (Aj (rs++[As ns come])))]) (b2:=[(S "come",.d (Ae (come++As ns come)))]) C9 (Af (Ab rfl)) (Af (Ab rfl)) fun Z=>rfl) (fun Z Z=>rfl) (fun zz o=>by have q:=o.scope;cases zz;simp only at q;subst q;rfl) fun Z=>rfl)) (AC fun g=>?_)
   ·have e1:Aj (rs++[As ns come])=.list (rs.map Ae++[Ae (As ns come)]):=by rw[Aj,map_append];rfl
    rw[e1];exact AO (y:=.d (.list [Ae (As ns come)])) (Aa rfl rfl) (AE (ds:=[Ae _]) (Bk (vg _) fun Z=>rfl) (Ai (succ_pos _))) (EB (Ai (by rw[length_map];simp;lia)))
   ·have e1:Ae (come++As ns come)=.list ((come.map tx).map .str++((As ns come).map tx).map .str):=by rw[Ae,LS,map_append,map_append]
    rw[e1];exact AO (Aa rfl rfl) (vg _) (EB (Ai (by rw[length_map,length_map,length_map,length_map];lia)))
   ·refine⟨left ns (come++As ns come),Nat.lt_of_lt_of_eq hlt hi,rfl,rs++[As ns come],come++As ns come,fun x hx=>?_,?_,?_,rfl,?_,Bl rfl⟩
    ·rcases Cx hx with hx|hx
     ·exact hn x hx
     ·exact hg x hx
    ·rw[length_append];lia
    ·rw[length_append];simp;lia
    ·rw[go,if_neg e] at hr
     rw[←hr,append_assoc,Fs (left ns (come++As ns come)+1) i _ (lt_succ_self _) (Nat.lt_of_lt_of_eq hlt hi)]
     rfl
 ·refine⟨rfl,[],[],fun x h=>(BK h),?_,?_,rfl,?_,Bl rfl⟩
  ·have:=hl8 [];simp;lia
  ·have:=hl8 [];simp;assumption
  ·have h1:left ns []≤ns.length:=length_filter_le ..
   rw[nil_append,Lf];exact Fs _ _ _ (lt_succ_self _) (by lia)
 ·intro g σ' zx' h
  refine Ad h fun v x2 Z=>?_;revert x2;intro h;exact ML h
inductive IsRng(a b c:Int)(g:Heap)(v:Value):Prop
 |mk:∀r t u k,v=.ref r->IsRange g r a b c t u k->IsRng a b c g v
noncomputable def Qs (a b c:Int):Ent:=.p (IsRng a b c) fun g g' v x ⟨r,t,u,k,e,h⟩=>⟨r,t,u,k,e,x _ _ h⟩
theorem Lh{s:Shared}{zy:List Addr}{h:Heap}(B:Base H0 zy h){a b c:Int}{t u k:Tok}:IsRng a b c (vis (h.push {cls:=.type "range",data:=.fields #[.int a t,.int b u,.int c k]}) zy) (.ref h.objs.size):=
 ⟨_,t,u,k,rfl,AQ (IsRange.new ..) B.fresh⟩
theorem O5{k:Int}:FnP V w H0 n (.type "range") [.d (.int k)] (IsRng 0 k 1):=by
 intro A s zy vs g B hm;obtain⟨v,rfl,m⟩:=C7 hm;refine ex1 (Ax m) fun t x2=>?_;subst x2;exact call_range_1 ⟨_,_,rfl,An _ _,Lh (s:=s) B⟩
theorem O6{a b:Int}:FnP V w H0 n (.type "range") [.d (.int a),.d (.int b)] (IsRng a b 1):=by
 intro A s zy vs g B hm;obtain⟨v,u,rfl,m,m2⟩:=GU hm;refine ex1 (Ax m) fun t x2=>?_;subst x2;refine ex1 (Ax m2) fun t' x2=>?_;subst x2;exact call_range_2 ⟨_,_,rfl,An _ _,Lh (s:=s) B⟩
theorem G8(hg:GIs H0 "range" (.type "range")){k:Int}:Has V w H0 "range" n [.d (.int k)] (IsRng 0 k 1):=⟨_,hg,B2,O5⟩
theorem M9(hg:GIs H0 "range" (.type "range")){a b:Int}:Has V w H0 "range" n [.d (.int a),.d (.int b)] (IsRng a b 1):=⟨_,hg,B2,O6⟩
theorem IU{a b:Int}(ha: -(2 ^ 62)≤a)(ha':a<2 ^ 62)(hb: -(2 ^ 62)≤b)(hb':b<2 ^ 62):DS V w H0 n (Qs a b 1) ((List.range (b - a).toNat).map fun i:Nat=>.d (.int (a+(i:Int)))):=by
 intro A s zy v g B m;obtain⟨r,t,u,k,rfl,hr⟩:=m;have hs:Builtin.Range.rangeSize a b 1=((b - a).toNat:Int):=by rw[rangeSize_one];split;exact(Int.toNat_of_nonneg (Int.sub_nonneg_of_le (Int.le_of_lt ‹_›))).symm;rw[Int.toNat_of_nonpos (Int.sub_nonpos_of_le (Int.not_lt.mp ‹_›))];rfl
 have hnext:IsRangeIter (s.heap.push {cls:=.type "range_iterator",data:=.fields #[rawInt a,rawInt (Builtin.Range.rangeSize a b 1),rawInt 1]}) s.heap.objs.size (a+((0:Nat):Int)*1) (((b - a).toNat:Int) - ((0:Nat):Int)) 1:=by
  have e:a+((0:Nat):Int)*1=a:=by rw[Int.mul_one];exact Int.add_zero a
  have e2:(((b - a).toNat:Int) - ((0:Nat):Int))=Builtin.Range.rangeSize a b 1:=by rw[hs];exact rfl
  rw[e,e2];exact Heap.get?_push_size _ rfl
 refine wpAny_pyIter_range (Bp _ _ _ _ hr) (small_one ha ha' hb hb') ⟨s.heap.objs.size,[s.heap.objs.size],[s.heap.objs.size],(fun i h=>IsRangeIter h s.heap.objs.size (a+(i:Nat)*1) (((b - a).toNat:Int) - (i:Nat)) 1),_,s.toks,rfl,rfl,An _ _,⟨?_,?_,?_⟩,hnext,?_,?_⟩
 ·have W:=Walks.range (prog:=V) (w:=w) g.hh s.heap.objs.size a 1 (b - a).toNat
  have e:(b - a).toNat=((List.range (b - a).toNat).map fun i:Nat=>Ent.d (.int (a+i))).length:=by rw[length_map,length_range]
  have:=Walks.imp (P':=fun i v=>∃e,((List.range (b - a).toNat).map fun i:Nat=>Ent.d (.int (a+i)))[i]? =some e∧Means (vis s.heap zy) v e) (k:=(b - a).toNat) (St:=fun i h=>IsRangeIter h s.heap.objs.size (a+(i:Nat)*1) (((b - a).toNat:Int) - (i:Nat)) 1) {
    sub:=W.sub,frame:=W.frame,done:=W.done,self:=W.self
    item:=fun i s' Q E hi st hQ=>W.item i s' Q E hi st fun v h' tk p st' kb=>hQ v h' tk (show(∃t,v=.int (a+i*1) t)∧i<(b - a).toNat from⟨p,hi⟩) st' kb:Walks V w A s.heap.objs.size [s.heap.objs.size] [s.heap.objs.size] (b - a).toNat (fun i v=>(∃t,v=.int (a+i*1) t)∧i<(b - a).toNat) _} fun i v p=>by
   refine BL p fun x1 hi=>?_;rcases x1 with ⟨t,rfl⟩;refine⟨.d (.int (a+i)),by rw[getElem?_map,getElem?_range hi];rfl,?_⟩;rw[Int.mul_one];exact BN _ _ _
  (refine(e)▸ ?_)
  exact this
 ·intro i h st b hb
  rw[AU hb];exact⟨_,st⟩
 ·intro i h st
  exact⟨_,_,st,rfl,by decide⟩
 ·intro b hb
  rw[AU hb];exact CA (le_refl _)
 ·intro b hb
  (refine(AU hb).symm▸ ?_)
  exact⟨⟨_,Heap.get?_push_size _ rfl⟩,B.fresh⟩
noncomputable abbrev CW:=Int×List (List Nat)
noncomputable def IA (p:CW):PyData:=.list [.int p.1,Ae p.2]
noncomputable def Dd (ps:List CW):PyData:=.list (ps.map IA)
noncomputable def Cg:List (List Nat)->List (List Nat)->Bool
 |[],ys=>decide (0<ys.length)
 |_::_,[]=>false
 |x::xs,y::ys=>if x=y then Cg xs ys else decide (x<y)
theorem Dc(x y:List Nat)(xs ys:List (List Nat)):Cg (x::xs) (y::ys)=if x=y then Cg xs ys else decide (x<y):=rfl
noncomputable def HC (a b:CW):Bool:=if a.1=b.1 then (if a.2=b.2 then false else Cg a.2 b.2) else decide (a.1<b.1)
noncomputable def FJ (ps:List CW):CW:=(ps[argBest (fun i j=>HC ((ps[i]?).getD (0,[])) ((ps[j]?).getD (0,[]))) (ps.length - 1)]?).getD (0,[])
def FB(l:List (List Nat)):Prop:=∀x∈l,Ay x
theorem LtD.le{m k:Nat}{x y:PyData}{b:Bool}(h:LtD m x y b)(hk:m≤k):LtD k x y b:=fun A s u v hu=>h A s u v (lt_of_le_of_lt (add_le_add_left hk _) hu)
theorem Li(a b:List Nat):PySem.Spec.same (.str (tx a)) (.str (tx b))=decide (a=b):=by
 rw[PySem.Spec.same,M4]
 by_cases h:a=b<;> simp[h]
theorem O7{a:List (List Nat)}:∀{b:List (List Nat)},FB a->FB b->Lex 100 ((a.map tx).map .str) ((b.map tx).map .str) (Cg a b):=by
 induction a with
 |nil=>
  intro ys Z Z;have:=Lex.nilL (m:=100) (ys:=(ys.map tx).map .str);rw[length_map,length_map] at this;exact this
 |cons x xs ih=>
  intro b ha hb;cases b with
  |nil=>exact .nilR
  |cons y ys=>
   have hx:=Em (Ft (ha x mem_cons_self));have hy:=Em (Ft (hb y mem_cons_self));show Lex 100 (.str (tx x)::(xs.map tx).map .str) (.str (tx y)::(ys.map tx).map .str) _;rw[Dc]
   by_cases e:x=y
   ·rw[if_pos e]
    exact .same hx hy (by rw[Li,decide_eq_true e]) (ih (fun z hz=>ha z (mem_cons_of_mem _ hz)) fun z hz=>hb z (mem_cons_of_mem _ hz))
   ·rw[if_neg e]
    refine .diff hx hy (by rw[Li,decide_eq_false e]) ?_;have:=Sl (m:=100) (tx x) (tx y);exact cast (congrArg (LtD 100 _ _) (decide_eq_decide.mpr (by simp[tx]))) this
theorem Na(a:List (List Nat)):∀b:List (List Nat),PySem.Spec.sameAll ((a.map tx).map .str) ((b.map tx).map .str)=decide (a=b):=by
 induction a with
 |nil=>intro b;cases b<;> rfl
 |cons x xs ih=>
  intro b;cases b with
  |nil=>rfl
  |cons y ys=>
   show(PySem.Spec.same (.str (tx x)) (.str (tx y)) && _)=_;rw[Li,ih ys,←Bool.decide_and];exact decide_eq_decide.mpr List.cons_eq_cons.symm
theorem T8{a b:CW}(ha:FB a.2)(hb:FB b.2):LtD 150 (IA a) (IA b) (HC a b):=by
 have fi:∀k:Int,Cp (.int k)=true:=fun k=>by exact rfl
 have hn:LtD 102 (Ae a.2) (Ae b.2) (Cg a.2 b.2):=LV (O7 ha hb) (by decide);refine LtD.le (m:=104) (LV (m:=102) ?_ (by decide)) (by decide);unfold HC
 by_cases e:a.1=b.1
 ·rw[if_pos e]
  refine .same (fi _) (fi _) (by exact decide_eq_true e) ?_;have sn:PySem.Spec.same (Ae a.2) (Ae b.2)=decide (a.2=b.2):=by unfold Ae LS;rw[PySem.Spec.same,Na]
  by_cases e2:a.2=b.2
  ·rw[if_pos e2]
   exact .same (Co ha) (Co hb) (by rw[sn,decide_eq_true e2]) .nilL
  ·rw[if_neg e2]
   exact .diff (Co ha) (Co hb) (by rw[sn,decide_eq_false e2]) hn
 ·rw[if_neg e]
  exact .diff (fi _) (fi _) (by simp[PySem.Spec.same,e]) (Od _ _)
theorem Ju(hg:GIs H0 "min" (.builtin "min")){ps:List CW}(hn:0<ps.length)(ok:∀p∈ps,FB p.2):CB V w H0 "min" (n+1) [Dd ps] (IA (FJ ps)):=by
 refine Oe hg (bt:=fun i j=>HC ((ps[i]?).getD (0,[])) ((ps[j]?).getD (0,[]))) (by rwa [length_map]) (fun i j x y h1 h2=>?_) ?_
 ·rw[getElem?_map] at h1 h2
  cases c1:ps[i]? with
  |none=>rw[c1] at h1;exact CE h1
  |some k1=>
  cases c2:ps[j]? with
  |none=>rw[c2] at h2;exact CE h2
  |some k2=>
  rw[c1] at h1;rw[c2] at h2;cases h1;cases h2;exact T8 (ok _ (mem_of_getElem? c1)) (ok _ (mem_of_getElem? c2))
 ·rw[length_map,getElem?_map]
  have hlt:argBest (fun i j=>HC ((ps[i]?).getD (0,[])) ((ps[j]?).getD (0,[]))) (ps.length - 1)<ps.length:=by
   have:=Eo (fun i j=>HC ((ps[i]?).getD (0,[])) ((ps[j]?).getD (0,[]))) (ps.length - 1);exact Nat.lt_of_le_pred ‹_› this
  (refine(getElem?_eq_getElem hlt).symm▸ ?_;rewrite [FJ];refine(getElem?_eq_getElem hlt).symm▸ ?_)
  rfl
theorem J2{α γ:Type}{items:List α}{enc:α->Ent}{items2:α->List γ}{enc2:α->γ->Ent}(F:α->γ->Option PyData){elt t1 i1 t2 i2:Expr}{ifs2:List Expr}{scope:Scope}{pos spos py:Pos}{xs1 xs2:List Str}{x:Ent}{y:Str}(ht1:(∃y p,t1=.Name y p)∨∃es k p,t1=.Tuple es k p)(ht2:(∃y p,t2=.Name y p)∨∃es k p,t2=.Tuple es k p)
  (hok:BQ sc scope=true)(hxs:∀x∈xs1++xs2,scope.names.lookup x=some .local∨scope.names.lookup x=some .cell)(hs1:∀zz x,foldedSetIterable i1 zz x=pure x)(hs2:∀zz x,foldedSetIterable i2 zz x=pure x)
  (hsw:∀zz,EnvOk sc zz->swapsWith (.ListComp elt [⟨t1,i1,[],0⟩,⟨t2,i2,ifs2,0⟩] scope pos) (some (.Name y py)) spos.line zz=pure true)(hy:Az sc y)
  (hi:Am V w H0 n sc σ zx i1 x)(hsrc:DS V w H0 n x (items.map enc))(hz:(items.map fun a=>(items2 a).length).sum≤sizeLine)
  (turn:∀a∈items,∃bs x2,MR V w H0 n (CR sc scope) t1 (enc a) bs∧bs.map (·.1)=xs1∧(∀y∈xs1,(Cj scope σ).lookup y=none)∧
   Am V w H0 n (CR sc scope) (bs++Cj scope σ) zx i2 x2∧DS V w H0 n x2 ((items2 a).map (enc2 a))∧∀c∈items2 a,Ff V w H0 n (CR sc scope) (bs++Cj scope σ) zx t2 ifs2 elt xs2 (enc2 a) (F a) c):
  N7 V w H0 n sc σ zx (.Assign [.Name y py] (.ListComp elt [⟨t1,i1,[],0⟩,⟨t2,i2,ifs2,0⟩] scope pos) spos) (.next ((y,.d (.list (items.flatMap fun a=>(items2 a).filterMap (F a))))::σ)):=by
 have hlen:∀l:List α,(l.flatMap fun a=>(items2 a).filterMap (F a)).length≤(l.map fun a=>(items2 a).length).sum:=fun l=>by
  induction l with
  |nil=>exact le_refl _
  |cons a l ih=>
   rw[flatMap_cons,length_append,map_cons,sum_cons];have:((items2 a).filterMap (F a)).length≤(items2 a).length:=length_filterMap_le ..;exact add_le_add this ih
 refine FU (K:=listK) (xs:=xs1++xs2) (fun i=>(items.take i).flatMap fun a=>(items2 a).filterMap (F a)) (Kj ht1) rfl hok hxs (by simpa using Da) (fun zz use=>rfl) hs1 hsw hy (Iv hi hsrc ht1) ?_ fun h zy D hD hK=>?_
 ·intro i x hx
  rw[getElem?_map] at hx;cases ha:items[i]? with
  |none=>rw[ha] at hx;exact CE hx
  |some a=>
   rw[ha] at hx;replace hx:=Option.some.inj hx;subst hx;have hm:a∈items:=mem_of_getElem? ha;refine OK (turn a hm) fun bs x2 h1 h2 h3 h4 h5 h6=>?_;refine⟨bs,true,h1,fun y hy=>mem_append_left _ (by(refine(h2)▸ ?_);exact hy),fun y hy=>h3 y (by(refine(h2)▸ ?_);exact hy),BW,fun Z=>?_,E3⟩;have e:((items.take (i+1)).flatMap fun a=>(items2 a).filterMap (F a))=((items.take i).flatMap fun a=>(items2 a).filterMap (F a))++(items2 a).filterMap (F a):=by
    rw[take_add_one,ha,flatMap_append];simp
   have bound:((items.take i).flatMap fun a=>(items2 a).filterMap (F a)).length+(items2 a).length≤sizeLine:=by
    have h7:=hlen (items.take i);have h8:((items.take (i+1)).map fun a=>(items2 a).length).sum≤(items.map fun a=>(items2 a).length).sum:=by
     have:=congrArg (fun l=>(l.map fun a=>(items2 a).length).sum) (take_append_drop (i+1) items);simp only[map_append,sum_append] at this;rw[←this];exact le_add_right _ _
    rw[take_add_one,ha,map_append,sum_append] at h8;simp only[Option.toList,map_cons,map_nil,sum_cons,sum_nil] at h8
    lia
   have tp:=Iw (iter:=i2) bound h6;have:=Jj (K:=listK) (xs:=xs1++xs2) _ (Kk (elt:=elt) (t1:=t1) (i1:=i1) (ifs1:=[]) (i2:=i2) (ifs2:=ifs2) (scope:=scope) (pos:=pos) ht2) (Iv h4 h5 ht2) hs2 tp (fun y hy=>mem_append_right _ hy);simp only[take_zero,List.filterMap_nil,append_nil,length_map,take_length] at this;show CoP _ _ _ _ _ _ _ _ _ _ _ ((items.take (i+1)).flatMap fun a=>(items2 a).filterMap (F a));rw[e];exact this
 ·have:=ES hD hK
  rwa [length_map,take_length] at this
noncomputable abbrev RR:=List (List (List Nat))
noncomputable abbrev WS:=List (List (List Nat))
noncomputable def GL (ws:WS):PyData:=.list (ws.map Ae)
noncomputable def Ch (pat:List Nat) (ws:WS) (group:List (List Nat)):WS:=ws.flatMap fun way=>(group.filter (CV pat)).map fun x=>way++[x]
noncomputable def Cr (way:List (List Nat)):Int:=((List.range (way.length - 1)).map fun i=>Dp ((way[i]?).getD []) ((way[i+1]?).getD [])).sum
noncomputable def B5 (ws:WS):List CW:=ws.map fun w=>(Cr w,w)
noncomputable def EL (cs:List CW) (rs:RR):Option CW:=if cs≠[]∧rs≠[] then some (FJ cs) else none
noncomputable def DV:Option CW->PyData
 |none=>.none
 |some p=>IA p
noncomputable def Gd (rs:RR) (pat:List Nat):Option CW:=EL (B5 (rs.foldl (Ch pat) [[]])) rs
structure RoundsOk(rs:RR):Prop where
 total:(rs.map List.length).sum≤8
 len:rs.length≤8
 names:∀g∈rs,∀x∈g,Ay x
theorem Ge(pat:List Nat)(group:List (List Nat)):∀ws:WS,(Ch pat ws group).length≤ws.length*group.length:=by
 intro ws
 induction ws with
 |nil=>
  exact zero_le _
 |cons w ws Ge=>
  have ih:=Ge;unfold Ch at ih ⊢;rw[flatMap_cons,length_append,length_map,length_cons,Nat.succ_mul];have:=length_filter_le (CV pat) group;rw[add_comm];exact add_le_add ih this
theorem H5{α:Type}(k:Nat):∀l:List α,(l.map fun Z=>k).sum=l.length*k:=by
 intro l
 induction l with
 |nil=>
  simp
 |cons _ l H5=>
  rw[map_cons,sum_cons,H5,length_cons,Nat.succ_mul,add_comm]
theorem Nb(k:Nat):k≤2 ^ k:=le_of_lt Nat.lt_two_pow_self
structure WaysOk(rs:RR)(i:Nat)(ws:WS):Prop where
 len:ws.length≤2 ^ ((rs.take i).map List.length).sum
 ok:∀w∈ws,FB w∧w.length≤i
theorem Jv{rs:RR}{i:Nat}{g:List (List Nat)}(h:rs[i]? =some g):((rs.take (i+1)).map List.length).sum=((rs.take i).map List.length).sum+g.length:=by
 rw[take_add_one,h,map_append,sum_append];exact rfl
theorem Gf(rs:RR)(i:Nat):((rs.take i).map List.length).sum≤(rs.map List.length).sum:=by
 have:=congrArg (fun l=>(l.map List.length).sum) (take_append_drop i rs);simp only[map_append,sum_append] at this
 lia
theorem IB{pat:List Nat}{rs:RR}{i:Nat}{g:List (List Nat)}{ws:WS}(h:rs[i]? =some g)(hn:∀x∈g,Ay x)(ok:WaysOk rs i ws):WaysOk rs (i+1) (Ch pat ws g) where
 len:=by
  rw[Jv h,Nat.pow_add];exact le_trans (Ge pat g ws) (Nat.mul_le_mul ok.len (Nb _))
 ok:=fun w hw=>by
  refine Ad (mem_flatMap.mp hw) fun v hv hw=>?_;refine Ad (Ct hw) fun x hx x3=>?_;subst x3;have:=ok.ok v hv;refine⟨fun y hy=>?_,by rw[length_append];simp;exact this.2⟩;rcases Cx hy with hy|hy
  ·exact this.1 y hy
  ·rw[AU hy];exact hn x (mem_filter.mp hx).1
theorem DW{pat:List Nat}{rs:RR}(hn:∀g∈rs,∀x∈g,Ay x):∀i,i≤rs.length->WaysOk rs i ((rs.take i).foldl (Ch pat) [[]]):=by
 intro i
 induction i with
 |zero=>
  intro Z;exact⟨succ_pos _,fun w hw=>by
    rw[take_zero,List.foldl_nil,mem_singleton] at hw;subst hw;exact⟨fun x h=>(BK h),le_refl _⟩⟩
 |succ i DW=>
  intro hi;have hlt:i<rs.length:=by assumption
  have e:=getElem?_eq_getElem hlt;rw[En e];exact IB e (hn _ (getElem_mem hlt)) (DW (le_of_lt hi))
theorem Gg{ws:WS}:DS V w H0 n (.d (GL ws)) (ws.map fun w=>.d (Ae w)):=by
 have:=BG (V:=V) (w:=w) (H0:=H0) (n:=n) (ds:=ws.map Ae);rw[map_map] at this;exact this
theorem HD{rs:RR}(h:∀g∈rs,∀x∈g,Ay x):Bt (rs.map Ae)=true:=by
 induction rs with
 |nil=>rfl
 |cons g r ih=>rw[map_cons,AX,Bj (Co (h g mem_cons_self)),ih fun g' hg=>h g' (mem_cons_of_mem _ hg)];rfl
theorem Gh(g:List (List Nat)):PyData.depth (Ae g)=1:=by
 unfold Ae LS;rw[PyData.depth,Fu]
theorem Ee:∀rs:RR,PyData.depthAll (rs.map Ae)≤1:=by
 intro rs
 induction rs with
 |nil=>
  exact zero_le _
 |cons g r Ee=>
  have:=Ee;rw[map_cons,PyData.depthAll,Gh];exact max_le.mpr ⟨by decide,this⟩
theorem Kx{rs:RR}(h:∀g∈rs,∀x∈g,Ay x):Bm V w H0 n (compareOp .NotEq) (.d (Aj rs)) (.d (.list [])) (Rd (.bool (!rs.isEmpty))):=by
 have hf:Cp (Aj rs)=true:=by
  unfold Cp Aj;have:=Ee rs;rw[Eb,HD h,PyData.depth,Bool.true_and,decide_eq_true_eq];exact lt_of_le_of_lt this (by decide)
 have:=HV (V:=V) (w:=w) (H0:=H0) (n:=n) hf EU;unfold Aj at this;rw[EV] at this;have e:(rs.map Ae).isEmpty=rs.isEmpty:=by cases rs<;> rfl
 rw[e] at this;exact this
theorem O8{cs:List CW}(h:∀p∈cs,FB p.2):Bt (cs.map IA)=true:=by
 induction cs with
 |nil=>rfl
 |cons p r ih=>
  rw[map_cons,AX,ih fun q hq=>h q (mem_cons_of_mem _ hq),Bool.and_true,IA,Eb,AX,AX,Ej,N5,Bj (Co (h p mem_cons_self))];rfl
theorem H6:∀cs:List CW,PyData.depthAll (cs.map IA)≤2:=by
 intro cs
 induction cs with
 |nil=>
  exact zero_le _
 |cons p r H6=>
  have:=H6;rw[map_cons,PyData.depthAll,IA,PyData.depth,PyData.depthAll,PyData.depthAll,PyData.depthAll,Gh,PyData.depth];exact max_le.mpr ⟨by decide,this⟩
theorem G9{cs:List CW}(h:∀p∈cs,FB p.2):Bm V w H0 n (compareOp .NotEq) (.d (Dd cs)) (.d (.list [])) (Rd (.bool (!cs.isEmpty))):=by
 have hf:Cp (Dd cs)=true:=by
  unfold Cp Dd;have:=H6 cs;rw[Eb,O8 h,PyData.depth,Bool.true_and,decide_eq_true_eq];exact lt_of_le_of_lt this (by decide)
 have:=HV (V:=V) (w:=w) (H0:=H0) (n:=n) hf EU;unfold Dd at this;rw[EV] at this;have e:(cs.map IA).isEmpty=cs.isEmpty:=by cases cs<;> rfl
 rw[e] at this;exact this
theorem Qt(hg:GIs H0 "len" (.builtin "len"))(hmin:GIs H0 "min" (.builtin "min"))(hsum:GIs H0 "sum" (.builtin "sum"))(hrange:GIs H0 "range" (.type "range")){rs:RR}{pat:List Nat}(ok:RoundsOk rs){a b:Nat}(hp:pat=[a,b])(ha:AJ a)(hb:AJ b)
  (hfits:∀a b l,AJ a->AJ b->Ay l->CB V w H0 "_law_fits" (n+1) [.str (tx [a,b]),.str (tx l)] (.bool (Jp (a,b) l)))
  (hprice:∀x y,Ay x->Ay y->CB V w H0 "_law_price" (n+1) [.str (tx x),.str (tx y)] (.int (Dp x y))):
  II V w H0 (n+1) (Ap (B7 32)) [(S "rounds",.d (Aj rs)),(S "pattern",.d (.str (tx pat)))] [] (AD (B7 32)) (.ret (.d (DV (Gd rs pat)))):=by
 revert hg hmin hsum hrange ok hp ha hb hfits hprice;revert V w H0 n rs pat a b;refine no_implicit_lambda% (HS (by exact(((default,w0),default),default)) ?_);generalize FK _ _=t9;generalize t9.1.1.1=V,t9.1.1.2=w,t9.1.2.1=H0,t9.1.2.2=n,t9.2.1.1=rs,t9.2.1.2=pat,t9.2.2.1=a,t9.2.2.2=b;intro hg hmin hsum hrange ok hp ha hb hfits hprice;refine Bn (σ':=[(S "ways",.d (GL [[]]))]++[(S "rounds",.d (Aj rs)),(S "pattern",.d (.str (tx pat)))]) (Av (AE (ds:=[.list []]) (Bk (AE (ds:=[]) Bc (by decide)) fun Z=>rfl) (by decide)) (Af (Ab rfl)) (fun Z Z=>rfl) (fun Z Z=>rfl) fun Z=>rfl) ?_;refine Bn (MY (J:=fun i=>[(S "ways",.d (GL ((rs.take i).foldl (Ch pat) [[]]))),(S "rounds",.d (Aj rs)),(S "pattern",.d (.str (tx pat)))]) (x:=.d (Aj rs)) (ds:=rs.map fun g=>.d (Ae g)) (Aa rfl rfl) Gg (Bl rfl) (fun i e he=>?_) (fun Z Z=>rfl) (.inl ⟨_,_,rfl⟩)) ?_
 ·rw[getElem?_map] at he
  cases hgi:rs[i]? with
  |none=>rw[hgi] at he;exact nomatch he
  |some g=>
  rw[hgi] at he;cases he;have hmem:g∈rs:=mem_of_getElem? hgi;have hlt:=(List.getElem?_eq_some_iff.mp hgi).1;have wok:=DW (pat:=pat) ok.names i (le_of_lt hlt);have wok':=IB (pat:=pat) hgi (ok.names g hmem) wok
  (refine(En hgi).symm▸ ?_)
  generalize (rs.take i).foldl (Ch pat) [[]]=ws at wok wok' ⊢;refine⟨[(S "group",.d (Ae g))],Af (Ab rfl),MS (Bn (σ':=(S "ways",.d (GL (Ch pat ws g)))::([(S "group",.d (Ae g))]++[(S "ways",.d (GL ws)),(S "rounds",.d (Aj rs)),(S "pattern",.d (.str (tx pat)))])) ?_ EI) (Bl rfl)⟩;have e3:GL (Ch pat ws g)=.list (ws.flatMap fun v=>g.filterMap fun x=>if CV pat x then some (Ae (v++[x])) else none):=by
   unfold GL Ch;rw[List.map_flatMap]
   congr 2
   funext v
   rw[CL,map_map];rfl
  (refine e3.symm▸ ?_)
  have t8:=ok.total;have hle:=Gf rs i;have hle':=Gf rs (i+1);have h256:∀k,k≤8->2 ^ k≤256:=fun k hk=>Nat.pow_le_pow_right (by decide) hk;have l1:=wok.len;have l2:=h256 _ (le_trans hle t8);have g8:g.length≤8:=by rw[Jv hgi] at hle';lia
  refine J2 (items:=ws) (enc:=fun v=>.d (Ae v)) (items2:=fun Z=>g) (enc2:=fun Z x=>.d (.str (tx x))) (F:=fun v x=>if CV pat x then some (Ae (v++[x])) else none) (xs1:=[S "way"]) (xs2:=[S "name"]) (x:=.d (GL ws)) ?_ ?_ ?_ ?_ ?_ ?_ ?_ ?_ ?_ ?_ ?_ fun v hv=>?_
  ·exact .inl ⟨_,_,rfl⟩
  ·exact .inl ⟨_,_,rfl⟩
  ·decide +kernel
  ·decide +kernel
  ·exact fun Z Z=>rfl
  ·exact fun Z Z=>rfl
  ·exact fun zz o=>by have q:=o.scope;cases zz;simp only at q;subst q;rfl
  ·exact Ab rfl
  ·exact Aa rfl rfl
  ·exact Gg
  ·refine Ai ?_
   rw[H5];exact le_trans (Nat.mul_le_mul (le_trans l1 l2) g8) (by decide)
  ·refine⟨[(S "way",.d (Ae v))],.d (Ae g),Af (Ab rfl),rfl,fun y hy=>by rw[AU hy];rfl,Aa rfl rfl,Gu,fun x hx=>?_⟩
   refine⟨[(S "name",.d (.str (tx x)))],_,Af (Ab rfl),rfl,fun y hy=>by rw[AU hy];rfl,Fd (p:=CV pat x) ?_,fun h=>⟨_,if_pos h,?_⟩,fun h=>by simp[h]⟩
   ·have q:=hfits a b x ha hb (ok.names g hmem x hx)
    have e5:CV pat x=Jp (a,b) x:=by rw[hp];rfl
    rw[e5];rw[←hp] at q;exact Le q (le_refl _) rfl (Bo (Aa rfl rfl) (Aa rfl rfl) (fun Z=>rfl) fun Z=>rfl) fun Z=>rfl
   ·have e6:Ae (v++[x])=.list ((v.map tx).map .str++[.str (tx x)]):=by rw[Ae,LS,map_append,map_append];rfl
    rw[e6];have v9:=(wok.ok v hv).2;have r8:=ok.len;exact AO (x:=.d (Ae v)) (y:=.d (.list [.str (tx x)])) (Aa rfl rfl) (AE (ds:=[.str _]) (Bk (Aa rfl rfl) fun Z=>rfl) (Ai (succ_pos _))) (EB (Ai (by rw[length_map,length_map];simp;lia)))
 have ef:(rs.map fun g=>Ent.d (Ae g)).length=rs.length:=length_map ..
 (refine ef.symm▸ ?_;refine(take_length).symm▸ ?_)
 have wok:=DW (pat:=pat) ok.names rs.length (le_refl _);rw[take_length] at wok;have hall:Gd rs pat=EL (B5 (rs.foldl (Ch pat) [[]])) rs:=rfl;rw[hall];generalize rs.foldl (Ch pat) [[]]=ws at wok ⊢;have l8:=ok.len;have l256:ws.length≤256:=by
  have h1:=wok.len;rw[take_length] at h1;exact le_trans h1 (Nat.pow_le_pow_right (by decide) ok.total)
 have ec:Dd (B5 ws)=.list (ws.filterMap fun v=>some (IA (Cr v,v))):=by
  rw[filterMap_eq_map',Dd,B5,map_map];rfl
 refine Bn (σ':=(S "costs",.d (Dd (B5 ws)))::[(S "ways",.d (GL ws)),(S "rounds",.d (Aj rs)),(S "pattern",.d (.str (tx pat)))]) ?_ ?_
 ·(refine ec.symm▸ ?_)
  refine Dj (items:=ws) (enc:=fun v=>.d (Ae v)) (fun v=>some (IA (Cr v,v))) (xs:=[S "way"]) (x:=.d (GL ws)) ?_ ?_ ?_ ?_ ?_ ?_ ?_ ?_ (Ai (le_trans l256 (by decide))) fun v hv=>?_
  ·exact .inl ⟨_,_,rfl⟩
  ·decide +kernel
  ·decide +kernel
  ·exact fun Z Z=>rfl
  ·exact fun zz o=>by have q:=o.scope;cases zz;simp only at q;subst q;rfl
  ·exact Ab rfl
  ·exact Aa rfl rfl
  ·exact Gg
  ·refine⟨[(S "way",.d (Ae v))],true,Af (Ab rfl),rfl,fun y hy=>by rw[AU hy];rfl,BW,fun Z=>⟨_,rfl,?_⟩,fun h=>by exact nomatch h⟩
   refine AE (ds:=[.int (Cr v),Ae v]) (Bo ?_ (Aa rfl rfl) (fun Z=>rfl) fun Z=>rfl) (Ai (by simp));have v9:=(wok.ok v hv).2;have vn:=(wok.ok v hv).1;have e1:PyData.list ((List.range (v.length - 1)).filterMap fun i=>some (PyData.int (Dp ((v[i]?).getD []) ((v[i+1]?).getD []))))=.list (((List.range (v.length - 1)).map fun i=>Dp ((v[i]?).getD []) ((v[i+1]?).getD [])).map .int):=by
    rw[filterMap_eq_map',map_map];rfl
   refine AT (IT (n:=n) hsum (ks:=(List.range (v.length - 1)).map fun i=>Dp ((v[i]?).getD []) ((v[i+1]?).getD []))) (le_refl _) rfl (Bk ?_ fun Z=>rfl) fun Z=>rfl
   (refine(e1)▸ ?_)
   refine FA (items:=List.range (v.length - 1)) (enc:=fun i=>.d (.int (1+(i:Int)))) (fun i=>some (PyData.int (Dp ((v[i]?).getD []) ((v[i+1]?).getD [])))) (xs:=[S "k"]) (x:=Qs 1 v.length 1) ?_ ?_ ?_ ?_ ?_ ?_ (Ai (by rw[length_range];exact le_trans (sub_le _ _) (le_trans v9 (le_trans l8 (by decide))))) fun i hi=>?_
   ·exact .inl ⟨_,_,rfl⟩
   ·decide +kernel
   ·decide +kernel
   ·exact fun Z Z=>rfl
   ·refine AT (M9 (n:=n+1) hrange) (le_refl _) rfl (Bo Ao ?_ (fun Z=>rfl) fun Z=>rfl) fun Z=>rfl
    have hz:((v.map tx).map PyData.str).length≤sizeLine:=Ai (by rw[length_map,length_map];lia);have e8:PyData.int v.length=.int ((v.map tx).map PyData.str).length:=by rw[length_map,length_map]
    rw[e8];exact AT (Fn (n:=n+1) hg hz) (le_refl _) rfl (Bk (show Am _ _ _ _ _ _ _ _ (.d (Ae v)) from Aa rfl rfl) fun Z=>rfl) fun Z=>rfl
   ·have h2:((v.length:Int) - 1).toNat=v.length - 1:=Int.toNat_sub v.length 1
    have:=IU (V:=V) (w:=w) (H0:=H0) (n:=n+1) (a:=1) (b:=v.length) (by decide) (by decide) (by lia) (by lia);rwa [h2] at this
   ·have hi':i<v.length - 1:=mem_range.mp hi
    refine⟨[(S "k",.d (.int (1+(i:Int))))],true,Af (Ab rfl),rfl,fun y hy=>by rw[AU hy];rfl,BW,fun Z=>⟨_,rfl,?_⟩,fun h=>by exact nomatch h⟩;have hi0:i<v.length:=lt_of_lt_of_le hi' (sub_le _ _);have hi1:i+1<v.length:=Nat.add_lt_of_lt_sub hi';have a1:v[i]? =some v[i]:=getElem?_eq_getElem hi0;have a2:v[i+1]? =some v[i+1]:=getElem?_eq_getElem hi1
    (refine a1.symm▸ ?_;refine a2.symm▸ ?_)
    refine AT (hprice v[i] v[i+1] (vn _ (getElem_mem _)) (vn _ (getElem_mem _))) (le_refl _) rfl (Bo ?_ ?_ (fun Z=>rfl) fun Z=>rfl) fun Z=>rfl
    ·refine Fe (xs:=(v.map tx).map .str) (k:=1+(i:Int) - 1) (show Am _ _ _ _ _ _ _ _ (.d (Ae v)) from Aa rfl rfl) (AO (Aa rfl rfl) Ao IP) (by rw[TP];exact Int.natCast_nonneg i) (by rw[TP];exact UH (le_trans (le_of_lt hi0) (le_trans v9 (le_trans l8 (by decide))))) ?_ fun Z Z=>rfl
     (refine(show(1+(i:Int) - 1).toNat=i by rw[TP];rfl).symm▸ ?_;refine(getElem?_map).symm▸ ?_;refine(getElem?_map).symm▸ ?_;refine a1.symm▸ ?_);rfl
    ·refine Fe (xs:=(v.map tx).map .str) (k:=1+(i:Int)) (show Am _ _ _ _ _ _ _ _ (.d (Ae v)) from Aa rfl rfl) (Aa rfl rfl) (Int.natCast_nonneg (1+i)) (UH (n:=1+i) (by rw[add_comm];exact le_trans (le_of_lt hi1) (le_trans v9 (le_trans l8 (by decide))))) ?_ fun Z Z=>rfl
     (refine(show(1+(i:Int)).toNat=i+1 from add_comm 1 i).symm▸ ?_;refine(getElem?_map).symm▸ ?_;refine(getElem?_map).symm▸ ?_;refine a2.symm▸ ?_);rfl
 have cl:(B5 ws).length=ws.length:=length_map ..;have cok:∀p∈B5 ws,FB p.2:=fun p hp=>by
  refine Ad (Ct hp) fun v hv x3=>?_;subst x3;exact(wok.ok v hv).1
 have e9:DV (EL (B5 ws) rs)=if(!(B5 ws).isEmpty && !rs.isEmpty) then IA (FJ (B5 ws)) else .none:=by
  unfold EL;cases h1:B5 ws<;> cases h2:rs<;> exact rfl
 rw[e9];refine BP (Bu (EH (AH (BH ?_ fun Z=>Cq ?_)) (fun h=>?_) fun Z=>BV))
 ·exact Ar (Aa rfl rfl) (AE (ds:=[]) Bc (by decide)) (G9 cok) rfl
 ·exact Ar (Aa rfl rfl) (AE (ds:=[]) Bc (by decide)) (Kx ok.names) rfl
 ·rw[Bool.and_eq_true] at h
  have hpos:0<(B5 ws).length:=by
   cases h3:B5 ws with
   |nil=>rw[h3] at h;exact nomatch h
   |cons _ _=>exact succ_pos _
  exact AT (Ju (n:=n) hmin hpos cok) (le_refl _) rfl (Bk (Aa rfl rfl) fun Z=>rfl) fun Z=>rfl
noncomputable def Cl (lev:List Nat->List Nat->Int) (ts:List CW) (x:List Nat):List CW:=ts.map fun p=>(p.1+(if p.2=[] then 0 else lev (p.2.getLastD []) x),p.2++[x])
noncomputable def BI (parts:List (Option Str)) (ts:List CW) (g:List (List Nat)):List (List Nat):=g.filter fun x=>!ts.isEmpty && BS parts x
noncomputable def Br (lev:List Nat->List Nat->Int) (parts:List (Option Str)) (ts:List CW) (g:List (List Nat)):List CW:=(BI parts ts g).map fun x=>FJ (Cl lev ts x)
noncomputable def HE (lev:List Nat->List Nat->Int) (rs:RR) (parts:List (Option Str)):Option CW:=EL (rs.foldl (Br lev parts) [(0,[])]) rs
structure ThOk(i:Nat)(ts:List CW):Prop where
 len:ts.length≤8
 ok:∀p∈ts,FB p.2∧p.2.length≤i
theorem HF{ps:List CW}(h:0<ps.length):FJ ps∈ps:=by
 unfold FJ;have hlt:argBest (fun i j=>HC ((ps[i]?).getD (0,[])) ((ps[j]?).getD (0,[]))) (ps.length - 1)<ps.length:=by
  have:=Eo (fun i j=>HC ((ps[i]?).getD (0,[])) ((ps[j]?).getD (0,[]))) (ps.length - 1);exact Nat.lt_of_le_pred h this
 rw[getElem?_eq_getElem hlt];exact getElem_mem _
theorem Qu{lev:List Nat->List Nat->Int}{i:Nat}{ts:List CW}{x:List Nat}(ok:ThOk i ts)(hx:Ay x):∀p∈Cl lev ts x,FB p.2∧p.2.length≤i+1:=fun p hp=>by
 refine Ad (Ct hp) fun q hq x3=>?_;subst x3;have:=ok.ok q hq;refine⟨fun y hy=>?_,by simp;exact this.2⟩;rcases Cx hy with hy|hy
 ·exact this.1 y hy
 ·rw[AU hy];exact hx
theorem Gv{parts:List (Option Str)}{ts:List CW}{g:List (List Nat)}{x:List Nat}(h:x∈BI parts ts g):0<ts.length:=by
 have:=(mem_filter.mp h).2;rw[Bool.and_eq_true] at this;cases ts with
 |nil=>exact nomatch this
 |cons _ _=>exact succ_pos _
theorem O9{lev:List Nat->List Nat->Int}{parts:List (Option Str)}{i:Nat}{ts:List CW}{g:List (List Nat)}(ok:ThOk i ts)(hg:∀x∈g,Ay x)(h8:g.length≤8):ThOk (i+1) (Br lev parts ts g) where
 len:=by
  unfold Br;rw[length_map];exact le_trans (length_filter_le ..) h8
 ok:=fun p hp=>by
  refine Ad (Ct hp) fun x hx x3=>?_;subst x3;exact Qu ok (hg x (mem_filter.mp hx).1) _ (HF (by unfold Cl;rw[length_map];exact Gv hx))
theorem T9{l:List Nat}{k:Nat}(h:k∈l):k≤l.sum:=by
 induction l with
 |nil=>exact BK h
 |cons a r ih=>
  rw[sum_cons];rcases BF h with e|h
  ·rw[e];exact le_add_right _ _
  ·exact le_trans (ih h) (Nat.le_add_left _ _)
theorem Ky{rs:RR}(ok:RoundsOk rs){g:List (List Nat)}(h:g∈rs):g.length≤8:=by
 have h1:g.length∈rs.map List.length:=mem_map_of_mem h;have h2:g.length≤(rs.map List.length).sum:=T9 h1;have:=ok.total;exact le_trans h2 this
theorem Gw{lev:List Nat->List Nat->Int}{parts:List (Option Str)}{rs:RR}(ok:RoundsOk rs):∀i,i≤rs.length->ThOk i ((rs.take i).foldl (Br lev parts) [(0,[])]):=by
 intro i
 induction i with
 |zero=>
  intro Z;exact⟨succ_pos _,fun p hp=>by
    rw[take_zero,List.foldl_nil,mem_singleton] at hp;subst hp;exact⟨fun x h=>(by exact nomatch h),le_refl _⟩⟩
 |succ i Gw=>
  intro hi;have hlt:i<rs.length:=by assumption
  have e:=getElem?_eq_getElem hlt;rw[En e];exact O9 (Gw (le_of_lt hi)) (ok.names _ (getElem_mem hlt)) (Ky ok (getElem_mem hlt))
theorem Sr{ts:List CW}:DS V w H0 n (.d (Dd ts)) (ts.map fun p=>.d (IA p)):=by
 have:=BG (V:=V) (w:=w) (H0:=H0) (n:=n) (ds:=ts.map IA);rw[map_map] at this;exact this
theorem Pa{ls:List (List Nat)}(h:∀l∈ls,Ay l):Bm V w H0 n (compareOp .NotEq) (.d (Ae ls)) (.d (.list [])) (Rd (.bool (!ls.isEmpty))):=by
 have:=HV (V:=V) (w:=w) (H0:=H0) (n:=n) (Co h) EU;unfold Ae LS at this;rw[EV] at this;have e:((ls.map tx).map PyData.str).isEmpty=ls.isEmpty:=by cases ls<;> rfl
 rw[e] at this;exact this
theorem L9(hmin:GIs H0 "min" (.builtin "min")){lev:List Nat->List Nat->Int}{rs:RR}{parts:List (Option Str)}(ok:RoundsOk rs)
  (htakes:∀x,Ay x->CB V w H0 "_law_takes" (n+1) [AM parts,.str (tx x)] (.bool (BS parts x)))
  (hlev:∀x y,Ay x->Ay y->CB V w H0 "_levenshtein_distance" (n+1) [.str (tx x),.str (tx y),.int 9] (.int (lev x y))):
  II V w H0 (n+1) (Ap (B7 31)) [(S "rounds",.d (Aj rs)),(S "parts",.d (AM parts))] [] (AD (B7 31)) (.ret (.d (DV (HE lev rs parts)))):=by
 revert hmin ok htakes hlev;revert parts;revert lev rs;revert V w H0 n;refine no_implicit_lambda% (JZ (by exact((default,w0),default)) ?_);generalize Iq _ _=t9;generalize t9.1.1=V,t9.1.2=w,t9.2.1=H0,t9.2.2=n;refine no_implicit_lambda% (I8 (by exact default) ?_);generalize Ip _ _=t9;generalize t9.1=lev,t9.2=rs;refine no_implicit_lambda% (Io (default) ?_);generalize HR _ _=parts;intro hmin ok htakes hlev;refine Bn (σ':=[(S "threads",.d (Dd [(0,[])]))]++[(S "rounds",.d (Aj rs)),(S "parts",.d (AM parts))]) (Av (AE (ds:=[IA (0,[])]) (Bk (AE (ds:=[.int 0,Ae []]) (Bo Ao (AE (ds:=[]) Bc (by decide)) (fun Z=>rfl) fun Z=>rfl) (Ai (by decide))) fun Z=>rfl) (Ai (succ_pos _))) (Af (Ab rfl)) (fun zz o=>by have q:=o.scope;cases zz;simp only at q;subst q;rfl) (fun zz o=>by have q:=o.scope;cases zz;simp only at q;subst q;rfl) fun Z=>rfl) ?_;refine Bn (MY (J:=fun i=>[(S "threads",.d (Dd ((rs.take i).foldl (Br lev parts) [(0,[])]))),(S "rounds",.d (Aj rs)),(S "parts",.d (AM parts))]) (x:=.d (Aj rs)) (ds:=rs.map fun g=>.d (Ae g)) (Aa rfl rfl) Gg (Bl rfl) (fun i e he=>?_) (fun Z Z=>rfl) (.inl ⟨_,_,rfl⟩)) ?_
 ·rw[getElem?_map] at he
  cases hgi:rs[i]? with
  |none=>rw[hgi] at he;exact nomatch he
  |some g=>
  rw[hgi] at he;cases he;have hmem:g∈rs:=mem_of_getElem? hgi;have hlt:=(List.getElem?_eq_some_iff.mp hgi).1;have wok:=Gw (lev:=lev) (parts:=parts) ok i (le_of_lt hlt);have g8:=Ky ok hmem;have gn:=ok.names g hmem
  (refine(En hgi).symm▸ ?_)
  generalize (rs.take i).foldl (Br lev parts) [(0,[])]=ts at wok ⊢;have t8:=wok.len;have r8:=ok.len;have n8:(BI parts ts g).length≤8:=le_trans (length_filter_le ..) g8;have nn:∀x∈BI parts ts g,Ay x:=fun x hx=>gn x (mem_filter.mp hx).1;refine⟨[(S "group",.d (Ae g))],Af (Ab rfl),?_⟩;refine MS (Bn (σ':=(S "names",.d (Ae (BI parts ts g)))::([(S "group",.d (Ae g))]++[(S "threads",.d (Dd ts)),(S "rounds",.d (Aj rs)),(S "parts",.d (AM parts))])) ?_
   (Bn (σ':=(S "rows",.d (.list ((BI parts ts g).map fun x=>Dd (Cl lev ts x))))::(S "names",.d (Ae (BI parts ts g)))::([(S "group",.d (Ae g))]++[(S "threads",.d (Dd ts)),(S "rounds",.d (Aj rs)),(S "parts",.d (AM parts))])) ?_
    (Bn (σ':=[(S "threads",.d (Dd (Br lev parts ts g)))]++((S "rows",.d (.list ((BI parts ts g).map fun x=>Dd (Cl lev ts x))))::(S "names",.d (Ae (BI parts ts g)))::([(S "group",.d (Ae g))]++[(S "threads",.d (Dd ts)),(S "rounds",.d (Aj rs)),(S "parts",.d (AM parts))]))) ?_ EI))) (Bl rfl)
  ·have e3:Ae (BI parts ts g)=.list (g.filterMap fun x=>if(!ts.isEmpty && BS parts x) then some (PyData.str (tx x)) else none):=by
    rw[CL,Ae,LS,map_map];rfl
   (refine e3.symm▸ ?_)
   refine Dj (items:=g) (enc:=fun x=>.d (.str (tx x))) (fun x=>if(!ts.isEmpty && BS parts x) then some (PyData.str (tx x)) else none) (xs:=[S "name"]) (x:=.d (Ae g)) ?_ ?_ ?_ ?_ ?_ ?_ ?_ Gu (Ai (le_trans g8 (by decide))) fun x hx=>?_
   ·exact .inl ⟨_,_,rfl⟩
   ·decide +kernel
   ·decide +kernel
   ·exact fun Z Z=>rfl
   ·exact fun zz o=>by have q:=o.scope;cases zz;simp only at q;subst q;rfl
   ·exact Ab rfl
   ·exact Aa rfl rfl
   ·refine⟨[(S "name",.d (.str (tx x)))],_,Af (Ab rfl),rfl,fun y hy=>by rw[AU hy];rfl,Fd (p:=!ts.isEmpty && BS parts x) ?_,fun h=>⟨_,if_pos h,Aa rfl rfl⟩,fun h=>by simp[h]⟩
    refine AH (BH ?_ fun Z=>Cq ?_)
    ·exact Ar (Aa rfl rfl) (AE (ds:=[]) Bc (by decide)) (G9 fun p hp=>(wok.ok p hp).1) rfl
    ·exact Le (htakes x (gn x hx)) (le_refl _) rfl (Bo (Aa rfl rfl) (Aa rfl rfl) (fun Z=>rfl) fun Z=>rfl) fun Z=>rfl
  ·have e3:PyData.list ((BI parts ts g).map fun x=>Dd (Cl lev ts x))=.list ((BI parts ts g).filterMap fun x=>some (Dd (Cl lev ts x))):=by kernel_rfl!
   (refine e3.symm▸ ?_)
   refine Dj (items:=BI parts ts g) (enc:=fun x=>.d (.str (tx x))) (fun x=>some (Dd (Cl lev ts x))) (xs:=[S "name"]) (x:=.d (Ae (BI parts ts g))) ?_ ?_ ?_ ?_ ?_ ?_ ?_ Gu (Ai (le_trans n8 (by decide))) fun x hx=>?_
   ·exact .inl ⟨_,_,rfl⟩
   ·decide +kernel
   ·decide +kernel
   ·exact fun Z Z=>rfl
   ·exact fun zz o=>by have q:=o.scope;cases zz;simp only at q;subst q;rfl
   ·exact Ab rfl
   ·exact Aa rfl rfl
   ·refine⟨[(S "name",.d (.str (tx x)))],true,Af (Ab rfl),rfl,fun y hy=>by rw[AU hy];rfl,BW,fun Z=>⟨_,rfl,?_⟩,fun h=>by exact nomatch h⟩
    have hxn:=nn x hx;have e4:Dd (Cl lev ts x)=.list (ts.filterMap fun p=>some (IA (p.1+(if p.2=[] then 0 else lev (p.2.getLastD []) x),p.2++[x]))):=by
     rw[filterMap_eq_map',Dd,Cl,map_map];rfl
    rw[e4];refine FA (items:=ts) (enc:=fun p=>.d (IA p)) (fun p=>some (IA (p.1+(if p.2=[] then 0 else lev (p.2.getLastD []) x),p.2++[x]))) (xs:=[S "way",S "cost"]) (x:=.d (Dd ts)) ?_ ?_ ?_ ?_ ?_ Sr (Ai (le_trans t8 (by decide))) fun p hp=>?_
    ·exact .inr ⟨_,_,_,rfl⟩
    ·decide +kernel
    ·decide +kernel
    ·exact fun Z Z=>rfl
    ·exact Aa rfl rfl
    ·have pok:=wok.ok p hp
     refine⟨_,true,DZ (b1:=[(S "cost",.d (.int p.1))]) (b2:=[(S "way",.d (Ae p.2))]) (FR (ds:=[.int p.1,Ae p.2])) (Af (Ab rfl)) (Af (Ab rfl)) (fun Z=>rfl),rfl,fun y hy=>?_,BW,fun Z=>⟨_,rfl,?_⟩,fun h=>by exact nomatch h⟩
     ·rcases BF hy with rfl|hy
      ·rfl
      ·rw[AU hy];rfl
     ·refine AE (ds:=[.int (p.1+(if p.2=[] then 0 else lev (p.2.getLastD []) x)),Ae (p.2++[x])]) (Bo (AO (x:=.d (.int p.1)) (y:=.d (.int (if p.2=[] then 0 else lev (p.2.getLastD []) x))) (Aa rfl rfl) ?_ Ea) ?_ (fun Z=>rfl) fun Z=>rfl) (Ai (by simp))
      ·have e5:PyData.int (if p.2=[] then 0 else lev (p.2.getLastD []) x)=if(!p.2.isEmpty) then PyData.int (lev (p.2.getLastD []) x) else .int 0:=by
        cases p.2<;> exact rfl
       rw[e5];refine EH (Ar (Aa rfl rfl) (AE (ds:=[]) Bc (by decide)) (Pa pok.1) rfl) (fun hne=>?_) fun Z=>Ao;obtain⟨y,hy⟩:∃y,p.2.getLast? =some y:=by
        cases h:p.2 with
        |nil=>rw[h] at hne;exact nomatch hne
        |cons a r=>exact⟨_,List.getLast?_cons⟩
       have hlast:p.2.getLastD []=y:=by rw[getLastD_eq_getLast?,hy];rfl
       have hym:y∈p.2:=mem_of_getLast? hy;have hpos:0<p.2.length:=List.length_pos_of_mem hym;rw[hlast];refine AT (hlev y x (pok.1 y hym) hxn) (le_refl _) rfl (BM ?_ (Bo (Aa rfl rfl) Ao (fun Z=>rfl) fun Z=>rfl) fun Z=>rfl) fun Z=>rfl;refine H1 (xs:=(p.2.map tx).map .str) (k:= -1) (show Am _ _ _ _ _ _ _ _ (.d (Ae p.2)) from Aa rfl rfl) (Jo Ao) (by decide) (by decide) (by rw[length_map,length_map];lia) ?_ fun Z Z=>rfl;rw[length_map,length_map,VB hpos,getElem?_map,getElem?_map];rw[List.getLast?_eq_getElem?] at hy;rw[hy];rfl
      ·have e6:Ae (p.2++[x])=.list ((p.2.map tx).map .str++[.str (tx x)]):=by rw[Ae,LS,map_append,map_append];rfl
       rw[e6];have:=pok.2;exact AO (x:=.d (Ae p.2)) (y:=.d (.list [.str (tx x)])) (Aa rfl rfl) (AE (ds:=[.str _]) (Bk (Aa rfl rfl) fun Z=>rfl) (Ai (succ_pos _))) (EB (Ai (by rw[length_map,length_map];simp;lia)))
  ·have e3:Dd (Br lev parts ts g)=.list ((BI parts ts g).filterMap fun x=>some (IA (FJ (Cl lev ts x)))):=by
    rw[filterMap_eq_map',Dd,Br,map_map];rfl
   refine Av (bs:=[(S "threads",.d (Dd (Br lev parts ts g)))]) ?_ (Af (Ab rfl)) (fun zz o=>by have q:=o.scope;cases zz;simp only at q;subst q;rfl) (fun zz o=>by have q:=o.scope;cases zz;simp only at q;subst q;rfl) fun Z=>rfl;rw[e3];refine FA (items:=BI parts ts g) (enc:=fun x=>.d (Dd (Cl lev ts x))) (fun x=>some (IA (FJ (Cl lev ts x)))) (xs:=[S "row"]) (x:=.d (.list ((BI parts ts g).map fun x=>Dd (Cl lev ts x)))) ?_ ?_ ?_ ?_ ?_ ?_ (Ai (le_trans n8 (by decide))) fun x hx=>?_
   ·exact .inl ⟨_,_,rfl⟩
   ·decide +kernel
   ·decide +kernel
   ·exact fun Z Z=>rfl
   ·exact Aa rfl rfl
   ·have:=BG (V:=V) (w:=w) (H0:=H0) (n:=n+1) (ds:=(BI parts ts g).map fun x=>Dd (Cl lev ts x))
    rw[map_map] at this;exact this
   ·refine⟨[(S "row",.d (Dd (Cl lev ts x)))],true,Af (Ab rfl),rfl,fun y hy=>by rw[AU hy];rfl,BW,fun Z=>⟨_,rfl,?_⟩,fun h=>by exact nomatch h⟩
    have hpos:0<(Cl lev ts x).length:=by unfold Cl;rw[length_map];exact Gv hx
    exact AT (Ju (n:=n) hmin hpos fun p hp=>(Qu wok (nn x hx) p hp).1) (le_refl _) rfl (Bk (Aa rfl rfl) fun Z=>rfl) fun Z=>rfl
 have ef:(rs.map fun g=>Ent.d (Ae g)).length=rs.length:=length_map ..
 (refine ef.symm▸ ?_;refine(take_length).symm▸ ?_)
 have wok:=Gw (lev:=lev) (parts:=parts) ok rs.length (le_refl _);rw[take_length] at wok;have hall:HE lev rs parts=EL (rs.foldl (Br lev parts) [(0,[])]) rs:=rfl;rw[hall];generalize rs.foldl (Br lev parts) [(0,[])]=ts at wok ⊢;have e9:DV (EL ts rs)=if(!ts.isEmpty && !rs.isEmpty) then IA (FJ ts) else .none:=by
  unfold EL;cases h1:ts<;> cases h2:rs<;> exact rfl
 rw[e9];refine BP (Bu (EH (AH (BH ?_ fun Z=>Cq ?_)) (fun h=>?_) fun Z=>BV))
 ·exact Ar (Aa rfl rfl) (AE (ds:=[]) Bc (by decide)) (G9 fun p hp=>(wok.ok p hp).1) rfl
 ·exact Ar (Aa rfl rfl) (AE (ds:=[]) Bc (by decide)) (Kx ok.names) rfl
 ·rw[Bool.and_eq_true] at h
  have hpos:0<ts.length:=by
   cases h3:ts with
   |nil=>rw[h3] at h;exact nomatch h
   |cons _ _=>exact succ_pos _
  exact AT (Ju (n:=n) hmin hpos fun p hp=>(wok.ok p hp).1) (le_refl _) rfl (Bk (Aa rfl rfl) fun Z=>rfl) fun Z=>rfl
theorem Dr{x:Str}{pos:Pos}{k:Int}{t:Tok}(hg:GIs H0 x (.int k t))(h:BA sc x=true):Am V w H0 n sc σ zx (.Name x pos) (.d (.int k)):=by
 intro A zz s zy g o F;refine Ah (DA hg h A zz s zy g o F) (fun v s' q=>?_) fun Z Z f=>f;have e:=q.val;subst e;obtain⟨h',tk,rfl,ex,_⟩:=q;exact⟨h',tk,rfl,ex,BN _ _ _⟩
theorem Pb{t1 t2:Tok}(hcase:GIs H0 "_CASE_COST" (.int 1 t1))(hmove:GIs H0 "_MOVE_COST" (.int 2 t2)){a b:Nat}(ha:AB a)(hb:AB b):
  II V w H0 n (Ap (B7 18)) [(S "ch_a",.d (.str (sg a))),(S "ch_b",.d (.str (sg b)))] [] (AD (B7 18)) (.ret (.d (.int (Cd a b)))):=by
 have la:=Hx ha;have lb:=Hx hb;have va:∀pos,Am V w H0 n (Ap (B7 18)) [(S "ch_a",.d (.str (sg a))),(S "ch_b",.d (.str (sg b)))] [] (.Name "ch_a" pos) (.d (.str (sg a))):=fun pos=>Aa rfl rfl;have vb:∀pos,Am V w H0 n (Ap (B7 18)) [(S "ch_a",.d (.str (sg a))),(S "ch_b",.d (.str (sg b)))] [] (.Name "ch_b" pos) (.d (.str (sg b))):=fun pos=>Aa rfl rfl;cases h1:(a==b) with
 |true=>
  have e:Cd a b=0:=by rw[Cd,h1];rfl
  rw[e];refine BP (ER (b:=true) ?_ (fun Z=>BP (Bu Ao)) E3);rw[←h1,←Fp];exact Ar (va _) (vb _) DY rfl
 |false=>
  refine Bn (ER (b:=false) ?_ (EP) fun Z=>EI) ?_
  ·rw[←h1,←Fp]
   exact Ar (va _) (vb _) DY rfl
  ·cases h2:(Qn a==Qn b) with
   |true=>
    have e:Cd a b=1:=by(rewrite [Cd];refine h1.symm▸ ?_;refine h2.symm▸ ?_);rfl
    rw[e];refine BP (ER (b:=true) ?_ (fun Z=>BP (Bu (Dr hcase rfl))) E3)
    (refine(h2)▸ ?_;rewrite [←Fp];refine(la.1)▸ ?_;refine(lb.1)▸ ?_)
    exact Ar (EW (va _) la.2 (fun Z=>rfl) rfl) (EW (vb _) lb.2 (fun Z=>rfl) rfl) DY rfl
   |false=>
    have e:Cd a b=2:=by(rewrite [Cd];refine h1.symm▸ ?_;refine h2.symm▸ ?_);rfl
    rw[e];refine Bn (ER (b:=false) ?_ (EP) fun Z=>EI) (BP (Bu (Dr hmove rfl)))
    (refine(h2)▸ ?_;rewrite [←Fp];refine(la.1)▸ ?_;refine(lb.1)▸ ?_)
    exact Ar (EW (va _) la.2 (fun Z=>rfl) rfl) (EW (vb _) lb.2 (fun Z=>rfl) rfl) DY rfl
theorem Ss{A:Around}{zz:Env}{s:Shared}{zy:List Addr}{x:Str}{e:Ent}(o:EnvOk sc zz)(F:Fm H0 zy zx zz σ s.heap)(hs:σ.lookup x=some e)(h:El sc x=true):wpAny (model V w) A (loadName zz x) (Pu s zy (fun g v=>Means g v e)) CO s:=by
 simp only[El,Bool.and_eq_true,Bool.or_eq_true,beq_iff_eq,bne_iff_ne] at h;have hkf:=o.kf;rcases h.1.1 with (hx|hx)|hx
 ·refine Ad F.ns fun m hm q=>?_
  refine Ad (q x e hs (by rw[o.kind];exact hx)) fun v a b=>?_;exact wpAny_loadName_local hkf (by rw[o.kind];exact hx) hm a (Pu.here b)
 ·refine Bh (F.cell x e hs (by rw[o.kind];exact .inl hx)) fun c v a b d=>?_
  exact wpAny_loadName_cell hkf (by rw[o.kind];exact hx) a b (Pu.here d)
 ·refine Bh (F.cell x e hs (by rw[o.kind];exact .inr hx)) fun c v a b d=>?_
  exact wpAny_loadName_free hkf (by rw[o.kind];exact hx) a b (Pu.here d) (by simpa using h.2)
theorem Qv{x:Str}{p pos:Pos}{op:Operator}{value:Expr}{a b:Ent}{c:Ent}(hs:σ.lookup x=some a)(h:El sc x=true)(hset:Az sc x)(hv:Am V w H0 n sc σ zx value b)(ho:Bm V w H0 n (inplaceOp op) a b (fun g v=>Means g v c)):
  N7 V w H0 n sc σ zx (.AugAssign (.Name x p) op value pos) (.next ((x,c)::σ)):=by
 intro A zz s zy g o F;refine wpAny_AugAssign_Name (Aq (Ss o F hs h) fun u s₁ q1=>Aq (hv A zz s₁ zy g o (F.ext q1.ext)) fun v s2 q2=>?_);have F2:=(F.ext q1.ext).ext q2.ext;refine Aq (ho A s2 zy u v g F2.toBase (q1.val.ext (AK zy q2.ext)) q2.val) fun r s3 q3=>?_;have F3:=F2.ext q3.ext;obtain⟨h₃,t3,e3,ex,m⟩:=(q1.trans q2).trans q3;refine Ah (E8 F3 q3.val o.kf (Cm o hset)) (fun Z s4 q4=>?_) fun Z Z f=>f;subst e3;refine Bh q4 fun h4 t4 x3 k F4=>?_;try clear q4;subst x3
 refine⟨h4,t4,rfl,(ex.keep _).trans (k.more fun a ma=>AL zz zx [x] a ?_),rfl,F4⟩;simpa [AZ] using ma
theorem HG{a b:Int}:Bm V w H0 n (inplaceOp .Add) (.d (.int a)) (.d (.int b)) (Rd (.int (a+b))):=by
 intro A s zy u v g B ra rb;refine ex1 (Ax ra) fun t x2=>?_;subst x2;refine ex1 (Ax rb) fun t' x2=>?_;subst x2;exact iadd_int (Pu.tok (BN _ _ _))
theorem Ma{a b:Int}:Bm V w H0 n (inplaceOp .Sub) (.d (.int a)) (.d (.int b)) (Rd (.int (a - b))):=by
 intro A s zy u v g B ra rb;refine ex1 (Ax ra) fun t x2=>?_;subst x2;refine ex1 (Ax rb) fun t' x2=>?_;subst x2;exact isub_int (Pu.tok (BN _ _ _))
theorem IV{a b:Int}(h:IntMulOk a b):Bm V w H0 n (binaryOp .Mult) (.d (.int a)) (.d (.int b)) (Rd (.int (a *b))):=by
 intro A s zy u v g B ra rb;refine ex1 (Ax ra) fun t x2=>?_;subst x2;refine ex1 (Ax rb) fun t' x2=>?_;subst x2;exact mul_int (Pu.tok (BN _ _ _)) h
theorem Su{a b:Int}:FnP V w H0 n (.builtin "min") [.d (.int a),.d (.int b)] (Rd (.int (if b<a then b else a))):=by
 intro A s zy vs g B hm;obtain⟨u,v,rfl,m1,m2⟩:=GU hm;refine ex1 (Ax m1) fun t x2=>?_;subst x2;refine ex1 (Ax m2) fun t' x2=>?_;subst x2;refine min_two_ints g.hh fun h' tk ex=>⟨h',tk,rfl,ex,?_⟩;split<;> exact BN _ _ _
theorem Mb(hg:GIs H0 "min" (.builtin "min")){a b:Int}:CB V w H0 "min" n [.int a,.int b] (.int (if b<a then b else a)):=⟨_,hg,Be,Su⟩
theorem Lj{x:Str}(hz:x.length≤sizeLine):MO V w H0 n (.d (.str x)) (x.length !=0):=by
 intro A s zy v g B m;refine ex1 (AR m) fun t x2=>?_;subst x2;refine PySem.P.truthy_str (by have:sizeLine=2 ^ 24:=rfl;lia) ⟨s.heap,_,rfl,Ext.refl _,?_⟩
 by_cases h:x.length=0
 ·(refine h.symm▸ ?_);rfl
 ·rw[show(((x.length:Int)) !=0)=true by simp;assumption,show(x.length !=0)=true by simpa using h]
theorem Qw{k:Int}:MO V w H0 n (.d (.int k)) (k !=0):=by
 intro A s zy v g B m;refine ex1 (Ax m) fun t x2=>?_;subst x2;exact truthy_int (Pu.here rfl)
theorem Qx{e e':Expr}{pos:Pos}{a b c:Ent}{t:Bool}(h:Am V w H0 n sc σ zx e a)(ht:MO V w H0 n a t)(h1:t=true->c=a)(h2:t=false->Am V w H0 n sc σ zx e' b∧c=b):
  Am V w H0 n sc σ zx (.BoolOp .Or [e,e'] pos) c:=by
 refine Ci fun A zz s zy g o F=>?_;show wpAny _ A (eval e zz >>=fun v=>standAt pos >>=fun Z=>holding [v] (truthy v) >>=fun t=>match BoolOp.Or,t with|.And,false=>pure v|.Or,true=>pure v|_,_=>boolOp pos .Or (evalEach [e'] zz)) _ _ s;refine Ac (Aq (h A zz s zy g o F) fun v s₁ q1=>Ac (wpAny_standAt (Ac (wpAny_holding ?_))));refine Aq (ht A s₁ zy v g (F.ext q1.ext).toBase q1.val) fun r s2 q2=>?_;have e1:=q2.val;subst e1;cases r with
 |true=>
  (refine(h1 rfl).symm▸ ?_)
  obtain⟨h',tk,rfl,ex,_⟩:=q2;exact Ag (q1.trans ⟨h',tk,rfl,ex,q1.val.ext (AK zy ex)⟩)
 |false=>
  refine BL (h2 rfl) fun h3 x2=>?_;subst x2;exact Ah (h3 A zz s2 zy g o ((F.ext q1.ext).ext q2.ext)) (fun v' s3 q3=>(q1.trans q2).trans q3) fun Z Z f=>f
def J3(V:Program)(w:World)(H0:Heap)(n:Nat)(sc:Scope)(σ:AN)(zx:Aw)(e:Expr)(Q:Obj->Prop):Prop:=
 ∀A zz s zy,Good n A->EnvOk sc zz->Fm H0 zy zx zz σ s.heap->wpAny (model V w) A (eval e zz) (fun v s'=>∃h' tk a o,s'={s with heap:=h',toks:=tk}∧Ext s.heap h'∧v=.ref a∧h'.get? a=some o∧s.heap.get? a=none∧Q o) CO s
theorem GM{e:Expr}{y:Str}{py pos:Pos}{Q:Obj->Prop}(h:J3 V w H0 n sc σ zx e Q)(hy:Az sc y)
  (hs:∀zz,EnvOk sc zz->swapsWith e (some (.Name y py)) pos.line zz=pure false)(hw:∀zz,EnvOk sc zz->swappedStores [.Name y py] e zz=pure none):
  GT V w H0 n sc σ zx (.Assign [.Name y py] e pos) (fun Z fl σ' zx'=>fl=.next∧∃a o,Q o∧σ'=(y,.v (.ref a))::σ∧zx'=(a,o)::zx):=by
 intro A zz s zy g o F;show wpAny _ A (standAt pos >>=fun Z=>swapsWithSole [.Name y py] e pos.line zz >>=fun b=>if b=true then _ else _) _ _ s;refine Ac (wpAny_standAt (Ac ?_));show wpAny _ A (swapsWith e (some (.Name y py)) pos.line zz) _ _ s;rw[hs zz o];refine Ag ?_;rw[if_neg Bool.false_ne_true];refine Ac (Ah (h A zz s zy g o F) (fun v s₁ q=>?_) fun Z Z f=>f);refine OJ q fun h₁ t₁ a ob h9=>?_;refine Tt h9 fun x5 ex x7 ha hn hq=>?_;clear h9;try clear q;subst x5;subst x7
 refine Ac ?_;rw[hw zz o];refine Ag ?_;show wpAny _ A (assignAll (.ref a) [assign (.Name y py) zz] >>=fun Z=>pure Flow.next) _ _ _;refine Ac ?_;show wpAny _ A (assign (.Name y py) zz (.ref a)) _ _ _;have F1:Fm H0 ([a]++zy) zx zz σ h₁:=F.more ex (fun b m=>by rw[AU m];exact hn) fun b m=>by(refine(AU m).symm▸ ?_);exact⟨ob,ha⟩
 have nl:a≠zz.locals:=fun q=>by refine Ad F.ns fun m x2 Z=>?_;rcases x2 with ⟨oo,es,ep,e1,r⟩;rw[←q,hn] at e1;exact CE e1
 have nc:∀q∈zz.cells,a≠q.2:=fun q hq e=>by refine B8 (F.cells q hq) fun v oo e1 Z=>?_;rw[←e,hn] at e1;exact CE e1
 have F2:Fm H0 ([a]++zy) ((a,ob)::zx) zz σ h₁:={F1 with
  ledh:=fun p hp=>by
   rcases BF hp with rfl|hp
   ·exact mem_cons_self
   ·exact F1.ledh p hp
  ledg:=fun p hp=>by
   rcases BF hp with rfl|hp
   ·exact ha
   ·exact F1.ledg p hp
  ledoff:=fun p hp=>by
   rcases BF hp with rfl|hp
   ·exact⟨nl,nc⟩
   ·exact F1.ledoff p hp}
 refine Ah (Af (V:=V) (w:=w) (H0:=H0) (n:=n) (e:=.v (.ref a)) hy A zz _ ([a]++zy) ((a,ob)::zx) σ (.ref a) g o F2 rfl) (fun Z s2 q2=>Ag ?_) fun Z Z f=>f;refine Bh q2 fun h2 t2 x3 k2 F3=>?_;try clear q2;subst x3
 refine⟨h2,t2,[a]++zy,_,_,rfl,(ex.keep _).trans (k2.more (AL zz zx _)),F3,fun b m=>mem_append_right _ m,fun b m=>?_,fun p hp=>?_,rfl,a,ob,hq,rfl,rfl⟩
 ·rcases Cx m with m|m
  ·(refine(AU m).symm▸ ?_);exact .inr hn
  ·exact .inl m
 ·rcases BF hp with rfl|hp
  ·exact .inr hn
  ·exact .inl (mem_map_of_mem hp)
inductive IntList(ks:List Int)(o:Obj):Prop
 |mk:o.cls=.type "list"->∀vs c,o.data=.seq vs c->F2 (fun v k=>∃t,v=Value.int k t) vs.toList ks->IntList ks o
theorem Gi{ks:List Int}{o:Obj}{h:Heap}{a:Addr}(ho:IntList ks o)(ha:h.get? a=some o):∃vs,h.IsList a vs∧F2 (fun v k=>∃t,v=Value.int k t) vs.toList ks:=by
 obtain⟨hc,vs,c,hd,f⟩:=ho;exact⟨vs,⟨_,ha,hc,c,hd⟩,f⟩
theorem Mc{x:Str}{p:Pos}{slice:Expr}{pos:Pos}{a:Addr}{o:Obj}{ks:List Int}{i k:Int}(hx:Am V w H0 n sc σ zx (.Name x p) (.v (.ref a)))(ho:(a,o)∈zx)(hl:IntList ks o)(hi:Am V w H0 n sc σ zx slice (.d (.int i)))
  (h0:0≤i)(hk:i<2 ^ 63)(hd:ks[i.toNat]? =some k)(hs:Ca slice):Am V w H0 n sc σ zx (.Subscript (.Name x p) slice pos) (.d (.int k)):=by
 intro A zz s zy g oo F;refine PyProof.Rows.Subscript_ (Aq (hx A zz s zy g oo F) fun v s₁ q1=>Aq (hi A zz s₁ zy g oo (F.ext q1.ext)) fun u s2 q2=>?_);refine ex1 (Ax q2.val) fun t x2=>?_;subst x2;have e:=q1.val;subst e;have F2:=(F.ext q1.ext).ext q2.ext;refine Ad (Gi hl (F2.ledg _ ho)) fun vs hL f=>?_;obtain⟨u,hu,t',rfl⟩:=f.get hd;exact tail_any hL.typeIs slot_list_getitem.lookup (wpAny_getItem_list hL h0 hk (by simpa using hu) ((q1.trans q2).trans (Pu.here (BN _ _ _)))) (hs _ _)
noncomputable def Ak (a:Addr) (o:Obj) (zx:Aw):Aw:=(a,o)::zx.filter fun p=>!decide (p.1=a)
theorem Fm.mut{zy:List Addr}{zz:Env}{h h':Heap}{a:Addr}{o o':Obj}(F:Fm H0 zy zx zz σ h)(ha:(a,o)∈zx)(k:KeepBut [a] h h')(e:h'.get? a=some o'):Fm H0 zy (Ak a o' zx) zz σ h':=by
 have hm:Cf ([a]) zy:=fun b m=>by rw[AU m];exact F.ledh _ ha
 have B:Base H0 zy h':=⟨F.base.trans (AW hm k),fun b m=>by
  by_cases q:b=a
  ·exact⟨o',by rw[q];exact e⟩
  ·refine ex1 (F.alive b m) fun ob e1=>?_
   exact⟨ob,k b ob (by simpa using q) e1⟩⟩
 exact F.call (L:=[(a,o)]) (L':=[(a,o')]) (rest:=zx.filter fun p=>!decide (p.1=a)) (fun p hp=>by rw[AU hp];exact ha) (fun p hp=>by
   have:=mem_filter.mp hp;exact⟨this.1,by simpa using this.2⟩) k B ⟨fun p hp=>by rw[AU hp];exact F.ledh (a,o) ha,fun p hp=>by(refine(AU hp).symm▸ ?_);exact e⟩ (fun Z m=>m) (fun Z m=>.inl m) fun p hp=>by(refine(AU hp).symm▸ ?_);exact .inl (.head _)
theorem GP.mut{α:Type}{s:Shared}{zy:List Addr}{zz:Env}{h':Heap}{tk:Nat}{a:Addr}{o o':Obj}{Ψ:Heap->α->AN->Aw->Prop}{r:α}(F:Fm H0 zy zx zz σ s.heap)(ha:(a,o)∈zx)(k:KeepBut [a] s.heap h')(e:h'.get? a=some o')
  (h:Ψ (Internal.vis h' zy) r σ (Ak a o' zx)):GP H0 s zy zz zx Ψ r {s with heap:=h',toks:=tk}:=
 ⟨h',tk,zy,σ,Ak a o' zx,rfl,k.more fun b m=>by rw[AU m];exact FW (mem_map_of_mem ha),F.mut ha k e,fun Z m=>m,fun Z m=>.inl m,fun p hp=>by
  rcases BF hp with rfl|hp
  ·exact .inl (mem_map_of_mem (f:=(·.1)) ha)
  ·exact .inl (mem_map_of_mem (mem_filter.mp hp).1),h⟩
theorem Ua{α β:Type}{R:α->β->Prop}{as:List α}{bs:List β}{i:Nat}{a:α}{b:β}(h:F2 R as bs)(r:R a b):F2 R (as.set i a) (bs.set i b):=by
 induction h generalizing i with
 |nil=>exact .nil
 |cons x f ih=>
  cases i with
  |zero=>exact .cons r f
  |succ i=>exact .cons x ih
theorem Nc{x:Str}{p q:Pos}{slice value:Expr}{pos:Pos}{a:Addr}{o:Obj}{ks:List Int}{i k:Int}(hv:Am V w H0 n sc σ zx value (.d (.int k)))(hx:Am V w H0 n sc σ zx (.Name x p) (.v (.ref a)))(ho:(a,o)∈zx)(hl:IntList ks o)(hi:Am V w H0 n sc σ zx slice (.d (.int i)))
  (h0:0≤i)(hk:i<2 ^ 63)(hd:i.toNat<ks.length)(hs:∀zz,swapsWith value (some (.Subscript (.Name x p) slice q)) pos.line zz=pure false):
  GT V w H0 n sc σ zx (.Assign [.Subscript (.Name x p) slice q] value pos) (fun Z fl σ' zx'=>fl=.next∧σ'=σ∧∃o',IntList (ks.set i.toNat k) o'∧zx'=Ak a o' zx):=by
 intro A zz s zy g oo F;refine wpAny_Assign_Subscript (Aq (hv A zz s zy g oo F) fun r s0 q0=>Aq (hx A zz s0 zy g oo (F.ext q0.ext)) fun v s₁ q1=>Aq (hi A zz s₁ zy g oo ((F.ext q0.ext).ext q1.ext)) fun u s2 q2=>?_) (hs zz);refine ex1 (Ax q2.val) fun t x2=>?_;subst x2;refine ex1 (Ax q0.val) fun t' x2=>?_;subst x2;have e:=q1.val;subst e;have F2:=((F.ext q0.ext).ext q1.ext).ext q2.ext;refine Ad (Gi hl (F2.ledg _ ho)) fun vs hL f=>?_;obtain⟨h2,t2,e2,ex,_⟩:=(q0.trans q1).trans q2;refine wpAny_setItem_list hL h0 hk (by have:=f.length;rw[Array.length_toList] at this;exact(Int.toNat_lt h0).mp (this▸‹_›)) fun h' hL' hsb=>?_;obtain⟨o',e',hc',c',hd'⟩:=hL';subst e2;have gp:GP H0 {s with heap:=h2,toks:=t2} zy zz zx (fun Z fl σ' zx'=>fl=.next∧σ'=σ∧∃o',IntList (ks.set i.toNat k) o'∧zx'=Ak a o' zx) Flow.next {s with heap:=h',toks:=t2}:=
  GP.mut (s:={s with heap:=h2,toks:=t2}) (o':=o') F2 ho (AF hsb) e' ⟨rfl,rfl,o',⟨hc',_,_,hd',by
   rw[Array.toList_setIfInBounds];exact Ua f ⟨t',rfl⟩⟩,rfl⟩
 exact GP.glue F (ex.keep _) F2 (fun Z m=>m) (fun Z m=>.inl m) (fun p m=>.inl (mem_map_of_mem m)) gp
theorem Ll{pl pr p1 p2:Pos}{args:List Expr}{a b c:Int}{m:Nat}(hlist:GIs H0 "list" (.type "list"))(hgl:BA sc "list"=true)
  (hr:EvP V w H0 n sc σ zx (.Call (.Name "range" p1) args [] p2) (IsRng a b c))(hsmall:Builtin.Range.small a b c=true)(hm:Builtin.Range.rangeSize a b c=m)(hz:m≤2 ^ 24):
  J3 V w H0 n sc σ zx (.Call (.Name "list" pl) [.Call (.Name "range" p1) args [] p2] [] pr) (IntList ((List.range m).map fun i:Nat=>a+(i:Int)*c)):=by
 intro A zz s zy g o F;refine Call_Name rfl (Aq (DA (pos:=pl) hlist hgl A zz s zy g o F) fun v s₁ q=>?_);have e1:=q.val;subst e1;have F1:=F.ext q.ext;refine callWith_of (P:=fun h=>Ext H0 h) rfl (fun h e=>B2 _ h e) (CI rfl ?_);refine spliced_cons (Aq (hr A zz s₁ zy g o F1) fun r s2 q2=>spliced_nil ?_);obtain⟨ra,t,u,k,rfl,hR⟩:=q2.val;have F2:=F1.ext q2.ext;refine⟨F2.toBase.h0,?_⟩;obtain⟨h2,t2,e2,ex,_⟩:=q.trans q2;subst e2;refine call_list_range g.hh (Bp _ _ _ _ hR) hsmall hm hz fun h' tk acc' c' kk ha hacc=>?_;refine⟨h',tk,_,_,rfl,fun b ob e=>kk b ob (ex b ob e),rfl,ha,?_,rfl,acc',c',rfl,?_⟩
 ·cases z:s.heap.get? h2.objs.size with
  |none=>rfl
  |some ob=>exact absurd (Heap.lt_size (ex _ _ z)) (lt_irrefl _)
 ·refine Hv (by rw[Array.length_toList,hacc.1,length_map,length_range]) fun j v hj=>?_
  rw[Array.getElem?_toList] at hj;refine ex1 (hacc.2 j v hj) fun t' x2=>?_;subst x2;have hlt:j<m:=by
   have:=(Array.getElem?_eq_some_iff.mp hj).1;rw[hacc.1] at this;exact this
  exact⟨a+(j:Int)*c,by rw[getElem?_map,getElem?_range hlt];rfl,t',rfl⟩
theorem Nd{x y:Str}{p1 p2 pos:Pos}{value:Expr}{e:Ent}(h:Am V w H0 n sc σ zx value e)(hx:Az sc x)(hy:Az sc y)
  (hw:∀zz,EnvOk sc zz->swappedStores [.Name x p1,.Name y p2] value zz=pure none):
  N7 V w H0 n sc σ zx (.Assign [.Name x p1,.Name y p2] value pos) (.next ((y,e)::(x,e)::σ)):=by
 intro A zz s zy g o F;show wpAny _ A (standAt pos >>=fun Z=>swapsWithSole [.Name x p1,.Name y p2] value pos.line zz >>=fun b=>if b=true then _ else _) _ _ s;refine Ac (wpAny_standAt (Ac ?_));show wpAny _ A (pure false) _ _ s;refine Ag ?_;rw[if_neg Bool.false_ne_true];refine Ac (Aq (h A zz s zy g o F) fun v s₁ q=>?_);have F1:=F.ext q.ext;refine Ac ?_;rw[hw zz o];refine Ag ?_;show wpAny _ A (assignAll v [assign (.Name x p1) zz,assign (.Name y p2) zz] >>=fun Z=>pure Flow.next) _ _ s₁;refine Ac ?_;show wpAny _ A (holding [v] (assign (.Name x p1) zz v) >>=fun Z=>assign (.Name y p2) zz v) _ _ s₁;refine Ac (wpAny_holding (Ah (Af (V:=V) (w:=w) (H0:=H0) (n:=n) hx A zz s₁ zy zx σ v g o F1 q.val) (fun Z s2 q2=>?_) fun Z Z f=>f));obtain⟨h₁,t₁,rfl,e1,m1⟩:=q;refine Bh q2 fun h2 t2 x3 k2 F2=>?_;try clear q2;subst x3
 have vk:Ext (vis h₁ zy) (vis h2 zy):=AW (fun a ma=>B1 F1 a (AL zz zx _ a ma)) k2;refine Ah (Af (V:=V) (w:=w) (H0:=H0) (n:=n) hy A zz _ zy zx _ v g o F2 (m1.ext vk)) (fun Z s3 q3=>Ag ?_) fun Z Z f=>f;refine Bh q3 fun h₃ t3 x3 k3 F3=>?_;try clear q3;subst x3
 exact⟨h₃,t3,rfl,(e1.keep _).trans ((k2.more (AL zz zx _)).trans (k3.more (AL zz zx _))),rfl,F3⟩
structure LS4 where
 dist:Int
 res:Int
 row:List Int
 mn:Int
noncomputable def Lm (bc:Nat) (s:List Nat) (st:LS4) (i:Nat):LS4:=
 let sub:=st.dist+Cd bc ((s[i]?).getD 0)
 let d:=(st.row[i]?).getD 0
 let ins:=(if d<st.res then d else st.res)+2
 let r:=if sub<ins then sub else ins
 ⟨d,r,st.row.set i r,if r<st.mn then r else st.mn⟩
noncomputable def CX (bc:Nat) (s:List Nat) (row:List Int) (b0:Int) (k:Nat):LS4:=(List.range k).foldl (Lm bc s) ⟨b0,b0,row,9223372036854775807⟩
noncomputable def H7 (s l:List Nat):List Nat->List Int->Int->Int
 |[],_,res=>res
 |i::is,row,_=>
  let st:=CX ((l[i]?).getD 0) s row (i*2) s.length
  if 9<st.mn then 10 else H7 s l is st.row st.res
theorem Qy(s l:List Nat)(row:List Int)(res:Int):H7 s l [] row res=res:=rfl
theorem Qz(s l:List Nat)(i:Nat)(is:List Nat)(row:List Int)(res:Int):H7 s l (i::is) row res=if 9<(CX ((l[i]?).getD 0) s row (i*2) s.length).mn then 10 else H7 s l is (CX ((l[i]?).getD 0) s row (i*2) s.length).row (CX ((l[i]?).getD 0) s row (i*2) s.length).res:=rfl
noncomputable def Sv (s:List Nat):List Int:=(List.range s.length).map fun i:Nat=>2+(i:Int)*2
noncomputable def Ds (s l:List Nat):Int:=H7 s l (List.range l.length) (Sv s) 0
theorem Gx(bc:Nat)(s:List Nat)(row:List Int)(b0:Int):∀k,(CX bc s row b0 k).row.length=row.length:=by
 intro k
 induction k with
 |zero=>
  exact rfl
 |succ k Gx=>
  unfold CX
  (refine(range_succ).symm▸ ?_;refine(foldl_append).symm▸ ?_)
  show((CX bc s row b0 k).row.set k _).length=_;rw[List.length_set];exact Gx
theorem Nf(bc:Nat)(s:List Nat)(row:List Int)(b0:Int)(k:Nat):CX bc s row b0 (k+1)=Lm bc s (CX bc s row b0 k) k:=by
 unfold CX
 (refine(range_succ).symm▸ ?_;refine(foldl_append).symm▸ ?_);rfl
theorem Kz(a:Int):IntMulOk a 2:=by
 unfold IntMulOk
 (refine(show decide (Builtin.Int.intBits 2 > shortFactorBits)=false by kernel_rfl).symm▸ ?_)
 simp
theorem Jw(a:Int):IntMulOk 2 a:=IntMulOk.of_left (by decide +kernel)
theorem IW{l:List Nat}{i:Nat}(h:i<l.length):(seqIndex? (0+(i:Int)) (tx l).length).bind ((tx l).cps[·]?)=some ((l[i]?).getD 0):=by
 have e:seqIndex? (0+(i:Int)) (tx l).length=some i:=by
  rw[C8,Int.zero_add];unfold seqIndex?;rw[if_neg (Int.not_lt.mpr (Int.natCast_nonneg i))];show(if(decide ((0:Int)≤(i:Int)) && decide ((i:Int)<(l.length:Int)))=true then some (i:Int).toNat else none)=some i;rw[decide_eq_true (Int.natCast_nonneg i),decide_eq_true (Int.ofNat_lt.mpr h)];rfl
 rw[e];simp[tx,h]
theorem Pc{a b c:Int}(hc:c≠0)(hp:Builtin.divisionGoesByPylong (b - a) c=false):FnP V w H0 n (.type "range") [.d (.int a),.d (.int b),.d (.int c)] (IsRng a b c):=by
 intro A s zy vs g B hm;obtain⟨v,u,x,rfl,m,m2,m3⟩:=TS hm;refine ex1 (Ax m) fun t x2=>?_;subst x2;refine ex1 (Ax m2) fun t' x2=>?_;subst x2;refine ex1 (Ax m3) fun t'' x2=>?_;subst x2;exact call_range_3 hc ⟨_,_,rfl,An _ _,Lh (s:=s) B⟩ (.inl hp)
theorem Ng(hg:GIs H0 "range" (.type "range")){a b c:Int}(hc:c≠0)(hp:Builtin.divisionGoesByPylong (b - a) c=false):Has V w H0 "range" n [.d (.int a),.d (.int b),.d (.int c)] (IsRng a b c):=⟨_,hg,B2,Pc hc hp⟩
theorem Md{σ σ':AN}{y:Str}{d:Ent}(hn:σ.lookup y=none)(h:∀x e,σ.lookup x=some e->σ'.lookup x=some e):∀x e,σ.lookup x=some e->((y,d)::σ').lookup x=some e:=fun x e hx=>by
 have:x≠y:=fun q=>by rw[q,hn] at hx;exact CE hx
 rw[AS this];exact h x e hx
noncomputable abbrev GH:Scope:=Ap (B7 19)
theorem QA{t2:Tok}(hcost:∀a b,AB a->AB b->CB V w H0 "_substitution_cost" (n+1) [.str (sg a),.str (sg b)] (.int (Cd a b)))(hlen:GIs H0 "len" (.builtin "len"))(hmin:GIs H0 "min" (.builtin "min"))(hrange:GIs H0 "range" (.type "range"))(hlist:GIs H0 "list" (.type "list"))
  (hmove:GIs H0 "_MOVE_COST" (.int 2 t2)){s l:List Nat}(hs:∀c∈s,AB c)(hl:∀c∈l,AB c)(zs:s.length≤2)(zl:l.length≤2):
  GX V w H0 (n+1) GH [(S "a",.d (.str (tx s))),(S "b",.d (.str (tx l))),(S "max_cost",.d (.int 9))] [] ((AD (B7 19)).drop 13) (fun g fl Z Z=>∃v,fl=.ret v∧Rd (.int (Ds s l)) g v):=by
 revert hcost hlen hmin hrange hlist hmove hs hl zs zl;revert l;revert t2 s;revert V w H0 n;refine no_implicit_lambda% (JZ (by exact((default,w0),default)) ?_);generalize Iq _ _=t9;generalize t9.1.1=V,t9.1.2=w,t9.2.1=H0,t9.2.2=n;refine no_implicit_lambda% (I8 (by exact default) ?_);generalize Ip _ _=t9;generalize t9.1=t2,t9.2=s;refine no_implicit_lambda% (Io (default) ?_);generalize HR _ _=l;intro hcost hlen hmin hrange hlist hmove hs hl zs zl;have hsz:Builtin.Range.rangeSize 2 (2*((s.length:Int)+1)) 2=(s.length:Int)∧Builtin.Range.small 2 (2*((s.length:Int)+1)) 2=true:=by
  have:s.length=0∨s.length=1∨s.length=2:=by lia
  rcases this with h|h|h<;> (refine h.symm▸ ?_)<;> decide +kernel
 refine AG (GM (Q:=IntList (Sv s)) (y:=S "row") ?_ (Ab rfl) (fun Z Z=>rfl) (fun Z Z=>rfl)) fun g σ' zx' p=>?_
 ·refine Ll (a:=2) (b:=2*((s.length:Int)+1)) (c:=2) (m:=s.length) hlist rfl ?_ hsz.2 hsz.1 (le_trans zs (by decide))
  have hpy:Builtin.divisionGoesByPylong (2*((s.length:Int)+1) - 2) 2=false:=by
   have:s.length=0∨s.length=1∨s.length=2:=by lia
   rcases this with h|h|h<;> (refine h.symm▸ ?_)<;> decide +kernel
  exact AT (Ng (n:=n+1) hrange (by decide) hpy) (le_refl _) rfl (BM (Dr hmove rfl) (Bo (AO (Dr hmove rfl) (AO (Bb hlen (le_trans zs (by decide)) (Aa rfl rfl) rfl fun Z=>rfl) Ao Ea) (IV (Jw _))) (Dr hmove rfl) (fun Z=>rfl) fun Z=>rfl) fun Z=>rfl) fun Z=>rfl
 refine Bh p fun a o ho x4 x5=>?_;try clear p;subst x4;subst x5
 refine AA (BX (Av Ao (Af (Ab rfl)) (fun Z Z=>rfl) (fun Z Z=>rfl) fun Z=>rfl)) ?_;have cast:∀i,i<l.length->(l[i]?).getD 0=l[i]!:=fun i hi=>by simp[hi]
 refine C4 (Ψ:=fun g fl σ' zx'=>(fl=.next∧σ'.lookup (S "result")=some (.d (.int (Ds s l))))∨∃v,fl=.ret v∧Rd (.int (Ds s l)) g v) (MX (J:=fun i σ' zx'=>∃row o res,IntList row o∧row.length=s.length∧zx'=[(a,o)]∧H7 s l ((List.range l.length).drop i) row res=Ds s l∧
   ∀x e,([(S "result",.d (.int res)),(S "row",.v (.ref a)),(S "a",.d (.str (tx s))),(S "b",.d (.str (tx l))),(S "max_cost",.d (.int 9))]:AN).lookup x=some e->σ'.lookup x=some e)
   (x:=Qs 0 l.length 1) (ds:=(List.range ((l.length:Int) - 0).toNat).map fun i:Nat=>.d (.int (0+(i:Int)))) ?_ (IU (by decide) (by decide) (by lia) (by lia)) ?_ (fun i e σ' zx' he hJ=>?_) ?_ (fun Z Z=>rfl) (.inl ⟨_,_,rfl⟩)) ?_ ?_
 ·exact AT (G8 (n:=n+1) hrange) (le_refl _) rfl (Bk (Bb hlen (le_trans zl (by decide)) (Aa rfl rfl) rfl fun Z=>rfl) fun Z=>rfl) fun Z=>rfl
 ·refine⟨Sv s,o,0,ho,by simp[Sv],rfl,rfl,Bl rfl⟩
 ·refine PW hJ fun row o res h9=>?_;refine JY h9 fun ho hrow x6 hgo hsub=>?_;clear h9;try clear hJ;subst x6
  rw[getElem?_map] at he;have hlt:i<l.length:=by
   cases h:(List.range ((l.length:Int) - 0).toNat)[i]? with
   |none=>rw[h] at he;exact CE he
   |some j=>
    have:=(List.getElem?_eq_some_iff.mp h).1;rw[length_range] at this;assumption
  rw[getElem?_range (by assumption)] at he;cases he;have hdrop:(List.range l.length).drop i=i::(List.range l.length).drop (i+1):=by
   rw[List.drop_eq_getElem_cons (by rw[length_range];exact hlt),List.getElem_range]
  rw[hdrop,Qz] at hgo;generalize hbc:(l[i]?).getD 0=bc at hgo;have hbl:AB bc:=by
   (refine(hbc)▸ ?_;refine(getElem?_eq_getElem hlt).symm▸ ?_)
   exact hl _ (getElem_mem hlt)
  have cast0:(0+(i:Int))=i:=by lia
  refine⟨[(S "bindex",.d (.int (0+(i:Int))))],Af (Ab rfl),DE (σ':=[(S "bindex",.d (.int (0+(i:Int)))),(S "result",.d (.int res)),(S "row",.v (.ref a)),(S "a",.d (.str (tx s))),(S "b",.d (.str (tx l))),(S "max_cost",.d (.int 9))]) (EF fun Φ hΦ=>?_) ?_⟩
  ·refine AA (BX (Av (bs:=[(S "bchar",.d (.str (sg bc)))]) (Bf (k:=0+(i:Int)) (x:=tx l) (c:=bc) (Aa rfl rfl) (Aa rfl rfl) (D0 (Vp i) (by omega)) (by rw[IW hlt,hbc]) fun Z Z=>rfl) (Af (Ab rfl)) (fun Z Z=>rfl) (fun Z Z=>rfl) fun Z=>rfl)) ?_
   refine AA (BX (Nd (e:=.d (.int ((0+(i:Int))*2))) (AO (Aa rfl rfl) (Dr hmove rfl) (IV (Kz _))) (Ab rfl) (Ab rfl) (fun Z Z=>rfl))) ?_;refine AA (BX (Av (bs:=[(S "minimum",.d (.int 9223372036854775807))]) Ao (Af (Ab rfl)) (fun Z Z=>rfl) (fun Z Z=>rfl) fun Z=>rfl)) ?_
   (refine cast0.symm▸ ?_)
   refine AG (R:=fun g σ' zx'=>∃o',IntList (CX bc s row (i*2) s.length).row o'∧zx'=[(a,o')]∧∀x e,([(S "result",.d (.int (CX bc s row (i*2) s.length).res)),(S "minimum",.d (.int (CX bc s row (i*2) s.length).mn)),(S "row",.v (.ref a)),(S "a",.d (.str (tx s))),(S "b",.d (.str (tx l))),(S "max_cost",.d (.int 9))]:AN).lookup x=some e->σ'.lookup x=some e)
    (MX (J:=fun k σ' zx'=>∃o',IntList (CX bc s row (i*2) k).row o'∧zx'=[(a,o')]∧
     ∀x e,([(S "distance",.d (.int (CX bc s row (i*2) k).dist)),(S "result",.d (.int (CX bc s row (i*2) k).res)),(S "minimum",.d (.int (CX bc s row (i*2) k).mn)),(S "bchar",.d (.str (sg bc))),(S "row",.v (.ref a)),(S "a",.d (.str (tx s))),(S "b",.d (.str (tx l))),(S "max_cost",.d (.int 9))]:AN).lookup x=some e->σ'.lookup x=some e)
     (x:=Qs 0 s.length 1) (ds:=(List.range ((s.length:Int) - 0).toNat).map fun i:Nat=>.d (.int (0+(i:Int)))) ?_ (IU (by decide) (by decide) (by lia) (by lia)) ?_ (fun k e σ' zx' he hJ=>?_) (fun g σ' zx' hJ=>?_) (fun Z Z=>rfl) (.inl ⟨_,_,rfl⟩)) fun g σ' zx' p=>?_
   ·exact AT (G8 (n:=n+1) hrange) (le_refl _) rfl (Bk (Bb hlen (le_trans zs (by decide)) (Aa rfl rfl) rfl fun Z=>rfl) fun Z=>rfl) fun Z=>rfl
   ·exact⟨o,ho,rfl,Bl rfl⟩
   ·refine Dz hJ fun o' ho' x3 hsub'=>?_;try clear hJ;subst x3
    rw[getElem?_map] at he;have hk:k<s.length:=by
     cases h:(List.range ((s.length:Int) - 0).toNat)[k]? with
     |none=>rw[h] at he;exact CE he
     |some j=>
      have:=(List.getElem?_eq_some_iff.mp h).1;rw[length_range] at this;assumption
    rw[getElem?_range (by assumption)] at he;cases he;have hcl:AB ((s[k]?).getD 0):=by
     rw[getElem?_eq_getElem hk];exact hs _ (getElem_mem hk)
    have hrl:(CX bc s row (i*2) k).row.length=s.length:=by rw[Gx,hrow]
    have hstep:=Nf bc s row (i*2) k
    (refine hstep.symm▸ ?_)
    generalize CX bc s row (i*2) k=st at ho' hsub' hrl ⊢;have hrk:st.row[k]? =some ((st.row[k]?).getD 0):=by rw[getElem?_eq_getElem (by exact hrl▸hk)];rfl
    generalize hd:(st.row[k]?).getD 0=d at hrk;generalize hsubv:st.dist+Cd bc ((s[k]?).getD 0)=sub;generalize hins:(if d<st.res then d else st.res)+2=ins;generalize hr:(if sub<ins then sub else ins)=r;have e1:Lm bc s st k=⟨d,r,st.row.set k r,if r<st.mn then r else st.mn⟩:=by
     unfold Lm;simp only[hd,hsubv,hins,hr]
    (refine e1.symm▸ ?_)
    refine⟨[(S "index",.d (.int (0+(k:Int))))],Af (Ab rfl),DE (σ':=[(S "index",.d (.int (0+(k:Int)))),(S "distance",.d (.int st.dist)),(S "result",.d (.int st.res)),(S "minimum",.d (.int st.mn)),(S "bchar",.d (.str (sg bc))),(S "row",.v (.ref a)),(S "a",.d (.str (tx s))),(S "b",.d (.str (tx l))),(S "max_cost",.d (.int 9))]) (EF fun Φ' hΦ'=>?_) (FY rfl fun x e hx=>?_)⟩
    ·refine AA (BX (Av (x:=.d (.int sub)) (bs:=[(S "substitute",.d (.int sub))]) ?_ (Af (Ab rfl)) (fun Z Z=>rfl) (fun Z Z=>rfl) fun Z=>rfl)) ?_
     ·(refine(hsubv)▸ ?_)
      exact AO (Aa rfl rfl) (AT (hcost bc _ hbl hcl) (le_refl _) rfl (Bo (Aa rfl rfl) (Bf (k:=0+(k:Int)) (x:=tx s) (Aa rfl rfl) (Aa rfl rfl) (D0 (by lia) (by lia)) (IW hk) fun Z Z=>rfl) (fun Z=>rfl) fun Z=>rfl) fun Z=>rfl) Ea
     refine AA (BX (Av (bs:=[(S "distance",.d (.int d))]) (Mc (a:=a) (o:=o') (i:=0+(k:Int)) (Aa rfl rfl) (mem_singleton.mpr rfl) ho' (Aa rfl rfl) (by lia) (by lia) (by rw[show(0+(k:Int)).toNat=k by lia];exact hrk) fun Z Z=>rfl) (Af (Ab rfl)) (fun Z Z=>rfl) (fun Z Z=>rfl) fun Z=>rfl)) ?_;refine AA (BX (Av (x:=.d (.int ins)) (bs:=[(S "insert_delete",.d (.int ins))]) ?_ (Af (Ab rfl)) (fun Z Z=>rfl) (fun Z Z=>rfl) fun Z=>rfl)) ?_
     ·(refine(hins)▸ ?_)
      exact AO (AT (Mb (n:=n+1) hmin) (le_refl _) rfl (Bo (Aa rfl rfl) (Aa rfl rfl) (fun Z=>rfl) fun Z=>rfl) fun Z=>rfl) (Dr hmove rfl) Ea
     refine AA (BX (Av (x:=.d (.int r)) (bs:=[(S "result",.d (.int r))]) ?_ (Af (Ab rfl)) (fun Z Z=>rfl) (fun Z Z=>rfl) fun Z=>rfl)) ?_
     ·(refine(hr)▸ ?_)
      exact AT (Mb (n:=n+1) hmin) (le_refl _) rfl (Bo (Aa rfl rfl) (Aa rfl rfl) (fun Z=>rfl) fun Z=>rfl) fun Z=>rfl
     refine AG (Nc (a:=a) (o:=o') (ks:=st.row) (i:=0+(k:Int)) (k:=r) (Aa rfl rfl) (Aa rfl rfl) (mem_singleton.mpr rfl) ho' (Aa rfl rfl) (by lia) (by lia) (by lia) fun Z=>rfl) fun g σ' zx' p=>?_;obtain⟨rfl,o2,ho2,rfl⟩:=p;rw[show(0+(k:Int)).toNat=k by lia] at ho2;have el:Ak a o2 [(a,o')]=[(a,o2)]:=by simp[Ak]
     rw[el]
     by_cases hm:r<st.mn
     ·refine AA (zx₁:=[(a,o2)]) (σ₁:=[(S "minimum",.d (.int r))]++([(S "result",.d (.int r))]++([(S "insert_delete",.d (.int ins))]++([(S "distance",.d (.int d))]++([(S "substitute",.d (.int sub))]++[(S "index",.d (.int (0+(k:Int)))),(S "distance",.d (.int st.dist)),(S "result",.d (.int st.res)),(S "minimum",.d (.int st.mn)),(S "bchar",.d (.str (sg bc))),(S "row",.v (.ref a)),(S "a",.d (.str (tx s))),(S "b",.d (.str (tx l))),(S "max_cost",.d (.int 9))]))))) (BR (b:=true) ?_ (fun Z=>?_) E3) ?_
      ·have:=Ei (V:=V) (w:=w) (H0:=H0) (n:=n+1) (a:=r) (b:=st.mn)
       rw[decide_eq_true hm] at this;exact Ar (Aa rfl rfl) (Aa rfl rfl) this rfl
      ·exact AA (BX (Av (bs:=[(S "minimum",.d (.int r))]) (Aa rfl rfl) (Af (Ab rfl)) (fun Z Z=>rfl) (fun Z Z=>rfl) fun Z=>rfl)) (AC fun g=>⟨rfl,rfl,rfl⟩)
      ·exact AC fun g=>hΦ' (by rw[if_pos hm];exact⟨o2,ho2,rfl,Bl rfl⟩)
     ·refine AA (BR (b:=false) ?_ (EP) fun Z=>AC fun g=>⟨rfl,rfl,rfl⟩) (AC fun g=>hΦ' (by rw[if_neg hm];exact⟨o2,ho2,rfl,Bl rfl⟩))
      have:=Ei (V:=V) (w:=w) (H0:=H0) (n:=n+1) (a:=r) (b:=st.mn);rw[decide_eq_false hm] at this;exact Ar (Aa rfl rfl) (Aa rfl rfl) this rfl
    ·exact Md (σ:=[(S "distance",.d (.int st.dist)),(S "result",.d (.int st.res)),(S "minimum",.d (.int st.mn)),(S "bchar",.d (.str (sg bc))),(S "row",.v (.ref a)),(S "a",.d (.str (tx s))),(S "b",.d (.str (tx l))),(S "max_cost",.d (.int 9))]) rfl hsub' x e hx
   ·refine Dz hJ fun o' ho' x3 hsub'=>?_;try clear hJ;subst x3
    have el:((List.range ((s.length:Int) - 0).toNat).map fun i:Nat=>Ent.d (.int (0+(i:Int)))).length=s.length:=by rw[length_map,length_range];exact rfl
    rw[el] at ho' hsub';exact⟨rfl,o',ho',rfl,fun x e hx=>hsub' x e (Bl rfl x e hx)⟩
   ·refine Dz p fun o' ho' x3 hsub'=>?_;try clear p;subst x3
    have hrl:(CX bc s row (i*2) s.length).row.length=s.length:=by rw[Gx,hrow]
    generalize CX bc s row (i*2) s.length=st at ho' hsub' hrl hgo;refine DE ?_ hsub';have hcmp:=Jb (V:=V) (w:=w) (H0:=H0) (n:=n+1) (a:=st.mn) (b:=9)
    by_cases hm:9<st.mn
    ·rw[decide_eq_true hm] at hcmp
     rw[if_pos hm] at hgo;refine HB (BR (b:=true) (Ar (Aa rfl rfl) (Aa rfl rfl) hcmp rfl) (fun Z=>?_) E3);refine Gc (P:=Rd (.int 10)) (show Am _ _ _ _ _ _ _ _ (.d (.int (9+1))) from AO (Aa rfl rfl) Ao Ea) fun g v σ' p=>⟨(by intro q;exact PX q),hΦ fun g' ex=>.inr ⟨v,rfl,?_⟩⟩;rw[←hgo];exact Rd.ext p ex
    ·rw[decide_eq_false hm] at hcmp
     rw[if_neg hm] at hgo;refine AA (BR (b:=false) (Ar (Aa rfl rfl) (Aa rfl rfl) hcmp rfl) (EP) fun Z=>AC fun g=>⟨rfl,rfl,rfl⟩) (AC fun g=>hΦ ?_);exact⟨st.row,o',st.res,ho',hrl,rfl,hgo,Bl rfl⟩
  ·exact FY rfl (Md (σ:=[(S "result",.d (.int res)),(S "row",.v (.ref a)),(S "a",.d (.str (tx s))),(S "b",.d (.str (tx l))),(S "max_cost",.d (.int 9))]) rfl hsub)
 ·intro g σ' zx' hJ
  refine PW hJ fun row o' res h9=>?_;refine JY h9 fun ho' hrow x6 hgo hsub=>?_;clear h9;try clear hJ;subst x6
  have el:((List.range ((l.length:Int) - 0).toNat).map fun i:Nat=>Ent.d (.int (0+(i:Int)))).length=l.length:=by rw[length_map,length_range];exact rfl
  rw[el,List.drop_eq_nil_of_le (by rw[length_range];exact le_refl _),Qy] at hgo;exact .inl ⟨rfl,by rw[←hgo];exact hsub _ _ rfl⟩
 ·intro g σ' zx' p
  rcases p with ⟨_,h⟩|⟨v,h,_⟩
  ·exact Gc (P:=Rd (.int (Ds s l))) (show Am _ _ _ _ _ _ _ _ (.d (.int (Ds s l))) from Aa h rfl) fun g v σ' p=>⟨v,rfl,p⟩
  ·exact ML h
 ·intro g fl σ' zx' hn p
  rcases p with ⟨h,_⟩|h
  ·exact absurd h hn
  ·exact h
noncomputable def Dt:List Nat->List Nat->Nat
 |x::xs,y::ys=>if x=y then Dt xs ys+1 else 0
 |_,_=>0
theorem Nh(x y:Nat)(xs ys:List Nat):Dt (x::xs) (y::ys)=if x=y then Dt xs ys+1 else 0:=rfl
noncomputable def KA (l:List Nat) (k:Nat):List Nat:=l.take (l.length - k)
noncomputable def Ni (a b:List Nat):Int:=
 if a=[]∨b=[] then 2*((a.length:Int)+b.length) else if b.length<a.length then Ds b a else Ds a b
noncomputable def Es (a b:List Nat):Int:=
 if a=b then 0 else
 let a1:=a.drop (Dt a b)
 let b1:=b.drop (Dt a b)
 let q:=Dt a1.reverse b1.reverse
 Ni (KA a1 q) (KA b1 q)
theorem Jx{l:List Nat}{p:Nat}(h:p≤l.length):Txt.slice (tx l) (some (p:Int)) none=tx (l.drop p):=by
 have hz:(tx l).length=l.length:=C8;rw[slice_from_eq (b:=l.length) (by lia) (by rw[hz];lia) (by rfl)];have e:((l.length:Int) - p).toNat=l.length - p:=Int.toNat_sub _ _
 (refine e.symm▸ ?_)
 simp only[tx,Int.toNat_natCast];rw[List.take_of_length_le (by rw[length_drop];exact le_refl _)]
theorem Gj{x:Str}{lo hi:Option Int}{is:List Nat}(h:Builtin.Str.strSliceIndices lo hi 1 x.length=is):Txt.slice x lo hi=if is.length=x.length then x else ⟨(is.filterMap (x.cps[·]?)).toArray⟩:=by
 unfold Txt.slice
 (refine h.symm▸ ?_)
 by_cases e:is.length=x.length<;> simp[e]
theorem Pd{l:List Nat}(h:l.length≤2):Txt.slice (tx l) none none=tx l:=by
 rcases lt_or_ge 0 l.length with q|q
 ·rcases Jr h q with ⟨a,rfl⟩|⟨a,b,rfl⟩
  ·rw[Gj (is:=[0]) (by show Builtin.Str.strSliceIndices none none 1 1=_;decide +kernel)];rfl
  ·rw[Gj (is:=[0,1]) (by show Builtin.Str.strSliceIndices none none 1 2=_;decide +kernel)];rfl
 ·(refine(List.eq_nil_of_length_eq_zero (Nat.le_zero.mp q)).symm▸ ?_);rfl
theorem Pe{l:List Nat}{k:Nat}(h2:l.length≤2)(hk:k≤l.length)(h0:0<k):Txt.slice (tx l) none (some (-(k:Int)))=tx (KA l k):=by
 rcases Jr h2 (le_trans h0 hk) with ⟨a,rfl⟩|⟨a,b,rfl⟩
 ·obtain rfl:k=1:=le_antisymm hk h0
  rw[Gj (is:=[]) (by show Builtin.Str.strSliceIndices none (some (-1)) 1 1=_;decide +kernel)];rfl
 ·rcases lt_or_ge 1 k with q|q
  ·obtain rfl:k=2:=le_antisymm hk q
   rw[Gj (is:=[]) (by show Builtin.Str.strSliceIndices none (some (-2)) 1 2=_;decide +kernel)];rfl
  ·obtain rfl:k=1:=le_antisymm q h0
   rw[Gj (is:=[0]) (by show Builtin.Str.strSliceIndices none (some (-1)) 1 2=_;decide +kernel)];rfl
theorem Og(a:List Nat):∀b:List Nat,Dt a b≤a.length∧Dt a b≤b.length:=by
 induction a with
 |nil=>exact fun Z=>⟨zero_le _,zero_le _⟩
 |cons x xs ih=>
  intro b;cases b with
  |nil=>exact⟨zero_le _,zero_le _⟩
  |cons y ys=>
   rw[Nh]
   by_cases e:x=y
   ·rw[if_pos e];exact⟨succ_le_succ (ih ys).1,succ_le_succ (ih ys).2⟩
   ·rw[if_neg e];exact⟨zero_le _,zero_le _⟩
noncomputable def Ub (k:Option Int):PyData:=match k with
 |none=>.none
 |some k=>.int k
theorem FE{value upper:Expr}{p pos:Pos}{x:Str}{hi:Option Int}(hv:Am V w H0 n sc σ zx value (.d (.str x)))(hu:Am V w H0 n sc σ zx upper (.d (Ub hi)))
  (hz:x.length≤sizeLine)(ht:∀o r,letTemporaryGo value o r=pure ()):Am V w H0 n sc σ zx (.Subscript value (.Slice none (some upper) none p) pos) (.d (.str (Txt.slice x none hi))):=by
 intro A zz s zy g o F;refine PyProof.Rows.Subscript_ (Aq (hv A zz s zy g o F) fun v s₁ q1=>?_);have F1:=F.ext q1.ext;refine wpAny_Slice (wpAny_evalPart_none (wpAny_evalPart_some (Aq (hu A zz s₁ zy g o F1) fun vu s2 q2=>Ag ?_)));refine ex1 (AR q1.val) fun t x2=>?_;subst x2;cases hi with
 |none=>
  have e:=C0 q2.val;subst e;refine tail_of_ItemOn (SBH.sliceItem_nn (P:=fun h'=>Ext s2.heap h') (fun h ob e=>e.trans (An _ _)) (Ext.refl _) (fun h' t' k e=>?_) hz) rfl (ht _);exact(q1.trans q2).trans ⟨h',k,rfl,e,BO _ _ _⟩
 |some k=>
  refine ex1 (Ax q2.val) fun u x2=>?_;subst x2;refine tail_of_ItemOn (SBH.sliceItem_ns (P:=fun h'=>Ext s2.heap h') (fun h ob e=>e.trans (An _ _)) (Ext.refl _) (fun h' t' k e=>?_) hz) rfl (ht _);exact(q1.trans q2).trans ⟨h',k,rfl,e,BO _ _ _⟩
theorem QB{t2 t3:Tok}(hcost:∀a b,AB a->AB b->CB V w H0 "_substitution_cost" (n+1) [.str (sg a),.str (sg b)] (.int (Cd a b)))(hlen:GIs H0 "len" (.builtin "len"))(hmin:GIs H0 "min" (.builtin "min"))(hrange:GIs H0 "range" (.type "range"))(hlist:GIs H0 "list" (.type "list"))
  (hmove:GIs H0 "_MOVE_COST" (.int 2 t2))(hmax:GIs H0 "_MAX_STRING_SIZE" (.int 40 t3)){a b:List Nat}(ha:∀c∈a,AB c)(hb:∀c∈b,AB c)(za:a.length≤2)(zb:b.length≤2):
  GX V w H0 (n+1) GH [(S "a",.d (.str (tx a))),(S "b",.d (.str (tx b))),(S "max_cost",.d (.int 9))] [] ((AD (B7 19)).drop 9) (fun g fl Z Z=>∃v,fl=.ret v∧Rd (.int (Ni a b)) g v):=by
 revert hcost hlen hmin hrange hlist hmove hmax ha hb za zb;revert V w H0 n t2 t3 a b;refine no_implicit_lambda% (HS (by exact(((default,w0),default),default)) ?_);generalize FK _ _=t9;generalize t9.1.1.1=V,t9.1.1.2=w,t9.1.2.1=H0,t9.1.2.2=n,t9.2.1.1=t2,t9.2.1.2=t3,t9.2.2.1=a,t9.2.2.2=b;intro hcost hlen hmin hrange hlist hmove hmax ha hb za zb;have zl:∀{l:List Nat},l.length≤2->(tx l).length≤sizeLine:=fun h=>Ai (by rw[C8];exact le_trans h (by decide));have va:∀pos,Am V w H0 (n+1) GH [(S "a",.d (.str (tx a))),(S "b",.d (.str (tx b))),(S "max_cost",.d (.int 9))] [] (.Name "a" pos) (.d (.str (tx a))):=fun pos=>Aa rfl rfl;have vb:∀pos,Am V w H0 (n+1) GH [(S "a",.d (.str (tx a))),(S "b",.d (.str (tx b))),(S "max_cost",.d (.int 9))] [] (.Name "b" pos) (.d (.str (tx b))):=fun pos=>Aa rfl rfl;have tn:∀{l:List Nat},((tx l).length !=0)=!l.isEmpty:=fun{l}=>by rw[C8];cases l<;> rfl
 have gt40:∀{l:List Nat},l.length≤2->decide ((40:Int)<l.length)=false:=fun h=>by simp;lia
 have h40a:=Jb (V:=V) (w:=w) (H0:=H0) (n:=n+1) (a:=(a.length:Int)) (b:=40);have h40b:=Jb (V:=V) (w:=w) (H0:=H0) (n:=n+1) (a:=(b.length:Int)) (b:=40);rw[gt40 za] at h40a;rw[gt40 zb] at h40b;have ta:∀pos,FI V w H0 (n+1) GH [(S "a",.d (.str (tx a))),(S "b",.d (.str (tx b))),(S "max_cost",.d (.int 9))] [] (.Name "a" pos) (!a.isEmpty):=fun pos=>by
  have:=CQ (va pos) (Lj (zl za)) (fun Z Z=>rfl);rwa [tn] at this
 have tb:∀pos,FI V w H0 (n+1) GH [(S "a",.d (.str (tx a))),(S "b",.d (.str (tx b))),(S "max_cost",.d (.int 9))] [] (.Name "b" pos) (!b.isEmpty):=fun pos=>by
  have:=CQ (vb pos) (Lj (zl zb)) (fun Z Z=>rfl);rwa [tn] at this
 by_cases he:a=[]∨b=[]
 ·have et:Ni a b=2*((a.length:Int)+b.length):=by rw[Ni,if_pos he]
  (refine et.symm▸ ?_)
  refine HB (BR (b:=true) ?_ (fun Z=>?_) E3)
  ·have e:true=(!(!a.isEmpty) ||!(!b.isEmpty)):=by
    rcases he with rfl|rfl
    ·rfl
    ·simp
   rw[e];exact AH (DB (GV (ta _)) fun Z=>DK (GV (tb _)))
  ·refine Gc (P:=Rd (.int (2*((a.length:Int)+b.length)))) (show Am _ _ _ _ _ _ _ _ (.d (.int (2*((a.length:Int)+b.length)))) from AO (Dr hmove rfl) (AO (Bb hlen (le_trans za (by decide)) (va _) rfl fun Z=>rfl) (Bb hlen (le_trans zb (by decide)) (vb _) rfl fun Z=>rfl) Ea) (IV (Jw _))) fun g v σ' p=>⟨(by intro q;exact PX q),v,rfl,p⟩
 ·have et:Ni a b=if b.length<a.length then Ds b a else Ds a b:=by rw[Ni,if_neg he]
  (refine et.symm▸ ?_)
  simp only[not_or] at he;refine AA (BR (b:=false) ?_ (EP) fun Z=>AC fun g=>⟨rfl,rfl,rfl⟩) ?_
  ·have e:false=(!(!a.isEmpty) ||!(!b.isEmpty)):=by
    (refine(show a.isEmpty=false by simpa using he.1).symm▸ ?_;refine(show b.isEmpty=false by simpa using he.2).symm▸ ?_);rfl
   rw[e];exact AH (DB (GV (ta _)) fun Z=>DK (GV (tb _)))
  refine AA (BR (b:=false) ?_ (EP) fun Z=>AC fun g=>⟨rfl,rfl,rfl⟩) ?_
  ·exact AH (DB (a:=false) (b:=false) (Ar (Bb hlen (le_trans za (by decide)) (va _) rfl fun Z=>rfl) (Dr hmax rfl) h40a rfl) fun Z=>DK (Ar (Bb hlen (le_trans zb (by decide)) (vb _) rfl fun Z=>rfl) (Dr hmax rfl) h40b rfl))
  have fin:∀s l:List Nat,s.length≤l.length->s.length≤2->l.length≤2->(∀c∈s,AB c)->(∀c∈l,AB c)->GX V w H0 (n+1) GH [(S "a",.d (.str (tx s))),(S "b",.d (.str (tx l))),(S "max_cost",.d (.int 9))] [] ((AD (B7 19)).drop 12) (fun g fl Z Z=>∃v,fl=.ret v∧Rd (.int (Ds s l)) g v):=fun s l hsl zs zl hs hl=>by
   refine AA (BR (b:=false) ?_ (EP) fun Z=>AC fun g=>⟨rfl,rfl,rfl⟩) (QA hcost hlen hmin hrange hlist hmove hs hl zs zl);have hc:=Jb (V:=V) (w:=w) (H0:=H0) (n:=n+1) (a:=((l.length:Int) - s.length)*2) (b:=9);rw[show decide ((9:Int)<((l.length:Int) - s.length)*2)=false by simp;lia] at hc;exact Ar (AO (AO (Bb hlen (le_trans zl (by decide)) (Aa rfl rfl) rfl fun Z=>rfl) (Bb hlen (le_trans zs (by decide)) (Aa rfl rfl) rfl fun Z=>rfl) IP) (Dr hmove rfl) (IV (Kz _))) (Aa rfl rfl) hc rfl
  have hc:=Ei (V:=V) (w:=w) (H0:=H0) (n:=n+1) (a:=(b.length:Int)) (b:=(a.length:Int))
  by_cases hlt:b.length<a.length
  ·(refine(if_pos hlt).symm▸ ?_)
   rw[show decide ((b.length:Int)<a.length)=true by simpa using hlt] at hc;refine AA (zx₁:=[]) (σ₁:=(S "a",.d (.str (tx b)))::(S "b",.d (.str (tx a)))::[(S "a",.d (.str (tx a))),(S "b",.d (.str (tx b))),(S "max_cost",.d (.int 9))]) (BR (b:=true) (Ar (Bb hlen (by lia) (vb _) rfl fun Z=>rfl) (Bb hlen (by lia) (va _) rfl fun Z=>rfl) hc rfl) (fun Z=>?_) E3) ?_
   ·refine AA (BX (E9 (x:=.d (.tuple [.str (tx b),.str (tx a)])) (e1:=.d (.str (tx b))) (e2:=.d (.str (tx a))) (DR (ds:=[.str _,.str _]) (Bo (vb _) (va _) (fun Z=>rfl) fun Z=>rfl) (Ai (by simp))) C9 (Ab rfl) (Ab rfl) (fun zz o=>by have q:=o.scope;cases zz;simp only at q;subst q;rfl) (fun zz o=>by have q:=o.scope;cases zz;simp only at q;subst q;rfl))) (AC fun g=>⟨rfl,rfl,rfl⟩)
   ·exact DE (fin b a (le_of_lt hlt) zb za hb ha) (Bl rfl)
  ·(refine(if_neg hlt).symm▸ ?_)
   rw[show decide ((b.length:Int)<a.length)=false by simpa using hlt] at hc;exact AA (BR (b:=false) (Ar (Bb hlen (by lia) (vb _) rfl fun Z=>rfl) (Bb hlen (by lia) (va _) rfl fun Z=>rfl) hc rfl) (EP) fun Z=>AC fun g=>⟨rfl,rfl,rfl⟩) (fin a b (Nat.not_lt.mp hlt) za zb ha hb)
noncomputable def IC (a b:List Nat):Bool:=!a.isEmpty && (!b.isEmpty && (a.headD 0==b.headD 0))
theorem Jy{a b:List Nat}(h:IC a b=true):Dt a b=Dt (a.drop 1) (b.drop 1)+1∧0<a.length∧0<b.length:=by
 cases a with
 |nil=>simp[IC] at h
 |cons x xs=>
  cases b with
  |nil=>simp[IC] at h
  |cons y ys=>
   simp[IC] at h;simp[Nh,h]
theorem ID{a b:List Nat}(h:IC a b=false):Dt a b=0:=by
 cases a with
 |nil=>exact rfl
 |cons x xs=>
  cases b with
  |nil=>exact rfl
  |cons y ys=>
   simp[IC] at h;simp[Nh,h]
theorem Oh{l:List Nat}{i:Nat}(h:i<l.length):(seqIndex? (i:Int) (tx l).length).bind ((tx l).cps[·]?)=some ((l.drop i).headD 0):=by
 have:=IW h;rw[Int.zero_add] at this;rw[this]
 congr 1
 rw[getElem?_eq_getElem h,List.drop_eq_getElem_cons h];rfl
theorem QC{e:Expr}{b:Bool}{σ':AN}(h:FI V w H0 n sc σ zx e b)(hs:∀x e,σ.lookup x=some e->σ'.lookup x=some e):FI V w H0 n sc σ' zx e b:=fun A zz s zy g o F=>h A zz s zy g o (F.sub hs)
theorem Oj{value lower:Expr}{p pos:Pos}{l:List Nat}{i:Nat}(hv:Am V w H0 n sc σ zx value (.d (.str (tx l))))(hl:Am V w H0 n sc σ zx lower (.d (.int (i:Int))))(hi:i≤l.length)(hz:l.length≤2)
  (ht:∀o r,letTemporaryGo value o r=pure ())(hp:∀zz whole,PySem.isTrue (.Subscript value (.Slice (some lower) none none p) pos) zz whole=(do let v ←whole;standAt (Expr.Subscript value (.Slice (some lower) none none p) pos).pos;holding [v] (truthy v))):
  FI V w H0 n sc σ zx (.Subscript value (.Slice (some lower) none none p) pos) (!(l.drop i).isEmpty):=by
 have h1:=Dn (V:=V) (w:=w) (H0:=H0) (n:=n) (p:=p) (pos:=pos) hv hl (Ai (by rw[C8];exact le_trans hz (by decide))) ht;rw[Jx hi] at h1;have:=CQ h1 (Lj (Ai (by rw[C8,length_drop];exact le_trans (sub_le _ _) (le_trans hz (by decide))))) hp;rw[C8] at this;have e:((l.drop i).length !=0)=!(l.drop i).isEmpty:=by cases l.drop i<;> rfl
 rwa [e] at this
theorem Sw{a b:List Nat}(za:a.length≤2)(zb:b.length≤2){test:Expr}{body:List Stmt}{pos:Pos}
  (hst:(AD (B7 19))[2]? =some (.While test body [] pos)):
  GT V w H0 (n+1) GH [(S "pre",.d (.int 0)),(S "a",.d (.str (tx a))),(S "b",.d (.str (tx b))),(S "max_cost",.d (.int 9))] [] (.While test body [] pos)
   (fun Z fl σ' zx'=>fl=.next∧zx'=[]∧∀x e,([(S "pre",.d (.int (Dt a b:Int))),(S "a",.d (.str (tx a))),(S "b",.d (.str (tx b))),(S "max_cost",.d (.int 9))]:AN).lookup x=some e->σ'.lookup x=some e):=by
 revert za zb hst;revert pos;revert V w H0 n a b test body;refine no_implicit_lambda% (HS (by exact(((default,w0),default),default)) ?_);generalize FK _ _=t9;generalize t9.1.1.1=V,t9.1.1.2=w,t9.1.2.1=H0,t9.1.2.2=n,t9.2.1.1=a,t9.2.1.2=b,t9.2.2.1=test,t9.2.2.2=body;refine no_implicit_lambda% (Io (default) ?_);generalize HR _ _=pos;intro za zb hst;cases hst;refine Hq (I:=fun i σ' zx'=>zx'=[]∧∃p:Nat,p≤a.length∧p≤b.length∧Dt a b=p+Dt (a.drop p) (b.drop p)∧i=a.length - p∧
  ∀x e,([(S "pre",.d (.int (p:Int))),(S "a",.d (.str (tx a))),(S "b",.d (.str (tx b))),(S "max_cost",.d (.int 9))]:AN).lookup x=some e->σ'.lookup x=some e) a.length (fun i σ' zx' hI=>?_) ⟨rfl,0,zero_le _,zero_le _,by simp,by exact rfl,fun x e h=>h⟩
 obtain⟨rfl,p,pa,pb,hc,hi,hsub⟩:=hI;generalize hσ:([(S "pre",.d (.int (p:Int))),(S "a",.d (.str (tx a))),(S "b",.d (.str (tx b))),(S "max_cost",.d (.int 9))]:AN)=τ at hsub;have vp:∀pos,Am V w H0 (n+1) GH τ [] (.Name "pre" pos) (.d (.int (p:Int))):=fun pos=>by subst hσ;exact Aa rfl rfl
 have va:∀pos,Am V w H0 (n+1) GH τ [] (.Name "a" pos) (.d (.str (tx a))):=fun pos=>by subst hσ;exact Aa rfl rfl
 have vb:∀pos,Am V w H0 (n+1) GH τ [] (.Name "b" pos) (.d (.str (tx b))):=fun pos=>by subst hσ;exact Aa rfl rfl
 refine⟨IC (a.drop p) (b.drop p),QC ?_ hsub,fun ht=>DE ?_ hsub,fun hf=>AC fun g=>⟨rfl,rfl,?_⟩⟩
 ·refine AH (BH (Oj (va _) (vp _) pa za (fun Z Z=>rfl) fun Z Z=>rfl) fun h1=>BH (Oj (vb _) (vp _) pb zb (fun Z Z=>rfl) fun Z Z=>rfl) fun h2=>Cq ?_)
  have l1:p<a.length:=by
   have:a.drop p≠[]:=by simpa using h1
   rw[ne_eq,drop_eq_nil_iff] at this;exact not_le.mp this
  have l2:p<b.length:=by
   have:b.drop p≠[]:=by simpa using h2
   rw[ne_eq,drop_eq_nil_iff] at this;exact not_le.mp this
  rw[←Fp];exact Ar (Bf (va _) (vp _) (D0 (by lia) (by lia)) (Oh l1) fun Z Z=>rfl) (Bf (vb _) (vp _) (D0 (by lia) (by lia)) (Oh l2) fun Z Z=>rfl) DY rfl
 ·have ha:=Jy ht
  rw[length_drop,length_drop,drop_drop,drop_drop] at ha;subst hσ;refine AA (BX (Qv (a:=.d (.int (p:Int))) (b:=.d (.int 1)) (c:=.d (.int ((p:Int)+1))) rfl rfl (Ab rfl) Ao HG)) (AC fun g=>?_);refine⟨a.length - (p+1),Vk (Eq.symm ‹i=a.length - p›) (sub_pos_iff_lt.mp ha.2.1),rfl,p+1,sub_pos_iff_lt.mp ha.2.1,sub_pos_iff_lt.mp ha.2.2,?_,rfl,?_⟩
  ·rw[hc]
   have e1:=ha.1
   lia
  ·have e1:((p+1:Nat):Int)=(p:Int)+1:=by exact rfl
   (refine e1.symm▸ ?_)
   exact Bl rfl
 ·have h0:=ID hf
  rw[h0] at hc;have e1:Dt a b=p:=by assumption
  (refine e1.symm▸ ?_)
  subst hσ;exact hsub
theorem KB{l:List Nat}{k:Nat}(h:k<l.length):(seqIndex? (-(k:Int) - 1) (tx l).length).bind ((tx l).cps[·]?)=some ((l.reverse.drop k).headD 0):=by
 have e:seqIndex? (-(k:Int) - 1) (tx l).length=some (l.length - 1 - k):=by
  rw[C8];unfold seqIndex?;have h1:(-(k:Int) - 1)<0:=by lia
  simp only[h1,if_true]
  (refine(VF h).symm▸ ?_)
  have h3:=VC h;simp[h3]
 rw[e];have hr:k<l.reverse.length:=by rw[length_reverse];exact h
 rw[List.drop_eq_getElem_cons hr,List.getElem_reverse];have h3:=VC h;simp[tx,h3]
theorem QD(l:List Nat):KA l 0=l:=by simp[KA]
theorem Nj{value post:Expr}{c1:Const}{kx:Nat}{p p2 p3 pos:Pos}{l:List Nat}{k:Nat}(hv:Am V w H0 n sc σ zx value (.d (.str (tx l))))(hp:Am V w H0 n sc σ zx post (.d (.int (-(k:Int)))))(hk:k≤l.length)(hz:l.length≤2)(ht:∀o r,letTemporaryGo value o r=pure ()):
  Am V w H0 n sc σ zx (.Subscript value (.Slice none (some (.BoolOp .Or [post,.Constant .none kx p2] p3)) none p) pos) (.d (.str (tx (KA l k)))):=by
 cases k with
 |zero=>
  have:=FE (V:=V) (w:=w) (H0:=H0) (n:=n) (p:=p) (pos:=pos) (hi:=none) hv (Qx (pos:=p3) (t:=false) (b:=.d .none) (c:=.d (Ub none)) hp (Qw (k:= -((0:Nat):Int))) (EP) fun Z=>⟨BV (k:=kx) (pos:=p2),rfl⟩) (Ai (by rw[C8];exact le_trans hz (by decide))) ht;rw[Pd hz] at this;rwa [QD]
 |succ k=>
  have hne:((-((k+1:Nat):Int)) !=0)=true:=rfl;have ht':=Qw (V:=V) (w:=w) (H0:=H0) (n:=n) (k:= -((k+1:Nat):Int));rw[hne] at ht';have:=FE (V:=V) (w:=w) (H0:=H0) (n:=n) (p:=p) (pos:=pos) (hi:=some (-((k+1:Nat):Int))) hv (Qx (pos:=p3) (t:=true) (b:=.d .none) (c:=.d (Ub (some (-((k+1:Nat):Int))))) (e':=.Constant .none kx p2) hp ht' (fun Z=>rfl) E3) (Ai (by rw[C8];exact le_trans hz (by decide))) ht;rw[Pe hz hk (succ_pos _)] at this;exact this
theorem QE{l:List Nat}{k:Nat}:(!(KA l k).isEmpty)=!(l.reverse.drop k).isEmpty:=by
 have h:(KA l k).length=(l.reverse.drop k).length:=by
  unfold KA;rw[length_take,length_drop,length_reverse];exact Nat.min_eq_left (sub_le _ _)
 cases h1:KA l k<;> cases h2:l.reverse.drop k<;> simp_all
theorem QF{value post:Expr}{kx:Nat}{p p2 p3 pos:Pos}{l:List Nat}{k:Nat}(hv:Am V w H0 n sc σ zx value (.d (.str (tx l))))(hpo:Am V w H0 n sc σ zx post (.d (.int (-(k:Int)))))(hk:k≤l.length)(hz:l.length≤2)(ht:∀o r,letTemporaryGo value o r=pure ())
  (hp:∀zz whole,PySem.isTrue (.Subscript value (.Slice none (some (.BoolOp .Or [post,.Constant .none kx p2] p3)) none p) pos) zz whole=(do let v ←whole;standAt (Expr.Subscript value (.Slice none (some (.BoolOp .Or [post,.Constant .none kx p2] p3)) none p) pos).pos;holding [v] (truthy v))):
  FI V w H0 n sc σ zx (.Subscript value (.Slice none (some (.BoolOp .Or [post,.Constant .none kx p2] p3)) none p) pos) (!(l.reverse.drop k).isEmpty):=by
 have h1:=Nj (V:=V) (w:=w) (H0:=H0) (n:=n) (kx:=kx) (p:=p) (p2:=p2) (p3:=p3) (pos:=pos) (c1:=.none) hv hpo hk hz ht;have:=CQ h1 (Lj (Ai (by rw[C8];unfold KA;rw[length_take];exact le_trans (min_le_right _ _) (le_trans hz (by decide))))) hp;rw[C8] at this;have e:((KA l k).length !=0)=!(KA l k).isEmpty:=by cases KA l k<;> rfl
 rw[e,QE] at this;exact this
theorem Sx{a b:List Nat}(za:a.length≤2)(zb:b.length≤2){test:Expr}{body:List Stmt}{pos:Pos}
  (hst:(AD (B7 19))[6]? =some (.While test body [] pos)):
  GT V w H0 (n+1) GH [(S "post",.d (.int 0)),(S "a",.d (.str (tx a))),(S "b",.d (.str (tx b))),(S "max_cost",.d (.int 9))] [] (.While test body [] pos)
   (fun Z fl σ' zx'=>fl=.next∧zx'=[]∧∀x e,([(S "post",.d (.int (-(Dt a.reverse b.reverse:Int)))),(S "a",.d (.str (tx a))),(S "b",.d (.str (tx b))),(S "max_cost",.d (.int 9))]:AN).lookup x=some e->σ'.lookup x=some e):=by
 revert za zb hst;revert pos;revert V w H0 n a b test body;refine no_implicit_lambda% (HS (by exact(((default,w0),default),default)) ?_);generalize FK _ _=t9;generalize t9.1.1.1=V,t9.1.1.2=w,t9.1.2.1=H0,t9.1.2.2=n,t9.2.1.1=a,t9.2.1.2=b,t9.2.2.1=test,t9.2.2.2=body;refine no_implicit_lambda% (Io (default) ?_);generalize HR _ _=pos;intro za zb hst;cases hst;refine Hq (I:=fun i σ' zx'=>zx'=[]∧∃p:Nat,p≤a.length∧p≤b.length∧Dt a.reverse b.reverse=p+Dt (a.reverse.drop p) (b.reverse.drop p)∧i=a.length - p∧
  ∀x e,([(S "post",.d (.int (-(p:Int)))),(S "a",.d (.str (tx a))),(S "b",.d (.str (tx b))),(S "max_cost",.d (.int 9))]:AN).lookup x=some e->σ'.lookup x=some e) a.length (fun i σ' zx' hI=>?_) ⟨rfl,0,zero_le _,zero_le _,by simp,by exact rfl,fun x e h=>h⟩
 obtain⟨rfl,p,pa,pb,hc,hi,hsub⟩:=hI;generalize hσ:([(S "post",.d (.int (-(p:Int)))),(S "a",.d (.str (tx a))),(S "b",.d (.str (tx b))),(S "max_cost",.d (.int 9))]:AN)=τ at hsub;have vp:∀pos,Am V w H0 (n+1) GH τ [] (.Name "post" pos) (.d (.int (-(p:Int)))):=fun pos=>by subst hσ;exact Aa rfl rfl
 have va:∀pos,Am V w H0 (n+1) GH τ [] (.Name "a" pos) (.d (.str (tx a))):=fun pos=>by subst hσ;exact Aa rfl rfl
 have vb:∀pos,Am V w H0 (n+1) GH τ [] (.Name "b" pos) (.d (.str (tx b))):=fun pos=>by subst hσ;exact Aa rfl rfl
 have f63:∀k:Nat,k≤2->(decide ((-(k:Int) - 1)< -(2 ^ 63:Int)) ||decide ((-(k:Int) - 1) ≥ 2 ^ 63))=false:=fun k hk=>by simp;lia
 refine⟨IC (a.reverse.drop p) (b.reverse.drop p),QC ?_ hsub,fun ht=>DE ?_ hsub,fun hf=>AC fun g=>⟨rfl,rfl,?_⟩⟩
 ·refine AH (BH (QF (va _) (vp _) pa za (fun Z Z=>rfl) fun Z Z=>rfl) fun h1=>BH (QF (vb _) (vp _) pb zb (fun Z Z=>rfl) fun Z Z=>rfl) fun h2=>Cq ?_)
  have l1:p<a.length:=by
   have:a.reverse.drop p≠[]:=by simpa using h1
   rw[ne_eq,drop_eq_nil_iff,length_reverse] at this;exact not_le.mp this
  have l2:p<b.length:=by
   have:b.reverse.drop p≠[]:=by simpa using h2
   rw[ne_eq,drop_eq_nil_iff,length_reverse] at this;exact not_le.mp this
  rw[←Fp];exact Ar (Bf (va _) (AO (vp _) Ao IP) (f63 p (by lia)) (KB l1) fun Z Z=>rfl) (Bf (vb _) (AO (vp _) Ao IP) (f63 p (by lia)) (KB l2) fun Z Z=>rfl) DY rfl
 ·have ha:=Jy ht
  rw[length_drop,length_drop,drop_drop,drop_drop,length_reverse,length_reverse] at ha;subst hσ;refine AA (BX (Qv (a:=.d (.int (-(p:Int)))) (b:=.d (.int 1)) (c:=.d (.int (-(p:Int) - 1))) rfl rfl (Ab rfl) Ao Ma)) (AC fun g=>?_);refine⟨a.length - (p+1),Vk (Eq.symm ‹i=a.length - p›) (sub_pos_iff_lt.mp ha.2.1),rfl,p+1,sub_pos_iff_lt.mp ha.2.1,sub_pos_iff_lt.mp ha.2.2,?_,rfl,?_⟩
  ·rw[hc]
   have e1:=ha.1
   lia
  ·have e1:(-((p+1:Nat):Int))= -(p:Int) - 1:=by lia
   (refine e1.symm▸ ?_)
   exact Bl rfl
 ·have h0:=ID hf
  rw[h0] at hc;have e1:Dt a.reverse b.reverse=p:=by assumption
  (refine e1.symm▸ ?_)
  subst hσ;exact hsub
theorem Ok{value lower:Expr}{p pos:Pos}{l:List Nat}{i:Nat}(hv:Am V w H0 n sc σ zx value (.d (.str (tx l))))(hl:Am V w H0 n sc σ zx lower (.d (.int (i:Int))))(hi:i≤l.length)(hz:l.length≤2)
  (ht:∀o r,letTemporaryGo value o r=pure ()):Am V w H0 n sc σ zx (.Subscript value (.Slice (some lower) none none p) pos) (.d (.str (tx (l.drop i)))):=by
 have h1:=Dn (V:=V) (w:=w) (H0:=H0) (n:=n) (p:=p) (pos:=pos) hv hl (Ai (by rw[C8];exact le_trans hz (by decide))) ht;rwa [Jx hi] at h1
theorem QG{t2 t3:Tok}(hcost:∀a b,AB a->AB b->CB V w H0 "_substitution_cost" (n+1) [.str (sg a),.str (sg b)] (.int (Cd a b)))(hlen:GIs H0 "len" (.builtin "len"))(hmin:GIs H0 "min" (.builtin "min"))(hrange:GIs H0 "range" (.type "range"))(hlist:GIs H0 "list" (.type "list"))
  (hmove:GIs H0 "_MOVE_COST" (.int 2 t2))(hmax:GIs H0 "_MAX_STRING_SIZE" (.int 40 t3)){a b:List Nat}(ha:∀c∈a,AB c)(hb:∀c∈b,AB c)(za:a.length≤2)(zb:b.length≤2):
  GX V w H0 (n+1) GH [(S "a",.d (.str (tx a))),(S "b",.d (.str (tx b))),(S "max_cost",.d (.int 9))] [] (AD (B7 19)) (fun g fl Z Z=>∃v,fl=.ret v∧Rd (.int (Es a b)) g v):=by
 revert hcost hlen hmin hrange hlist hmove hmax ha hb za zb;revert V w H0 n t2 t3 a b;refine no_implicit_lambda% (HS (by exact(((default,w0),default),default)) ?_);generalize FK _ _=t9;generalize t9.1.1.1=V,t9.1.1.2=w,t9.1.2.1=H0,t9.1.2.2=n,t9.2.1.1=t2,t9.2.1.2=t3,t9.2.2.1=a,t9.2.2.2=b;intro hcost hlen hmin hrange hlist hmove hmax ha hb za zb;have hcmp:=DY (V:=V) (w:=w) (H0:=H0) (n:=n+1) (a:=tx a) (b:=tx b);rw[M4] at hcmp
 by_cases he:a=b
 ·have e:Es a b=0:=by rw[Es,if_pos he]
  (refine e.symm▸ ?_)
  rw[show(a==b)=true by exact beq_iff_eq.mpr he] at hcmp;refine HB (BR (b:=true) (Ar (Aa rfl rfl) (Aa rfl rfl) hcmp rfl) (fun Z=>?_) E3);exact Gc (P:=Rd (.int 0)) (show Am _ _ _ _ _ _ _ _ (.d (.int 0)) from Ao) fun g v σ' p=>⟨(by intro q;exact PX q),v,rfl,p⟩
 rw[show(a==b)=false by simpa using he] at hcmp;have e:Es a b=Ni (KA (a.drop (Dt a b)) (Dt (a.drop (Dt a b)).reverse (b.drop (Dt a b)).reverse)) (KA (b.drop (Dt a b)) (Dt (a.drop (Dt a b)).reverse (b.drop (Dt a b)).reverse)):=by rw[Es,if_neg he]
 (refine e.symm▸ ?_)
 have pl:=Og a b;generalize hp:Dt a b=p at pl;refine AA (BR (b:=false) (Ar (Aa rfl rfl) (Aa rfl rfl) hcmp rfl) (EP) fun Z=>AC fun g=>⟨rfl,rfl,rfl⟩) ?_;refine AA (BX (Av (bs:=[(S "pre",.d (.int 0))]) Ao (Af (Ab rfl)) (fun Z Z=>rfl) (fun Z Z=>rfl) fun Z=>rfl)) ?_;refine AG (Sw za zb rfl) fun g σ' zx' q=>?_;refine BL q fun x1 hsub=>?_;try clear q;subst x1
 rw[hp] at hsub;refine DE ?_ hsub;refine AA (BX (Av (bs:=[(S "a",.d (.str (tx (a.drop p))))]) (Ok (Aa rfl rfl) (Aa rfl rfl) pl.1 za fun Z Z=>rfl) (Af (Ab rfl)) (fun Z Z=>rfl) (fun Z Z=>rfl) fun Z=>rfl)) ?_;refine AA (BX (Av (bs:=[(S "b",.d (.str (tx (b.drop p))))]) (Ok (Aa rfl rfl) (Aa rfl rfl) pl.2 zb fun Z Z=>rfl) (Af (Ab rfl)) (fun Z Z=>rfl) (fun Z Z=>rfl) fun Z=>rfl)) ?_;have za1:(a.drop p).length≤2:=by rw[length_drop];exact le_trans (sub_le _ _) za
 have zb1:(b.drop p).length≤2:=by rw[length_drop];exact le_trans (sub_le _ _) zb
 have ha1:∀c∈a.drop p,AB c:=fun c hc=>ha c (List.mem_of_mem_drop hc);have hb1:∀c∈b.drop p,AB c:=fun c hc=>hb c (List.mem_of_mem_drop hc);generalize a.drop p=a1 at za1 ha1 ⊢;generalize b.drop p=b1 at zb1 hb1 ⊢;refine DE (σ':=[(S "a",.d (.str (tx a1))),(S "b",.d (.str (tx b1))),(S "max_cost",.d (.int 9))]) ?_ (Bl rfl);refine AA (BX (Av (bs:=[(S "post",.d (.int 0))]) Ao (Af (Ab rfl)) (fun Z Z=>rfl) (fun Z Z=>rfl) fun Z=>rfl)) ?_;refine AG (Sx za1 zb1 rfl) fun g σ' zx' q=>?_;refine BL q fun x1 hsub=>?_;try clear q;subst x1
 have ql:=Og a1.reverse b1.reverse;rw[length_reverse,length_reverse] at ql;generalize Dt a1.reverse b1.reverse=k at hsub ql ⊢;refine DE ?_ hsub;refine AA (BX (Av (bs:=[(S "a",.d (.str (tx (KA a1 k))))]) (Nj (c1:=.none) (Aa rfl rfl) (Aa rfl rfl) ql.1 za1 fun Z Z=>rfl) (Af (Ab rfl)) (fun Z Z=>rfl) (fun Z Z=>rfl) fun Z=>rfl)) ?_;refine AA (BX (Av (bs:=[(S "b",.d (.str (tx (KA b1 k))))]) (Nj (c1:=.none) (Aa rfl rfl) (Aa rfl rfl) ql.2 zb1 fun Z Z=>rfl) (Af (Ab rfl)) (fun Z Z=>rfl) (fun Z Z=>rfl) fun Z=>rfl)) ?_;have cl:∀{l:List Nat},l.length≤2->(KA l k).length≤2:=fun h=>by unfold KA;rw[length_take];exact le_trans (min_le_right _ _) h
 exact DE (QB hcost hlen hmin hrange hlist hmove hmax (fun c hc=>ha1 c (List.mem_of_mem_take hc)) (fun c hc=>hb1 c (List.mem_of_mem_take hc)) (cl za1) (cl zb1)) (Bl rfl)
noncomputable def names12:List (List Nat):=[[97],[65],[98],[97,97],[97,65],[97,98],[65,97],[65,65],[65,98],[98,97],[98,65],[98,98]]
theorem Ln{l:List Nat}(h:Ay l):l∈names12:=by
 refine CZ h fun h1 h2 h3=>?_;rcases Jr h2 h1 with ⟨a,rfl⟩|⟨a,b,rfl⟩
 ·have:=h3 a (.head _)
  rcases this with rfl|rfl|rfl<;> decide
 ·have ha:=h3 a (.head _)
  have hb:=h3 b (.tail _ (.head _));rcases ha with rfl|rfl|rfl<;> rcases hb with rfl|rfl|rfl<;> decide
theorem Me:(names12.all fun a=>names12.all fun b=>Es a b==Dp a b)=true:=by exact rfl
theorem KC{a b:List Nat}(ha:Ay a)(hb:Ay b):Es a b=Dp a b:=by
 have:=all_eq_true.mp (all_eq_true.mp Me a (Ln ha)) b (Ln hb);exact eq_of_beq this
noncomputable def QH (i:Int):Nat:=if i=0 then 97 else if i=1 then 65 else 98
noncomputable def Pf (i:Int):Nat:=if i=0 then 97 else if i=1 then 98 else if i=2 then 63 else 42
noncomputable def Gk (x:Int):List Nat:=QH (x.fmod 3)::(if(x.fdiv 3).fmod 4<3 then [QH ((x.fdiv 3).fmod 4)] else [])
noncomputable def QI (x:Int):List Nat:=if 0<(x.fdiv 12).fmod 16 then [Pf ((x.fdiv 12).fmod 4),Pf ((x.fdiv 48).fmod 4)] else []
noncomputable def CM (js:NJ) (x:Int):NJ:=js++(if js.length<8∧Gk x∉js.map (·.1) then [(Gk x,QI x)] else [])
noncomputable def KD (xs:List Int):NJ:=xs.foldl CM []
theorem H8(a b:List Nat):tx a++tx b=tx (a++b):=by
 have:(tx a++tx b).cps=(tx (a++b)).cps:=by rw[Str.cps_append];simp[tx]
 exact congrArg Str.mk this
theorem QJ(x:Int):Cw x=tx (Gk x):=by
 have e:∀i,Fl i=tx [QH i]:=fun i=>rfl;unfold Cw Gk;rw[e]
 by_cases h:(x.fdiv 3).fmod 4<3
 ·rw[if_pos h,if_pos h,e,H8];rfl
 ·rw[if_neg h,if_neg h,Hy,H8];rfl
theorem Sy(x:Int):Hs x=tx (QI x):=by
 have e:∀i,MZ i=tx [Pf i]:=fun i=>rfl;unfold Hs QI
 by_cases h:0<(x.fdiv 12).fmod 16
 ·rw[if_pos h,if_pos h,e,e,H8];rfl
 ·rw[if_neg h,if_neg h,Hy]
theorem mem_names{js:NJ}{l:List Nat}:tx l∈(js.map Ga).map (·.1)↔l∈js.map (·.1):=by
 constructor
 ·intro h
  refine Ad (Ct h) fun p hp e=>?_;refine Ad (Ct hp) fun q hq x3=>?_;subst x3;have:q.1=l:=Ep e;rw[←this];exact mem_map_of_mem hq
 ·intro h
  refine Ad (Ct h) fun q hq x3=>?_;subst x3;exact mem_map.mpr ⟨Ga q,mem_map_of_mem hq,rfl⟩
theorem Sz(js:NJ)(x:Int):C5 (js.map Ga) x=(CM js x).map Ga:=by
 unfold C5 CM;rw[map_append,length_map,QJ,Sy]
 by_cases h1:js.length<8<;> by_cases h2:Gk x∈js.map (·.1)
 ·rw[if_neg (fun q=>q.2 (mem_names.mpr h2)),if_neg (fun q=>q.2 h2)];rfl
 ·rw[if_pos ⟨h1,fun q=>h2 (mem_names.mp q)⟩,if_pos ⟨h1,h2⟩];rfl
 ·rw[if_neg (fun q=>h1 q.1),if_neg (fun q=>h1 q.1)];rfl
 ·rw[if_neg (fun q=>h1 q.1),if_neg (fun q=>h1 q.1)];rfl
theorem Lo:∀(xs:List Int) (js:NJ),xs.foldl C5 (js.map Ga)=(xs.foldl CM js).map Ga:=by
 intro xs
 induction xs with
 |nil=>
  intro Z;exact rfl
 |cons x xs Lo=>
  intro js;rw[foldl_cons,foldl_cons,Sz,Lo]
theorem QK(xs:List Int):Kn xs=(KD xs).map Ga:=Lo xs []
theorem Gl(i:Int):AB (QH i):=by unfold QH AB;split<;> (try split)<;> decide
theorem H9(i:Int):AJ (Pf i):=by unfold Pf AJ;split<;> (try split)<;> (try split)<;> decide
theorem QL(x:Int):Ay (Gk x):=by
 unfold Gk Ay
 by_cases h:(x.fdiv 3).fmod 4<3
 ·(refine(if_pos h).symm▸ ?_)
  refine⟨le_succ _,lt_succ_self _,fun c hc=>?_⟩;rcases BF hc with rfl|hc
  ·exact Gl _
  ·rw[AU hc];exact Gl _
 ·(refine(if_neg h).symm▸ ?_)
  refine⟨succ_pos _,succ_pos _,fun c hc=>?_⟩;rw[AU hc];exact Gl _
theorem SA(x:Int):Js (QI x):=by
 unfold QI Js
 by_cases h:0<(x.fdiv 12).fmod 16
 ·(refine(if_pos h).symm▸ ?_);exact .inr ⟨_,_,rfl,H9 _,H9 _⟩
 ·(refine(if_neg h).symm▸ ?_);exact .inl rfl
theorem Fv{js:NJ}{x:Int}(h:JobsOk js):JobsOk (CM js x):=by
 unfold CM;split
 ·rename_i q
  refine⟨by(refine(length_append).symm▸ ?_);simp;lia,fun j hj=>?_,fun j hj=>?_,?_⟩
  ·rcases Cx hj with hj|hj
   ·exact h.names j hj
   ·rw[AU hj];exact QL x
  ·rcases Cx hj with hj|hj
   ·exact h.pats j hj
   ·rw[AU hj];exact SA x
  ·rw[map_append]
   refine nodup_append.mpr ⟨h.nodup,by simp,fun a ha b hb e=>?_⟩;simp at hb;subst e hb;exact q.2 ha
 ·rw[append_nil];exact h
theorem Du:∀{xs:List Int} {js:NJ},JobsOk js->JobsOk (xs.foldl CM js):=by
 intro xs
 induction xs with
 |nil=>
  intro Z h;exact h
 |cons x xs Du=>
  intro Z h;exact Du (Fv h)
theorem Mf(xs:List Int):JobsOk (KD xs):=Du ⟨zero_le _,(fun Z h=>BK h),(fun Z h=>BK h),List.nodup_nil⟩
theorem Bx:∀{l m:List (List Nat)},l.Nodup->Cf l m->l.length≤m.length:=by
 intro l
 induction l with
 |nil=>
  intro Z Z Z;exact zero_le _
 |cons x l Bx=>
  intro m h hs;rw[nodup_cons] at h;have hx:=hs x mem_cons_self;have:=Bx (m:=m.erase x) h.2 fun y hy=>by
   have hne:y≠x:=fun e=>h.1 (e▸hy);exact(List.mem_erase_of_ne hne).mpr (hs y (mem_cons_of_mem _ hy))
  rw[List.length_erase_of_mem hx] at this;have hpos:0<m.length:=List.length_pos_of_mem hx;rw[length_cons];lia
theorem Nk{js:NJ}{x:Int}{l:List Nat}(h:l∈js.map (·.1)):l∈(CM js x).map (·.1):=by
 unfold CM
 (refine(map_append).symm▸ ?_);exact mem_append_left _ h
theorem Ha:∀{xs:List Int} {js:NJ} {l:List Nat},l∈js.map (·.1)->l∈(xs.foldl CM js).map (·.1):=by
 intro xs
 induction xs with
 |nil=>
  intro Z Z h;exact h
 |cons _ xs Ha=>
  intro Z Z h;exact Ha (Nk h)
theorem Ia:∀{xs:List Int} {js:NJ},js.length≤(xs.foldl CM js).length:=by
 intro xs
 induction xs with
 |nil=>
  intro Z;exact le_refl _
 |cons x xs Ia=>
  intro js;refine le_trans ?_ (Ia (js:=CM js x));unfold CM;rw[length_append];lia
theorem Ib:∀{xs:List Int} {js:NJ},JobsOk js->(xs.foldl CM js).length=8∨∀x∈xs,Gk x∈(xs.foldl CM js).map (·.1):=by
 intro xs
 induction xs with
 |nil=>
  intro Z Z;exact .inr (fun x h=>BK h)
 |cons x xs Ib=>
  intro js h;rcases Ib (Fv (x:=x) h) with h8|ha
  ·exact .inl h8
  ·by_cases hl:js.length<8
   ·refine .inr fun y hy=>?_
    rcases BF hy with rfl|hy
    ·rw[foldl_cons]
     refine Ha (xs:=xs) (js:=CM js y) ?_;unfold CM
     by_cases hm:Gk y∈js.map (·.1)
     ·(refine(map_append).symm▸ ?_);exact mem_append_left _ hm
     ·rw[if_pos ⟨hl,hm⟩,map_append];exact mem_append_right _ (.head _)
    ·exact ha y hy
   ·refine .inl ?_
    have h1:=(Du (xs:=xs) (Fv (x:=x) h)).len;have h2:=Ia (xs:=xs) (js:=CM js x);have h3:js.length≤(CM js x).length:=by unfold CM;rw[length_append];lia
    rw[foldl_cons];lia
noncomputable def tail8:List Int:=[0,1,29,27,116,114,118,117]
theorem Nl(xs:List Int):(KD (xs++tail8)).length=8:=by
 unfold KD;rw[foldl_append];have ok:=Mf xs;unfold KD at ok;rcases Ib (xs:=tail8) ok with h|h
 ·exact h
 ·have h1:=(Du (xs:=tail8) ok).len
  have h2:(tail8.map Gk).length≤_:=Bx (l:=tail8.map Gk) (m:=(tail8.foldl CM (xs.foldl CM [])).map (·.1)) (by decide +kernel) fun y hy=>by
   refine Ad (Ct hy) fun x hx x3=>?_;subst x3;exact h x hx
  rw[length_map] at h2;rw[length_map] at h2;have h3:tail8.length=8:=rfl;exact le_antisymm h1 h2
noncomputable def D4 (c:Nat):Option Str:=if c=42 then none else if c=63 then some (S "any") else some (sg c)
noncomputable def AY (p:List Nat):List (Option Str):=if p=[42,42] then [none] else p.map D4
noncomputable def pats16:List (List Nat):=[97,98,63,42].flatMap fun a=>[97,98,63,42].map fun b=>[a,b]
theorem SD:(pats16.all fun p=>names12.all fun l=>BS (AY p) l==CV p l)=true:=by exact rfl
theorem Nm{a b:Nat}(ha:AJ a)(hb:AJ b):[a,b]∈pats16:=by
 rcases ha with rfl|rfl|rfl|rfl<;> rcases hb with rfl|rfl|rfl|rfl<;> decide
theorem Jz{a b:Nat}{l:List Nat}(ha:AJ a)(hb:AJ b)(hl:Ay l):BS (AY [a,b]) l=CV [a,b] l:=by
 have:=all_eq_true.mp (all_eq_true.mp SD [a,b] (Nm ha hb)) l (Ln hl);exact eq_of_beq this
theorem QM{a b:List Nat}(h:a≠b):a<b∨b<a:=by
 by_cases h1:a<b
 ·exact .inl h1
 ·by_cases h2:b<a
  ·exact .inr h2
  ·exact absurd (List.le_antisymm (not_lt.mp h2) (not_lt.mp h1)) h
theorem Et:∀a:List (List Nat),Cg a a=false:=by
 intro a
 induction a with
 |nil=>
  rfl
 |cons x xs Et=>
  rw[Dc,if_pos rfl];exact Et
theorem J4(a:List (List Nat)):∀b:List (List Nat),a≠b->Cg a b=true∨Cg b a=true:=by
 induction a with
 |nil=>intro b h;cases b with
  |nil=>exact absurd rfl h
  |cons=>exact .inl rfl
 |cons x xs ih=>
  intro b h;cases b with
  |nil=>exact .inr rfl
  |cons y ys=>
   rw[Dc,Dc]
   by_cases e:x=y
   ·rw[if_pos e,if_pos e.symm]
    exact ih ys fun q=>h (by rw[e,q])
   ·rw[if_neg e,if_neg (Ne.symm e)]
    exact(QM e).imp decide_eq_true decide_eq_true
theorem ltNames_yes{x y:List Nat}{xs ys:List (List Nat)}:Cg (x::xs) (y::ys)=true↔x<y∨(x=y∧Cg xs ys=true):=by
 rw[Dc]
 by_cases e:x=y
 ·rw[if_pos e];exact⟨fun h=>.inr ⟨e,h⟩,fun h=>h.elim (fun q=>absurd (e▸q) (List.lt_irrefl _)) (·.2)⟩
 ·rw[if_neg e];exact⟨fun h=>.inl (of_decide_eq_true h),fun h=>h.elim decide_eq_true fun q=>absurd q.1 e⟩
theorem J5(a:List (List Nat)):∀b c:List (List Nat),Cg a b=true->Cg b c=true->Cg a c=true:=by
 induction a with
 |nil=>intro b c h h';cases c with
  |nil=>cases b with
   |nil=>exact EP h
   |cons=>exact EP h'
  |cons=>rfl
 |cons x xs ih=>
  intro b c h h';cases b with
  |nil=>exact EP h
  |cons y ys=>cases c with
   |nil=>exact EP h'
   |cons z zs=>
    refine ltNames_yes.mpr ((ltNames_yes.mp h).elim (fun l=>.inl ((ltNames_yes.mp h').elim (List.lt_trans l) fun q=>q.1▸l)) fun q=>(ltNames_yes.mp h').imp (fun l=>q.1▸l) fun r=>⟨q.1.trans r.1,ih ys zs q.2 r.2⟩)
theorem JA(a:CW):HC a a=false:=by rw[HC,if_pos rfl,if_pos rfl]
theorem KE(a b:CW)(h:a≠b):HC a b=true∨HC b a=true:=by
 rw[HC,HC]
 by_cases e:a.1=b.1
 ·rw[if_pos e,if_pos e.symm]
  have e2:a.2≠b.2:=fun q=>h (Prod.ext e q)
  (refine(if_neg e2).symm▸ ?_;refine(if_neg (Ne.symm e2)).symm▸ ?_)
  exact J4 _ _ e2
 ·rw[if_neg e,if_neg (Ne.symm e)]
  rcases Int.lt_or_gt_of_ne e with q|q
  ·exact .inl (decide_eq_true q)
  ·exact .inr (decide_eq_true q)
theorem KG(a b c:CW)(h:HC a b=true)(h':HC b c=true):HC a c=true:=by
 rw[HC] at h h' ⊢
 by_cases e:a.1=b.1
 ·rw[if_pos e] at h
  by_cases e2:b.1=c.1
  ·rw[if_pos e2] at h'
   rw[if_pos (e.trans e2)]
   by_cases f:a.2=b.2
   ·rw[if_pos f] at h;exact EP h
   ·rw[if_neg f] at h
    by_cases f2:b.2=c.2
    ·rw[if_pos f2] at h';exact EP h'
    ·rw[if_neg f2] at h'
     have h3:=J5 _ _ _ h h';have f3:a.2≠c.2:=fun q=>by rw[q,Et] at h3;exact EP h3
     rw[if_neg f3];exact h3
  ·rw[if_neg e2] at h'
   rw[if_neg (by rw[e];exact e2),e];exact h'
 ·rw[if_neg e] at h
  have h1:=of_decide_eq_true h
  by_cases e2:b.1=c.1
  ·rw[if_neg (by(refine(e2)▸ ?_);exact e),←e2];exact h
  ·rw[if_neg e2] at h'
   have h2:=of_decide_eq_true h';rw[if_neg (by lia)];exact decide_eq_true (by lia)
theorem DO{bt:Nat->Nat->Bool}(hi:∀i,bt i i=false)(ht:∀i j k,bt i j=true->bt j k=true->bt i k=true):∀k j,j≤k->bt j (argBest bt k)=false:=by
 intro k
 induction k with
 |zero=>
  intro j h;have:j=0:=by lia
  subst this;exact hi 0
 |succ k DO=>
  intro j h;rw[argBest];cases hb:bt (k+1) (argBest bt k) with
  |true=>
   simp only[if_true]
   by_cases e:j=k+1
   ·subst e;exact hi _
   ·cases hj:bt j (k+1) with
    |false=>rfl
    |true=>
     have h1:=ht _ _ _ hj hb;rw[DO j (by lia)] at h1;exact EP h1
  |false=>
   simp only[Bool.false_eq_true,if_false]
   by_cases e:j=k+1
   ·subst e;exact hb
   ·exact DO j (by lia)
def IX(ps:List CW)(m:CW):Prop:=m∈ps∧∀p∈ps,HC p m=false
theorem Hb{ps:List CW}(h:0<ps.length):IX ps (FJ ps):=by
 refine⟨HF h,fun p hp=>?_⟩;obtain⟨j,hj,e⟩:=List.mem_iff_getElem.mp hp;have:=DO (bt:=fun i j=>HC ((ps[i]?).getD (0,[])) ((ps[j]?).getD (0,[]))) (fun i=>JA _) (fun i j k a b=>KG _ _ _ a b) (ps.length - 1) j (Nat.le_pred_of_lt ‹_›);have e2:(ps[j]?).getD (0,[])=p:=by(refine(getElem?_eq_getElem hj).symm▸ ?_;refine e.symm▸ ?_);rfl
 rw[e2] at this;exact this
theorem Lp{ps qs:List CW}{m m':CW}(h:IX ps m)(h':IX qs m')(hs:∀p,p∈ps↔p∈qs):m=m':=by
 by_cases e:m=m'
 ·exact e
 ·rcases KE m m' e with q|q
  ·rw[h'.2 m ((hs m).mp h.1)] at q;exact EP q
  ·rw[h.2 m' ((hs m').mpr h'.1)] at q;exact EP q
theorem SE{ps:List CW}{m:CW}(h:IX ps m):FJ ps=m:=
 Lp (Hb (List.length_pos_of_mem h.1)) h fun Z=>Iff.rfl
theorem Lq(x:List Nat)(a:List (List Nat)):∀b:List (List Nat),a.length=b.length->Cg (a++[x]) (b++[x])=Cg a b:=by
 induction a with
 |nil=>intro b h;rw[List.length_eq_zero_iff.mp h.symm,nil_append,Dc,if_pos rfl]
 |cons y ys ih=>
  intro b h;cases b with
  |nil=>exact Vj h
  |cons z zs=>rw[cons_append,cons_append,Dc,Dc,ih zs (Nat.succ.inj h)]
theorem QN(x:List Nat)(p:Int)(a b:CW)(h:a.2.length=b.2.length):HC (a.1+p,a.2++[x]) (b.1+p,b.2++[x])=HC a b:=by
 rw[HC,HC]
 by_cases e:a.1=b.1
 ·rw[if_pos e,if_pos (by rw[e])]
  by_cases e2:a.2=b.2
  ·rw[if_pos e2,if_pos (by rw[e2])]
  ·rw[if_neg e2,if_neg (fun q=>e2 (List.append_cancel_right q))]
   exact Lq x _ _ h
 ·have:a.1+p≠b.1+p:=by lia
  rw[if_neg e,if_neg this];exact decide_eq_decide.mpr (by lia)
theorem GN{a b c:CW}(h:HC a b=false)(h':HC b c=false):HC a c=false:=by
 cases q:HC a c with
 |false=>rfl
 |true=>
  by_cases e:b=c
  ·subst e;rw[h] at q;exact EP q
  ·rcases KE b c e with r|r
   ·rw[h'] at r;exact EP r
   ·rw[KG _ _ _ q r] at h;exact E3 h
theorem GO(w:List (List Nat))(x:List Nat):Cr (w++[x])=Cr w+(if w=[] then 0 else Dp (w.getLastD []) x):=by
 unfold Cr;cases h:w.length with
 |zero=>
  have:w=[]:=List.eq_nil_of_length_eq_zero h;subst this;exact congrArg _ h
 |succ k=>
  have hne:w≠[]:=fun q=>by rw[q] at h;exact UG h
  have e1:(w++[x]).length - 1=k+1:=by(refine(length_append).symm▸ ?_;refine h.symm▸ ?_);rfl
  have e2:k+1 - 1=k:=rfl
  (refine e1.symm▸ ?_;refine e2.symm▸ ?_;refine(if_neg hne).symm▸ ?_;refine(range_succ).symm▸ ?_;refine(map_append).symm▸ ?_;rewrite [sum_append])
  congr 1
  ·congr 1
   apply map_congr_left;intro i hi;have hi:=mem_range.mp hi;rw[getElem?_append_left (by lia),getElem?_append_left (by lia)]
  ·have a1:(w++[x])[k]? =w[k]?:=getElem?_append_left (by lia)
   have a2:(w++[x])[k+1]? =some x:=by rw[List.getElem?_append_right (le_of_eq h),h];simp
   have a3:w.getLastD []=(w[k]?).getD []:=by
    (refine(getLastD_eq_getLast?).symm▸ ?_;refine(List.getLast?_eq_getElem?).symm▸ ?_;refine h.symm▸ ?_);rfl
   rw[a3];simp[a1,a2]
structure Best(i:Nat)(ws:WS)(ts:List CW):Prop where
 len:∀w∈ws,w.length=i
 ok:∀w∈ws,FB w
 own:∀t∈ts,t.1=Cr t.2∧t.2∈ws
 best:∀w∈ws,∃t∈ts,t.2.getLastD []=w.getLastD []∧HC (Cr w,w) t=false
theorem Pg{i:Nat}{ws:WS}{ts:List CW}{pat:List Nat}{parts:List (Option Str)}{g:List (List Nat)}(hg:∀x∈g,Ay x)(hp:∀x,Ay x->BS parts x=CV pat x)(B:Best i ws ts):Best (i+1) (Ch pat ws g) (Br Es parts ts g) where
 len:=fun w hw=>by
  refine Ad (mem_flatMap.mp hw) fun v hv hw=>?_;refine Ad (Ct hw) fun x hx x3=>?_;subst x3;rw[length_append,B.len v hv];rfl
 ok:=fun w hw=>by
  refine Ad (mem_flatMap.mp hw) fun v hv hw=>?_;refine Ad (Ct hw) fun x hx x3=>?_;subst x3;intro y hy;rcases Cx hy with hy|hy
  ·exact B.ok v hv y hy
  ·rw[AU hy];exact hg x (mem_filter.mp hx).1
 own:=fun t ht=>by
  refine Ad (Ct ht) fun x hx x3=>?_;subst x3;have hxg:=mem_filter.mp hx;have hxn:=hg x hxg.1;have hpos:0<(Cl Es ts x).length:=by unfold Cl;rw[length_map];exact Gv hx
  have hm:=HF hpos;generalize FJ (Cl Es ts x)=m at hm;refine Ad (Ct hm) fun u hu x3=>?_;subst x3;have ou:=B.own u hu;refine⟨?_,?_⟩
  ·show u.1+(if u.2=[] then 0 else Es (u.2.getLastD []) x)=Cr (u.2++[x])
   rw[GO,ou.1]
   by_cases h:u.2=[]
   ·rw[if_pos h,if_pos h]
   ·rw[if_neg h,if_neg h]
    have hl:Ay (u.2.getLastD []):=by
     rw[getLastD_eq_getLast?];cases q:u.2.getLast? with
     |none=>exact absurd (List.getLast?_eq_none_iff.mp q) h
     |some y=>exact B.ok u.2 ou.2 y (mem_of_getLast? q)
    rw[KC hl hxn]
  ·refine mem_flatMap.mpr ⟨u.2,ou.2,mem_map.mpr ⟨x,mem_filter.mpr ⟨hxg.1,?_⟩,rfl⟩⟩
   have:=hxg.2;rw[Bool.and_eq_true] at this
   (refine(hp x hxn)▸ ?_);exact this.2
 best:=fun w hw=>by
  refine Ad (mem_flatMap.mp hw) fun v hv hw=>?_;refine Ad (Ct hw) fun x hx x3=>?_;subst x3;have hxf:=mem_filter.mp hx;have hxn:=hg x hxf.1;refine Dz (B.best v hv) fun t ht hl hb=>?_;have hne:ts.isEmpty=false:=by cases ts with
   |nil=>exact BK ht
   |cons _ _=>rfl
  have hxm:x∈BI parts ts g:=mem_filter.mpr ⟨hxf.1,by(refine hne.symm▸ ?_;refine(hp x hxn).symm▸ ?_);exact hxf.2⟩;have hpos:0<(Cl Es ts x).length:=by unfold Cl;rw[length_map];exact Gv hxm
  have L:=Hb hpos;have ot:=B.own t ht;have hlen:v.length=t.2.length:=by rw[B.len v hv,B.len _ ot.2]
  have hcand:(t.1+(if t.2=[] then 0 else Es (t.2.getLastD []) x),t.2++[x])∈Cl Es ts x:=mem_map.mpr ⟨t,ht,rfl⟩;refine⟨FJ (Cl Es ts x),mem_map.mpr ⟨x,hxm,rfl⟩,?_,?_⟩
  ·have hm:=L.1
   generalize FJ (Cl Es ts x)=m at hm;refine Ad (Ct hm) fun u hu x3=>?_;subst x3;simp
  ·refine GN ?_ (L.2 _ hcand)
   rw[GO];have e1:(if v=[] then (0:Int) else Dp (v.getLastD []) x)=if t.2=[] then 0 else Es (t.2.getLastD []) x:=by
    by_cases h:v=[]
    ·have h2:t.2=[]:=List.eq_nil_of_length_eq_zero (by(refine(hlen)▸ ?_;refine h.symm▸ ?_);rfl)
     rw[if_pos h,if_pos h2]
    ·have h2:t.2≠[]:=fun q=>h (List.eq_nil_of_length_eq_zero (by rw[hlen,q];rfl))
     (refine(if_neg h).symm▸ ?_;refine(if_neg h2).symm▸ ?_;refine hl.symm▸ ?_)
     have hn:Ay (v.getLastD []):=by
      rw[getLastD_eq_getLast?];cases q:v.getLast? with
      |none=>exact absurd (List.getLast?_eq_none_iff.mp q) h
      |some y=>exact B.ok v hv y (mem_of_getLast? q)
     rw[KC hn hxn]
   (refine e1.symm▸ ?_)
   have:=QN x (if t.2=[] then 0 else Es (t.2.getLastD []) x) (Cr v,v) t hlen
   (refine this.symm▸ ?_);exact hb
theorem Ic{pat:List Nat}{parts:List (Option Str)}(hp:∀x,Ay x->BS parts x=CV pat x):∀(rs:RR) (i:Nat) (ws:WS) (ts:List CW),(∀g∈rs,∀x∈g,Ay x)->Best i ws ts->Best (i+rs.length) (rs.foldl (Ch pat) ws) (rs.foldl (Br Es parts) ts):=by
 intro rs
 induction rs with
 |nil=>
  intro i ws ts Z B;exact B
 |cons g rs Ic=>
  intro i ws ts hn B;have:=Ic (i+1) _ _ (fun g' hg=>hn g' (mem_cons_of_mem _ hg)) (Pg (pat:=pat) (parts:=parts) (hn g mem_cons_self) hp B);rw[foldl_cons,foldl_cons,length_cons,show i+(rs.length+1)=i+1+rs.length by lia];exact this
theorem Ph:Best 0 [[]] [(0,[])] where
 len:=fun w hw=>by rw[AU hw];rfl
 ok:=fun w hw=>by rw[AU hw];intro x hx;exact BK hx
 own:=fun t ht=>by(refine(AU ht).symm▸ ?_);exact⟨by rfl,.head _⟩
 best:=fun w hw=>⟨(0,[]),.head _,by rw[AU hw],by rw[AU hw,show Cr []=0 by rfl];exact JA _⟩
theorem Nn{rs:RR}{pat:List Nat}{parts:List (Option Str)}(hp:∀x,Ay x->BS parts x=CV pat x)(hn:∀g∈rs,∀x∈g,Ay x):HE Es rs parts=Gd rs pat:=by
 have B:=Ic hp rs 0 _ _ hn Ph;unfold HE Gd;generalize rs.foldl (Br Es parts) [(0,[])]=ts at B;generalize rs.foldl (Ch pat) [[]]=ws at B;unfold EL;have e1:(ts≠[])↔(B5 ws≠[]):=by
  constructor
  ·intro h q
   refine ex1 (List.exists_mem_of_ne_nil _ h) fun t ht=>?_;have hw:=(B.own t ht).2;have:ws=[]:=by simpa [B5] using q
   rw[this] at hw;exact BK hw
  ·intro h q
   have:ws≠[]:=fun z=>h (by rw[z];rfl);refine ex1 (List.exists_mem_of_ne_nil _ this) fun w hw=>?_;refine Ad (B.best w hw) fun t ht Z=>?_;rw[q] at ht;exact BK ht
 by_cases h:ts≠[]∧rs≠[]
 ·rw[if_pos h,if_pos ⟨e1.mp h.1,h.2⟩]
  have L:=Hb (length_pos_iff.mpr h.1);have o:=B.own _ L.1;rw[SE (ps:=B5 ws) (m:=FJ ts) ⟨mem_map.mpr ⟨(FJ ts).2,o.2,Prod.ext o.1.symm rfl⟩,fun p hp=>?_⟩];refine Ad (Ct hp) fun w hw x3=>?_;subst x3;refine Dz (B.best w hw) fun t ht Z hb=>?_;exact GN hb (L.2 t ht)
 ·rw[if_neg h,if_neg (fun q=>h ⟨e1.mpr q.1,q.2⟩)]
noncomputable abbrev Dv (T:String) (f self:Value):Obj:={cls:=.type T,data:=.fields #[f,self]}
structure Bnd(T:String)(name:Str)(id DT BT gid dget:String):Prop where
 lk:typeLookup (.type T) name=pure (some (.builtin id))
 ty:typeOf (.builtin id)=pure (.type DT)
 get:Slot DT "__get__" dget
 set':typeLookup (.type DT) "__set__"=pure none
 del:typeLookup (.type DT) "__delete__"=pure none
 made:∀{V:Program} {w:World} {A:Around} {h:Heap} {g:Array GenState} {d:Drawn} {t:Nat} {os:OsState} {a:Addr} {o:Obj} {R:Result->Shared->Prop},h.get? a=some o->o.cls=.type T->
  R (.ok (.ret (.ref h.objs.size))) ⟨h.push (Dv BT (.builtin id) (.ref a)),g,d,t,os⟩->codeAny (model V w) A (.call (.builtin dget) ⟨[.builtin id,.ref a,.type T],[]⟩) R ⟨h,g,d,t,os⟩
 ga:Slot T "__getattribute__" gid
 gaE:entryFor table gid=some Builtin.«object.__getattribute__»
 gaA:∀a b,argsOk gid ⟨[a,b],[]⟩
 cop:((["__module__","__name__","__qualname__","__doc__","__annotations__"]:List Str).contains name)=false
section
variable{V:Program}{w:World}{A:Around}{E:Value->Shared->Prop}{h:Heap}{g:Array GenState}{d:Drawn}{t:Nat}{os:OsState}{a:Addr}{o:Obj}{T id DT BT gid dget:String}{name:Str}
theorem Bnd.run(B:Bnd T name id DT BT gid dget){tk:Tok}{Q:PySem.Fin->Shared->Prop}(hx:h.get? a=some o)(hc:o.cls=.type T)(hd:o.dict=none)(hn:notCls o=true)
  (hq:Q (.done (.ret (.ref h.objs.size))) ⟨h.push (Dv BT (.builtin id) (.ref a)),g,d,t,os⟩):
  wpAny (model V w) A (Builtin.«object.__getattribute__» ⟨[.ref a,.str name tk],[]⟩) Q E ⟨h,g,d,t,os⟩:=by
 obtain⟨oc,od,odt,osl⟩:=o;simp only at hc hd hn;subst hc hd;have L0:Looks (model V w) h (typeOf (.ref a)) (.type T):=(Looks.ld hx).andThen .now;have L1:Looks (model V w) h (typeLookup (.type T) name) (some (.builtin id)):=Looks.of_pure B.lk;have L2:Looks (model V w) h (typeOf (.builtin id)) (.type DT):=Looks.of_pure B.ty;have L3:Looks (model V w) h (typeLookup (.type DT) "__get__") (some (.builtin dget)):=Looks.of_pure B.get.lookup;have L4:Looks (model V w) h (typeLookup (.type DT) "__set__") none:=Looks.of_pure B.set';have L5:Looks (model V w) h (typeLookup (.type DT) "__delete__") none:=Looks.of_pure B.del;have L6:Looks (model V w) h (Builtin.ObjectAttr.inOwnDict name (.ref a)) none:=by
  intro A Q E s k q;refine Ac (Ac (wpAny_loadPart (k _ _ hx) ?_));have L6:wpAny (model V w) A (Builtin.ObjectAttr.inDict name none) Q E s:=Ag q;cases odt<;> first|(cases hn;done)|exact Ac (wpAny_loadPart (k _ _ hx) (Ag L6))
 have L7:Looks (model V w) h (Builtin.ObjectAttr.copiedAttributeGuard name (.ref a)) ():=by
  intro A Q E s k q;show wpAny _ A (if((["__module__","__name__","__qualname__","__doc__","__annotations__"]:List Str).contains name)=true then _ else pure ()) _ _ s
  (refine(B.cop).symm▸ ?_;refine(if_neg Bool.false_ne_true).symm▸ ?_)
  exact Ag q
 unfold Builtin.«object.__getattribute__»
 repeat (first|with_reducible refine wpAny_call ?_|lk)
 refine B.made hx rfl ?_
 repeat lk
 exact hq
theorem Bnd.attr(B:Bnd T name id DT BT gid dget){s:Shared}{ex:Bool}{Q:Value->Shared->Prop}(hx:s.heap.get? a=some o)(hc:o.cls=.type T)(hd:o.dict=none)(hn:notCls o=true)
  (hq:Q (.ref s.heap.objs.size) {s with heap:=s.heap.push (Dv BT (.builtin id) (.ref a)),toks:=s.toks+1}):
  wpAny (model V w) A (getAttr (.ref a) name ex) Q E s:=by
 obtain⟨h,g,d,t,os⟩:=s;have L0:Looks (model V w) h (typeOf (.ref a)) (.type T):=hc▸(Looks.ld hx).andThen .now;have L1:Looks (model V w) h (typeLookup (.type T) "__getattribute__") (some (.builtin gid)):=Looks.of_pure B.ga.lookup;have L2:Looks (model V w) h (bindSpecial (.builtin gid) (.ref a)) (.builtin gid,[.ref a]):=Looks.of_pure (B.ga.bind _);unfold getAttr getAttrBy;refine Ac (wpAny_mkText ?_)
 repeat (first|with_reducible refine wpAny_attempt ?_|with_reducible refine wpAny_call ?_|lk)
 (refine(show(ex && onTheHeap (Value.builtin gid))=false by cases ex<;> rfl).symm▸ ?_)
 simp -iota only[Bool.false_eq_true,if_false];unfold boundAndCalled
 repeat (first|with_reducible refine wpAny_attempt ?_|with_reducible refine wpAny_call ?_|lk)
 refine codeAny_call_builtin B.ga.plain B.gaE (B.ga.check _ _ _ _ _ _ _ _ ⟨_,hx,hc⟩ (B.gaA _ _) ?_);refine B.run hx hc hd hn ?_;exact Ag hq
theorem JB{p:Addr}{self:Value}{pos:List Value}{s:Shared}{Bi:Builtin}{Q:Value->Shared->Prop}(ho:s.heap.get? p=some (Dv T (.builtin id) self))(hT:T="builtin_function_or_method"∨T="method-wrapper")
  (hck:∀A' (Q:Unit->Shared->Prop) E,Q () s->wpAny (model V w) A' (checkBoundCall id ⟨self::pos,[]⟩) Q E s)(hp:plainId id=true)(hb:entryFor table id=some Bi)
  (h:wpAny (model V w) A.in1 (Bi ⟨self::pos,[]⟩) (fun fin s'=>match fin with|.done f=>wants Q E (.ok f) s'|.again c'=>c'.quiet=true∧codeAny (model V w) A c' (wants Q E) s') (fun e s'=>wants Q E (.error e) s') s):wpAny (model V w) A (call (.ref p) pos) Q E s:=by
 obtain⟨hh,g,dr,t,os⟩:=s;refine wpAny_call (codeAny_of_tree ?_);show wpAny _ _ (callAny (.ref p) _) _ _ _;dsimp only at ho;refine nd_load ho ?_;have fin:∀A',wpAny (model V w) A' (checkBoundCall id ⟨self::pos,[]⟩ >>=fun Z=>again (.builtin id ⟨self::pos,[]⟩)) (fun fin s'=>match fin with|.done f=>wants Q E (.ok f) s'|.again c'=>c'.quiet=true∧codeAny (model V w) A c' (wants Q E) s')
   (fun e s'=>E e s') ⟨hh,g,dr,t,os⟩:=fun A'=>Ac (hck A' _ _ (Ag ⟨plainId_quiet hp _,codeAny_builtin hb (by
  rw[Around.under_plainId hp];exact h)⟩))
 rcases hT with rfl|rfl<;> exact fin _
theorem IE{p:Addr}{self:Value}{M:Model}{h:Heap}(ho:h.get? p=some (Dv T (.builtin id) self))(hT:T="builtin_function_or_method"∨T="method-wrapper"):Looks M h (keeperOf (.ref p)) .machine:=by
 rcases hT with rfl|rfl<;> exact(Looks.ld (part:=none) ho).andThen .now
end
namespace NF
theorem ty_append:typeOf (.builtin "list.append")=pure (.type "method_descriptor"):=by show builtinType _=_;rw[builtinType_eq_fast];exact rfl
theorem slot_md:Slot "method_descriptor" "__get__" "method_descriptor.__get__":=
 .of (owner:="method_descriptor") (n:="__get__") (by rw[typeLookup_type,builtinLookup_eq_fast];exact rfl) rfl rfl rfl
  (by first|exact .inl rfl|exact .inr (by kernel_rfl)) (by rw[isSubtype_type];exact rfl)
theorem entry_md:entryFor table "method_descriptor.__get__"=some Builtin.«method_descriptor.__get__»:=entryFor_of_tree rfl
theorem args_md(a b c:Value):argsOk "method_descriptor.__get__" ⟨[a,b,c],[]⟩:=by unfold argsOk;exact rfl
theorem slot_wd:Slot "wrapper_descriptor" "__get__" "wrapper_descriptor.__get__":=
 .of (owner:="wrapper_descriptor") (n:="__get__") (by rw[typeLookup_type,builtinLookup_eq_fast];exact rfl) rfl rfl rfl
  (by first|exact .inl rfl|exact .inr (by kernel_rfl)) (by rw[isSubtype_type];exact rfl)
theorem entry_wd:entryFor table "wrapper_descriptor.__get__"=some Builtin.«wrapper_descriptor.__get__»:=entryFor_of_tree rfl
theorem args_wd(a b c:Value):argsOk "wrapper_descriptor.__get__" ⟨[a,b,c],[]⟩:=by unfold argsOk;exact rfl
theorem ty_next:typeOf (.builtin "list_iterator.__next__")=pure (.type "wrapper_descriptor"):=by show builtinType _=_;rw[builtinType_eq_fast];exact rfl
theorem slot_li_ga:Slot "list_iterator" "__getattribute__" "object.__getattribute__":=
 .of (owner:="object") (n:="__getattribute__") (by rw[typeLookup_type,builtinLookup_eq_fast];exact rfl) rfl rfl rfl
  (by first|exact .inl rfl|exact .inr (by kernel_rfl)) (by rw[isSubtype_type];exact rfl)
theorem entry_li_ga:entryFor table "object.__getattribute__"=some Builtin.«object.__getattribute__»:=entryFor_of_tree rfl
theorem args_li_ga(a b:Value):argsOk "object.__getattribute__" ⟨[a,b],[]⟩:=by unfold argsOk;exact rfl
theorem entry_list_ga:entryFor table "list.__getattribute__"=some Builtin.«object.__getattribute__»:=
 entryFor_alias (id':="object.__getattribute__") (by kernel_rfl) (by first|rfl|decide +kernel) (by kernel_rfl) (by kernel_rfl)
end NF
theorem bnd_append:Bnd "list" "append" "list.append" "method_descriptor" "builtin_function_or_method" "list.__getattribute__" "method_descriptor.__get__" where
 lk:=by rw[typeLookup_type,builtinLookup_eq_fast];exact rfl
 ty:=NF.ty_append
 get:=NF.slot_md
 set':=by rw[typeLookup_type,builtinLookup_eq_fast];exact rfl
 del:=by rw[typeLookup_type,builtinLookup_eq_fast];exact rfl
 made:=fun{V w A h g d t os a o R} hx hc hq=>by
  have hT5:(⟨h,g,d,t,os⟩:Shared).TypeIs (.builtin "list.append") "method_descriptor":=NF.ty_append;have L0:Looks (model V w) h (typeOf (.ref a)) (.type "list"):=hc▸(Looks.ld hx).andThen .now;have L1:Looks (model V w) h (isSubtype (.type "list") (.type "list")) true:=Looks.of_pure (by rw[isSubtype_type];exact rfl);have e1:Manifest.toldItsClass.contains "list.append"=false:=by exact rfl
  refine codeAny_call_builtin NF.slot_md.plain NF.entry_md (NF.slot_md.check _ _ _ _ _ _ _ _ hT5 (NF.args_md _ _ _) ?_);unfold Builtin.«method_descriptor.__get__»;refine Ac (wpAny_of_eq (a:=(.builtin "list.append",some (.ref a),some (.type "list"))) rfl ?_);dsimp only;rw[e1];simp -iota only[Bool.false_eq_true,if_false]
  repeat lk
  exact hq
 ga:=PySem.F.slot_list_getattribute
 gaE:=NF.entry_list_ga
 gaA:=PySem.F.args_list_getattribute_2
 cop:=by exact rfl
theorem bnd_next:Bnd "list_iterator" "__next__" "list_iterator.__next__" "wrapper_descriptor" "method-wrapper" "object.__getattribute__" "wrapper_descriptor.__get__" where
 lk:=slot_listiter_next.lookup
 ty:=NF.ty_next
 get:=NF.slot_wd
 set':=by rw[typeLookup_type,builtinLookup_eq_fast];exact rfl
 del:=by rw[typeLookup_type,builtinLookup_eq_fast];exact rfl
 made:=fun{V w A h g d t os a o R} hx hc hq=>by
  have hT5:(⟨h,g,d,t,os⟩:Shared).TypeIs (.builtin "list_iterator.__next__") "wrapper_descriptor":=NF.ty_next;have L0:Looks (model V w) h (typeOf (.ref a)) (.type "list_iterator"):=hc▸(Looks.ld hx).andThen .now;have L1:Looks (model V w) h (isSubtype (.type "list_iterator") (.type "list_iterator")) true:=Looks.of_pure (by rw[isSubtype_type];exact rfl);refine codeAny_call_builtin NF.slot_wd.plain NF.entry_wd (NF.slot_wd.check _ _ _ _ _ _ _ _ hT5 (NF.args_wd _ _ _) ?_);unfold Builtin.«wrapper_descriptor.__get__»;refine Ac (wpAny_of_eq (a:=(.builtin "list_iterator.__next__",some (.ref a),some (.type "list_iterator"))) rfl ?_);dsimp only
  repeat lk
  exact hq
 ga:=NF.slot_li_ga
 gaE:=NF.entry_li_ga
 gaA:=NF.args_li_ga
 cop:=by exact rfl
theorem No(a v:Value):(match Manifest.signature? "list.append" with|some sig=>Bind.checkArgs "list.append" {sig with full:=s!"{Bind.lastOf "list"}.{Bind.lastOf "list.append"}"} ⟨[a,v],[]⟩|none=>unsupported "")=pure ():=by exact rfl
theorem Lr{V:Program}{w:World}{A:Around}{E:Value->Shared->Prop}{s:Shared}{a:Addr}{o:Obj}{v:Value}{Q:Unit->Shared->Prop}(hx:s.heap.get? a=some o)(hc:o.cls=.type "list")(hn:notCls o=true)(q:Q () s):
  wpAny (model V w) A (checkBoundCall "list.append" ⟨[.ref a,v],[]⟩) Q E s:=by
 revert hx hc hn q;revert Q;revert V w A E s a o v;refine no_implicit_lambda% (HS (by exact(((default,w0),({},default)),(({},default),default))) ?_);generalize FK _ _=t9;generalize t9.1.1.1=V,t9.1.1.2=w,t9.1.2.1=A,t9.1.2.2=E,t9.2.1.1=s,t9.2.1.2=a,t9.2.2.1=o,t9.2.2.2=v;refine no_implicit_lambda% (Io (default) ?_);generalize HR _ _=Q;intro hx hc hn q;obtain⟨hh,g,d,t,os⟩:=s;obtain⟨oc,od,odt,osl⟩:=o;simp only at hc hn;subst hc;have L0:Looks (model V w) hh (typeOf (.ref a)) (.type "list"):=(Looks.ld hx).andThen .now;have L1:Looks (model V w) hh (isSubtype (.type "list") (.type "module")) false:=Looks.of_pure (by rw[isSubtype_type];exact rfl);have L2:Looks (model V w) hh (isInstance (.ref a) (.type "module")) false:=L0.andThen L1;have L3:Looks (model V w) hh (isType (.ref a)) false:=by
  intro A Q E s k q;refine Ac (wpAny_loadPart (k _ _ hx) ?_);cases odt<;> first|(cases hn;done)|exact Ag q
 have hs:=No (.ref a) v;cases hsig:Manifest.signature? "list.append" with
 |none=>rw[hsig] at hs;exact nomatch hs
 |some sig=>
  rw[hsig] at hs;have hk:builtinKind "list.append"=some .method:=by exact rfl
  have hv:Manifest.varargsMethods.contains "list.append"=false:=by exact rfl
  unfold checkBoundCall;simp -iota only[hsig,hk];refine wpAny_ite ?_;rw[if_neg (by decide)];refine Ac (L2.at ?_);rw[hv];simp -iota only[Bool.or_self,Bool.false_eq_true,if_false]
  with_reducible refine Ac ?_
  refine L3.at ?_;simp -iota only[Bool.false_eq_true,if_false]
  with_reducible refine Ac ?_
  refine L0.at ?_;dsimp only at hs;exact wpAny_of_eq (a:=()) hs q
theorem Np{V:Program}{w:World}{A:Around}{E:Value->Shared->Prop}{s:Shared}{a:Addr}{Q:Unit->Shared->Prop}(q:Q () s):
  wpAny (model V w) A (checkBoundCall "list_iterator.__next__" ⟨[.ref a],[]⟩) Q E s:=by
 have e:checkBoundCall "list_iterator.__next__" ⟨[.ref a],[]⟩=pure ():=by exact rfl
 rw[e];exact Ag q
def SF(d:PyData)(v:Value):Prop:=∀g,Rd d g v
inductive OwnL(ds:List PyData)(o:Obj):Prop
 |mk:∀vs k,o=W.listOf (toArray vs) k->F2 (fun v d=>SF d v) vs ds->OwnL ds o
theorem SG(i:Int)(t:Tok):SF (.int i) (.int i t):=fun g=>BN g i t
theorem SH(x:Str)(t:Tok):SF (.str x) (.str x t):=fun g=>BO g x t
theorem QO:SF .none .none:=fun g=>⟨[],.none⟩
noncomputable def KH:PyData->Bool
 |.none|.int _|.str _|.bool _=>true
 |_=>false
theorem JC{d:PyData}{g:Heap}{v:Value}(h:KH d=true)(r:Rd d g v):SF d v:=by
 cases d with
 |none=>cases C0 r;exact QO
 |int i=>refine ex1 (Ax r) fun t x2=>?_;subst x2;exact SG i t
 |str i=>refine ex1 (AR r) fun t x2=>?_;subst x2;exact SH i t
 |bool b=>cases E6 r;exact fun g=>BB g b
 |_=>exact EP h
theorem IY{pos:Pos}:J3 V w H0 n sc σ zx (.List [] pos) (OwnL []):=by
 intro A zz s zy g o F;refine List_ (spliced_nil ?_);refine wpAny_newObj_type ⟨_,_,_,_,rfl,An _ _,rfl,Heap.get?_push_size _ rfl,?_,[],0,rfl,.nil⟩ (by show 0≤sizeLine;exact zero_le _);cases z:s.heap.get? s.heap.objs.size with
 |none=>rfl
 |some ob=>exact absurd (Heap.lt_size z) (lt_irrefl _)
noncomputable def JD (a:Addr):Ent:=.p (fun g v=>∃b,v=.ref b∧g.get? b=some (Dv "builtin_function_or_method" (.builtin "list.append") (.ref a))) fun g g' v x ⟨b,e,q⟩=>⟨b,e,x _ _ q⟩
theorem Pj{x:Str}{p pos:Pos}{a:Addr}{o:Obj}{ds:List PyData}(hx:Am V w H0 n sc σ zx (.Name x p) (.v (.ref a)))(ho:(a,o)∈zx)(hl:OwnL ds o):Am V w H0 n sc σ zx (.Attribute (.Name x p) "append" pos) (JD a):=by
 intro A zz s zy g oo F;obtain⟨vs,k,rfl,f⟩:=hl;refine Attribute_name (Aq (hx A zz s zy g oo F) fun v s₁ q1=>?_);have e:=q1.val;subst e;have F1:=F.ext q1.ext;refine bnd_append.attr (F1.ledg _ ho) rfl rfl rfl ?_;exact q1.trans ⟨_,_,rfl,An _ _,_,rfl,De F1.toBase _⟩
theorem CD{zz:Env}(o:EnvOk sc zz):interactive zz=false:=by
 unfold interactive
 (refine(o.kf).symm▸ ?_);rfl
theorem Dw{ds:List PyData}{ob:Obj}{h:Heap}{a:Addr}(hl:OwnL ds ob)(ha:h.get? a=some ob):∃vs k,IsL h a (toArray vs) k∧F2 (fun v d=>SF d v) vs ds:=by
 obtain⟨vs,k,rfl,f⟩:=hl;exact⟨vs,k,ha,f⟩
theorem GP.upd{α:Type}{s:Shared}{zy:List Addr}{zz:Env}{tk:Nat}{a:Addr}{ob:Obj}{f:Obj->Obj}{Ψ:Heap->α->AN->Aw->Prop}{r:α}(F:Fm H0 zy zx zz σ s.heap)(ha:(a,ob)∈zx)(hf:(f ob).isFreed=false)
  (h:Ψ (Internal.vis (s.heap.update a f) zy) r σ (Ak a (f ob) zx)):GP H0 s zy zz zx Ψ r {s with heap:=s.heap.update a f,toks:=tk}:=
 GP.mut F ha (AF (Heap.SameBut.update ..)) (Heap.get?_update_self _ (F.ledg _ ha) hf) h
theorem Uc{x:Str}{p pos pos':Pos}{e:Expr}{a:Addr}{ob:Obj}{ds:List PyData}{d:PyData}(hx:Am V w H0 n sc σ zx (.Name x p) (JD a))(he:Am V w H0 n sc σ zx e (.d d))(hd:KH d=true)(ho:(a,ob)∈zx)(hl:OwnL ds ob)(hz:ds.length≤sizeLine)
  (hb:∀zz,backTo pos (starEach [e] zz)=(false,eval e zz)::backTo pos (starEach [] zz))(hsw:∀zz,swapsWith (.Call (.Name x p) [e] [] pos) none pos'.line zz=pure false):
  GT V w H0 n sc σ zx (.Expr (.Call (.Name x p) [e] [] pos) pos') (fun Z fl σ' zx'=>fl=.next∧σ'=σ∧∃o',OwnL (ds++[d]) o'∧zx'=Ak a o' zx):=by
 intro A zz s zy g oo F;refine wpAny_Expr_any ?_ (CD oo) (hsw zz);refine Call_Name rfl (Aq (hx A zz s zy g oo F) fun v s₁ q=>?_);refine Ad q.val fun b x2 hbo=>?_;subst x2;have F1:=F.ext q.ext;refine callWith_of (P:=fun h=>h.get? b=some (Dv "builtin_function_or_method" (.builtin "list.append") (.ref a))) (by rw[hb];rfl) (fun h e=>⟨.machine,.inr (.inl rfl),IE e (.inl rfl)⟩) (CI (by rw[hb];rfl) ?_);rw[hb];refine spliced_cons (Aq (he A zz s₁ zy g oo F1) fun u s2 q2=>spliced_nil ?_);have hbo2:s2.heap.get? b=some (Dv "builtin_function_or_method" (.builtin "list.append") (.ref a)):=q2.ext _ _ (Bp _ _ _ _ hbo);refine⟨hbo2,?_⟩;have F2:=F1.ext q2.ext;have fu:=JC hd q2.val;obtain⟨vs,k,rfl,f⟩:=hl;have hL:IsL s2.heap a (toArray vs) k:=F2.ledg _ ho;refine JB (Bi:=Builtin.«list.append») hbo2 (.inl rfl) (fun A' Q E q=>Lr (F2.ledg _ ho) rfl rfl q) (by kernel_rfl) PySem.F.entry_list_append ?_;refine list_append a (toArray vs) k u (by rw[size_toArray,f.length];exact hz) V w A _ s2 ⟨hL,?_⟩;obtain⟨h2,t2,e2,ex,_⟩:=q.trans q2;subst e2;have gp:GP H0 {s with heap:=h2,toks:=t2} zy zz zx (fun Z fl σ' zx'=>fl=.next∧σ'=σ∧∃o',OwnL (ds++[d]) o'∧zx'=Ak a o' zx) Flow.next {s with heap:=h2.update a (Obj.mapSeq fun x=>x.push u),toks:=t2}:=
  GP.upd (s:={s with heap:=h2,toks:=t2}) F2 ho rfl ⟨rfl,rfl,_,⟨vs++[u],k+1,by simp[Obj.mapSeq],f.append (.cons fu .nil)⟩,rfl⟩
 exact GP.glue F (ex.keep _) F2 (fun Z m=>m) (fun Z m=>.inl m) (fun p m=>.inl (mem_map_of_mem m)) gp
theorem Ls{x:Str}{p:Pos}{a:Addr}{ob:Obj}{ds:List PyData}(hx:Am V w H0 n sc σ zx (.Name x p) (.v (.ref a)))(ho:(a,ob)∈zx)(hl:OwnL ds ob)(hz:ds.length≤sizeLine):FI V w H0 n sc σ zx (.Name x p) (!ds.isEmpty):=by
 intro A zz s zy g oo F;refine isTrue_plain (Aq (hx A zz s zy g oo F) fun v s₁ q1=>?_) rfl;have e:=q1.val;subst e;refine B8 (Dw hl ((F.ext q1.ext).ledg _ ho)) fun vs k hL f=>?_;have e:(!(toArray vs).isEmpty)=!ds.isEmpty:=by
  have:=f.length;cases vs<;> cases ds<;> simp_all
 refine wpAny_truthy_list hL.isList (by rw[size_toArray,f.length];exact MM ‹_›) ?_;rw[e];exact q1.trans (Pu.tok rfl)
theorem FF{x:Str}{p:Pos}{slice:Expr}{pos:Pos}{a:Addr}{ob:Obj}{ds:List PyData}{i:Int}{d:PyData}(hx:Am V w H0 n sc σ zx (.Name x p) (.v (.ref a)))(ho:(a,ob)∈zx)(hl:OwnL ds ob)(hi:Am V w H0 n sc σ zx slice (.d (.int i)))
  (h0:i<0)(hk: -(2 ^ 63)≤i)(hlo: -(ds.length:Int)≤i)(hd:ds[(i+ds.length).toNat]? =some d)(hs:Ca slice):Am V w H0 n sc σ zx (.Subscript (.Name x p) slice pos) (.d d):=by
 intro A zz s zy g oo F;refine PyProof.Rows.Subscript_ (Aq (hx A zz s zy g oo F) fun v s₁ q1=>Aq (hi A zz s₁ zy g oo (F.ext q1.ext)) fun u s2 q2=>?_);refine ex1 (Ax q2.val) fun t x2=>?_;subst x2;have e:=q1.val;subst e;refine B8 (Dw hl (((F.ext q1.ext).ext q2.ext).ledg _ ho)) fun vs k hL f=>?_;refine Ad (f.get hd) fun u hu hf=>?_;have el:=f.length;exact tail_any hL.isList.typeIs slot_list_getitem.lookup (wpAny_getItem_list_neg hL.isList h0 (by rw[size_toArray,el];exact hlo) hk (by(refine(size_toArray).symm▸ ?_;refine el.symm▸ ?_);simpa using hu) ((q1.trans q2).trans (Pu.here (hf _)))) (hs _ _)
theorem Pk{f:Value}{xs:List Ent}{ds:List PyData}(h:TA V w H0 n f xs [] (fun Z v zx'=>∃a ob,v=.ref a∧(a,ob)∈zx'∧OwnL ds ob)):FnP V w H0 n f xs (Rd (.list ds)):=by
 intro A s zy vs g B hm;refine Ah (h A s zy vs g B ⟨(fun p hp=>BK hp),(fun p hp=>BK hp)⟩ hm) (fun v s' q=>?_) fun Z Z f=>f;obtain⟨h',tk,zy',L',rfl,k,B',LO',m1,m2,m3,a,ob,rfl,ha,hl⟩:=q;have hn:a∉zy:=fun m=>by
  refine ex1 (B.alive a m) fun oo e=>?_;rcases m3 _ ha with q|q
  ·exact BK q
  ·rw[e] at q;exact E4 q
 refine B8 (Dw hl (LO'.2 _ ha)) fun ws k' hL f=>?_;refine⟨h',tk,rfl,fun b o e=>k b o (BK) e,D9 ⟨_,AQ hL hn,rfl,k',rfl⟩ (f.imp fun Z Z r=>r _)⟩
theorem J6:isSubtype (.type "KeyError") (.type "LookupError")=pure true:=by rw[isSubtype_type];exact rfl
theorem Mg{A:Around}{E:Value->Shared->Prop}{s:Shared}{d:Addr}{c:Nat}{f:Int->Option Value}{Q:Builtin.Str.Mapped->Shared->Prop}(hd:(d==sysModules)=false)(hh:A.handled=none)(hm:s.heap.MapOf (intKind V w) d f)(hv:f c=none)
  (h:∀h' tk,Ext s.heap h'->Q .keep {s with heap:=h',toks:=tk}):wpAny (model V w) A (Builtin.Str.tableLookup (.ref d) c) Q E s:=by
 unfold Builtin.Str.tableLookup;refine Ac (wpAny_attempt (Ac (wpAny_mkInt ?_)));refine wpAny_getItem_missing_of (knd:=intKind V w) (k:=(c:Int)) (by simp[intKind,Value.isInt]) hd hh hm hv fun h' e N=>?_;refine Bh N.there fun ob t ho hc hdt=>?_;refine Ac (wpAny_isInstance (T:="KeyError") (b:=true) ⟨ob,ho,hc⟩ J6 ?_);exact Ac (wpAny_rule (Ag (h _ _ N.keeps)))
theorem JE{A:Around}{E:Value->Shared->Prop}{s:Shared}{d:Addr}{c:Nat}{t:Tok}{f:Int->Option Value}{Q:Value->Shared->Prop}(h1:(d==sysModules)=false)(hh:A.handled=none)(hm:s.heap.MapOf (intKind V w) d f)(hv:f c=none)(hc:c=97∨c=98)
  (h:∀h' tk,Ext s.heap h'->Q (.str (sg c) tk) {s with heap:=h',toks:=tk+1}):wpAny (model V w) A (call (.builtin "str.translate") [.str (sg c) t,.ref d]) Q E s:=by
 revert h1 hh hm hv hc h;revert f Q;revert V w A E s d c t;refine no_implicit_lambda% (HS (by exact(((default,w0),({},default)),(({},default),default))) ?_);generalize FK _ _=t9;generalize t9.1.1.1=V,t9.1.1.2=w,t9.1.2.1=A,t9.1.2.2=E,t9.2.1.1=s,t9.2.1.2=d,t9.2.2.1=c,t9.2.2.2=t;refine no_implicit_lambda% (I8 (by exact default) ?_);generalize Ip _ _=t9;generalize t9.1=f,t9.2=Q;intro h1 hh hm hv hc h;refine wpAny_call (codeAny_call_builtin PySem.F.slot_str_translate.plain PySem.F.entry_str_translate (PySem.F.slot_str_translate.check _ _ _ _ _ _ _ _ (typeIs_str _ _ _) (PySem.F.args_str_translate_2 _ _) ?_));unfold Builtin.«str.translate»;refine Ac (wpAny_of_eq (a:=(.str (sg c) t,sg c,.ref d)) rfl ?_);dsimp only;have e0:(sg c).cps.toList=[c]:=rfl;have e1:((sg c).cps.all fun x=>decide (x<128))=true:=by rcases hc with rfl|rfl<;> decide +kernel
 rw[e1,←Array.forIn_toList,e0,forIn_cons,if_neg (by nofun)];refine Ac (Ac ?_);rw[if_neg (by nofun)];simp -iota only[List.lookup_nil,if_true];refine Ac (Mg h1 hh hm hv fun h' tk ex=>?_);dsimp only;refine Ac (Ag ?_);dsimp only;refine Ag ?_;simp -iota only[forIn_nil];refine Ag ?_
 (refine(if_neg (show¬Builtin.Str.tooLong 1=true by decide +kernel)).symm▸ ?_)
 have e2:(⟨([({cps:=#[c]}:Str)].reverse.foldl (fun acc p=>acc++p.cps) #[])⟩:Str)=sg c:=by exact rfl
 (refine e2.symm▸ ?_)
 exact Ac (wpAny_mkStr (hx:=by rw[TZ];decide) (Ag (h _ _ ex)))
def Ol(w:World)(V:Program)(d:Addr)(f:Int->Option Value)(h:Heap):Prop:=(d==sysModules)=false∧h.MapOf (intKind V w) d f
theorem Lu{value arg:Expr}{pa pos:Pos}{c:Nat}{d:Addr}{f:Int->Option Value}(hv:Am V w H0 n sc σ zx value (.d (.str (sg c))))(ha:Am V w H0 n sc σ zx arg (.v (.ref d)))(hm:Ol w V d f H0)(hf:f c=none)(hc:c=97∨c=98)
  (hbase:∀zz,attributeBase value "translate" zz (eval value zz)=eval value zz)(hline:(pa.endLine==pos.line)=true)(hs:∀zz,starEach [arg] zz=[(false,eval arg zz)]):
  Am V w H0 n sc σ zx (.Call (.Attribute value "translate" pa) [arg] [] pos) (.d (.str (sg c))):=by
 intro A zz s zy g o F;refine Call_method1 (hbase _) (hs zz) hline (Aq (hv A zz s zy g o F) fun v s₁ q=>?_);refine ex1 (AR q.val) fun t x2=>?_;subst x2;have F1:=F.ext q.ext;refine⟨"str","str.translate",PySem.F.plainAttrs_str,PySem.F.slot_str_translate,PySem.F.type_str_translate,typeIs_str _ _ _,(fun a e=>GR Value.ctorIdx e rfl),?_⟩;refine callWith_builtin rfl (evalArgs_plain (spliced_cons (Aq (ha A zz s₁ zy g o F1) fun u s2 q2=>spliced_nil ?_)));have e:=q2.val;subst e;have F2:=F1.ext q2.ext;refine JE hm.1 g.hh (let⟨o,es,ep,ho,r⟩:=hm.2;⟨o,es,ep,F2.toBase.h0 _ _ ho,r⟩) hf hc fun h' tk ex=>?_;exact(q.trans q2).trans ⟨h',_,rfl,ex,BO _ _ _⟩
theorem QP{x:Str}:FnP V w H0 n (.builtin "isinstance") [.d (.str x),.v (.type "str")] (Rd (.bool true)):=by
 intro A s zy vs g B hm;obtain⟨u,v,rfl,m1,m2⟩:=GU hm;refine ex1 (AR m1) fun t x2=>?_;subst x2;have e:v=_:=m2;subst e;exact PySem.IsiPair.str_str (Pu.here (BB _ _))
noncomputable def DF (acc:List (Option Str)) (c:Nat):List (Option Str):=if c=42 then (if acc=[]∨acc.getLast?≠some none then acc++[none] else acc) else acc++[D4 c]
noncomputable def QQ (p:List Nat):List (Option Str):=p.foldl DF []
theorem Pm{p:List Nat}(h:Js p):QQ p=AY p:=by
 rcases h with rfl|⟨a,b,rfl,ha,hb⟩
 ·rfl
 ·rcases ha with rfl|rfl|rfl|rfl<;> rcases hb with rfl|rfl|rfl|rfl<;> decide +kernel
theorem SI(p:List Nat):(QQ p).length≤p.length:=by
 have:∀(l:List Nat) acc,(l.foldl DF acc).length≤acc.length+l.length:=fun l=>by
  induction l with
  |nil=>intro acc;exact le_refl _
  |cons c l ih=>
   intro acc;rw[foldl_cons,length_cons];have h1:=ih (DF acc c);have h2:(DF acc c).length≤acc.length+1:=by
    unfold DF;split
    ·split<;> simp
    ·simp
   lia
 have:=this p [];simpa [QQ] using this
theorem QR{p:List Nat}{k:Nat}{c:Nat}(h:p[k]? =some c):QQ (p.take (k+1))=DF (QQ (p.take k)) c:=by
 unfold QQ;rw[take_add_one,h,foldl_append];rfl
theorem Pn{test:Expr}{msg:Option Expr}{pos:Pos}(h:FI V w H0 n sc σ zx test true):GT V w H0 n sc σ zx (.Assert test msg pos) (Ek σ zx):=by
 intro A zz s zy g o F;refine wpAny_Assert_holds (Aq (h A zz s zy g o F) fun b s₁ q=>?_);have e:=q.val;subst e;obtain⟨h',tk,zy',σ',zx',e,k,F',m1,m2,m3,p⟩:=GP.of_pu F q;exact⟨rfl,h',tk,zy',σ',zx',e,k,F',m1,m2,m3,rfl,p.2.1,p.2.2⟩
theorem Lv{d:PyData}(hd:d≠ .none):Bm V w H0 n (compareOp .IsNot) (.d d) (.d .none) (Rd (.bool true)):=by
 intro A s zy u v g B ra rb;cases C0 rb;refine isnot_none_ne (fun e=>?_) (Pu.here (BB _ _));subst e;refine ex1 ra fun as r=>?_;cases r;exact hd rfl
theorem DP:Bm V w H0 n (compareOp .IsNot) (.d .none) (.d .none) (Rd (.bool false)):=by
 intro A s zy u v g B ra rb;cases C0 rb;cases C0 ra;exact wpAny_isNot_self rfl (Pu.here (BB _ _))
theorem QS{c:Nat}(hc:c=97∨c=98){d:Addr}{f:Int->Option Value}(hf:f c=none)(hm:Ol w V d f H0)(htab:GIs H0 "_special_chars_map" (.ref d))(hisi:GIs H0 "isinstance" (.builtin "isinstance"))(hstr:GIs H0 "str" (.type "str")):
  II V w H0 n (Ap (B7 5)) [(S "pattern",.d (.str (sg c)))] [] (AD (B7 5)) (.ret (.d (.str (sg c)))):=by
 refine BP (ER (b:=true) ?_ (fun Z=>?_) E3)
 ·refine CQ (x:=.d (.bool true)) ?_ IN fun Z Z=>rfl
  exact AT ⟨_,hisi,Be,QP⟩ (le_refl _) rfl (Bo (Aa rfl rfl) (DA hstr rfl) (fun Z=>rfl) fun Z=>rfl) fun Z=>rfl
 ·exact BP (Bu (Lu (Aa rfl rfl) (DA htab rfl) hm hf hc (fun Z=>rfl) (by decide) fun Z=>rfl))
theorem JF{l r:Expr}{pos:Pos}{a b:Str}{t:Bool}(hl:Am V w H0 n sc σ zx l (.d (.str a)))(hr:Am V w H0 n sc σ zx r (.d (.str b)))(e:(a==b)=t)(hm:behindInMarks .Eq r=false):FI V w H0 n sc σ zx (.Compare l [.Eq] [r] pos) t:=by
 refine Ar hl hr ?_ hm
 (refine(e)▸ ?_);exact DY
theorem Lw{x:Str}{p pos pos':Pos}{e:Expr}{a:Addr}{ob:Obj}{ds ds':List PyData}{d:PyData}{σ0:AN}(hx:Am V w H0 n sc σ [(a,ob)] (.Name x p) (JD a))(he:Am V w H0 n sc σ [(a,ob)] e (.d d))(hd:KH d=true)(hl:OwnL ds ob)(hz:ds.length≤sizeLine)(e':ds'=ds++[d])
  (hs:∀x e,σ0.lookup x=some e->σ.lookup x=some e)
  (hb:∀zz,backTo pos (starEach [e] zz)=(false,eval e zz)::backTo pos (starEach [] zz))(hsw:∀zz,swapsWith (.Call (.Name x p) [e] [] pos) none pos'.line zz=pure false):
  GX V w H0 n sc σ [(a,ob)] [.Expr (.Call (.Name x p) [e] [] pos) pos'] (fun Z fl σ' zx'=>fl=.next∧(∃o',OwnL ds' o'∧zx'=[(a,o')])∧∀x e,σ0.lookup x=some e->σ'.lookup x=some e):=
 AG (Uc hx he hd (mem_singleton.mpr rfl) hl hz hb hsw) fun g σ' zx' q=>AC fun g=>by
  obtain⟨rfl,o',ho',rfl⟩:=q;exact⟨rfl,⟨o',by rw[e'];exact ho',by simp[Ak]⟩,hs⟩
theorem Po{σ':AN}{e:Expr}{b:Bool}(hs:∀x e,σ'.lookup x=some e->σ.lookup x=some e)(h:FI V w H0 n sc σ' zx e b):FI V w H0 n sc σ zx e b:=
 fun A zz s zy g o F=>h A zz s zy g o (F.sub hs)
noncomputable abbrev VG:Scope:=Ap (B7 7)
theorem Nq(hesc:∀c,c=97∨c=98->CB V w H0 "escape" n [.str (sg c)] (.str (sg c)))(hlen:GIs H0 "len" (.builtin "len")){p:List Nat}(hp:∀c∈p,AJ c)(hz:p.length≤8):
  GX V w H0 n VG [(S "pat",.d (.str (tx p))),(S "STAR",.d .none),(S "QUESTION_MARK",.d (.str (S "any")))] [] (AD (B7 7)) (fun Z fl Z zx'=>∃v,fl=.ret v∧∃a ob,v=.ref a∧(a,ob)∈zx'∧OwnL ((QQ p).map BD) ob):=by
 revert hesc hlen hp hz;revert p;revert V w H0 n;refine no_implicit_lambda% (JZ (by exact((default,w0),default)) ?_);generalize Iq _ _=t9;generalize t9.1.1=V,t9.1.2=w,t9.2.1=H0,t9.2.2=n;refine no_implicit_lambda% (Io (default) ?_);generalize HR _ _=p;intro hesc hlen hp hz;refine AG (GM (Q:=OwnL []) (y:=S "res") IY (Ab rfl) (fun Z Z=>rfl) (fun Z Z=>rfl)) fun g σ' zx' q=>?_;refine Bh q fun a o ho x4 x5=>?_;try clear q;subst x4;subst x5
 refine AA (BX (Av (x:=JD a) (bs:=[(S "add",JD a)]) (Pj (Aa rfl rfl) (mem_singleton.mpr rfl) ho) (Af (Ab rfl)) (fun Z Z=>rfl) (fun Z Z=>rfl) fun Z=>rfl)) ?_;refine AA (BX (E9 (x:=.d (.tuple [.int 0,.int p.length])) (e1:=.d (.int 0)) (e2:=.d (.int p.length)) (DR (ds:=[.int 0,.int _]) (Bo Ao (Bb hlen (le_trans hz (by decide)) (Aa rfl rfl) rfl fun Z=>rfl) (fun Z=>rfl) fun Z=>rfl) (Ai (by simp)))
  C9 (Ab rfl) (Ab rfl) (fun zz o=>by have q:=o.scope;cases zz;simp only at q;subst q;rfl) (fun zz o=>by have q:=o.scope;cases zz;simp only at q;subst q;rfl))) ?_
 refine C4 (Ψ:=fun Z fl σ' zx'=>fl=.next∧∃o',OwnL ((QQ p).map BD) o'∧zx'=[(a,o')]∧∀x e,([(S "i",.d (.int p.length)),(S "n",.d (.int p.length)),(S "res",.v (.ref a))]:AN).lookup x=some e->σ'.lookup x=some e)
  (Hq (I:=fun j σ' zx'=>∃k o',k≤p.length∧j=p.length - k∧OwnL ((QQ (p.take k)).map BD) o'∧zx'=[(a,o')]∧
   ∀x e,([(S "i",.d (.int k)),(S "n",.d (.int p.length)),(S "add",JD a),(S "res",.v (.ref a)),(S "pat",.d (.str (tx p))),(S "STAR",.d .none),(S "QUESTION_MARK",.d (.str (S "any")))]:AN).lookup x=some e->σ'.lookup x=some e) p.length (fun j σ' zx' hI=>?_) ?_) (fun g σ' zx' q=>?_) fun g fl σ' zx' hn q=>absurd q.1 hn
 ·refine ex2 hI fun k o' h9=>?_;refine JY h9 fun hk x4 ho' x6 hs=>?_;clear h9;try clear hI;subst x4;subst x6
  have hlt:=Ei (V:=V) (w:=w) (H0:=H0) (n:=n) (a:=k) (b:=p.length);refine⟨decide (k<p.length),Po hs (Ar (Aa rfl rfl) (Aa rfl rfl) (by rw[show decide (k<p.length)=decide ((k:Int)<p.length) by simp];exact hlt) rfl),fun hb=>?_,fun hb=>?_⟩
  ·have hk':k<p.length:=of_decide_eq_true hb
   have hc:p[k]? =some p[k]:=getElem?_eq_getElem hk';have hsg:=hp _ (getElem_mem hk');have hsucc:=QR hc;generalize p[k]=c at hc hsg hsucc;have hzz:(QQ (p.take k)).length≤8:=by have:=SI (p.take k);rw[length_take] at this;lia
   generalize QQ (p.take k)=acc at ho' hsucc hzz;refine DE (EF fun Φ hΦ=>?_) hs;refine AA (BX (Av (bs:=[(S "c",.d (.str (sg c)))]) (Bf (k:=(k:Int)) (x:=tx p) (c:=c) (Aa rfl rfl) (Aa rfl rfl) (D0 (Int.natCast_nonneg k) (by omega)) (by have:=IW hk';simpa [hc] using this) fun Z Z=>rfl) (Af (Ab rfl)) (fun Z Z=>rfl) (fun Z Z=>rfl) fun Z=>rfl)) ?_;refine AA (BX (Av (x:=.d (.int ((k:Int)+1))) (bs:=[(S "i",.d (.int ((k:Int)+1)))]) (AO (Aa rfl rfl) Ao Ea) (Af (Ab rfl)) (fun Z Z=>rfl) (fun Z Z=>rfl) fun Z=>rfl)) ?_;refine AG (R:=fun Z σ' zx'=>(∃o',OwnL ((DF acc c).map BD) o'∧zx'=[(a,o')])∧∀x e,([(S "i",.d (.int ((k:Int)+1))),(S "n",.d (.int p.length)),(S "add",JD a),(S "res",.v (.ref a)),(S "pat",.d (.str (tx p))),(S "STAR",.d .none),(S "QUESTION_MARK",.d (.str (S "any")))]:AN).lookup x=some e->σ'.lookup x=some e)
    ?_ fun g σ' zx' q=>AC fun g=>hΦ ?_
   ·have hzl:(acc.map BD).length≤sizeLine:=Ai (by rw[length_map];exact le_trans hzz (by decide))
    by_cases h42:c=42
    ·subst h42
     refine BR (b:=true) (JF (Aa rfl rfl) Bz rfl rfl) (fun Z=>?_) E3
     by_cases hnil:acc=[]
     ·refine C4 (Ψ:=_) (BR (b:=true) (AH (DB (a:=true) (b:=true) ?_ E3)) (fun Z=>Lw (Aa rfl rfl) (Aa rfl rfl) rfl ho' hzl ?_ ?_ (fun Z=>rfl) fun Z=>rfl) E3) (fun g σ' zx' q=>AC fun g=>q) fun g fl σ' zx' hn q=>q
      ·subst hnil
       exact GV (Ls (Aa rfl rfl) (mem_singleton.mpr rfl) ho' hzl)
      ·subst hnil;rfl
      ·exact Bl rfl
     ·obtain⟨x,hx⟩:∃x,acc.getLast? =some x:=by
       cases e:acc.getLast? with
       |none=>exact absurd (List.getLast?_eq_none_iff.mp e) hnil
       |some x=>exact⟨x,rfl⟩
      have hpos:0<acc.length:=length_pos_iff.mpr hnil;have hget:(acc.map BD)[((-1:Int)+(acc.map BD).length).toNat]? =some (BD x):=by
       rw[List.getLast?_eq_getElem?] at hx;rw[length_map,getElem?_map,VB hpos,hx];rfl
      have hne:(!(!(acc.map BD).isEmpty))=false:=by cases acc with|nil=>exact absurd rfl hnil|cons _ _=>rfl
      cases x with
      |none=>
       have e4:DF acc 42=acc:=by simp[DF,hnil,hx]
       (refine e4.symm▸ ?_)
       refine C4 (Ψ:=_) (BR (b:=false) (AH (DB (a:=false) (b:=false) ?_ fun Z=>DK ?_)) (EP) (fun Z=>AC fun g=>⟨rfl,⟨o',ho',rfl⟩,?_⟩)) (fun g σ' zx' q=>AC fun g=>q) fun g fl σ' zx' hn q=>q
       ·rw[←hne]
        exact GV (Ls (Aa rfl rfl) (mem_singleton.mpr rfl) ho' hzl)
       ·exact Ar (FF (a:=a) (ob:=o') (i:= -1) (Aa rfl rfl) (mem_singleton.mpr rfl) ho' (Jo Ao) (by decide) (by decide) (by rw[length_map];lia) hget fun Z Z=>rfl) (Aa rfl rfl) DP rfl
       ·exact Bl rfl
      |some y=>
       have e4:(DF acc 42).map BD=acc.map BD++[.none]:=by simp[DF,hnil,hx,BD]
       refine C4 (Ψ:=_) (BR (b:=true) (AH (DB (a:=false) (b:=true) ?_ fun Z=>DK ?_)) (fun Z=>Lw (Aa rfl rfl) (Aa rfl rfl) rfl ho' hzl e4 ?_ (fun Z=>rfl) fun Z=>rfl) E3) (fun g σ' zx' q=>AC fun g=>q) fun g fl σ' zx' hn q=>q
       ·rw[←hne]
        exact GV (Ls (Aa rfl rfl) (mem_singleton.mpr rfl) ho' hzl)
       ·exact Ar (FF (a:=a) (ob:=o') (i:= -1) (Aa rfl rfl) (mem_singleton.mpr rfl) ho' (Jo Ao) (by decide) (by decide) (by rw[length_map];lia) hget fun Z Z=>rfl) (Aa rfl rfl) (Lv (by intro q;exact GR PyData.ctorIdx q rfl)) rfl
       ·exact Bl rfl
    ·have e4:(DF acc c).map BD=acc.map BD++[BD (D4 c)]:=by simp[DF,h42]
     have e5:(sg c==S "*")=false:=by
      rcases hsg with rfl|rfl|rfl|rfl
      ·decide +kernel
      ·decide +kernel
      ·decide +kernel
      ·exact absurd rfl h42
     refine BR (b:=false) (JF (Aa rfl rfl) Bz e5 rfl) (EP) fun Z=>?_
     by_cases h63:c=63
     ·subst h63
      refine C4 (Ψ:=_) (BR (b:=true) (JF (Aa rfl rfl) Bz rfl rfl) (fun Z=>Lw (d:=.str (S "any")) (Aa rfl rfl) (Aa rfl rfl) rfl ho' hzl e4 ?_ (fun Z=>rfl) fun Z=>rfl) E3) (fun g σ' zx' q=>AC fun g=>q) fun g fl σ' zx' hn q=>q;exact Bl rfl
     ·have hc2:c=97∨c=98:=by
       rcases hsg with h|h|h|h
       ·exact .inl h
       ·exact .inr h
       ·exact absurd h h63
       ·exact absurd h h42
      have e6:(sg c==S "?")=false:=by rcases hc2 with rfl|rfl<;> decide +kernel
      have e7:(sg c==S "[")=false:=by rcases hc2 with rfl|rfl<;> decide +kernel
      have e8:BD (D4 c)=.str (sg c):=by simp[D4,h42,h63,BD]
      rw[e8] at e4;refine C4 (Ψ:=_) (BR (b:=false) (JF (Aa rfl rfl) Bz e6 rfl) (EP) fun Z=>?_) (fun g σ' zx' q=>AC fun g=>q) fun g fl σ' zx' hn q=>q;refine C4 (Ψ:=_) (BR (b:=false) (JF (Aa rfl rfl) Bz e7 rfl) (EP) fun Z=>?_) (fun g σ' zx' q=>AC fun g=>q) fun g fl σ' zx' hn q=>q;refine Lw (Aa rfl rfl) (AT (hesc c hc2) (le_refl _) rfl (Bk (Aa rfl rfl) fun Z=>rfl) fun Z=>rfl) rfl ho' hzl e4 ?_ (fun Z=>rfl) fun Z=>rfl;exact Bl rfl
   ·refine BL q fun x1 hs'=>?_;rcases x1 with ⟨o'',ho'',rfl⟩
    exact⟨p.length - (k+1),Nat.sub_lt_sub_left hk' (lt_succ_self _),k+1,o'',by assumption,rfl,by rw[hsucc];exact ho'',rfl,hs'⟩
  ·have hk':k=p.length:=R5 ‹_› (of_decide_eq_false hb)
   subst hk';exact AC fun g=>⟨rfl,o',by simpa using ho',rfl,FY (hs (S "i") _ rfl) (FY (hs (S "n") _ rfl) (FY (hs (S "res") _ rfl) Sd))⟩
 ·exact⟨0,o,zero_le _,by exact rfl,by assumption,rfl,Bl rfl⟩
 ·obtain⟨_,o',ho',rfl,hs⟩:=q
  refine DE ?_ hs;refine AA (Pn (Ar (Aa rfl rfl) (Aa rfl rfl) (by simpa using KW (V:=V) (w:=w) (H0:=H0) (n:=n) (a:=p.length) (b:=p.length)) rfl)) ?_;exact Gc (P:=fun Z v=>v=.ref a) (show Am _ _ _ _ _ _ _ _ (.v (.ref a)) from Aa rfl rfl) fun g v σ' q=>⟨v,rfl,a,o',q,mem_singleton.mpr rfl,ho'⟩
section
open Builtin Builtin.ObjectAttr
structure DCls(K:Frag)(C:Addr):Prop where
 ga:findIn K (.ref C) "__getattribute__"=some (some (.builtin "object.__getattribute__"))
 gn:findIn K (.ref C) "__getattr__"=some none
 sa:findIn K (.ref C) "__setattr__"=some (some (.builtin "object.__setattr__"))
 hasD:hasDictIn K C=true
 over:plainOver K C=true
def B6(K:Frag)(C:Addr)(name:Str):Prop:=findIn K (.ref C) name=some none
structure SCls(K:Frag)(C:Addr):Prop where
 ga:findIn K (.ref C) "__getattribute__"=some (some (.builtin "object.__getattribute__"))
 gn:findIn K (.ref C) "__getattr__"=some none
 sa:findIn K (.ref C) "__setattr__"=some (some (.builtin "object.__setattr__"))
 is:(clsIn K C).isSome=true
 over:plainOver K C=true
structure SlotAt(K:Frag)(C:Addr)(name:Str)(i:Nat)(p:Addr):Prop where
 find:findIn K (.ref C) name=some (some (.ref p))
 get:specialIn K (.ref p) "__get__"=some (some (.builtin "member_descriptor.__get__"))
 takes:takesIn K (.ref p)=some true
 ty:typeIn K (.ref p)=some (.type "member_descriptor")
 slot:slotIn K p C=some i
 small:i<1000
section
variable{V:Program}{w:World}{A:Around}{E:Value->Shared->Prop}{s:Shared}{K:Frag}{C x dx:Addr}{es:List DictEntry}{m:Nat}{name:Str}{v:Value}{sl:Array (Option Value)}
noncomputable abbrev Bg (C dx:Addr) (sl:Array (Option Value)):Obj:=⟨.ref C,some dx,.plain,sl⟩
theorem Gy{h:Heap}{od:Obj}(hx:h.get? x=some (Bg C dx sl))(hd:h.get? dx=some od):InstAt h x (Bg C dx sl) C (some od):=⟨hx,rfl,rfl,hd⟩
theorem getD{ex:Bool}{Q:Value->Shared->Prop}(X:K.In s.heap)(c:DCls K C)(hx:s.heap.get? x=some (Bg C dx sl))(hd:s.heap.get? dx=some (dictOf es m))(hf:B6 K C name)(hl:getL name es=some (some v))(hv:handedIn v=true)
  (h:Q v {s with toks:=s.toks+1}):wpAny (model V w) A (getAttr (.ref x) name ex) Q E s:=
 get_value X (Gy hx hd) c.ga (findObj_own c.hasD hf rfl hl) hv h
theorem JG(name:Str)(hs:Int)(k v:Value):∀l:List DictEntry,(putL name hs k v l).length≤l.length+1:=by
 intro l
 induction l with
 |nil=>
  exact succ_pos _
 |cons e r JG=>
  have:=JG;show(if e.key.isStr name=true then ⟨e.hash,e.key,v⟩::r else e::putL name hs k v r).length≤(e::r).length+1;split<;> simp<;> lia
theorem QT{name:Str}:∀{l:List DictEntry},(getL name l).isSome=true->aRefKeyMayBeTheName name l.toArray=false:=fun{l} h=>by
 rw[aRefKeyMayBeTheName_at,List.any_toArray,List.any_toArray];cases hf:l.find? (·.key.isStr name) with
 |some e=>rw[any_eq_true.mpr ⟨e,List.mem_of_find?_eq_some hf,List.find?_some hf⟩];rfl
 |none=>
  cases hr:l.any (·.refKey) with
  |false=>simp
  |true=>rw[getL,hf,hr] at h;exact EP h
theorem QU{Q:Unit->Shared->Prop}(hd:s.heap.get? dx=some (dictOf es m))(hl:(getL name es).isSome=true)(h:Q () {s with heap:=s.heap.update dx (Obj.putName name (PyData.keyHash w.params name) (.str name s.toks) v),toks:=s.toks+1}):
  wpAny (model V w) A (nsSet dx name v) Q E s:=by
 unfold nsSet;refine Ac (Ac (wpAny_askSetting (Ag (Ac (wpAny_mkText (Ac (wpAny_loadPart hd ?_)))))));dsimp only
 (refine(QT hl).symm▸ ?_)
 exact wpAny_updatePart hd h
theorem Ud{h:Heap}{t:Tok}(hd:h.get? dx=some (dictOf es m)):(h.update dx (Obj.putName name (PyData.keyHash w.params name) (.str name t) v)).get? dx=some (dictOf (putL name (PyData.keyHash w.params name) (.str name t) v es) (putN name es m)):=by
 have e:=putName_dict name (PyData.keyHash w.params name) (.str name t) v es m;rw[Heap.get?_update_self _ hd (by rw[e];rfl),e]
theorem UT{Q:Unit->Shared->Prop}(X:K.In s.heap)(c:DCls K C)(hx:s.heap.get? x=some (Bg C dx sl))(hd:s.heap.get? dx=some (dictOf es m))(hf:B6 K C name)(hl:(getL name es).isSome=true)(hz:es.length≤100)
  (h:Q () {s with heap:=s.heap.update dx (Obj.putName name (PyData.keyHash w.params name) (.str name (s.toks+1)) v),toks:=s.toks+2}):wpAny (model V w) A (setAttr (.ref x) name v) Q E s:=by
 obtain⟨hh,g,d,t,os⟩:=s;have I:=Gy hx hd;refine set_plain X I c.sa (osa_open (s:=⟨hh,g,d,t+1,os⟩) (r:=none) X I c.over (by unfold takerIn;rw[show findIn K (.ref C) name=some none from hf];rfl) fun b=>?_);refine Ad (any_some c.hasD) fun cd hc hd'=>?_;have T:Looks (model V w) hh (ownDictForStores (.ref x)) (some dx):=(Looks.ld hx).andThen ((looks_clsIn X hc).andThen (by(refine hd'.symm▸ ?_);exact .now));have S0:Looks (model V w) hh (ownStreamTells (.ref x) (.ref C)) ():=.now;unfold storeInOwnDict
 repeat (first|with_reducible refine QU hd hl ?_|lk)
 have hlen:=JG name (PyData.keyHash w.params name) (.str name (t+1)) v es;refine nd_load (Ud hd) (Ag ?_);rw[pastItsLine_dict (by rw[size_toArray,sizeLine_eq];dsimp only;lia)];exact Ag (Ag h)
theorem UU{ex:Bool}{Q:Value->Shared->Prop}{i:Nat}{p:Addr}{od:Obj}(X:K.In s.heap)(c:SCls K C)(hx:s.heap.get? x=some (Bg C dx sl))(hd:s.heap.get? dx=some od)(hp:SlotAt K C name i p)(hl:(sl[i]?).join=some v)(hv:handedIn v=true)
  (h:Q v {s with toks:=s.toks+1}):wpAny (model V w) A (getAttr (.ref x) name ex) Q E s:=by
 have I:=Gy hx hd;refine get_bind X I c.ga (findObj_data c.is hp.find hp.get hp.takes) c.gn ?_;refine wpAny_call (slot_get (s:={s with toks:=s.toks+1}) X I hp.slot hl ?_);show wpAny _ _ (handedOut v) _ _ _;rw[handedOut_of hv];exact Ag h
theorem Mh{i:Nat}{p:Addr}{h:Heap}{od:Obj}(X:K.In h)(hx:h.get? x=some (Bg C dx sl))(hd:h.get? dx=some od)(hp:slotIn K p C=some i):∃nn,Looks (model V w) h (Slots.target (.ref x) (.ref p)) (x,i,nn):=by
 refine Vy (slot_of X hp) fun nn tn owner behind tb dd ssl cd h9=>?_;refine JY h9 fun ho hc hm hb x13=>?_;clear h9;subst x13;have f0:=looks_field (M:=model V w) ho 0 (v:=.str nn tn) rfl;have f4:=looks_field (M:=model V w) ho 4 (v:=.int behind tb) rfl;have L2:Looks (model V w) h (typeOf (.ref x)) (.ref C):=(Looks.ld hx).andThen .now;have L3:Looks (model V w) h (Slots.slotNamesOf (.ref C)) cd.slotNames:=(looks_clsIn X hc).andThen .now;refine⟨nn,f4.andThen (f0.andThen (L2.andThen (L3.andThen ?_)))⟩
 (refine(if_neg hb).symm▸ ?_)
 exact .now
theorem UV{Q:Unit->Shared->Prop}{i:Nat}{p:Addr}{od:Obj}(X:K.In s.heap)(c:SCls K C)(hx:s.heap.get? x=some (Bg C dx sl))(hd:s.heap.get? dx=some od)(hp:SlotAt K C name i p)
  (h:Q () {s with heap:=s.heap.update x (fun o=>{o with slots:=(o.slots++Array.replicate (i+1 - o.slots.size) none).setIfInBounds i (some v)}),toks:=s.toks+1}):wpAny (model V w) A (setAttr (.ref x) name v) Q E s:=by
 revert X c hx hd hp h;revert V w A E s K C x dx name v sl Q i p od;refine no_implicit_lambda% (FM (by exact((((default,w0),({},default)),(({},default),default)),default)) ?_);generalize CF _ _=t9;generalize t9.1.1.1.1=V,t9.1.1.1.2=w,t9.1.1.2.1=A,t9.1.1.2.2=E,t9.1.2.1.1=s,t9.1.2.1.2=K,t9.1.2.2.1=C,t9.1.2.2.2=x,t9.2.1.1.1=dx,t9.2.1.1.2=name,t9.2.1.2.1=v,t9.2.1.2.2=sl,t9.2.2.1.1=Q,t9.2.2.1.2=i,t9.2.2.2.1=p,t9.2.2.2.2=od;intro X c hx hd hp h;have I:=Gy hx hd;refine set_plain X I c.sa (osa_descr (s:={s with toks:=s.toks+1}) KF.slot_mset X I c.over (by unfold takerIn;rw[hp.find];simp[hp.takes]) hp.ty ?_);refine ex1 (Mh (V:=V) (w:=w) X hx hd hp.slot) fun nn L0=>?_;refine Vy (slot_of X hp.slot) fun n1 tn owner behind tb dd ssl cd h9=>?_;refine JY h9 fun ho hc hm hb e=>?_;clear h9;obtain⟨hh,g,dr,t,os⟩:=s;dsimp only at ho hx hd h L0 X;have L1:Looks (model V w) hh (isInstance (.ref x) owner) true:=((Looks.ld hx).andThen .now).andThen (looks_mroIn X hm);have f0:=looks_field (M:=model V w) ho 0 (v:=.str n1 tn) rfl;have f1:=looks_field (M:=model V w) ho 1 (v:=owner) rfl;have f3:=looks_field (M:=model V w) ho 3 (v:=.builtin "proto.slot#set") rfl;have hld:=Looks.ld (M:=model V w) (part:=none) ho;refine codeAny_call_builtin KF.slot_mset.plain KF.entry_mset (KF.slot_mset.check _ _ _ _ _ _ _ _ ⟨_,ho,rfl⟩ (KF.args_mset _ _ _) ?_);unfold Builtin.«member_descriptor.__set__» Getset_descriptor.descrSet Getset_descriptor.descrStoreThrough Getset_descriptor.descrCheckInstance Getset_descriptor.descrNameAndClass
 repeat lk
 show(Code.builtin "proto.slot#set" ⟨[.ref x,v,.ref p],[]⟩).quiet=true∧codeAny _ _ (Code.builtin "proto.slot#set" ⟨[.ref x,v,.ref p],[]⟩) _ _;refine⟨Code.quiet_builtin _ (by kernel_rfl),codeAny_builtin KF.entry_slotset ?_⟩;unfold Builtin.«proto.slot#set»;have hs:∀{A':Around} {Q:Unit->Shared->Prop} {E},Q () ⟨hh.update x (fun o=>{o with slots:=(o.slots++Array.replicate (i+1 - o.slots.size) none).setIfInBounds i (some v)}),g,dr,t+1,os⟩->wpAny (model V w) A' (setSlotAt x i (some v)) Q E ⟨hh,g,dr,t+1,os⟩:=fun{A' Q E} q=>by
  have hsm:=hp.small;unfold setSlotAt;rw[if_neg (by rw[sizeLine_eq];lia)];exact wpAny_updatePart hx q
 repeat (first|with_reducible refine hs ?_|lk)
 exact h
end
end
section
variable{x:Bool}
theorem SK{iter:Expr}{a:Addr}{ob:Obj}{ds:List PyData}(hi:Am V w H0 n sc σ zx iter (.v (.ref a)))(ho:(a,ob)∈zx)(hl:OwnL ds ob):Vh V w H0 n sc σ zx [a] iter (ds.map .d):=by
 intro A zz s zy g o F;refine Aq (hi A zz s zy g o F) fun v s₁ q=>⟨q.mono fun Z Z=>trivial,?_⟩;have e:=q.val;subst e;have F1:=F.ext q.ext;have hLs:=F1.ledg _ ho;refine B8 (Dw hl hLs) fun vs k hL f=>?_;have hl':=hL.isList;have lne:a≠s₁.heap.objs.size:=ne_of_lt (Heap.lt_size hLs);have nfresh:s₁.heap.get? s₁.heap.objs.size=none:=by
  cases e:s₁.heap.get? s₁.heap.objs.size with
  |none=>rfl
  |some o=>exact absurd (Heap.lt_size e) (lt_irrefl _)
 refine wpAny_pyIter_list hl' ⟨s₁.heap.objs.size,[s₁.heap.objs.size,a],[s₁.heap.objs.size],(fun i h=>h.IsListIter s₁.heap.objs.size a i∧h.IsList a (toArray vs)),_,s₁.toks,rfl,rfl,An _ _,⟨?_,?_,?_⟩,?_,?_,?_⟩
 case refine_1=>
  have W:=Walks.list (prog:=V) (w:=w) g.hh s₁.heap.objs.size a lne (toArray vs);have e:(toArray vs).size=(ds.map Ent.d).length:=by rw[size_toArray,f.length,length_map]
  rw[e] at W;exact Walks.imp W fun i v p=>by
   refine Ad (f.get' (i:=i) (a:=v) (by simpa using p)) fun d h1 h2=>?_;exact⟨.d d,by simp[h1],h2 _⟩
 case refine_2=>
  intro i h st b hb;refine BL st fun x1 Z=>?_;rcases x1 with ⟨o,e,_⟩;rw[AU hb];exact⟨o,e⟩
 case refine_3=>
  intro i h st;refine BL st fun x1 Z=>?_;rcases x1 with ⟨o,e,c,_⟩;exact⟨o,_,e,c,by decide⟩
 ·exact⟨⟨_,Heap.get?_push_size _ rfl,rfl,rfl⟩,hl'.push _⟩
 ·intro b hb
  rw[AU hb];exact nfresh
 ·intro b hb
  rcases BF hb with rfl|hb
  ·exact⟨⟨_,Heap.get?_push_size _ rfl⟩,.inl F1.toBase.fresh⟩
  ·(refine(AU hb).symm▸ ?_)
   exact⟨⟨_,Heap.get?_push_of_some _ hLs⟩,.inr (mem_singleton.mpr rfl)⟩
theorem QV{iter:Expr}{d:Addr}{ob:Obj}{kvs:List (Str×Value)}(hi:Am V w H0 n sc σ zx iter (.v (.ref d)))(ho:(d,ob)∈zx)(hl:ob.IsDictOf (DN V w) kvs)(lo:(d==sysModules)=false):Vh V w H0 n sc σ zx [d] iter (kvs.map fun p=>.d (.str p.1)):=by
 intro A zz s zy g o F;refine Aq (hi A zz s zy g o F) fun v s₁ q=>⟨q.mono fun Z Z=>trivial,?_⟩;have e:=q.val;subst e;have F1:=F.ext q.ext;have hLs:=F1.ledg _ ho;refine FH (Heap.dictOf_iff.mpr ⟨ob,hLs,hl⟩) fun o' es ep ho' hr=>?_;have hat:s₁.heap.DictAt (DN V w) d kvs ep:=⟨o',es,ho',hr⟩;have dne:d≠s₁.heap.objs.size:=ne_of_lt (Heap.lt_size hLs);have nfresh:s₁.heap.get? s₁.heap.objs.size=none:=by
  cases e:s₁.heap.get? s₁.heap.objs.size with
  |none=>rfl
  |some o=>exact absurd (Heap.lt_size e) (lt_irrefl _)
 refine wpAny_pyIter_dict (knd:=DN V w) lo hat ⟨s₁.heap.objs.size,[s₁.heap.objs.size,d],[s₁.heap.objs.size],(fun i h=>h.IsKeyIter s₁.heap.objs.size d i kvs.length ep∧h.DictAt (DN V w) d kvs ep),_,s₁.toks,rfl,rfl,An _ _,⟨?_,?_,?_⟩,?_,?_,?_⟩
 ·have W:=Walks.dictKeys (prog:=V) (w:=w) (knd:=DN V w) g.hh s₁.heap.objs.size d dne kvs ep
  have e:kvs.length=(kvs.map fun p=>Ent.d (.str p.1)).length:=by rw[length_map]
  rw[e] at W;have:=Walks.imp (P':=fun i v=>∃e,(kvs.map fun p=>Ent.d (.str p.1))[i]? =some e∧Means (vis s₁.heap zy) v e) W fun i v p=>by
   refine B8 p fun k y h1 h2=>?_;refine ex1 (Value.isStrOf_shape h2) fun t x2=>?_;subst x2;exact⟨.d (.str k),by rw[getElem?_map,h1];rfl,BO _ _ _⟩
  rw[←e] at this ⊢;exact this
 ·intro i h st b hb
  refine BL st fun x1 Z=>?_;rcases x1 with ⟨o,e,_⟩;rw[AU hb];exact⟨o,e⟩
 ·intro i h st
  refine BL st fun x1 Z=>?_;rcases x1 with ⟨o,e,c,_⟩;exact⟨o,_,e,c,by decide⟩
 ·exact⟨⟨_,Heap.get?_push_size _ rfl,rfl,rfl⟩,⟨o',es,Heap.get?_push_of_some _ ho',hr⟩⟩
 ·intro b hb
  rw[AU hb];exact nfresh
 ·intro b hb
  rcases BF hb with rfl|hb
  ·exact⟨⟨_,Heap.get?_push_size _ rfl⟩,.inl F1.toBase.fresh⟩
  ·rw[AU hb]
   exact⟨⟨_,Heap.get?_push_of_some _ hLs⟩,.inr (mem_singleton.mpr rfl)⟩
end
def Nr(es:List DictEntry)(fs:List (Str×Value)):Prop:=F2 (fun(e:DictEntry) (p:Str×Value)=>(∃t,e.key=.str p.1 t)∧e.val=p.2) es fs
inductive FD(fs:List (Str×Value))(o:Obj):Prop
 |mk:∀es m,o=dictOf es m->Nr es fs->FD fs o
noncomputable def Pp (name:Str) (v:Value):List (Str×Value)->List (Str×Value)
 |[]=>[(name,v)]
 |p::r=>if p.1==name then (p.1,v)::r else p::Pp name v r
theorem Hc{name:Str}:∀{fs:List (Str×Value)},fs.lookup name=(fs.find? fun p=>p.1==name).map (·.2):=by
 intro fs
 induction fs with
 |nil=>
  exact rfl
 |cons hd0 r Hc=>
  rcases hd0 with ⟨k,v⟩;rw[lookup_cons,find?_cons]
  by_cases h:k=name
  ·subst h;simp
  ·have h1:(name==k)=false:=by simpa using fun q=>h q.symm
   have h2:(k==name)=false:=by simpa using h
   (refine h1.symm▸ ?_)
   simp only[h2];exact Hc
theorem QW{es:List DictEntry}{fs:List (Str×Value)}(h:Nr es fs):es.any (·.refKey)=false:=by
 induction h with
 |nil=>rfl
 |cons a _ ih=>
  refine BL a fun x1 Z=>?_;rcases x1 with ⟨t,e⟩;rw[any_cons,ih,DictEntry.refKey,e];rfl
theorem Eu{es:List DictEntry}{fs:List (Str×Value)}(name:Str)(h:Nr es fs):getL name es=some (fs.lookup name):=by
 have hr:=QW h;have hf:(es.find? (·.key.isStr name)).map (·.val)=fs.lookup name:=by
  rw[Hc];clear hr
  induction h with
  |nil=>rfl
  |@cons e p es fs a _ ih=>
   refine BL a fun x1 e2=>?_;rcases x1 with ⟨t,e1⟩
   (refine(find?_cons).symm▸ ?_;refine(find?_cons).symm▸ ?_;refine e1.symm▸ ?_)
   show Option.map _ (match(p.1==name) with|true=>some e|false=>_)=_;cases p.1==name with
   |true=>exact congrArg _ e2
   |false=>exact ih
 unfold getL;cases h1:es.find? (·.key.isStr name) with
 |some e=>rw[h1] at hf;simp at hf;exact congrArg _ hf
 |none=>rw[h1] at hf;simp only[Option.map_none] at hf;(refine hr.symm▸ ?_;refine(hf)▸ ?_);rfl
theorem QX{es:List DictEntry}{fs:List (Str×Value)}(name:Str)(hs:Int)(t:Tok)(v:Value)(h:Nr es fs):Nr (putL name hs (.str name t) v es) (Pp name v fs):=by
 induction h with
 |nil=>exact .cons ⟨⟨t,rfl⟩,rfl⟩ .nil
 |@cons e p es fs a r ih=>
  refine BL a fun x1 e2=>?_;rcases x1 with ⟨t',e1⟩;show Nr (if e.key.isStr name=true then ⟨e.hash,e.key,v⟩::es else e::putL name hs (.str name t) v es) (if(p.1==name)=true then (p.1,v)::fs else p::Pp name v fs)
  (refine e1.symm▸ ?_)
  show Nr (if(p.1==name)=true then _ else _) (if(p.1==name)=true then _ else _);split
  ·exact .cons ⟨⟨t',rfl⟩,rfl⟩ r
  ·exact .cons ⟨⟨t',e1⟩,e2⟩ ih
section
variable{K:Frag}
theorem GP.backP{α β:Type}{s s₁:Shared}{zy:List Addr}{zz:Env}{P:Heap->β->Prop}{b:β}(F:Fm H0 zy zx zz σ s.heap)(q:Pu s zy P b s₁){Φ:Heap->α->AN->Aw->Prop}{a:α}{s2:Shared}(g:GP H0 s₁ zy zz zx Φ a s2):GP H0 s zy zz zx Φ a s2:=by
 have F1:=F.ext q.ext;obtain⟨h2,t2,rfl,ex,_⟩:=q;exact GP.glue F (ex.keep _) F1 (fun Z m=>m) (fun Z m=>.inl m) (fun p m=>.inl (mem_map_of_mem m)) g
theorem GP.back{α β:Type}{s s₁:Shared}{zy:List Addr}{zz:Env}{Ψ:Heap->β->AN->Aw->Prop}{b:β}(F:Fm H0 zy zx zz σ s.heap)(x:GP H0 s zy zz zx Ψ b s₁):
  ∃zy1 σ₁ zx₁,Fm H0 zy1 zx₁ zz σ₁ s₁.heap∧Ψ (Internal.vis s₁.heap zy1) b σ₁ zx₁∧Ext (Internal.vis s.heap zy) (Internal.vis s₁.heap zy1)∧∀(Φ:Heap->α->AN->Aw->Prop) (a:α) (s2:Shared),GP H0 s₁ zy1 zz zx₁ Φ a s2->GP H0 s zy zz zx Φ a s2:=by
 obtain⟨h₁,t₁,zy1,σ₁,zx₁,rfl,k1,F1,hm1,hf1,hl1,p1⟩:=x;exact⟨zy1,σ₁,zx₁,F1,p1,GP.vis (α:=α) (H0:=H0) (B1 F) k1 hf1,fun Φ a s2 q=>GP.glue F k1 F1 hm1 hf1 hl1 q⟩
theorem HH(hK:K.In H0){zy:List Addr}{zz:Env}{h:Heap}(F:Fm H0 zy zx zz σ h):K.In h:=hK.keeps F.toBase.h0
abbrev DG(e:Expr)(name:Str)(pos:Pos):Prop:=∀zz,eval (.Attribute e name pos) zz=(do
 let o ←eval e zz
 standAt pos.atName
 let r ←holding [o] (getAttr o name true)
 letTemporaryGo e o r
 pure r)
theorem HI{e:Expr}{name:Str}{pos:Pos}{C x dx:Addr}{sl:Array (Option Value)}{od:Obj}{fs:List (Str×Value)}{v:Value}(hK:K.In H0)(c:DCls K C)(he:Am V w H0 n sc σ zx e (.v (.ref x)))(hx:(x,Bg C dx sl)∈zx)(hd:(dx,od)∈zx)(hf:FD fs od)
  (hn:B6 K C name)(hl:fs.lookup name=some v)(hv:handedIn v=true)(ha:DG e name pos):Am V w H0 n sc σ zx (.Attribute e name pos) (.v v):=by
 intro A zz s zy g o F;obtain⟨es,m,rfl,hes⟩:=hf;refine Attribute_any_ (Aq (he A zz s zy g o F) fun u s₁ q=>?_) (ha zz);have e1:=q.val;subst e1;have F1:=F.ext q.ext;exact getD (HH hK F1) c (F1.ledg _ hx) (F1.ledg _ hd) hn (by rw[Eu name hes,hl]) hv (q.trans (Pu.tok rfl))
theorem HJ{e:Expr}{name:Str}{pos:Pos}{C x dx p:Addr}{i:Nat}{sl:Array (Option Value)}{od:Obj}{v:Value}(hK:K.In H0)(c:SCls K C)(he:Am V w H0 n sc σ zx e (.v (.ref x)))(hx:(x,Bg C dx sl)∈zx)(hd:(dx,od)∈zx)
  (hp:SlotAt K C name i p)(hl:(sl[i]?).join=some v)(hv:handedIn v=true)(ha:DG e name pos):Am V w H0 n sc σ zx (.Attribute e name pos) (.v v):=by
 intro A zz s zy g o F;refine Attribute_any_ (Aq (he A zz s zy g o F) fun u s₁ q=>?_) (ha zz);have e1:=q.val;subst e1;have F1:=F.ext q.ext;exact UU (HH hK F1) c (F1.ledg _ hx) (F1.ledg _ hd) hp hl hv (q.trans (Pu.tok rfl))
theorem EX{e:Expr}{i:Int}{t:Tok}(h:Am V w H0 n sc σ zx e (.v (.int i t))):Am V w H0 n sc σ zx e (.d (.int i)):=EvP.mono h fun g u q=>by
 have q':u=_:=q;subst q';exact BN _ _ _
theorem KI{e:Expr}(h:Am V w H0 n sc σ zx e (.v .none)):Am V w H0 n sc σ zx e (.d .none):=EvP.mono h fun g u q=>by
 have q':u=_:=q;subst q';exact⟨[],.none⟩
theorem QY{e:Expr}{i:Str}{t:Tok}(h:Am V w H0 n sc σ zx e (.v (.str i t))):Am V w H0 n sc σ zx e (.d (.str i)):=EvP.mono h fun g u q=>by
 have q':u=_:=q;subst q';exact BO _ _ _
theorem Om{α:Type}{s:Shared}{zy:List Addr}{zz:Env}{tk:Nat}{t:Tok}{dx:Addr}{od:Obj}{fs:List (Str×Value)}{name:Str}{v:Value}{Ψ:Heap->α->AN->Aw->Prop}{r:α}(F:Fm H0 zy zx zz σ s.heap)(hd:(dx,od)∈zx)(hf:FD fs od)
  (h:∀g od',FD (Pp name v fs) od'->Ψ g r σ (Ak dx od' zx)):GP H0 s zy zz zx Ψ r {s with heap:=s.heap.update dx (Obj.putName name (PyData.keyHash w.params name) (.str name t) v),toks:=tk}:=by
 obtain⟨es,m,rfl,hes⟩:=hf;have e:=putName_dict name (PyData.keyHash w.params name) (.str name t) v es m;exact GP.upd F hd (by rw[e];rfl) (h _ _ ⟨_,_,e,QX name _ t v hes⟩)
theorem HK{e value:Expr}{name:Str}{p pos:Pos}{C x dx:Addr}{sl:Array (Option Value)}{fs:List (Str×Value)}{Ψ:Heap->Value->AN->Aw->Prop}(hK:K.In H0)(c:DCls K C)(hv:GS V w H0 n sc σ zx (eval value) Ψ)
  (hr:∀g v σ₁ zx₁,Ψ g v σ₁ zx₁->Am V w H0 n sc σ₁ zx₁ e (.v (.ref x))∧(x,Bg C dx sl)∈zx₁∧∃od,(dx,od)∈zx₁∧FD fs od)(hz:fs.length≤100)(hn:B6 K C name)(hs:∀zz,swapsWith value (some (.Attribute e name p)) pos.line zz=pure false):
  GT V w H0 n sc σ zx (.Assign [.Attribute e name p] value pos) (fun Z fl σ' zx'=>fl=.next∧∃g1 v zx₁ od',Ψ g1 v σ' zx₁∧FD (Pp name v fs) od'∧zx'=Ak dx od' zx₁):=by
 intro A zz s zy g o F;refine plainObj_wpAny_Assign_Attribute (env:=zz) (Ah (hv A zz s zy g o F) (fun v s₁ q=>?_) fun Z Z f=>f) (hs zz);refine GQ (GP.back (α:=Flow) F q) fun zy1 σ₁ zx₁ F1 p1 Z back1=>?_;obtain⟨he,hx,od,hd,hf⟩:=hr _ _ _ _ p1;refine Ah (he A zz s₁ zy1 g o F1) (fun u s2 q2=>?_) fun Z Z f=>f.elim;have e2:=q2.val;subst e2;have F2:=F1.ext q2.ext;obtain⟨es,m,rfl,hes⟩:=id hf;refine UT (HH hK F2) c (F2.ledg _ hx) (F2.ledg _ hd) hn (by rw[Eu name hes];rfl) (by rw[hes.length];exact hz) ?_;exact back1 _ _ _ (GP.backP F1 q2 (Om F2 hd hf fun Z od' h'=>⟨rfl,_,v,zx₁,od',p1,h',rfl⟩))
end
noncomputable def Pq (sl:Array (Option Value)) (i:Nat) (v:Value):Array (Option Value):=(sl++Array.replicate (i+1 - sl.size) none).setIfInBounds i (some v)
section
variable{K:Frag}
theorem On{α:Type}{s:Shared}{zy:List Addr}{zz:Env}{tk:Nat}{C x dx:Addr}{sl:Array (Option Value)}{i:Nat}{v:Value}{Ψ:Heap->α->AN->Aw->Prop}{r:α}(F:Fm H0 zy zx zz σ s.heap)(hx:(x,Bg C dx sl)∈zx)
  (h:∀g,Ψ g r σ (Ak x (Bg C dx (Pq sl i v)) zx)):GP H0 s zy zz zx Ψ r {s with heap:=s.heap.update x (fun o=>{o with slots:=(o.slots++Array.replicate (i+1 - o.slots.size) none).setIfInBounds i (some v)}),toks:=tk}:=
 GP.upd (f:=fun o=>{o with slots:=(o.slots++Array.replicate (i+1 - o.slots.size) none).setIfInBounds i (some v)}) F hx rfl (h _)
theorem IZ{e value:Expr}{name:Str}{p pos:Pos}{C x dx d:Addr}{i:Nat}{sl:Array (Option Value)}{Ψ:Heap->Value->AN->Aw->Prop}(hK:K.In H0)(c:SCls K C)(hv:GS V w H0 n sc σ zx (eval value) Ψ)
  (hr:∀g v σ₁ zx₁,Ψ g v σ₁ zx₁->Am V w H0 n sc σ₁ zx₁ e (.v (.ref x))∧(x,Bg C dx sl)∈zx₁∧∃od,(dx,od)∈zx₁)(hp:SlotAt K C name i d)(hs:∀zz,swapsWith value (some (.Attribute e name p)) pos.line zz=pure false):
  GT V w H0 n sc σ zx (.Assign [.Attribute e name p] value pos) (fun Z fl σ' zx'=>fl=.next∧∃g1 v zx₁,Ψ g1 v σ' zx₁∧zx'=Ak x (Bg C dx (Pq sl i v)) zx₁):=by
 intro A zz s zy g o F;refine plainObj_wpAny_Assign_Attribute (env:=zz) (Ah (hv A zz s zy g o F) (fun v s₁ q=>?_) fun Z Z f=>f) (hs zz);refine GQ (GP.back (α:=Flow) F q) fun zy1 σ₁ zx₁ F1 p1 Z back1=>?_;obtain⟨he,hx,od,hd⟩:=hr _ _ _ _ p1;refine Ah (he A zz s₁ zy1 g o F1) (fun u s2 q2=>?_) fun Z Z f=>f.elim;have e2:=q2.val;subst e2;have F2:=F1.ext q2.ext;refine UV (HH hK F2) c (F2.ledg _ hx) (F2.ledg _ hd) hp ?_;exact back1 _ _ _ (GP.backP F1 q2 (On F2 hx fun Z=>⟨rfl,_,v,zx₁,p1,rfl⟩))
theorem Oo{e value:Expr}{name:Str}{p pos:Pos}{op:Operator}{C x dx:Addr}{sl:Array (Option Value)}{od:Obj}{fs:List (Str×Value)}{i k r:Int}{t:Tok}(hK:K.In H0)(c:DCls K C)(he:Am V w H0 n sc σ zx e (.v (.ref x)))(hx:(x,Bg C dx sl)∈zx)(hd:(dx,od)∈zx)(hf:FD fs od)
  (hn:B6 K C name)(hl:fs.lookup name=some (.int i t))(hv:Am V w H0 n sc σ zx value (.d (.int k)))(ho:Bm V w H0 n (inplaceOp op) (.d (.int i)) (.d (.int k)) (Rd (.int r)))(hz:fs.length≤100):
  GT V w H0 n sc σ zx (.AugAssign (.Attribute e name p) op value pos) (fun Z fl σ' zx'=>fl=.next∧σ'=σ∧∃t' od',FD (Pp name (.int r t') fs) od'∧zx'=Ak dx od' zx):=by
 intro A zz s zy g o F;obtain⟨es,m,rfl,hes⟩:=id hf;refine wpAny_AugAssign_AttributeAny (Aq (he A zz s zy g o F) fun u s₁ q1=>?_);have e1:=q1.val;subst e1;have F1:=F.ext q1.ext;refine getD (HH hK F1) c (F1.ledg _ hx) (F1.ledg _ hd) hn (by rw[Eu name hes,hl]) rfl ?_;have F1':Fm H0 zy zx zz σ ({s₁ with toks:=s₁.toks+1}:Shared).heap:=F1;refine Aq (hv A zz _ zy g o F1') fun v s2 q2=>?_;have F2:=F1'.ext q2.ext;refine Aq (ho A s2 zy (.int i t) v g F2.toBase (BN _ _ _) q2.val) fun v' s3 q3=>?_;have F3:=F2.ext q3.ext;refine ex1 (Ax q3.val) fun t' x2=>?_;subst x2;refine UT (HH hK F3) c (F3.ledg _ hx) (F3.ledg _ hd) hn (by rw[Eu name hes];rfl) (by rw[hes.length];exact hz) ?_;have q1':Pu s zy (fun Z (Z:Value)=>True) (.int 0 0) {s₁ with toks:=s₁.toks+1}:=by
  obtain⟨h',tk,rfl,ex,_⟩:=q1;exact⟨h',_,rfl,ex,trivial⟩
 exact GP.backP F q1' (GP.backP F1' q2 (GP.backP F2 q3 (Om F3 hd hf fun Z od' h'=>⟨rfl,rfl,t',od',h',rfl⟩)))
theorem SL{e value:Expr}{name:Str}{p pos:Pos}{op:Operator}{C x dx d:Addr}{j:Nat}{sl:Array (Option Value)}{od:Obj}{i k r:Int}{t:Tok}(hK:K.In H0)(c:SCls K C)(he:Am V w H0 n sc σ zx e (.v (.ref x)))(hx:(x,Bg C dx sl)∈zx)(hd:(dx,od)∈zx)
  (hp:SlotAt K C name j d)(hl:(sl[j]?).join=some (.int i t))(hv:Am V w H0 n sc σ zx value (.d (.int k)))(ho:Bm V w H0 n (inplaceOp op) (.d (.int i)) (.d (.int k)) (Rd (.int r))):
  GT V w H0 n sc σ zx (.AugAssign (.Attribute e name p) op value pos) (fun Z fl σ' zx'=>fl=.next∧σ'=σ∧∃t',zx'=Ak x (Bg C dx (Pq sl j (.int r t'))) zx):=by
 intro A zz s zy g o F;refine wpAny_AugAssign_AttributeAny (Aq (he A zz s zy g o F) fun u s₁ q1=>?_);have e1:=q1.val;subst e1;have F1:=F.ext q1.ext;refine UU (HH hK F1) c (F1.ledg _ hx) (F1.ledg _ hd) hp hl rfl ?_;have F1':Fm H0 zy zx zz σ ({s₁ with toks:=s₁.toks+1}:Shared).heap:=F1;refine Aq (hv A zz _ zy g o F1') fun v s2 q2=>?_;have F2:=F1'.ext q2.ext;refine Aq (ho A s2 zy (.int i t) v g F2.toBase (BN _ _ _) q2.val) fun v' s3 q3=>?_;have F3:=F2.ext q3.ext;refine ex1 (Ax q3.val) fun t' x2=>?_;subst x2;refine UV (HH hK F3) c (F3.ledg _ hx) (F3.ledg _ hd) hp ?_;have q1':Pu s zy (fun Z (Z:Value)=>True) (.int 0 0) {s₁ with toks:=s₁.toks+1}:=by
  obtain⟨h',tk,rfl,ex,_⟩:=q1;exact⟨h',_,rfl,ex,trivial⟩
 exact GP.backP F q1' (GP.backP F1' q2 (GP.backP F2 q3 (On F3 hx fun Z=>⟨rfl,rfl,t',rfl⟩)))
theorem EG{h:Heap}{d:Addr}{ob:Obj}{kvs:List (Str×Value)}(e:h.get? d=some ob)(hl:ob.IsDictOf (DN V w) kvs):h.DictOf (DN V w) d kvs:=Heap.dictOf_iff.mpr ⟨ob,e,hl⟩
theorem Ev(x:Str)(t:Tok):(DN V w).is x (.str x t)=true:=by show Value.isStrOf x (.str x t)=true;simp[Value.isStrOf]
theorem Op{e k:Expr}{pa pos:Pos}{d:Addr}{ob:Obj}{kvs:List (Str×Value)}{x:Str}{r:Value}(he:Am V w H0 n sc σ zx e (.v (.ref d)))(ho:(d,ob)∈zx)(hl:ob.IsDictOf (DN V w) kvs)(lo:(d==sysModules)=false)(hk:Am V w H0 n sc σ zx k (.d (.str x)))(hr:(valueAt kvs x).getD .none=r)
  (hbase:∀zz,attributeBase e "get" zz (eval e zz)=eval e zz)(hline:(pa.endLine==pos.line)=true)(hs:∀zz,starEach [k] zz=[(false,eval k zz)]):Am V w H0 n sc σ zx (.Call (.Attribute e "get" pa) [k] [] pos) (.v r):=by
 intro A zz s zy g o F;refine Call_method1 (hbase _) (hs zz) hline (Aq (he A zz s zy g o F) fun u s₁ q=>?_);have e1:=q.val;subst e1;have F1:=F.ext q.ext;have hD:=EG (V:=V) (w:=w) (F1.ledg _ ho) hl;refine⟨"dict","dict.get",PySem.F.plainAttrs_dict,PySem.F.slot_dict_get,PySem.F.type_dict_get,hD.typeIs,hD.mapOf.noDict,?_⟩;refine callWith_builtin rfl (evalArgs_plain (spliced_cons (Aq (hk A zz s₁ zy g o F1) fun v s2 q2=>spliced_nil ?_)));refine ex1 (AR q2.val) fun t x2=>?_;subst x2;have F2:=F1.ext q2.ext;have hD2:=EG (V:=V) (w:=w) (F2.ledg _ ho) hl;refine call_meetsIn PySem.F.slot_dict_get hD2.typeIs PySem.F.entry_dict_get (PySem.F.args_dict_get_2 _ _) (meets_dict_get (DN V w) d (Ev x t) lo) ⟨_,hD2.mapOf,?_⟩;refine(q.trans q2).trans ⟨_,_,rfl,Ext.refl _,?_⟩
 (refine(hr)▸ ?_)
 rfl
theorem Mi{e k:Expr}{pos:Pos}{d:Addr}{ob:Obj}{kvs:List (Str×Value)}{x:Str}{r:Value}(he:Am V w H0 n sc σ zx e (.v (.ref d)))(ho:(d,ob)∈zx)(hl:ob.IsDictOf (DN V w) kvs)(hk:Am V w H0 n sc σ zx k (.d (.str x)))(hr:valueAt kvs x=some r)(hs:Ca k):
  Am V w H0 n sc σ zx (.Subscript e k pos) (.v r):=by
 intro A zz s zy g o F;refine PyProof.Rows.Subscript_ (Aq (he A zz s zy g o F) fun v s₁ q1=>Aq (hk A zz s₁ zy g o (F.ext q1.ext)) fun i s2 q2=>?_);refine ex1 (AR q2.val) fun t x2=>?_;subst x2;have e1:=q1.val;subst e1;have hD:=EG (V:=V) (w:=w) (((F.ext q1.ext).ext q2.ext).ledg _ ho) hl;exact tail_any hD.typeIs slot_dict_getitem.lookup (wpAny_getItem_of (knd:=DN V w) (Ev x t) hD.mapOf hr ((q1.trans q2).trans (Pu.tok rfl))) (hs _ _)
theorem Ue{e k:Expr}{pos:Pos}{d:Addr}{ob:Obj}{kvs:List (Str×Value)}{x:Str}(he:Am V w H0 n sc σ zx e (.v (.ref d)))(ho:(d,ob)∈zx)(hl:ob.IsDictOf (DN V w) kvs)(lo:(d==sysModules)=false)(hk:Am V w H0 n sc σ zx k (.d (.str x)))(hm:behindInMarks .In e=false):
  FI V w H0 n sc σ zx (.Compare k [.In] [e] pos) (valueAt kvs x).isSome:=by
 intro A zz s zy g o F;refine wpAny_isTrue_Compare1 (Aq (hk A zz s zy g o F) fun a s₁ q1=>?_) hm;have F1:=F.ext q1.ext;refine Aq (he A zz s₁ zy g o F1) fun c s2 q2=>?_;have e1:=q2.val;subst e1;refine ex1 (AR q1.val) fun t x2=>?_;subst x2;have hD:=EG (V:=V) (w:=w) ((F1.ext q2.ext).ledg _ ho) hl;exact wpAny_in_of (knd:=DN V w) (Ev x t) lo hD.mapOf (wpAny_truthy_bool ((q1.trans q2).trans (Pu.tok rfl)))
end
section
variable{K:Frag}
def FnGc(V:Program)(w:World)(H0:Heap)(n:Nat)(f:Value)(xs:List Ent)(L:Aw)(Ψ:Heap->Value->Aw->Prop):Prop:=
 ∀A s zy vs,Good n A->Base H0 zy s.heap->LedOk zy L s.heap->MeansAll (vis s.heap zy) vs xs->codeAny (model V w) A (.call f ⟨vs,[]⟩) (fun r s'=>match r with|.ok (.ret v)=>CP H0 s zy L Ψ v s'|_=>False) s
theorem FnGc.g{f:Value}{xs:List Ent}{L:Aw}{Ψ:Heap->Value->Aw->Prop}(h:FnGc V w H0 n f xs L Ψ):TA V w H0 n f xs L Ψ:=fun A s zy vs g B LO hm=>
 wpAny_call (codeAny_mono (h A s zy vs g B LO hm) fun r s' z=>by
  rcases r with e|(v|_|_|_)<;> first|exact z|exact z.elim)
abbrev D5(e:Expr)(m:Str)(pa:Pos)(args:List Expr)(pos:Pos):Prop:=∀zz,∃pl,eval (.Call (.Attribute e m pa) args [] pos) zz=(do
 let ov ←eval e zz
 standAt pa.atName
 let(f,first) ←holding [ov] (getMethod ov m pl)
 callWith pos f first (backTo pos (starEach args zz)) [])
theorem SM{e:Expr}{m:Str}{pa pos:Pos}{args:List Expr}{C x dx f:Addr}{sl:Array (Option Value)}{od:Obj}{fs:List (Str×Value)}{xs:List Ent}{L rest:Aw}{Ψ:Heap->Value->Aw->Prop}(hK:K.In H0)(c:DCls K C)(he:Am V w H0 n sc σ zx e (.v (.ref x)))(hx:(x,Bg C dx sl)∈zx)(hd:(dx,od)∈zx)(hf:FD fs od)
  (hsh:fs.lookup m=none)(hm:findIn K (.ref C) m=some (some (.ref f)))(ht:typeIn K (.ref f)=some (.type "function"))(hc:Cn H0 (.ref f))(ha:Ey V w H0 n sc σ zx pos args xs)(hcall:TA V w H0 n (.ref f) (.v (.ref x)::xs) L Ψ)(hL:Cf L zx)(hr:∀p∈rest,p∈zx∧p.1∉L.map (·.1))
  (hb:∀zz,(backTo pos (starEach args zz)).any (·.1)=false)(hev:D5 e m pa args pos):GS V w H0 n sc σ zx (eval (.Call (.Attribute e m pa) args [] pos)) (fun g v σ' zx'=>σ'=σ∧∃L',Ψ g v L'∧zx'=L'++rest):=by
 intro A zz s zy g o F;refine ex1 (hev zz) fun pl hpl=>?_;obtain⟨es,k,rfl,hes⟩:=hf;refine MethodCall_ (pl:=pl) (Aq (he A zz s zy g o F) fun u s₁ q=>?_) hpl;have e1:=q.val;subst e1;have F1:=F.ext q.ext;refine method_fn (HH hK F1) (Gy (F1.ledg _ hx) (F1.ledg _ hd)) c.ga c.gn hm ht (by show(lookIn m (dictOf es k)).map _=_;rw[lookIn_dict,Eu m hes,hsh];rfl) ?_;refine B9 (zz:=zz) F1.toBase.h0 hc (hb zz) (ha A zz s₁ zy g o F1) fun vs s2 q2=>?_;have F2:=F1.ext q2.ext;refine Ah (hcall A s2 zy (.ref x::vs) g F2.toBase ⟨fun p hp=>F2.ledh p (hL p hp),fun p hp=>F2.ledg p (hL p hp)⟩ ⟨rfl,q2.val⟩) (fun v s3 q3=>?_) fun Z Z f=>f;exact GP.backP F q (GP.backP F1 q2 (GP.of_cp F2 hL hr q3))
theorem QZ{x:Str}{p pos:Pos}{args:List Expr}{f:Value}{xs:List Ent}{L rest:Aw}{Ψ:Heap->Value->Aw->Prop}(hf:Am V w H0 n sc σ zx (.Name x p) (.v f))(hc:Cn H0 f)(ha:Ey V w H0 n sc σ zx pos args xs)(hcall:TA V w H0 n f xs L Ψ)(hL:Cf L zx)(hr:∀p∈rest,p∈zx∧p.1∉L.map (·.1))
  (hb:∀zz,(backTo pos (starEach args zz)).any (·.1)=false):GS V w H0 n sc σ zx (eval (.Call (.Name x p) args [] pos)) (fun g v σ' zx'=>σ'=σ∧∃L',Ψ g v L'∧zx'=L'++rest):=by
 intro A zz s zy g o F;refine Call_Name rfl (Aq (hf A zz s zy g o F) fun v s₁ q=>?_);have e1:=q.val;subst e1;have F1:=F.ext q.ext;refine B9 (zz:=zz) F1.toBase.h0 hc (hb zz) (ha A zz s₁ zy g o F1) fun vs s2 q2=>?_;have F2:=F1.ext q2.ext;refine Ah (hcall A s2 zy vs g F2.toBase ⟨fun p hp=>F2.ledh p (hL p hp),fun p hp=>F2.ledg p (hL p hp)⟩ q2.val) (fun v s3 q3=>?_) fun Z Z f=>f;exact GP.backP F q (GP.backP F1 q2 (GP.of_cp F2 hL hr q3))
theorem Oq{e:Expr}{pos:Pos}{Ψ:Heap->Value->AN->Aw->Prop}(h:GS V w H0 n sc σ zx (eval e) Ψ)(hsw:∀zz,swapsWith e none pos.line zz=pure false):GT V w H0 n sc σ zx (.Expr e pos) (fun g fl σ' zx'=>fl=.next∧∃v,Ψ g v σ' zx'):=by
 intro A zz s zy g o F;refine wpAny_Expr_any (Ah (h A zz s zy g o F) (fun v s' q=>?_) fun Z Z f=>f) (CD o) (hsw zz);obtain⟨h',tk,zy',σ',zx',e,k,F',m1,m2,m3,p⟩:=q;exact⟨h',tk,zy',σ',zx',e,k,F',m1,m2,m3,rfl,v,p⟩
theorem KJ{e:Expr}{y:Str}{py p1 p2:Pos}{k:Nat}{p3:Pos}{v:Value}(h:Am V w H0 n sc σ zx e (.v v))(hy:Az sc y)(hv:v=.none∨∃a,v=.ref a):
  GS V w H0 n sc σ zx (fun zz=>isTrue (.Compare (.NamedExpr (.Name y py) e p1) [.Is] [.Constant .none k p3] p2) zz (eval (.Compare (.NamedExpr (.Name y py) e p1) [.Is] [.Constant .none k p3] p2) zz)) (fun Z b σ' zx'=>b=decide (v=.none)∧σ'=(y,.v v)::σ∧zx'=zx):=by
 intro A zz s zy g o F;refine wpAny_isTrue_Compare1 ?_ rfl;show wpAny _ A (eval e zz >>=fun u=>holding [u] (assign (.Name y py) zz u) >>=fun Z=>pure u) _ _ s;refine Ac (Aq (h A zz s zy g o F) fun u s₁ q=>?_);have e1:=q.val;subst e1;have F1:=F.ext q.ext;refine Ac (wpAny_holding (Ah (Af (V:=V) (w:=w) (H0:=H0) (n:=n) (e:=.v u) hy A zz s₁ zy zx σ u g o F1 rfl) (fun Z s2 q2=>Ag ?_) fun Z Z f=>f));refine Bh q2 fun h2 t2 x3 k2 F2=>?_;try clear q2;subst x3
 refine(show wpAny _ A (pure Value.none) _ _ _ from Ag ?_);have fin:∀b:Bool,b=decide (u=.none)->GP H0 s zy zz zx (fun Z b σ' zx'=>b=decide (u=.none)∧σ'=(y,.v u)::σ∧zx'=zx) b {s₁ with heap:=h2,toks:=t2}:=fun b hb=>
  GP.backP F q ⟨h2,t2,zy,_,zx,rfl,k2.more (AL zz zx _),F2,fun Z m=>m,fun Z m=>.inl m,fun p m=>.inl (mem_map_of_mem m),hb,rfl,rfl⟩
 rcases hv with rfl|⟨a,rfl⟩
 ·exact wpAny_is_self rfl (wpAny_truthy_bool (fin _ rfl))
 ·exact is_ref_none (wpAny_truthy_bool (fin _ rfl))
end
def FkC(x:Bool)(A:Around)(zw:List Env)(zy:List Addr)(h:Heap):Prop:=
 if x=true then (A.frames=some zw∧(∀e∈zw,e.scope.kind≠ .module∧e.frame=some e.locals)∧∀b∈Ck zw,b∈zy∧∃o,h.get? b=some o∧∀vs,o.data≠ .fields vs) else zw=[]
inductive CPf(H0:Heap)(s:Shared)(zy:List Addr)(L:Aw)(fr:List Addr)(Ψ:Heap->Value->Aw->Prop)(v:Value)(s':Shared):Prop
 |mk:∀h' tk zy' L',s'={s with heap:=h',toks:=tk}->KeepU (L.map (·.1)) fr s.heap h'->Base H0 zy' h'->LedOk zy' L' h'->Cf zy zy'->MN zy zy' s.heap->GF L L' s.heap->Ψ (vis h' zy') v L'->CPf H0 s zy L fr Ψ v s'
theorem FkC.low{x:Bool}{A:Around}{zw:List Env}{zy:List Addr}{h:Heap}(k:FkC x A zw zy h):∀b∈Ck zw,b∈zy∧∃o,h.get? b=some o∧∀vs,o.data≠ .fields vs:=by
 cases x with
 |true=>
  have k':_∧_∧_:=k;exact k'.2.2
 |false=>intro b m;rw[show zw=[] from k] at m;exact BK m
section
variable{x:Bool}
def FnF(x:Bool)(V:Program)(w:World)(H0:Heap)(n:Nat)(f:Value)(xs:List Ent)(L:Aw)(Ψ:Heap->Value->Aw->Prop):Prop:=
 ∀A zw s zy vs,Good n A->Base H0 zy s.heap->LedOk zy L s.heap->FkC x A zw zy s.heap->(∀b∈Ck zw,b∉L.map (·.1))->MeansAll (vis s.heap zy) vs xs->
  codeAny (model V w) A (.call f ⟨vs,[]⟩) (fun r s'=>match r with|.ok (.ret v)=>CPf H0 s zy L (Ck zw) Ψ v s'|_=>False) s
theorem FnF.gc{f:Value}{xs:List Ent}{L:Aw}{Ψ:Heap->Value->Aw->Prop}(h:FnF false V w H0 n f xs L Ψ):FnGc V w H0 n f xs L Ψ:=fun A s zy vs g B LO hm=>
 codeAny_mono (h A [] s zy vs g B LO rfl (fun b m=>BK m) hm) fun r s' z=>by
  rcases r with e|(v|_|_|_)<;> first|exact z.elim|skip
  obtain⟨h',tk,zy',L',e,k,r1,r2,r3,r4,r5,r6⟩:=z;exact⟨h',tk,zy',L',e,k.but,r1,r2,r3,r4,r5,r6⟩
theorem Fk.enter{A:Around}{zz:Env}{zw:List Env}{s:Shared}{zy zy':List Addr}{h₁:Heap}(o:EnvOk sc zz)(eF:zz.frame=some zz.locals)(K:FkC x A zw zy s.heap)(ex:Ext s.heap h₁)(hm:Cf zy zy'):Fk x (A.deeper zz) zz zw zy' h₁:=by
 cases x with
 |true=>
  have k:_∧_∧_:=K;refine CZ k fun k1 k2 k3=>?_;exact(show FrOk (A.deeper zz) zz zw zy' h₁ from⟨Around.frames_deeper k1,fun e he=>by
   rcases BF he with rfl|he
   ·exact⟨by rw[o.kf];decide,eF⟩
   ·exact k2 e he,fun b m=>by
   obtain⟨h1,ob,e,d⟩:=k3 b m;exact⟨hm b h1,ob,ex _ _ e,d⟩⟩)
 |false=>exact K
theorem KK{zz:Env}{zw:List Env}{s:Shared}{L:Aw}(hal:∀b∈Ck zw,∃o,s.heap.get? b=some o)(hL:∀b∈Ck zw,b∉L.map (·.1))(hnew:∀b∈AI zz [],s.heap.get? b=none):GG zw zz L:=fun b m hb=>by
 refine ex1 (hal b m) fun o e=>?_;have:b∈AI zz []∨b∈L.map (·.1):=by
  rcases BF hb with rfl|hb
  ·exact .inl mem_cons_self
  ·rcases Cx hb with hb|hb
   ·exact .inl (mem_cons_of_mem _ (mem_append_left _ hb))
   ·exact .inr hb
 rcases this with q|q
 ·rw[hnew b q] at e;exact CE e
 ·exact hL b m q
theorem CPf.of_gpf{zz:Env}{s:Shared}{zy:List Addr}{L:Aw}{fr:List Addr}{h₁:Heap}{t₁:Nat}{s':Shared}{fl:Flow}{v:Value}{Ψ:Heap->Value->Aw->Prop}(ex:Ext s.heap h₁)(hnew:∀b∈AI zz [],s.heap.get? b=none)
  (q:GPf H0 {s with heap:=h₁,toks:=t₁} (AI zz []++zy) zz L fr (fun g Z Z zx'=>Ψ g v zx') fl s'):CPf H0 s zy L fr Ψ v s':=by
 obtain⟨h2,t2,zy2,σ2,L2,rfl,k2,F2,m1,m2,m3,p2⟩:=q;have back:∀b,h₁.get? b=none->s.heap.get? b=none:=fun b e=>by
  cases q:s.heap.get? b with
  |none=>rfl
  |some ob=>rw[ex b ob q] at e;exact E4 e
 have own:∀b,b∈AI zz L->b∈AI zz []∨b∈L.map (·.1):=fun b hb=>by
  rcases BF hb with rfl|hb
  ·exact .inl mem_cons_self
  ·rcases Cx hb with hb|hb
   ·exact .inl (mem_cons_of_mem _ (mem_append_left _ hb))
   ·exact .inr hb
 refine⟨h2,t2,zy2,L2,rfl,⟨fun b ob nb nf e=>k2.1 b ob (fun m=>?_) nf (ex b ob e),fun b m ob e d=>k2.2 b m ob (ex b ob e) d⟩,F2.toBase,⟨F2.ledh,F2.ledg⟩,fun b m=>m1 b (mem_append_right _ m),fun b m=>?_,fun p m=>(m3 p m).imp id (back _),p2⟩
 ·rcases own b m with q|q
  ·rw[hnew b q] at e;exact CE e
  ·exact nb q
 ·rcases m2 b m with m|m
  ·rcases Cx m with m|m
   ·exact .inr (hnew b m)
   ·exact .inl m
  ·exact .inr (back b m)
theorem Ew{f:Addr}{fd:FuncData}{ps:List Str}{body:List Stmt}{xs xs':List Ent}{L:Aw}{Ψ:Heap->Value->Aw->Prop}(D:DefG H0 f fd sc body)(hb:Kl V w H0 fd ps xs xs')(hsc:Fa sc ps=true)(hl:xs'.length=ps.length)
  (h:HX x V w H0 n sc (ps.zip xs') L body (fun g fl Z zx'=>Ψ g (match fl with|.ret v=>v|_=>.none) zx')):FnF x V w H0 (n+1) (.ref f) xs L Ψ:=by
 intro A zw s zy vs g B LO K hO hm;refine H3 D hb hsc hl g B LO hm fun zz h₁ t₁ o eF F ex hnew=>?_;have lo:=K.low;refine Ah (h _ zz zw _ _ g.deeper o F (Fk.enter o eF K ex fun b m=>mem_append_right _ m) (KK (fun b m=>(lo b m).2.imp fun Z q=>q.1) hO hnew)) (fun fl s' q=>?_) fun Z Z f=>f.elim;cases fl with
 |ret v=>exact CPf.of_gpf (fl:=.ret v) (v:=v) ex hnew (q.to fun Z Z Z h=>h)
 |next=>exact CPf.of_gpf (fl:=.next) (v:=.none) ex hnew (q.to fun Z Z Z h=>h)
 |brk=>exact CPf.of_gpf (fl:=.brk) (v:=.none) ex hnew (q.to fun Z Z Z h=>h)
 |cont=>exact CPf.of_gpf (fl:=.cont) (v:=.none) ex hnew (q.to fun Z Z Z h=>h)
theorem I0{f:Addr}{fd:FuncData}{ps:List Str}{body:List Stmt}{xs:List Ent}{L:Aw}{Ψ:Heap->Value->Aw->Prop}(D:DefIs H0 f fd sc ps body)(hsc:Fa sc ps=true)(hl:xs.length=ps.length)
  (h:GX V w H0 n sc (ps.zip xs) L body (fun g fl Z zx'=>Ψ g (match fl with|.ret v=>v|_=>.none) zx')):TA V w H0 (n+1) (.ref f) xs L Ψ:=
 FnGc.g (FnF.gc (Ew (x:=false) D.g (Cb D.bind hl) hsc hl (Fg h)))
end
theorem Good.tc{n:Nat}{A:Around}{C:Addr}{vs:List Value}(g:Good (n+1) A):Good n (A.under (.builtin "type.__call__" ⟨.ref C::vs,[]⟩)):=⟨g.hh,by
 have:=g.dep;have e:(A.under (.builtin "type.__call__" ⟨.ref C::vs,[]⟩)).depth=A.depth+1:=rfl;rw[e,Nat.add_right_comm];exact this,TR (m:=1) g.unt (by decide)⟩
section
variable{K:Frag}
theorem Nt{C:Addr}(hK:K.In H0)(h:makesIn K C=true):Cn H0 (.ref C):=fun M h' e=>by
 have Y:=makes_of (M:=M) (hK.keeps e) h;obtain⟨⟨oc,od,cd,sl,hC,_⟩,_,_,_,_,call,_⟩:=Y;refine⟨.machine,.inr (.inl rfl),(Looks.ld (part:=none) hC).andThen ?_⟩;exact call.andThen (by simp;exact .now)
theorem Q0{x:Str}{p pos:Pos}{args:List Expr}{C fI:Addr}{xs:List Ent}{Θ:Addr->Addr->Aw->Prop}(hK:K.In H0)(hmk:makesIn K C=true)(hi:findIn K (.ref C) "__init__"=some (some (.ref fI)))(hft:typeIn K (.ref fI)=some (.type "function"))
  (hg:Am V w H0 (n+1) sc σ zx (.Name x p) (.v (.ref C)))(ha:Ey V w H0 (n+1) sc σ zx pos args xs)
  (hinit:∀a d,d≠a->FnGc V w H0 n (.ref fI) (.v (.ref a)::xs) [(a,Bg C d #[]),(d,emptyDict)] (fun Z v L'=>v=.none∧Θ a d L'))
  (hb:∀zz,(backTo pos (starEach args zz)).any (·.1)=false):
  GS V w H0 (n+1) sc σ zx (eval (.Call (.Name x p) args [] pos)) (fun g v σ' zx'=>σ'=σ∧∃a d L',v=.ref a∧(Θ a d L'∧∀p∈zx,∀q∈L',p.1≠q.1)∧zx'=L'++zx):=by
 revert hK hmk hi hft hg ha hinit hb;revert V w H0 n sc σ zx K x p pos args C fI xs Θ;refine no_implicit_lambda% (FM (by exact((((default,w0),default),default),default)) ?_);generalize CF _ _=t9;generalize t9.1.1.1.1=V,t9.1.1.1.2=w,t9.1.1.2.1=H0,t9.1.1.2.2=n,t9.1.2.1.1=sc,t9.1.2.1.2=σ,t9.1.2.2.1=zx,t9.1.2.2.2=K,t9.2.1.1.1=x,t9.2.1.1.2=p,t9.2.1.2.1=pos,t9.2.1.2.2=args,t9.2.2.1.1=C,t9.2.2.1.2=fI,t9.2.2.2.1=xs,t9.2.2.2.2=Θ;intro hK hmk hi hft hg ha hinit hb;intro A zz s zy g o F;refine Call_Name rfl (Aq (hg A zz s zy g o F) fun v s₁ q=>?_);have e1:=q.val;subst e1;have F1:=F.ext q.ext;refine B9 (zz:=zz) F1.toBase.h0 (Nt hK hmk) (hb zz) (ha A zz s₁ zy g o F1) fun vs s2 q2=>?_;have F2:=F1.ext q2.ext;obtain⟨hh,gn,d,t,os⟩:=s2;have Y:=makes_of (M:=model V w) (HH hK F2) hmk;have ex:Ext hh ((hh.push emptyDict).push (instObj C hh.objs.size)):=(An _ _).trans (An _ _);have hsz:(hh.push emptyDict).objs.size=hh.objs.size+1:=Heap.size_push ..;have n0:hh.get? hh.objs.size=none:=CA (le_refl _);have n1:hh.get? (hh.objs.size+1)=none:=CA (le_succ _);have a0:((hh.push emptyDict).push (instObj C hh.objs.size)).get? hh.objs.size=some emptyDict:=Heap.get?_push_of_some _ (Heap.get?_push_size _ rfl);have a1:((hh.push emptyDict).push (instObj C hh.objs.size)).get? (hh.objs.size+1)=some (Bg C hh.objs.size #[]):=by
  have:=Heap.get?_push_size (hh.push emptyDict) (o:=instObj C hh.objs.size) rfl;rwa [hsz] at this
 let L:Aw:=[(hh.objs.size+1,Bg C hh.objs.size #[]),(hh.objs.size,emptyDict)]
 have hLn:∀p∈L,hh.get? p.1=none:=fun p hp=>by
  rcases BF hp with rfl|hp
  ·exact n1
  ·rw[AU hp];exact n0
 have hLa:∀p∈L,((hh.push emptyDict).push (instObj C hh.objs.size)).get? p.1=some p.2:=fun p hp=>by
  rcases BF hp with rfl|hp
  ·exact a1
  ·(refine(AU hp).symm▸ ?_);exact a0
 have F3:Fm H0 (L.map (·.1)++zy) zx zz σ ((hh.push emptyDict).push (instObj C hh.objs.size)):=F2.more ex (fun b m=>by
   refine Ad (Ct m) fun p hp x3=>?_;subst x3;exact hLn p hp) fun b m=>by
   refine Ad (Ct m) fun p hp x3=>?_;subst x3;exact⟨_,hLa p hp⟩
 have nl:∀p∈L,p.1≠zz.locals:=fun p hp q=>by
  refine Ad F2.ns fun m x2 Z=>?_;rcases x2 with ⟨oo,es,ep,e1,r⟩;have:=hLn p hp;rw[q] at this;have e1':hh.get? zz.locals=some oo:=e1;rw[e1'] at this;exact E4 this
 have nc:∀p∈L,∀c∈zz.cells,p.1≠c.2:=fun p hp c hc q=>by
  refine B8 (F2.cells c hc) fun v oo e1 Z=>?_;have:=hLn p hp;rw[q] at this;have e1':hh.get? c.2=some oo:=e1;rw[e1'] at this;exact E4 this
 have F4:Fm H0 (L.map (·.1)++zy) (L++zx) zz σ ((hh.push emptyDict).push (instObj C hh.objs.size)):={F3 with
  ledh:=fun p hp=>by
   rcases Cx hp with hp|hp
   ·exact mem_append_left _ (mem_map_of_mem (f:=(·.1)) hp)
   ·exact F3.ledh p hp
  ledg:=fun p hp=>by
   rcases Cx hp with hp|hp
   ·exact hLa p hp
   ·exact F3.ledg p hp
  ledoff:=fun p hp=>by
   rcases Cx hp with hp|hp
   ·exact⟨nl p hp,nc p hp⟩
   ·exact F3.ledoff p hp}
 have hrest:∀p∈zx,p∈L++zx∧p.1∉L.map (·.1):=fun p hp=>⟨mem_append_right _ hp,fun m=>by
  refine Ad (Ct m) fun p' hp' e=>?_;have:=hLn p' hp';rw[e] at this;have e1:hh.get? p.1=some p.2:=F2.ledg p hp;rw[e1] at this;exact E4 this⟩
 have mv:MeansAll (vis ((hh.push emptyDict).push (instObj C hh.objs.size)) (L.map (·.1)++zy)) (.ref (hh.objs.size+1)::vs) (.v (.ref (hh.objs.size+1))::xs):=⟨rfl,MeansAll.ext (DQ ex fun b m=>by
  refine Ad (Ct m) fun p hp x3=>?_;subst x3;exact hLn p hp) q2.val⟩
 show wpAny _ A (call (.ref C) vs) _ _ _;refine wpAny_call (make_core (init:=.ref fI) Y (looks_findIn (HH hK F2) hi) (fun self=>bind_fn (HH hK F2) self hft) (.inl rfl) ?_);refine codeAny_mono (hinit (hh.objs.size+1) hh.objs.size (ne_of_lt (lt_succ_self _)) _ ⟨(hh.push emptyDict).push (instObj C hh.objs.size),gn,d,t,os⟩ (L.map (·.1)++zy) (.ref (hh.objs.size+1)::vs) g.tc F4.toBase ⟨fun p hp=>F4.ledh p (mem_append_left _ hp),hLa⟩ mv) fun r s' z=>?_;cases r with
 |error e=>exact z.elim
 |ok fl=>
  cases fl with
  |next=>exact z.elim
  |brk=>exact z.elim
  |cont=>exact z.elim
  |ret v=>
   have hv:v=.none:=by
    obtain⟨_,_,_,_,_,_,_,_,_,_,_,p⟩:=z;exact p.1
   refine⟨hv,?_⟩;have z':CP H0 ⟨(hh.push emptyDict).push (instObj C hh.objs.size),gn,d,t,os⟩ (L.map (·.1)++zy) L (fun Z v L'=>v=.none∧(Θ (hh.objs.size+1) hh.objs.size L'∧∀p∈zx,∀q∈L',p.1≠q.1)) v s':=by
    obtain⟨h',tk,zy',L',e,k,B,LO,m1,m2,m3,p⟩:=z;refine⟨h',tk,zy',L',e,k,B,LO,m1,m2,m3,p.1,p.2,fun p hp q hq e=>?_⟩;have ep:hh.get? p.1=some p.2:=F2.ledg p hp;rcases m3 q hq with m|m
    ·refine Ad (Ct m) fun p' hp' e'=>?_
     have:=hLn p' hp';rw[e',←e,ep] at this;exact E4 this
    ·have:=ex _ _ ep
     rw[e] at this;rw[show(((hh.push emptyDict).push (instObj C hh.objs.size)).get? q.1)=none from m] at this;exact CE this
   have gp:=GP.of_cp F4 (fun p hp=>mem_append_left _ hp) hrest z';have gp2:GP H0 ⟨(hh.push emptyDict).push (instObj C hh.objs.size),gn,d,t,os⟩ (L.map (·.1)++zy) zz (L++zx) (fun g (v:Value) σ' zx'=>σ'=σ∧∃a d L',v=Value.ref a∧(Θ a d L'∧∀p∈zx,∀q∈L',p.1≠q.1)∧zx'=L'++zx) (Value.ref (hh.objs.size+1)) s':=by
    obtain⟨h',tk,zy',σ',zx',e,k,F',m1,m2,m3,e2,L',p,e3⟩:=gp;exact⟨h',tk,zy',σ',zx',e,k,F',m1,m2,m3,e2,_,_,L',rfl,p.2,e3⟩
   refine GP.backP F q (GP.backP F1 q2 ?_);exact GP.glue (t₁:=t) F2 (ex.keep _) F4 (fun Z m=>mem_append_right _ m) (fun b m=>by
    rcases Cx m with m|m
    ·refine Ad (Ct m) fun p hp x3=>?_;subst x3;exact .inr (hLn p hp)
    ·exact .inl m) (fun p hp=>by
    rcases Cx hp with hp|hp
    ·exact .inr (hLn p hp)
    ·exact .inl (mem_map_of_mem hp)) gp2
end
inductive LO(vs:List Value)(o:Obj):Prop
 |mk:∀k,o=W.listOf (toArray vs) k->LO vs o
theorem ownL_lo{ds:List PyData}{o:Obj}:OwnL ds o↔∃vs,LO vs o∧F2 (fun v d=>SF d v) vs ds:=⟨fun⟨vs,k,e,f⟩=>⟨vs,⟨k,e⟩,f⟩,fun⟨vs,⟨k,e⟩,f⟩=>⟨vs,k,e,f⟩⟩
theorem GP.next{H0:Heap}{s s':Shared}{zy:List Addr}{zz:Env}{zx:Aw}{α β:Type}{Ψ:Heap->α->AN->Aw->Prop}{Φ:Heap->β->AN->Aw->Prop}{a:α}{b:β}(x:GP H0 s zy zz zx Ψ a s')(h:∀g σ' zx',Ψ g a σ' zx'->Φ g b σ' zx'):GP H0 s zy zz zx Φ b s':=by
 obtain⟨h',tk,zy',σ',zx',e,k,F,m1,m2,m3,p⟩:=x;exact⟨h',tk,zy',σ',zx',e,k,F,m1,m2,m3,h _ _ _ p⟩
section
variable{K:Frag}
theorem I1{vs:List Value}{v:Value}{k:Nat}:Obj.mapSeq (fun xs=>xs.push v) (W.listOf (toArray vs) k)=W.listOf (toArray (vs++[v])) (k+1):=by simp[Obj.mapSeq]
theorem Fx{e arg:Expr}{pa pos pos':Pos}{a:Addr}{ob:Obj}{vs:List Value}{Ψ:Heap->Value->AN->Aw->Prop}(he:Am V w H0 n sc σ zx e (.v (.ref a)))(ho:(a,ob)∈zx)(hl:LO vs ob)(harg:GS V w H0 n sc σ zx (eval arg) Ψ)
  (hk:∀g v σ₁ zx₁,Ψ g v σ₁ zx₁->(a,ob)∈zx₁)(hz:vs.length≤sizeLine)
  (hbase:∀zz,attributeBase e "append" zz (eval e zz)=eval e zz)(hline:(pa.endLine==pos.line)=true)(hs:∀zz,starEach [arg] zz=[(false,eval arg zz)])(hsw:∀zz,swapsWith (.Call (.Attribute e "append" pa) [arg] [] pos) none pos'.line zz=pure false):
  GT V w H0 n sc σ zx (.Expr (.Call (.Attribute e "append" pa) [arg] [] pos) pos') (fun Z fl σ' zx'=>fl=.next∧∃g1 v zx₁ o',Ψ g1 v σ' zx₁∧LO (vs++[v]) o'∧zx'=Ak a o' zx₁):=by
 intro A zz s zy g oo F;obtain⟨k,rfl⟩:=hl;refine wpAny_Expr_any ?_ (CD oo) (hsw zz);refine Call_method1 (hbase _) (hs zz) hline (Aq (he A zz s zy g oo F) fun u s₁ q=>?_);have e1:=q.val;subst e1;have F1:=F.ext q.ext;refine⟨"list","list.append",PySem.F.plainAttrs_list,PySem.F.slot_list_append,PySem.F.type_list_append,⟨_,F1.ledg _ ho,rfl⟩,(fun b e=>by injection e with e;subst e;exact⟨_,F1.ledg _ ho,rfl⟩),?_⟩;refine P.append_list (Ah (harg A zz s₁ zy g oo F1) (fun v s2 q2=>?_) fun Z Z f=>f);refine GQ (GP.back (α:=Flow) F1 q2) fun zy2 σ2 zx2 F2 p2 Z back2=>?_;have ho2:=hk _ _ _ _ p2;refine⟨toArray vs,k,by assumption,F2.ledg _ ho2,?_⟩;exact GP.backP F q (back2 _ _ _ (GP.upd F2 ho2 (by rw[I1];rfl) ⟨rfl,_,v,zx2,_,p2,⟨k+1,I1⟩,rfl⟩))
theorem Pr{e:Expr}{pa pos pos':Pos}{a:Addr}{ob:Obj}{vs:List Value}(he:Am V w H0 n sc σ zx e (.v (.ref a)))(ho:(a,ob)∈zx)(hl:LO vs ob)(hz:vs.length≤sizeLine)
  (hbase:∀zz,attributeBase e "clear" zz (eval e zz)=eval e zz)(hline:(pa.endLine==pos.line)=true)(hsw:∀zz,swapsWith (.Call (.Attribute e "clear" pa) [] [] pos) none pos'.line zz=pure false):
  GT V w H0 n sc σ zx (.Expr (.Call (.Attribute e "clear" pa) [] [] pos) pos') (fun Z fl σ' zx'=>fl=.next∧σ'=σ∧∃o',LO [] o'∧zx'=Ak a o' zx):=by
 intro A zz s zy g oo F;obtain⟨k,rfl⟩:=hl;refine wpAny_Expr_any ?_ (CD oo) (hsw zz);refine Call_method0 (hbase _) hline (Aq (he A zz s zy g oo F) fun u s₁ q=>?_);have e1:=q.val;subst e1;have F1:=F.ext q.ext;refine⟨"list","list.clear",PySem.F.plainAttrs_list,PySem.F.slot_list_clear,PySem.F.type_list_clear,⟨_,F1.ledg _ ho,rfl⟩,(fun b e=>by injection e with e;subst e;exact⟨_,F1.ledg _ ho,rfl⟩),?_⟩;refine P.clear_list (n:=k) (F1.ledg _ ho) ?_ (by assumption);exact GP.backP F q (GP.upd F1 ho rfl ⟨rfl,rfl,_,⟨_,rfl⟩,rfl⟩)
theorem HL:(emptyDict).IsDictOf (DN V w) []:=⟨#[],0,⟨rfl,rfl,rfl⟩,rfl,fun e he=>by simp at he,.nil,by simp⟩
def TB(V:Program)(w:World)(H0:Heap)(n:Nat)(sc:Scope)(σ:AN)(zx:Aw)(e:Expr)(Q:Addr->Obj->Prop):Prop:=
 ∀A zz s zy,Good n A->EnvOk sc zz->Fm H0 zy zx zz σ s.heap->wpAny (model V w) A (eval e zz) (fun v s'=>∃h' tk a o,s'={s with heap:=h',toks:=tk}∧Ext s.heap h'∧v=.ref a∧h'.get? a=some o∧s.heap.get? a=none∧Q a o) CO s
theorem KL{hm:∃o,H0.get? mainGlobals=some o}{zy:List Addr}{h:Heap}(B:Base H0 zy h):(h.objs.size==sysModules)=false:=by
 refine ex1 hm fun o q=>?_;have:mainGlobals<h.objs.size:=Heap.lt_size (B.h0 _ _ q);have h3:(3:Nat)<h.objs.size:=this;exact beq_eq_false_iff_ne.mpr (fun e=>by have e:h.objs.size=1:=e;lia)
theorem KM{pos:Pos}(hm:∃o,H0.get? mainGlobals=some o):TB V w H0 n sc σ zx (.Dict [] [] pos) (fun a o=>o=emptyDict∧(a==sysModules)=false):=by
 intro A zz s zy g o F;refine wpAny_Dict_empty ⟨_,_,_,_,rfl,An _ _,rfl,Heap.get?_push_size _ rfl,CA (le_refl _),rfl,KL (hm:=hm) F.toBase⟩
theorem JH{e:Expr}{Q:Addr->Obj->Prop}(h:TB V w H0 n sc σ zx e Q):GS V w H0 n sc σ zx (eval e) (fun Z v σ' zx'=>σ'=σ∧∃a o,v=.ref a∧Q a o∧zx'=(a,o)::zx∧(∀p∈zx,p.1≠a)∧∀b o,H0.get? b=some o->a≠b):=by
 intro A zz s zy g o F;refine Ah (h A zz s zy g o F) (fun v s₁ q=>?_) fun Z Z f=>f;refine OJ q fun h₁ t₁ a ob h9=>?_;refine Tt h9 fun x5 ex x7 ha hn hq=>?_;clear h9;try clear q;subst x5;subst x7
 have F1:Fm H0 ([a]++zy) zx zz σ h₁:=F.more ex (fun b m=>by rw[AU m];exact hn) fun b m=>by(refine(AU m).symm▸ ?_);exact⟨ob,ha⟩
 have nl:a≠zz.locals:=fun q=>by refine Ad F.ns fun m x2 Z=>?_;rcases x2 with ⟨oo,es,ep,e1,r⟩;rw[←q,hn] at e1;exact CE e1
 have nc:∀q∈zz.cells,a≠q.2:=fun q hq e=>by refine B8 (F.cells q hq) fun v oo e1 Z=>?_;rw[←e,hn] at e1;exact CE e1
 have F2:Fm H0 ([a]++zy) ((a,ob)::zx) zz σ h₁:={F1 with
  ledh:=fun p hp=>by
   rcases BF hp with rfl|hp
   ·exact mem_cons_self
   ·exact F1.ledh p hp
  ledg:=fun p hp=>by
   rcases BF hp with rfl|hp
   ·exact ha
   ·exact F1.ledg p hp
  ledoff:=fun p hp=>by
   rcases BF hp with rfl|hp
   ·exact⟨nl,nc⟩
   ·exact F1.ledoff p hp}
 refine⟨h₁,t₁,[a]++zy,σ,(a,ob)::zx,rfl,ex.keep _,F2,fun b m=>mem_append_right _ m,fun b m=>?_,fun p hp=>?_,rfl,a,ob,rfl,hq,rfl,fun p hp e=>?_,fun b o' e q=>?_⟩
 ·rcases Cx m with m|m
  ·(refine(AU m).symm▸ ?_);exact .inr hn
  ·exact .inl m
 ·rcases BF hp with rfl|hp
  ·exact .inr hn
  ·exact .inl (mem_map_of_mem hp)
 ·have:=F.ledg p hp
  rw[e,hn] at this;exact CE this
 ·have:=F.toBase.h0 _ _ e
  rw[←q,hn] at this;exact CE this
theorem I2{e:Expr}{Q:Obj->Prop}(h:J3 V w H0 n sc σ zx e Q):GS V w H0 n sc σ zx (eval e) (fun Z v σ' zx'=>σ'=σ∧∃a o,v=.ref a∧Q o∧zx'=(a,o)::zx∧(∀p∈zx,p.1≠a)∧∀b o,H0.get? b=some o->a≠b):=JH (Q:=fun Z=>Q) h
theorem Os{e:Expr}{Q:Obj->Prop}(h:J3 V w H0 n sc σ zx e Q):GS V w H0 n sc σ zx (eval e) (fun Z v σ' zx'=>σ'=σ∧∃a o,v=.ref a∧Q o∧zx'=(a,o)::zx∧(∀p∈zx,p.1≠a)):=AV (I2 h) fun Z Z Z Z ⟨e,a,o,p1,p2,p3,p4,_⟩=>⟨e,a,o,p1,p2,p3,p4⟩
theorem JI{α:Type}{s:Shared}{zy:List Addr}{zz:Env}{d:Addr}{ob:Obj}{h':Heap}{tk:Nat}{kvs:List (Str×Value)}{Ψ:Heap->α->AN->Aw->Prop}{r:α}(F:Fm H0 zy zx zz σ s.heap)(ho:(d,ob)∈zx)(hD:h'.DictOf (DN V w) d kvs)(hsb:Heap.SameBut d s.heap h')
  (h:∀g o',o'.IsDictOf (DN V w) kvs->Ψ g r σ (Ak d o' zx)):GP H0 s zy zz zx Ψ r {s with heap:=h',toks:=tk}:=by
 refine Ad (Heap.dictOf_iff.mp hD) fun o' e' hi=>?_;exact GP.mut F ho (AF hsb) e' (h _ _ hi)
theorem Nu{e k value:Expr}{p pos:Pos}{d:Addr}{ob:Obj}{kvs:List (Str×Value)}{x:Str}{Ψ:Heap->Value->AN->Aw->Prop}(hv:GS V w H0 n sc σ zx (eval value) Ψ)
  (hr:∀g v σ₁ zx₁,Ψ g v σ₁ zx₁->Am V w H0 n sc σ₁ zx₁ e (.v (.ref d))∧Am V w H0 n sc σ₁ zx₁ k (.d (.str x))∧(d,ob)∈zx₁)(hl:ob.IsDictOf (DN V w) kvs)(hz:kvs.length≤sizeLine)(hs:∀zz,swapsWith value (some (.Subscript e k p)) pos.line zz=pure false):
  GT V w H0 n sc σ zx (.Assign [.Subscript e k p] value pos) (fun Z fl σ' zx'=>fl=.next∧∃g1 v zx₁ o',Ψ g1 v σ' zx₁∧o'.IsDictOf (DN V w) (stored kvs x v)∧zx'=Ak d o' zx₁):=by
 intro A zz s zy g o F;refine wpAny_Assign_Subscript (env:=zz) (Ah (hv A zz s zy g o F) (fun v s₁ q=>?_) fun Z Z f=>f) (hs zz);refine GQ (GP.back (α:=Flow) F q) fun zy1 σ₁ zx₁ F1 p1 Z back1=>?_;refine CZ (hr _ _ _ _ p1) fun he hk ho=>?_;refine Aq (he A zz s₁ zy1 g o F1) fun u s2 q2=>?_;have e2:=q2.val;subst e2;have F2:=F1.ext q2.ext;refine Aq (hk A zz s2 zy1 g o F2) fun u s3 q3=>?_;refine ex1 (AR q3.val) fun t x2=>?_;subst x2;have F3:=F2.ext q3.ext;refine wpAny_setItem_pairs (knd:=DN V w) (Ev x t) (EG (F3.ledg _ ho) hl) (fun h' hD hsb=>?_) hz;exact back1 _ _ _ (GP.backP F1 q2 (GP.backP F2 q3 (JI F3 ho hD hsb fun Z o' hi=>⟨rfl,_,v,zx₁,o',p1,hi,rfl⟩)))
theorem Mj{e k value:Expr}{y:Str}{p py pos:Pos}{d:Addr}{ob:Obj}{kvs:List (Str×Value)}{x:Str}{Ψ:Heap->Value->AN->Aw->Prop}(hv:GS V w H0 n sc σ zx (eval value) Ψ)
  (hr:∀g v σ₁ zx₁,Ψ g v σ₁ zx₁->Am V w H0 n sc σ₁ zx₁ e (.v (.ref d))∧Am V w H0 n sc σ₁ zx₁ k (.d (.str x))∧(d,ob)∈zx₁)(hl:ob.IsDictOf (DN V w) kvs)(hz:kvs.length≤sizeLine)(hy:Az sc y)
  (hw:∀zz,EnvOk sc zz->swappedStores [.Subscript e k p,.Name y py] value zz=pure none):
  GT V w H0 n sc σ zx (.Assign [.Subscript e k p,.Name y py] value pos) (fun Z fl σ' zx'=>fl=.next∧∃g1 v σ₁ zx₁ o',Ψ g1 v σ₁ zx₁∧o'.IsDictOf (DN V w) (stored kvs x v)∧σ'=(y,.v v)::σ₁∧zx'=Ak d o' zx₁):=by
 revert hv hr hl hz hy hw;revert Ψ;revert kvs x;revert V w H0 n sc σ zx e k value y p py pos d ob;refine no_implicit_lambda% (FM (by exact((((default,w0),default),default),default)) ?_);generalize CF _ _=t9;generalize t9.1.1.1.1=V,t9.1.1.1.2=w,t9.1.1.2.1=H0,t9.1.1.2.2=n,t9.1.2.1.1=sc,t9.1.2.1.2=σ,t9.1.2.2.1=zx,t9.1.2.2.2=e,t9.2.1.1.1=k,t9.2.1.1.2=value,t9.2.1.2.1=y,t9.2.1.2.2=p,t9.2.2.1.1=py,t9.2.2.1.2=pos,t9.2.2.2.1=d,t9.2.2.2.2=ob;refine no_implicit_lambda% (I8 (by exact default) ?_);generalize Ip _ _=t9;generalize t9.1=kvs,t9.2=x;refine no_implicit_lambda% (Io (default) ?_);generalize HR _ _=Ψ;intro hv hr hl hz hy hw;intro A zz s zy g o F;show wpAny _ A (standAt pos >>=fun Z=>swapsWithSole [.Subscript e k p,.Name y py] value pos.line zz >>=fun b=>if b=true then _ else _) _ _ s;refine Ac (wpAny_standAt (Ac ?_));show wpAny _ A (pure false) _ _ s;refine Ag ?_;rw[if_neg Bool.false_ne_true];refine Ac (Ah (hv A zz s zy g o F) (fun v s₁ q=>?_) fun Z Z f=>f);refine GQ (GP.back (α:=Flow) F q) fun zy1 σ₁ zx₁ F1 p1 Z back1=>?_;refine CZ (hr _ _ _ _ p1) fun he hk ho=>?_;refine Ac ?_;rw[hw zz o];refine Ag ?_;show wpAny _ A (assignAll v [assign (.Subscript e k p) zz,assign (.Name y py) zz] >>=fun Z=>pure Flow.next) _ _ s₁;refine Ac ?_;show wpAny _ A (holding [v] (assign (.Subscript e k p) zz v) >>=fun Z=>assign (.Name y py) zz v) _ _ s₁;refine Ac (wpAny_holding ?_);rw[assign_Subscript];refine Ac (wpAny_holding (Aq (he A zz s₁ zy1 g o F1) fun u s2 q2=>?_));have e2:=q2.val;subst e2;have F2:=F1.ext q2.ext;refine Ac (wpAny_holding (Aq (hk A zz s2 zy1 g o F2) fun u s3 q3=>?_));refine ex1 (AR q3.val) fun t x2=>?_;subst x2;have F3:=F2.ext q3.ext;refine Ac (wpAny_standAt (Ac (wpAny_holding (wpAny_setItem_pairs (knd:=DN V w) (Ev x t) (EG (F3.ledg _ ho) hl) (fun h' hD hsb=>?_) hz))));refine wpAny_release ?_;refine Ad (Heap.dictOf_iff.mp hD) fun o' e' hi=>?_;have gp:GP H0 s3 zy1 zz zx₁ (fun Z (Z:Unit) σ' zx'=>σ'=σ₁∧zx'=Ak d o' zx₁) () {s3 with heap:=h',toks:=s3.toks+1}:=GP.mut F3 ho (AF hsb) e' ⟨rfl,rfl⟩;refine GQ (GP.back (α:=Flow) F3 gp) fun zy4 σ4 zx4 F4 x5 Z back4=>?_;rcases x5 with ⟨rfl,rfl⟩;refine Ah (Af (V:=V) (w:=w) (H0:=H0) (n:=n) (e:=.v v) hy A zz _ zy4 _ σ4 v g o F4 rfl) (fun Z s5 q5=>Ag ?_) fun Z Z f=>f;refine Bh q5 fun h5 t5 x3 k5 F5=>?_;try clear q5;subst x3
 exact back1 _ _ _ (GP.backP F1 q2 (GP.backP F2 q3 (back4 _ _ _ ⟨h5,t5,zy4,_,_,rfl,k5.more (AL zz _ _),F5,fun Z m=>m,fun Z m=>.inl m,fun p m=>.inl (mem_map_of_mem m),rfl,_,v,σ4,zx₁,o',p1,hi,rfl,rfl⟩)))
end
noncomputable abbrev NM:=List Nat
inductive Pl where
 |S|dS|D|R
 |I(x:NM)|e(x:NM)|T(x:NM)
structure Rep where
 at':Pl->Addr
 names:List NM
 np:NM->Int
 succ:NM->List NM
 ready:Option (List NM)
 passed:Int
 fin:Int
noncomputable def w1:Rep:=⟨fun Z=>0,[],fun Z=>0,fun Z=>[],none,0,0⟩
noncomputable def Rep.ok (r:Rep):Pl->Prop
 |.R=>r.ready.isSome=true
 |.I x|.e x|.T x=>x∈r.names
 |_=>True
noncomputable def BE (xs:List NM):List PyData:=xs.map fun x=>.str (tx x)
theorem HM{l:List NM}{i:Nat}{e:Ent}(he:((BE l).map Ent.d)[i]? =some e):∃p,l[i]? =some p∧e=.d (.str (tx p)):=by
 rw[getElem?_map,Option.map_eq_some_iff] at he;refine Ad he fun d hd x3=>?_;try clear he;subst x3
 rw[BE,getElem?_map,Option.map_eq_some_iff] at hd;refine Ad hd fun p hp x3=>?_;try clear hd;subst x3
 exact⟨p,hp,rfl⟩
noncomputable def Rep.rv (r:Rep):Value:=match r.ready with|none=>.none|some _=>.ref (r.at' .R)
noncomputable def Rep.fields (r:Rep) (t1 t2:Tok):List (Str×Value):=[(S "_node2info",.ref (r.at' .D)),(S "_ready_nodes",r.rv),(S "_npassedout",.int r.passed t1),(S "_nfinished",.int r.fin t2)]
structure Cls2 where
 C1:Addr
 C2:Addr
section
variable(V:Program)(w:World)(c:Cls2)
noncomputable def Rep.shape (r:Rep) (o:Obj):Pl->Prop
 |.S=>o=Bg c.C1 (r.at' .dS) #[]
 |.dS=>∃t1 t2,FD (r.fields t1 t2) o
 |.D=>o.IsDictOf (DN V w) (r.names.map fun x=>(tx x,.ref (r.at' (.I x))))
 |.R=>OwnL (BE (r.ready.getD [])) o
 |.I x=>∃t1 t2,o=Bg c.C2 (r.at' (.e x)) #[some (.str (tx x) t1),some (.int (r.np x) t2),some (.ref (r.at' (.T x)))]
 |.e _=>True
 |.T x=>OwnL (BE (r.succ x)) o
structure RepOk(r:Rep)(L:Aw):Prop where
 hold:∀p,r.ok p->∃o,(r.at' p,o)∈L∧r.shape V w c o p
 apart:∀p q,r.ok p->r.ok q->r.at' p=r.at' q->p=q
 lo:(r.at' .D==sysModules)=false
end
theorem Au{a b:Addr}{o o':Obj}{zx:Aw}(h:(b,o)∈zx)(hn:b≠a):(b,o)∈Ak a o' zx:=mem_cons_of_mem _ (mem_filter.mpr ⟨h,by simpa using hn⟩)
theorem BZ{a:Addr}{o':Obj}{zx:Aw}:(a,o')∈Ak a o' zx:=mem_cons_self
section
variable{V:Program}{w:World}{c:Cls2}{r r':Rep}{L:Aw}
theorem RepOk.upd(h:RepOk V w c r L){p₀:Pl}{o':Obj}(hat:r'.at'=r.at')(hok:∀p,r'.ok p->r.ok p)(h0:r.ok p₀)(hs:r'.shape V w c o' p₀)(ho:∀p,p≠p₀->r'.ok p->∀o,r.shape V w c o p->r'.shape V w c o p):RepOk V w c r' (Ak (r.at' p₀) o' L) where
 hold:=fun p hp=>by
  by_cases e:p=p₀
  ·subst e
   exact⟨o',by rw[hat];exact BZ,hs⟩
  ·refine Ad (h.hold p (hok p hp)) fun o m sh=>?_
   exact⟨o,by rw[hat];exact Au m fun q=>e (h.apart _ _ (hok p hp) h0 q),ho p e hp o sh⟩
 apart:=fun p q hp hq e=>h.apart p q (hok p hp) (hok q hq) (by rw[hat] at e;exact e)
 lo:=by rw[hat];exact h.lo
theorem RepOk.mono(h:RepOk V w c r L){L':Aw}(hs:Cf L L'):RepOk V w c r L':=⟨fun p hp=>let⟨o,m,s⟩:=h.hold p hp;⟨o,hs _ m,s⟩,h.apart,h.lo⟩
end
structure ClsK(K:Frag)(c:Cls2):Prop where
 c1:DCls K c.C1
 c2:SCls K c.C2
 f1:B6 K c.C1 (S "_node2info")
 f2:B6 K c.C1 (S "_ready_nodes")
 f3:B6 K c.C1 (S "_npassedout")
 f4:B6 K c.C1 (S "_nfinished")
 s0:∃p,SlotAt K c.C2 (S "node") 0 p
 s1:∃p,SlotAt K c.C2 (S "npredecessors") 1 p
 s2:∃p,SlotAt K c.C2 (S "successors") 2 p
section
variable{K:Frag}{c:Cls2}{r:Rep}
theorem JJ{e:Expr}{pos:Pos}(hK:K.In H0)(ck:ClsK K c)(h:RepOk V w c r zx)(he:Am V w H0 n sc σ zx e (.v (.ref (r.at' .S))))(ha:DG e (S "_node2info") pos):Am V w H0 n sc σ zx (.Attribute e (S "_node2info") pos) (.v (.ref (r.at' .D))):=by
 refine Ad (h.hold .S trivial) fun o m x3=>?_;subst x3;obtain⟨o,m',t1,t2,f⟩:=h.hold .dS trivial;exact HI hK ck.c1 he m m' f ck.f1 rfl rfl ha
theorem JK{e:Expr}{pos:Pos}(hK:K.In H0)(ck:ClsK K c)(h:RepOk V w c r zx)(he:Am V w H0 n sc σ zx e (.v (.ref (r.at' .S))))(ha:DG e (S "_ready_nodes") pos):Am V w H0 n sc σ zx (.Attribute e (S "_ready_nodes") pos) (.v r.rv):=by
 refine Ad (h.hold .S trivial) fun o m x3=>?_;subst x3;obtain⟨o,m',t1,t2,f⟩:=h.hold .dS trivial;exact HI hK ck.c1 he m m' f ck.f2 rfl (by unfold Rep.rv;cases r.ready<;> rfl) ha
theorem Ps{e:Expr}{pos:Pos}(hK:K.In H0)(ck:ClsK K c)(h:RepOk V w c r zx)(he:Am V w H0 n sc σ zx e (.v (.ref (r.at' .S))))(ha:DG e (S "_npassedout") pos):Am V w H0 n sc σ zx (.Attribute e (S "_npassedout") pos) (.d (.int r.passed)):=by
 refine Ad (h.hold .S trivial) fun o m x3=>?_;subst x3;obtain⟨o,m',t1,t2,f⟩:=h.hold .dS trivial;exact EX (HI hK ck.c1 he m m' f ck.f3 (v:=.int r.passed t1) rfl rfl ha)
theorem Uf{e:Expr}{pos:Pos}(hK:K.In H0)(ck:ClsK K c)(h:RepOk V w c r zx)(he:Am V w H0 n sc σ zx e (.v (.ref (r.at' .S))))(ha:DG e (S "_nfinished") pos):Am V w H0 n sc σ zx (.Attribute e (S "_nfinished") pos) (.d (.int r.fin)):=by
 refine Ad (h.hold .S trivial) fun o m x3=>?_;subst x3;obtain⟨o,m',t1,t2,f⟩:=h.hold .dS trivial;exact EX (HI hK ck.c1 he m m' f ck.f4 (v:=.int r.fin t2) rfl rfl ha)
theorem UW{e:Expr}{pos:Pos}{x:NM}(hK:K.In H0)(ck:ClsK K c)(h:RepOk V w c r zx)(hx:x∈r.names)(he:Am V w H0 n sc σ zx e (.v (.ref (r.at' (.I x)))))(ha:DG e (S "npredecessors") pos):Am V w H0 n sc σ zx (.Attribute e (S "npredecessors") pos) (.d (.int (r.np x))):=by
 obtain⟨o,m,t1,t2,rfl⟩:=h.hold (.I x) hx;refine Ad (h.hold (.e x) hx) fun o m' Z=>?_;refine ex1 ck.s1 fun p sp=>?_;exact EX (HJ hK ck.c2 he m m' sp (v:=.int (r.np x) t2) rfl rfl ha)
theorem Lx{e:Expr}{pos:Pos}{x:NM}(hK:K.In H0)(ck:ClsK K c)(h:RepOk V w c r zx)(hx:x∈r.names)(he:Am V w H0 n sc σ zx e (.v (.ref (r.at' (.I x)))))(ha:DG e (S "successors") pos):Am V w H0 n sc σ zx (.Attribute e (S "successors") pos) (.v (.ref (r.at' (.T x)))):=by
 obtain⟨o,m,t1,t2,rfl⟩:=h.hold (.I x) hx;refine Ad (h.hold (.e x) hx) fun o m' Z=>?_;refine ex1 ck.s2 fun p sp=>?_;exact HJ hK ck.c2 he m m' sp rfl rfl ha
end
noncomputable def Cv (k j:Nat):Stmt:=((AD (B7 k))[j]?).getD (.Pass default)
theorem Ug{v:Value}:Pq #[] 0 v=#[some v]:=by exact rfl
theorem Uh{u v:Value}:Pq #[some u] 1 v=#[some u,some v]:=by exact rfl
theorem Ui{u v y:Value}:Pq #[some u,some v] 2 y=#[some u,some v,some y]:=by exact rfl
section
variable{K:Frag}{c:Cls2}{r:Rep}
noncomputable abbrev Uj:Scope:=Ap (Cv 11 1)
def I3(c:Cls2)(x:NM)(a d:Addr)(L':Aw):Prop:=∃T t1 t2 oT oe,(a,Bg c.C2 d #[some (.str (tx x) t1),some (.int 0 t2),some (.ref T)])∈L'∧(d,oe)∈L'∧(T,oT)∈L'∧OwnL [] oT∧T≠a∧T≠d
theorem Pt{x:NM}{a d:Addr}(hne:d≠a)(hK:K.In H0)(ck:ClsK K c):
  GX V w H0 n Uj [(S "self",.v (.ref a)),(S "node",.d (.str (tx x)))] [(a,Bg c.C2 d #[]),(d,emptyDict)] (AD (Cv 11 1)) (fun Z fl Z zx'=>fl=.next∧I3 c x a d zx'):=by
 revert hne hK ck;revert d;revert V w H0 n K c x a;refine no_implicit_lambda% (HS (by exact(((default,w0),default),((default,⟨0,0⟩),default))) ?_);generalize FK _ _=t9;generalize t9.1.1.1=V,t9.1.1.2=w,t9.1.2.1=H0,t9.1.2.2=n,t9.2.1.1=K,t9.2.1.2=c,t9.2.2.1=x,t9.2.2.2=a;refine no_implicit_lambda% (Io (default) ?_);generalize HR _ _=d;intro hne hK ck;refine ex1 ck.s0 fun p0 s0=>?_;refine ex1 ck.s1 fun p1 s1=>?_;refine ex1 ck.s2 fun p2 s2=>?_;have vs:∀zx pos,Am V w H0 n Uj [(S "self",.v (.ref a)),(S "node",.d (.str (tx x)))] zx (.Name (S "self") pos) (.v (.ref a)):=fun zx pos=>Aa rfl rfl;refine AG (IZ (C:=c.C2) (x:=a) (dx:=d) (sl:=#[]) hK ck.c2 (FX (Aa (e:=.d (.str (tx x))) rfl rfl)) (fun g v σ₁ zx₁ q=>?_) s0 fun Z=>rfl) fun g σ' zx' q=>?_
 ·refine CZ q fun Z x2 x3=>?_;try clear q;subst x2;subst x3
  exact⟨vs _ _,.head _,emptyDict,.tail _ (.head _)⟩
 refine FH q fun g1 v zx₁ x4 x5=>?_;try clear q;rcases x4 with ⟨mv,rfl,rfl⟩;subst x5
 refine ex1 (AR mv) fun t1 x2=>?_;subst x2;rw[Ug];have hl1:Ak a (Bg c.C2 d #[some (.str (tx x) t1)]) [(a,Bg c.C2 d #[]),(d,emptyDict)]=[(a,Bg c.C2 d #[some (.str (tx x) t1)]),(d,emptyDict)]:=by simp[Ak,hne]
 rw[hl1];refine AG (IZ (C:=c.C2) (x:=a) (dx:=d) (sl:=#[some (.str (tx x) t1)]) hK ck.c2 (FX (Ao (i:=0))) (fun g v σ₁ zx₁ q=>?_) s1 fun Z=>rfl) fun g σ' zx' q=>?_
 ·refine CZ q fun Z x2 x3=>?_;try clear q;subst x2;subst x3
  exact⟨vs _ _,.head _,emptyDict,.tail _ (.head _)⟩
 refine FH q fun g1 v zx₁ x4 x5=>?_;try clear q;rcases x4 with ⟨mv,rfl,rfl⟩;subst x5
 refine ex1 (Ax mv) fun t2 x2=>?_;subst x2;rw[Uh];have hl2:Ak a (Bg c.C2 d #[some (.str (tx x) t1),some (.int 0 t2)]) [(a,Bg c.C2 d #[some (.str (tx x) t1)]),(d,emptyDict)]=[(a,Bg c.C2 d #[some (.str (tx x) t1),some (.int 0 t2)]),(d,emptyDict)]:=by simp[Ak,hne]
 rw[hl2];refine AG (IZ (C:=c.C2) (x:=a) (dx:=d) (sl:=#[some (.str (tx x) t1),some (.int 0 t2)]) hK ck.c2 (Os IY) (fun g v σ₁ zx₁ q=>?_) s2 fun Z=>rfl) fun g σ' zx' q=>AC fun g=>?_
 ·obtain⟨rfl,T,oT,rfl,_,rfl,_⟩:=q
  exact⟨vs _ _,.tail _ (.head _),emptyDict,.tail _ (.tail _ (.head _))⟩
 refine FH q fun g1 v zx₁ x4 x5=>?_;try clear q;rcases x4 with ⟨rfl,T,oT,rfl,hT,rfl,hnew⟩;subst x5
 rw[Ui];have n1:a≠T:=hnew _ (mem_cons_self);have n2:d≠T:=hnew (d,emptyDict) (.tail _ (.head _));refine⟨rfl,T,t1,t2,oT,emptyDict,BZ,Au (.tail _ (.tail _ (.head _))) hne,Au (.head _) (Ne.symm n1),hT,Ne.symm n1,Ne.symm n2⟩
end
noncomputable def Rep.with1 (r:Rep) (x:NM) (a d T:Addr):Rep:={r with
 at':=fun p=>match p with
  |.I y=>if y=x then a else r.at' (.I y)
  |.e y=>if y=x then d else r.at' (.e y)
  |.T y=>if y=x then T else r.at' (.T y)
  |p=>r.at' p
 names:=r.names++[x]
 np:=fun y=>if y=x then 0 else r.np y
 succ:=fun y=>if y=x then [] else r.succ y}
def Rep.Added(r:Rep)(x:NM)(r':Rep):Prop:=(x∈r.names∧r'=r)∨(x∉r.names∧∃a d T,r'=r.with1 x a d T)
theorem Rep.Added.old{r r':Rep}{x:NM}(h:r.Added x r'):∀p,r.ok p->r'.at' p=r.at' p:=by
 rcases h with ⟨_,rfl⟩|⟨hx,a,d,T,rfl⟩
 ·exact fun Z Z=>rfl
 ·intro p hp
  cases p with
  |I y=>exact if_neg fun q:y=x=>hx (by rw[←q];exact hp)
  |e y=>exact if_neg fun q:y=x=>hx (by rw[←q];exact hp)
  |T y=>exact if_neg fun q:y=x=>hx (by rw[←q];exact hp)
  |_=>rfl
theorem Rep.Added.mem{r r':Rep}{x:NM}(h:r.Added x r'):x∈r'.names:=by
 rcases h with ⟨hx,rfl⟩|⟨hx,a,d,T,rfl⟩
 ·exact hx
 ·exact mem_append_right _ mem_cons_self
theorem CY(f:NM->Value):∀(xs:List NM) (x:NM),valueAt (xs.map fun y=>(tx y,f y)) (tx x)=if x∈xs then some (f x) else none:=by
 intro xs
 induction xs with
 |nil=>
  intro x;exact rfl
 |cons y ys CY=>
  intro x;have ih:=CY x;unfold valueAt at ih ⊢;rw[map_cons,find?_cons]
  by_cases h:y=x
  ·subst h;simp
  ·have h1:decide (tx y=tx x)=false:=by simpa using fun q=>h (Ep q)
   rw[h1];simp only[ih,mem_cons,Ne.symm h,false_or]
theorem Pv{xs:List NM}(f:NM->Value){x:NM}(h:x∉xs):stored (xs.map fun y=>(tx y,f y)) (tx x) (f x)=(xs++[x]).map fun y=>(tx y,f y):=by
 rw[G5,map_append];rfl;intro m;rw[map_map] at m;refine Ad (Ct m) fun y hy e=>?_;exact h (Ep e▸hy)
section
variable{K:Frag}{c:Cls2}{r:Rep}
theorem Pw{x:NM}{a d:Addr}{L':Aw}{oD:Obj}(h:RepOk V w c r zx)(hx:x∉r.names)(hn:I3 c x a d L')(hdis:∀p∈zx,∀q∈L',p.1≠q.1)(hD:oD.IsDictOf (DN V w) (stored (r.names.map fun x=>(tx x,Value.ref (r.at' (.I x)))) (tx x) (.ref a)))(hda:d≠a):
  ∃r',r.Added x r'∧RepOk V w c r' (Ak (r.at' .D) oD (L'++zx))∧r'.at' (.I x)=a:=by
 revert h hx hn hdis hD hda;revert L' oD;revert V w zx c r x a d;refine no_implicit_lambda% (HS (by exact(((default,w0),(default,⟨0,0⟩)),((w1,default),default))) ?_);generalize FK _ _=t9;generalize t9.1.1.1=V,t9.1.1.2=w,t9.1.2.1=zx,t9.1.2.2=c,t9.2.1.1=r,t9.2.1.2=x,t9.2.2.1=a,t9.2.2.2=d;refine no_implicit_lambda% (I8 (by exact default) ?_);generalize Ip _ _=t9;generalize t9.1=L',t9.2=oD;intro h hx hn hdis hD hda;refine ex5 hn fun T t1 t2 oT oe h9=>?_;refine Tt h9 fun ha hd hT hTo hTa hTd=>?_;clear h9;refine Ad (h.hold .D trivial) fun oD0 mD Z=>?_;have nD:∀q∈L',q.1≠r.at' .D:=fun q hq e=>hdis _ mD q hq e.symm;have old:∀p,r.ok p->∀q∈L',r.at' p≠q.1:=fun p hp q hq=>by
  refine Ad (h.hold p hp) fun o m Z=>?_;exact hdis _ m q hq
 refine⟨r.with1 x a d T,.inr ⟨hx,a,d,T,rfl⟩,⟨fun p hp=>?_,fun p q hp hq e=>?_,h.lo⟩,if_pos rfl⟩
 ·have keep:∀p,r.ok p->p≠ .D->(r.with1 x a d T).at' p=r.at' p->(∀o,r.shape V w c o p->(r.with1 x a d T).shape V w c o p)->∃o,((r.with1 x a d T).at' p,o)∈Ak (r.at' .D) oD (L'++zx)∧(r.with1 x a d T).shape V w c o p:=fun p hp hne e hs=>by
   refine Ad (h.hold p hp) fun o m sh=>?_;exact⟨o,by rw[e];exact Au (mem_append_right _ m) fun q=>hne (h.apart _ _ hp trivial q),hs o sh⟩
  cases p with
  |S=>exact keep .S trivial (by intro q;exact GR Pl.ctorIdx q rfl) rfl fun o s=>s
  |dS=>exact keep .dS trivial (by intro q;exact GR Pl.ctorIdx q rfl) rfl fun o s=>s
  |D=>
   refine⟨oD,BZ,?_⟩;show oD.IsDictOf (DN V w) ((r.names++[x]).map fun y=>(tx y,Value.ref (if y=x then a else r.at' (.I y))));have e:=Pv (fun y=>Value.ref (if y=x then a else r.at' (.I y))) hx;rw[←e];have e2:(r.names.map fun y=>(tx y,Value.ref (if y=x then a else r.at' (.I y))))=r.names.map fun y=>(tx y,Value.ref (r.at' (.I y))):=by
    refine map_congr_left fun y hy=>?_;rw[if_neg fun q:y=x=>hx (by rw[←q];exact hy)]
   simp only[if_pos];rw[e2];simpa using hD
  |R=>exact keep .R hp (by intro q;exact GR Pl.ctorIdx q rfl) rfl fun o s=>s
  |I y=>
   by_cases hy:y=x
   ·subst hy
    refine⟨_,by show((if y=y then a else _),_)∈_;rw[if_pos rfl];exact Au (mem_append_left _ ha) (nD _ ha),t1,t2,?_⟩;show Bg c.C2 d _=Bg c.C2 (if y=y then d else _) #[_,some (.int (if y=y then 0 else _) t2),some (.ref (if y=y then T else _))];simp
   ·have hy':y∈r.names:=by
     have:y∈r.names++[x]:=hp;simpa [hy] using this
    refine keep (.I y) hy' (by intro q;exact GR Pl.ctorIdx q rfl) (if_neg hy) fun o ⟨u1,u2,s⟩=>⟨u1,u2,?_⟩;rw[s];show _=Bg c.C2 (if y=x then d else r.at' (.e y)) #[_,some (.int (if y=x then 0 else r.np y) u2),some (.ref (if y=x then T else r.at' (.T y)))];rw[if_neg hy,if_neg hy,if_neg hy]
  |e y=>
   by_cases hy:y=x
   ·subst hy
    exact⟨_,by show((if y=y then d else _),_)∈_;rw[if_pos rfl];exact Au (mem_append_left _ hd) (nD _ hd),trivial⟩
   ·have hy':y∈r.names:=by
     have:y∈r.names++[x]:=hp;simpa [hy] using this
    exact keep (.e y) hy' (by intro q;exact GR Pl.ctorIdx q rfl) (if_neg hy) fun o s=>trivial
  |T y=>
   by_cases hy:y=x
   ·subst hy
    refine⟨_,by show((if y=y then T else _),_)∈_;rw[if_pos rfl];exact Au (mem_append_left _ hT) (nD _ hT),?_⟩;show OwnL (BE (if y=y then [] else _)) oT;rw[if_pos rfl];exact hTo
   ·have hy':y∈r.names:=by
     have:y∈r.names++[x]:=hp;simpa [hy] using this
    refine keep (.T y) hy' (by intro q;exact GR Pl.ctorIdx q rfl) (if_neg hy) fun o s=>?_;show OwnL (BE (if y=x then [] else r.succ y)) o;rw[if_neg hy];exact s
 ·
  have cls:∀p,(r.with1 x a d T).ok p->(r.ok p∧(r.with1 x a d T).at' p=r.at' p)∨(p=.I x∧(r.with1 x a d T).at' p=a)∨(p=.e x∧(r.with1 x a d T).at' p=d)∨(p=.T x∧(r.with1 x a d T).at' p=T):=fun p hp=>by
   cases p with
   |I y=>
    by_cases hy:y=x
    ·subst hy;exact .inr (.inl ⟨rfl,if_pos rfl⟩)
    ·refine .inl ⟨?_,if_neg hy⟩
     have:y∈r.names++[x]:=hp;show y∈r.names;simpa [hy] using this
   |e y=>
    by_cases hy:y=x
    ·subst hy;exact .inr (.inr (.inl ⟨rfl,if_pos rfl⟩))
    ·refine .inl ⟨?_,if_neg hy⟩
     have:y∈r.names++[x]:=hp;show y∈r.names;simpa [hy] using this
   |T y=>
    by_cases hy:y=x
    ·subst hy;exact .inr (.inr (.inr ⟨rfl,if_pos rfl⟩))
    ·refine .inl ⟨?_,if_neg hy⟩
     have:y∈r.names++[x]:=hp;show y∈r.names;simpa [hy] using this
   |R=>exact .inl ⟨hp,rfl⟩
   |_=>exact .inl ⟨trivial,rfl⟩
  rcases cls p hp with ⟨h1,e1⟩|⟨rfl,e1⟩|⟨rfl,e1⟩|⟨rfl,e1⟩<;> rcases cls q hq with ⟨h2,e2⟩|⟨rfl,e2⟩|⟨rfl,e2⟩|⟨rfl,e2⟩<;> have e:=e1.symm.trans (e.trans e2)
  ·exact h.apart _ _ h1 h2 e
  ·exact absurd e (old _ h1 _ ha)
  ·exact absurd e (old _ h1 _ hd)
  ·exact absurd e (old _ h1 _ hT)
  ·exact absurd e.symm (old _ h2 _ ha)
  ·rfl
  ·exact absurd e.symm hda
  ·exact absurd e.symm hTa
  ·exact absurd e.symm (old _ h2 _ hd)
  ·exact absurd e hda
  ·rfl
  ·exact absurd e.symm hTd
  ·exact absurd e.symm (old _ h2 _ hT)
  ·exact absurd e hTa
  ·exact absurd e hTd
  ·rfl
end
section
variable{K:Frag}{c:Cls2}{r:Rep}
structure NodeK(V:Program)(w:World)(H0:Heap)(K:Frag)(c:Cls2):Prop where
 mkc:makesIn K c.C2=true
 init:∃fI fd,findIn K (.ref c.C2) (S "__init__")=some (some (.ref fI))∧typeIn K (.ref fI)=some (.type "function")∧DefG H0 fI fd Uj (AD (Cv 11 1))∧∀vs:List Value,vs.length=[S "self",S "node"].length->bindArgs fd ⟨vs,[]⟩=pure ([S "self",S "node"].zip vs)
 glob:GIs H0 (S "_NodeInfo") (.ref c.C2)
theorem SN{p p1 pos:Pos}{x:NM}(hK:K.In H0)(ck:ClsK K c)(nk:NodeK V w H0 K c)(hgl:BA sc (S "_NodeInfo")=true){y:Str}(hy:Am V w H0 (n+2) sc σ zx (.Name y p1) (.d (.str (tx x)))):
  GS V w H0 (n+2) sc σ zx (eval (.Call (.Name (S "_NodeInfo") p) [.Name y p1] [] pos)) (fun g v σ' zx'=>σ'=σ∧∃a d L',v=.ref a∧((I3 c x a d L'∧d≠a)∧∀p∈zx,∀q∈L',p.1≠q.1)∧zx'=L'++zx):=by
 refine ex2 nk.init fun fI fd h9=>?_;refine JX h9 fun h1 h2 D hb=>?_;clear h9;refine Q0 (n:=n+1) (xs:=[.d (.str (tx x))]) (Θ:=fun a d L'=>I3 c x a d L'∧d≠a) hK nk.mkc h1 h2 (DA nk.glob hgl) (Bk hy fun Z=>rfl) (fun a d hne=>?_) fun Z=>rfl;refine(Ew (x:=false) (ps:=[S "self",S "node"]) (xs':=[.v (.ref a),.d (.str (tx x))]) D (Cb hb rfl) rfl rfl (DU (AV (Pt hne hK ck) fun g fl σ' zx' q=>?_))).gc;refine BL q fun x1 x2=>?_;try clear q;revert x2;intro q;subst x1
 exact⟨rfl,q,hne⟩
noncomputable abbrev UX:Scope:=Ap (Cv 13 1)
theorem SO{x:NM}(hK:K.In H0)(ck:ClsK K c)(nk:NodeK V w H0 K c)(h:RepOk V w c r zx)(hz:r.names.length≤8):
  GX V w H0 (n+2) UX [(S "self",.v (.ref (r.at' .S))),(S "node",.d (.str (tx x)))] zx (AD (Cv 13 1)) (fun Z fl Z zx'=>∃r',r.Added x r'∧RepOk V w c r' zx'∧fl=.ret (.ref (r'.at' (.I x)))):=by
 revert hK ck nk h hz;revert x;revert V w H0 n zx K c r;refine no_implicit_lambda% (HS (by exact(((default,w0),default),(default,(⟨0,0⟩,w1)))) ?_);generalize FK _ _=t9;generalize t9.1.1.1=V,t9.1.1.2=w,t9.1.2.1=H0,t9.1.2.2=n,t9.2.1.1=zx,t9.2.1.2=K,t9.2.2.1=c,t9.2.2.2=r;refine no_implicit_lambda% (Io (default) ?_);generalize HR _ _=x;intro hK ck nk h hz;refine Ad (h.hold .D trivial) fun oD mD hD=>?_;have vs:∀{σ' pos},σ'.lookup (S "self")=some (.v (.ref (r.at' .S)))->Am V w H0 (n+2) UX σ' zx (.Name (S "self") pos) (.v (.ref (r.at' .S))):=fun h=>Aa h rfl;have hget:=CY (fun y=>Value.ref (r.at' (.I y))) r.names x;refine AG (R:=fun Z σ' zx'=>∃r',r.Added x r'∧RepOk V w c r' zx'∧σ'.lookup (S "result")=some (.v (.ref (r'.at' (.I x))))) (Fh (MW (x:=false) (Fg (KJ (y:=S "result") (v:=if x∈r.names then .ref (r.at' (.I x)) else .none) (Op (d:=r.at' .D) (x:=tx x) (JJ hK ck h (vs rfl) fun Z=>rfl) mD hD h.lo (Aa rfl rfl) (by rw[hget];split<;> rfl) (fun Z=>rfl) (by decide) fun Z=>rfl) (Ab rfl) (by split;exact .inr ⟨_,rfl⟩;exact .inl rfl)))
  (fun g σ' zx' q=>?_) fun g σ' zx' q=>?_)) fun g σ' zx' q=>?_
 ·refine CZ q fun hb x2 x3=>?_;try clear q;subst x2;subst x3
  have hx:x∉r.names:=fun m=>by rw[if_pos m] at hb;exact E3 hb
  refine DU (AG (Mj (d:=r.at' .D) (ob:=oD) (kvs:=r.names.map fun x=>(tx x,Value.ref (r.at' (.I x)))) (x:=tx x) (y:=S "result") (SN (x:=x) hK ck nk rfl (Aa rfl rfl)) (fun g v σ₁ zx₁ q=>?_) hD (Ai (by rw[length_map];exact le_trans hz (by decide))) (Ab rfl) (fun Z Z=>rfl)) fun g σ' zx' q=>AC fun g=>?_)
  ·obtain⟨rfl,a,d,L',rfl,⟨⟨hn,hda⟩,hdis⟩,rfl⟩:=q
   have h2:=h.mono fun p hp=>mem_append_right L' hp;exact⟨JJ hK ck h2 (Aa rfl rfl) fun Z=>rfl,Aa rfl rfl,mem_append_right _ mD⟩
  ·refine ex5 q fun g1 v σ₁ zx₁ o' h9=>?_;refine JX h9 fun x6 hi x8 x9=>?_;clear h9;try clear q;rcases x6 with ⟨rfl,a,d,L',rfl,⟨⟨hn,hda⟩,hdis⟩,rfl⟩;subst x8;subst x9
   refine Dz (Pw h hx hn hdis hi hda) fun r' h1 h2 h3=>?_;exact⟨rfl,r',h1,h2,by rw[h3];rfl⟩
 ·refine CZ q fun hb x2 x3=>?_;try clear q;subst x2;subst x3
  have hx:x∈r.names:=by
   by_cases m:x∈r.names
   ·exact m
   ·rw[if_neg m] at hb;exact EP hb
  exact Dk fun g=>⟨rfl,r,.inl ⟨hx,rfl⟩,h,by rw[if_pos hx];rfl⟩
 ·refine Dz q fun r' h1 h2 h3=>?_
  exact Gc (P:=fun Z v=>v=.ref (r'.at' (.I x))) (show Am _ _ _ _ _ _ _ _ (.v (.ref (r'.at' (.I x)))) from Aa h3 rfl) fun g v σ'' p=>⟨r',h1,h2,by rw[p]⟩
end
section
variable{K:Frag}
theorem Gz{ds:List PyData}:DS V w H0 n (.d (.tuple ds)) (ds.map .d):=by
 intro A s zy v g B ra;refine Bh (FO ra) fun l vs x3 hl f=>?_;subst x3;have hl':s.heap.IsTuple l (toArray vs):=Ef (Bp _ _) hl;have lne:l≠s.heap.objs.size:=by refine Ad hl' fun o e Z=>?_;exact ne_of_lt (Heap.lt_size e)
 have lnh:l∉zy:=by refine Ad hl fun o e Z=>?_;exact(Al e).2
 refine wpAny_pyIter_tuple hl' ⟨s.heap.objs.size,[s.heap.objs.size,l],[s.heap.objs.size],(fun i h=>h.IsTupleIter s.heap.objs.size l i∧h.IsTuple l (toArray vs)),_,s.toks,rfl,rfl,An _ _,⟨?_,?_,?_⟩,?_,?_,?_⟩
 case refine_1=>
  have W:=Walks.tuple (prog:=V) (w:=w) g.hh s.heap.objs.size l lne (toArray vs);have e:(toArray vs).size=(ds.map Ent.d).length:=by rw[size_toArray,f.length,length_map]
  rw[e] at W;exact Walks.imp W fun i v p=>by
   refine Ad (f.get' (i:=i) (a:=v) (by simpa using p)) fun d a b=>?_;exact⟨.d d,by simp[a],b⟩
 case refine_2=>
  intro i h st b hb;refine BL st fun x1 Z=>?_;rcases x1 with ⟨o,e,_⟩;rw[AU hb];exact⟨o,e⟩
 case refine_3=>
  intro i h st;refine BL st fun x1 Z=>?_;rcases x1 with ⟨o,e,c,_⟩;exact⟨o,_,e,c,by decide⟩
 ·exact⟨⟨_,Heap.get?_push_size _ rfl,rfl,rfl⟩,Ef (An _ _) hl'⟩
 ·intro b hb
  rw[AU hb];cases e:s.heap.get? s.heap.objs.size with
  |none=>rfl
  |some o=>exact absurd (Heap.lt_size e) (lt_irrefl _)
 ·intro b hb
  rcases BF hb with rfl|hb
  ·exact⟨⟨_,Heap.get?_push_size _ rfl⟩,B.fresh⟩
  ·rw[AU hb]
   refine Ad hl' fun o e Z=>?_;exact⟨⟨_,Heap.get?_push_of_some _ e⟩,lnh⟩
theorem Ly{ds:List PyData}(hz:ds.length≤sizeLine):FnP V w H0 n (.builtin "len") [.d (.tuple ds)] (Rd (.int ds.length)):=by
 intro A s zy vs g B m;obtain⟨v,rfl,m1⟩:=C7 m;refine Bh (FO m1) fun l vs x3 hl f=>?_;subst x3;have e:=f.length;refine PyProof.Rows.len_tuple (Ef (Bp _ _) hl) (by rw[size_toArray,e];exact MM ‹_›) ?_;rw[size_toArray,e];exact Pu.tok (BN _ _ _)
theorem J7(hg:GIs H0 (S "len") (.builtin "len")){ds:List PyData}(hz:ds.length≤sizeLine):Has V w H0 (S "len") n [.d (.tuple ds)] (Rd (.int ds.length)):=⟨_,hg,Be,Ly hz⟩
theorem DH{e:Expr}{y:Str}{py pos:Pos}{Ψ:Heap->Value->AN->Aw->Prop}(h:GS V w H0 n sc σ zx (eval e) Ψ)(hy:Az sc y)
  (hs:∀zz,EnvOk sc zz->swapsWith e (some (.Name y py)) pos.line zz=pure false)(hw:∀zz,EnvOk sc zz->swappedStores [.Name y py] e zz=pure none):
  GT V w H0 n sc σ zx (.Assign [.Name y py] e pos) (fun Z fl σ' zx'=>fl=.next∧∃g1 v σ₁,Ψ g1 v σ₁ zx'∧σ'=(y,.v v)::σ₁):=by
 intro A zz s zy g o F;show wpAny _ A (standAt pos >>=fun Z=>swapsWithSole [.Name y py] e pos.line zz >>=fun b=>if b=true then _ else _) _ _ s;refine Ac (wpAny_standAt (Ac ?_));show wpAny _ A (swapsWith e (some (.Name y py)) pos.line zz) _ _ s;rw[hs zz o];refine Ag ?_;rw[if_neg Bool.false_ne_true];refine Ac (Ah (h A zz s zy g o F) (fun v s₁ q=>?_) fun Z Z f=>f);refine GQ (GP.back (α:=Flow) F q) fun zy1 σ₁ zx₁ F1 p1 Z back1=>?_;refine Ac ?_;rw[hw zz o];refine Ag ?_;show wpAny _ A (assignAll v [assign (.Name y py) zz] >>=fun Z=>pure Flow.next) _ _ _;refine Ac ?_;show wpAny _ A (assign (.Name y py) zz v) _ _ _;refine Ah (Af (V:=V) (w:=w) (H0:=H0) (n:=n) (e:=.v v) hy A zz s₁ zy1 zx₁ σ₁ v g o F1 rfl) (fun Z s2 q2=>Ag ?_) fun Z Z f=>f;refine Bh q2 fun h2 t2 x3 k2 F2=>?_;try clear q2;subst x3
 exact back1 _ _ _ ⟨h2,t2,zy1,_,zx₁,rfl,k2.more (AL zz zx₁ _),F2,fun Z m=>m,fun Z m=>.inl m,fun p m=>.inl (mem_map_of_mem m),rfl,_,v,σ₁,p1,rfl⟩
theorem KN{fd:FuncData}{ps:List Str}{nr:Str}{xs:List Ent}{ds:List PyData}(h:∀vs ws:List Value,vs.length=ps.length->bindArgs fd ⟨vs++ws,[]⟩=(newTuple ws >>=fun t=>pure ((ps++[nr]).zip (vs++[t]))))(hl:xs.length=ps.length)(hz:ds.length≤sizeLine):
  Kl V w H0 fd (ps++[nr]) (xs++ds.map .d) (xs++[.d (.tuple ds)]):=fun A s zy vs B m=>by
 have hsplit:∀(xs:List Ent) (vs:List Value),MeansAll (vis s.heap zy) vs (xs++ds.map .d)->∃us ws,vs=us++ws∧us.length=xs.length∧MeansAll (vis s.heap zy) us xs∧F2 (fun v d=>Rd d (vis s.heap zy) v) ws ds:=fun xs=>by
  induction xs with
  |nil=>exact fun vs m=>⟨[],vs,rfl,rfl,trivial,FN m⟩
  |cons x xs ih=>
   intro vs m
   match vs,m with
   |v::vs,⟨m1,m2⟩=>
    refine ex2 (ih vs m2) fun us ws h9=>?_;refine JX h9 fun e l a b=>?_;clear h9;exact⟨v::us,ws,by rw[e];rfl,by exact congrArg _ l,⟨m1,a⟩,b⟩
 refine ex2 (hsplit xs vs m) fun us ws h9=>?_;refine JX h9 fun x3 hlen mu mw=>?_;clear h9;subst x3;rw[h us ws (hlen.trans hl)];refine Ac (Aq (Ja B mw hz) fun t s₁ q=>Ag (q.trans (Pu.here ⟨us++[t],rfl,?_⟩)));have hcat:∀(xs:List Ent) (us:List Value),MeansAll (vis s₁.heap zy) us xs->MeansAll (vis s₁.heap zy) (us++[t]) (xs++[.d (.tuple ds)]):=fun xs=>by
  induction xs with
  |nil=>
   intro us m
   match us,m with
   |[],_=>exact⟨q.val,trivial⟩
  |cons x xs ih=>
   intro us m
   match us,m with
   |u::us,⟨m1,m2⟩=>exact⟨m1,ih us m2⟩
 exact hcat xs us (mu.ext (AK zy q.ext))
end
structure Abs where
 names:List NM
 np:NM->Int
 succ:NM->List NM
noncomputable def w3:Abs:=⟨[],fun Z=>0,fun Z=>[]⟩
noncomputable def Rep.abs (r:Rep):Abs:=⟨r.names,r.np,r.succ⟩
noncomputable def Abs.get (a:Abs) (x:NM):Abs:=if x∈a.names then a else ⟨a.names++[x],fun y=>if y=x then 0 else a.np y,fun y=>if y=x then [] else a.succ y⟩
noncomputable def Abs.link (x:NM) (a:Abs) (p:NM):Abs:={a.get p with succ:=fun y=>if y=p then (a.get p).succ p++[x] else (a.get p).succ y}
noncomputable def Abs.add (a:Abs) (x:NM) (ps:List NM):Abs:=ps.foldl (Abs.link x) {a.get x with np:=fun y=>if y=x then (a.get x).np x+ps.length else (a.get x).np y}
structure Rep.Same(r r':Rep):Prop where
 old:∀p,r.ok p->r'.at' p=r.at' p
 okk:∀p,r.ok p->r'.ok p
 ready:r'.ready=r.ready
 passed:r'.passed=r.passed
 fin:r'.fin=r.fin
theorem Rep.Same.trans{r r' r'':Rep}(x:r.Same r')(y:r'.Same r''):r.Same r'':=⟨fun p h=>(y.old p (x.okk p h)).trans (x.old p h),fun p h=>y.okk p (x.okk p h),y.ready.trans x.ready,y.passed.trans x.passed,y.fin.trans x.fin⟩
theorem Rep.Added.same{r r':Rep}{x:NM}(h:r.Added x r'):r.Same r':=by
 refine⟨h.old,?_,?_,?_,?_⟩<;> rcases h with ⟨_,rfl⟩|⟨_,a,d,T,rfl⟩
 ·exact fun Z h=>h
 ·intro p hp
  cases p with
  |I y=>exact mem_append_left _ hp
  |e y=>exact mem_append_left _ hp
  |T y=>exact mem_append_left _ hp
  |R=>exact hp
  |_=>trivial
 all_goals rfl
theorem Rep.Added.abs{r r':Rep}{x:NM}(h:r.Added x r'):r'.abs=r.abs.get x:=by
 rcases h with ⟨hx,rfl⟩|⟨hx,a,d,T,rfl⟩
 ·unfold Abs.get;rw[if_pos (show x∈r'.abs.names from hx)]
 ·unfold Abs.get;rw[if_neg (show¬x∈r.abs.names from hx)];rfl
theorem Ot(a:Abs)(x:NM):a.names.length≤(a.get x).names.length:=by
 unfold Abs.get;split<;> simp
theorem Mk(a:Abs)(x p:NM):a.names.length≤(a.link x p).names.length:=Ot a p
theorem GA(x:NM):∀(ps:List NM) (a:Abs),a.names.length≤(ps.foldl (Abs.link x) a).names.length:=by
 intro ps
 induction ps with
 |nil=>
  intro a;exact le_refl _
 |cons p ps GA=>
  intro a;exact le_trans (Mk a x p) (GA _)
structure MethK(K:Frag)(H0:Heap)(c:Cls2)(name:Str)(st:Stmt)(f:Addr)(fd:FuncData):Prop where
 find:findIn K (.ref c.C1) name=some (some (.ref f))
 ty:typeIn K (.ref f)=some (.type "function")
 dfn:DefG H0 f fd (Ap st) (AD st)
section
variable{K:Frag}{c:Cls2}{r:Rep}
theorem Ml{e:Expr}{m:Str}{pa pos:Pos}{args:List Expr}{f:Addr}{fd:FuncData}{st:Stmt}{xs:List Ent}{Ψ:Heap->Value->Aw->Prop}(hK:K.In H0)(ck:ClsK K c)(h:RepOk V w c r zx)(mk:MethK K H0 c m st f fd)(he:Am V w H0 n sc σ zx e (.v (.ref (r.at' .S))))(hsh:∀t1 t2,(r.fields t1 t2).lookup m=none)
  (ha:Ey V w H0 n sc σ zx pos args xs)(hcall:TA V w H0 n (.ref f) (.v (.ref (r.at' .S))::xs) zx Ψ)(hb:∀zz,(backTo pos (starEach args zz)).any (·.1)=false)(hev:D5 e m pa args pos):
  GS V w H0 n sc σ zx (eval (.Call (.Attribute e m pa) args [] pos)) (fun g v σ' zx'=>σ'=σ∧Ψ g v zx'):=by
 refine Ad (h.hold .S trivial) fun o m1 x3=>?_;subst x3;obtain⟨o,m2,t1,t2,f⟩:=h.hold .dS trivial;refine AV (SM (rest:=[]) hK ck.c1 he m1 m2 f (hsh t1 t2) mk.find mk.ty mk.dfn.callee ha hcall (fun p hp=>hp) (fun p hp=>BK hp) hb hev) fun g v σ' zx' q=>?_;obtain⟨e,L',p,rfl⟩:=q;rw[append_nil];exact⟨e,p⟩
def Vi(K:Frag)(H0:Heap)(c:Cls2):Prop:=∃f fd,MethK K H0 c (S "_get_nodeinfo") (Cv 13 1) f fd∧∀vs:List Value,vs.length=[S "self",S "node"].length->bindArgs fd ⟨vs,[]⟩=pure ([S "self",S "node"].zip vs)
theorem TC{e:Expr}{pa p1 pos:Pos}{y:Str}{x:NM}(hK:K.In H0)(ck:ClsK K c)(nk:NodeK V w H0 K c)(gk:Vi K H0 c)(h:RepOk V w c r zx)(hz:r.names.length≤8)(he:Am V w H0 (n+3) sc σ zx e (.v (.ref (r.at' .S))))(hy:Am V w H0 (n+3) sc σ zx (.Name y p1) (.d (.str (tx x))))
  (hev:D5 e (S "_get_nodeinfo") pa [.Name y p1] pos):
  GS V w H0 (n+3) sc σ zx (eval (.Call (.Attribute e (S "_get_nodeinfo") pa) [.Name y p1] [] pos)) (fun g v σ' zx'=>σ'=σ∧∃r',r.Added x r'∧RepOk V w c r' zx'∧v=.ref (r'.at' (.I x))):=by
 refine B8 gk fun f fd mk hb=>?_;refine Ml (xs:=[.d (.str (tx x))]) hK ck h mk he (fun t1 t2=>rfl) (Bk hy fun Z=>rfl) (FnGc.g (FnF.gc (Ew (x:=false) (n:=n+2) (ps:=[S "self",S "node"]) (xs':=[.v (.ref (r.at' .S)),.d (.str (tx x))]) mk.dfn (Cb hb rfl) rfl rfl (DU (AV (SO hK ck nk h hz) fun g fl σ' zx' q=>?_))))) (fun Z=>rfl) hev;refine Dz q fun r' h1 h2 x4=>?_;try clear q;subst x4
 exact⟨r',h1,h2,rfl⟩
end
def Abs.bnd(k:Nat)(a:Abs):Prop:=∀y∈a.names,(a.succ y).length≤k
theorem Lz{k:Nat}{a:Abs}(h:a.bnd k)(x:NM):(a.get x).bnd k:=by
 unfold Abs.get;split
 ·exact h
 ·intro y hy
  have hy':y∈a.names++[x]:=hy;show(if y=x then [] else a.succ y).length≤k;split
  ·exact zero_le _
  ·next hn=>exact h y (by simpa [hn] using hy')
theorem Q3{k:Nat}{a:Abs}(h:a.bnd k)(x p:NM):(a.link x p).bnd (k+1):=by
 intro y hy;have h1:=Lz h p;show(if y=p then (a.get p).succ p++[x] else (a.get p).succ y).length≤k+1;split
 ·next e=>
  subst e;have:=h1 y hy;simp;assumption
 ·exact le_succ_of_le (h1 y hy)
theorem GB(x:NM):∀(ps:List NM) (k:Nat) (a:Abs),a.bnd k->(ps.foldl (Abs.link x) a).bnd (k+ps.length):=by
 intro ps
 induction ps with
 |nil=>
  intro k a h;exact h
 |cons p ps GB=>
  intro k a h;have:=GB (k+1) _ (Q3 h x p);rw[length_cons,←add_assoc,Nat.add_right_comm];exact this
noncomputable def Abs.more (a:Abs) (x:NM) (k:Nat):Abs:={a.get x with np:=fun y=>if y=x then (a.get x).np x+k else (a.get x).np y}
theorem Nv(a:Abs)(x:NM)(ps:List NM):a.add x ps=ps.foldl (Abs.link x) (a.more x ps.length):=rfl
theorem Mm{k:Nat}{a:Abs}(h:a.bnd k)(x:NM)(j:Nat):(a.more x j).bnd k:=Lz h x
theorem SP{k:Nat}{a:Abs}(h:a.bnd k)(x:NM)(ps:List NM):(a.add x ps).bnd (k+ps.length):=GB x ps k _ (Mm h x _)
section
variable{K:Frag}{c:Cls2}{r:Rep}
theorem Q4(h:RepOk V w c r zx){x:NM}(hx:x∈r.names){i:Int}{t1 t:Tok}{e T:Addr}(he:e=r.at' (.e x))(hT:T=r.at' (.T x)):RepOk V w c {r with np:=fun y=>if y=x then i else r.np y} (Ak (r.at' (.I x)) (Bg c.C2 e #[some (.str (tx x) t1),some (.int i t),some (.ref T)]) zx):=by
 subst he hT;refine h.upd (p₀:=.I x) rfl (fun p hp=>by cases p<;> exact hp) hx ⟨t1,t,?_⟩ fun p hp ok o sh=>?_
 ·show _=Bg c.C2 (r.at' (.e x)) #[_,some (.int (if x=x then i else _) t),_]
  rw[if_pos rfl]
 ·cases p with
  |I y=>
   refine ex2 sh fun t1 t2 x3=>?_;revert x3;intro sh;refine⟨t1,t2,?_⟩;have hy:y≠x:=fun q=>hp (by rw[q]);show o=Bg c.C2 _ #[_,some (.int (if y=x then i else r.np y) t2),_];rw[if_neg hy];exact sh
  |_=>exact sh
theorem Q5(h:RepOk V w c r zx){x:NM}(hx:x∈r.names){l:List NM}{o':Obj}(ho:OwnL (BE l) o'):RepOk V w c {r with succ:=fun y=>if y=x then l else r.succ y} (Ak (r.at' (.T x)) o' zx):=by
 refine h.upd (p₀:=.T x) rfl (fun p hp=>by cases p<;> exact hp) hx ?_ fun p hp ok o sh=>?_
 ·show OwnL (BE (if x=x then l else _)) o'
  rw[if_pos rfl];exact ho
 ·cases p with
  |T y=>
   have hy:y≠x:=fun q=>hp (by rw[q]);show OwnL (BE (if y=x then l else r.succ y)) o;rw[if_neg hy];exact sh
  |_=>exact sh
theorem Mn{e value:Expr}{p pos:Pos}{op:Operator}{x:NM}{k i:Int}(hK:K.In H0)(ck:ClsK K c)(h:RepOk V w c r zx)(hx:x∈r.names)(he:Am V w H0 n sc σ zx e (.v (.ref (r.at' (.I x)))))(hv:Am V w H0 n sc σ zx value (.d (.int k)))(ho:Bm V w H0 n (inplaceOp op) (.d (.int (r.np x))) (.d (.int k)) (Rd (.int i))):
  GT V w H0 n sc σ zx (.AugAssign (.Attribute e (S "npredecessors") p) op value pos) (fun Z fl σ' zx'=>fl=.next∧σ'=σ∧RepOk V w c {r with np:=fun y=>if y=x then i else r.np y} zx'∧∃o',zx'=Ak (r.at' (.I x)) o' zx):=by
 obtain⟨o,m,t1,t2,rfl⟩:=h.hold (.I x) hx;refine Ad (h.hold (.e x) hx) fun o m' Z=>?_;refine ex1 ck.s1 fun pp sp=>?_;refine AV (SL hK ck.c2 he m m' sp (i:=r.np x) (t:=t2) rfl hv ho) fun g fl σ' zx' q=>?_;obtain⟨e1,e2,t',rfl⟩:=q;exact⟨e1,e2,Q4 h hx rfl rfl,_,rfl⟩
theorem Ou{y:Str}{p p1 pos:Pos}{ps:List NM}{k:Int}(hlen:GIs H0 (S "len") (.builtin "len"))(hg:BA sc (S "len")=true)(hy:Am V w H0 n sc σ zx (.Name y p1) (.d (.tuple (BE ps))))(hz:ps.length≤sizeLine)(hk:(ps.length:Int)=k):Am V w H0 n sc σ zx (.Call (.Name (S "len") p) [.Name y p1] [] pos) (.d (.int k)):=by
 subst hk;have e:(BE ps).length=ps.length:=by simp[BE]
 have:=AT (pos:=pos) (p:=p) (J7 hlen (n:=n) (V:=V) (w:=w) (ds:=BE ps) (by rw[e];exact hz)) (le_refl _) hg (Bk hy fun Z=>rfl) fun Z=>rfl;rw[e] at this;exact this
noncomputable abbrev Q6:Scope:=Ap (Cv 13 2)
theorem Q7{x:NM}{ps:List NM}{k:Nat}(hK:K.In H0)(ck:ClsK K c)(nk:NodeK V w H0 K c)(gk:Vi K H0 c)(hlen:GIs H0 (S "len") (.builtin "len"))(h:RepOk V w c r zx)(hr:r.ready=none)(hz:(r.abs.add x ps).names.length≤8)(hk:r.abs.bnd k)(hkz:k+ps.length≤1000):
  GX V w H0 (n+3) Q6 [(S "self",.v (.ref (r.at' .S))),(S "node",.d (.str (tx x))),(S "predecessors",.d (.tuple (BE ps)))] zx (AD (Cv 13 2)) (fun Z fl Z zx'=>fl=.next∧∃r',RepOk V w c r' zx'∧r.Same r'∧r'.abs=r.abs.add x ps):=by
 revert hK ck nk gk hlen h hr hz hk hkz;revert k;revert x ps;revert V w H0 n zx K c r;refine no_implicit_lambda% (HS (by exact(((default,w0),default),(default,(⟨0,0⟩,w1)))) ?_);generalize FK _ _=t9;generalize t9.1.1.1=V,t9.1.1.2=w,t9.1.2.1=H0,t9.1.2.2=n,t9.2.1.1=zx,t9.2.1.2=K,t9.2.2.1=c,t9.2.2.2=r;refine no_implicit_lambda% (I8 (by exact default) ?_);generalize Ip _ _=t9;generalize t9.1=x,t9.2=ps;refine no_implicit_lambda% (Io (default) ?_);generalize HR _ _=k;intro hK ck nk gk hlen h hr hz hk hkz;have vs:∀{σ' zx' pos},σ'.lookup (S "self")=some (.v (.ref (r.at' .S)))->Am V w H0 (n+3) Q6 σ' zx' (.Name (S "self") pos) (.v (.ref (r.at' .S))):=fun h=>Aa h rfl;have hps:(BE ps).length=ps.length:=by simp[BE]
 have z0:(r.abs.more x ps.length).names.length≤8:=le_trans (GA x ps _) (by rw[←Nv];exact hz);have z1:r.names.length≤8:=le_trans (Ot r.abs x) z0;refine AA (σ₁:=_) (zx₁:=zx) (BR (b:=false) (Ar (KI (by
   have hrv:r.rv=.none:=by unfold Rep.rv;rw[hr]
   rw[←hrv];exact JK hK ck h (vs rfl) fun Z=>rfl)) BV DP rfl) (fun q=>absurd q (by decide)) fun Z=>AC fun g=>⟨rfl,rfl,rfl⟩) ?_
 refine AG (DH (TC (x:=x) hK ck nk gk h z1 (vs rfl) (Aa rfl rfl) fun Z=>⟨_,rfl⟩) (Ab rfl) (fun Z Z=>rfl) (fun Z Z=>rfl)) fun g σ' zx' q=>?_;refine FH q fun g1 v σ₁ x4 x5=>?_;try clear q;rcases x4 with ⟨rfl,r1,a1,h1,rfl⟩;subst x5
 have s1:=a1.same;have e1:=a1.abs;refine AG (Mn (x:=x) (k:=ps.length) (i:=r1.np x+ps.length) hK ck h1 a1.mem (Aa rfl rfl) (Ou hlen rfl (Aa rfl rfl) (Ai (by lia)) rfl) HG) fun g σ' zx'' q=>?_;refine CZ q fun x1 h2 Z=>?_;try clear q;subst x1
 generalize hr2:({r1 with np:=fun y=>if y=x then r1.np x+ps.length else r1.np y}:Rep)=r2 at h2;have s2:r.Same r2:=s1.trans (by subst hr2;exact⟨fun Z Z=>rfl,fun p hp=>by cases p<;> exact hp,rfl,rfl,rfl⟩)
 have e2:r2.abs=r.abs.more x ps.length:=by
  subst hr2;show(⟨r1.names,fun y=>if y=x then r1.np x+ps.length else r1.np y,r1.succ⟩:Abs)=_;unfold Abs.more;rw[←e1];rfl
 refine AG (Fh (Fj (x:=false) (ds:=(BE ps).map .d) [] (fun i σ' zx'=>σ'.lookup (S "self")=some (.v (.ref (r.at' .S)))∧σ'.lookup (S "node")=some (.d (.str (tx x)))∧∃r',RepOk V w c r' zx'∧r.Same r'∧r'.abs=(ps.take i).foldl (Abs.link x) (r.abs.more x ps.length))
  (Ψ:=fun Z fl σ' zx'=>fl=.next∧∃r',RepOk V w c r' zx'∧r.Same r'∧r'.abs=r.abs.add x ps) (GZ (Aa rfl rfl) Gz) ⟨rfl,rfl,r2,h2,s2,e2⟩ (fun Z Z Z Z p hp=>BK hp) (fun i e σ' zx' he hJ=>?_) (fun g σ' zx' hJ=>?_) (fun Z Z=>rfl) (.inl ⟨_,_,rfl⟩))) fun g σ' zx' q=>AC fun g=>⟨rfl,q⟩
 ·obtain⟨l1,l2,r',h',s',e'⟩:=hJ
  refine Ad (HM he) fun p hp x3=>?_;subst x3;have hi:i<ps.length:=by
   rcases lt_or_ge i ps.length with q|q
   ·exact q
   ·rw[getElem?_eq_none q] at hp;exact CE hp
  have htk:ps.take (i+1)=ps.take i++[p]:=by rw[take_add_one,hp];rfl
  have hd:ps.take i++(p::ps.drop (i+1))=ps:=by
   have:ps.drop i=p::ps.drop (i+1):=by
    rw[List.drop_eq_getElem_cons hi];rw[getElem?_eq_getElem hi] at hp;injection hp with hp;rw[hp]
   rw[←this,take_append_drop]
  have z2:((r'.abs).link x p).names.length≤8:=by
   rw[e'];have:((ps.take i++[p]).foldl (Abs.link x) (r.abs.more x ps.length)).names.length≤8:=by
    rw[←htk];refine le_trans (GA x (ps.drop (i+1)) _) ?_;rw[←foldl_append,take_append_drop,←Nv];exact hz
   rw[foldl_append] at this;exact this
  have z3:r'.names.length≤8:=le_trans (Mk r'.abs x p) z2;have b3:r'.abs.bnd (k+i):=by
   rw[e'];have:=GB x (ps.take i) k _ (Mm hk x ps.length);rwa [length_take,Nat.min_eq_left (le_of_lt hi)] at this
  refine⟨_,Af (Ab rfl),DU (EF fun Φ hΦ=>?_)⟩;have so:=s'.old .S trivial;have vs2:∀{σ' zx' pos},σ'.lookup (S "self")=some (.v (.ref (r.at' .S)))->Am V w H0 (n+3) Q6 σ' zx' (.Name (S "self") pos) (.v (.ref (r'.at' .S))):=fun h=>by rw[so];exact vs h
  refine AG (DH (TC (x:=p) hK ck nk gk h' z3 (vs2 l1) (Aa rfl rfl) fun Z=>⟨_,rfl⟩) (Ab rfl) (fun Z Z=>rfl) (fun Z Z=>rfl)) fun g σ' zx' q=>?_;refine FH q fun g1 v σ₁ x4 x5=>?_;try clear q;rcases x4 with ⟨rfl,r3,a3,h3,rfl⟩;subst x5
  refine Ad (h3.hold (.T p) a3.mem) fun oT mT hT=>?_;refine Ad (ownL_lo.mp hT) fun us hl hf=>?_;have b4:r3.abs.bnd (k+i):=by rw[a3.abs];exact Lz b3 p
  have hul:us.length≤1000:=by
   have e:=hf.length;have:=b4 p a3.mem;have q:(r3.abs.succ p).length=(r3.succ p).length:=rfl;rw[e,BE,length_map];omega
  refine AG (Fx (a:=r3.at' (.T p)) (ob:=oT) (vs:=us) (Lx hK ck h3 a3.mem (Aa rfl rfl) fun Z=>rfl) mT hl (FX (Aa (e:=.d (.str (tx x))) l2 rfl)) (fun g v σ₁ zx₁ q=>?_) (Ai (le_trans hul (by decide))) (fun Z=>rfl) rfl (fun Z=>rfl) fun Z=>rfl) fun g σ' zx' q=>AC fun g=>hΦ ?_
  ·refine CZ q fun Z x2 x3=>?_;try clear q;subst x2;subst x3;exact mT
  refine KT q fun g1 v zx₁ o' x5 hl' x7=>?_;try clear q;rcases x5 with ⟨mv,rfl,rfl⟩;subst x7
  have mv':Rd (.str (tx x)) g1 v:=mv;have ho':OwnL (BE (r3.succ p++[x])) o':=ownL_lo.mpr ⟨_,hl',by
   rw[BE,map_append];exact F2.append hf (.cons (JC rfl mv') .nil)⟩
  have h4:=Q5 h3 a3.mem ho';refine⟨l1,l2,_,h4,s'.trans (a3.same.trans ⟨fun Z Z=>rfl,fun p hp=>by cases p<;> exact hp,rfl,rfl,rfl⟩),?_⟩
  rw[htk,foldl_append,←e'];show _=r'.abs.link x p;unfold Abs.link;rw[←a3.abs];rfl
 ·obtain⟨_,_,r',h',s',e'⟩:=hJ
  have e:(BE ps).length=ps.length:=by assumption
  rw[length_map,e,take_length,←Nv] at e';exact⟨rfl,r',h',s',e'⟩
end
theorem GI(l:Addr)(xs:Array Value)(hfit:(xs.size:Int)<2 ^ 63):
  Meets (Builtin.«bool.__new__» ⟨[.type "bool",.ref l],[]⟩) (fun Z R s=>s.heap.IsList l xs∧R (.ok (.ret (.bool (!xs.isEmpty)))) {s with toks:=s.toks+1+1}):=
 Meets.of_wp fun V w A R s hs=>by
  obtain⟨hp,g,d,tk,os⟩:=s;refine BL hs fun hl x2=>?_;revert x2;intro hs;have f1:=F.conv_sub_bool
  repeat (any_goals (first|assumption|(with_reducible refine wpAny_truthy_list hl hfit ?_)|wp_step))
  all_goals first|exact⟨_,rfl,hs⟩|exact hs|skip
theorem JL{V:Program}{w:World}{A:Around}{E:Value->Shared->Prop}{s:Shared}{l:Addr}{xs:Array Value}{Q:Value->Shared->Prop}(hl:s.heap.IsList l xs)(hfit:(xs.size:Int)<2 ^ 63)(h:∀tk,Q (.bool (!xs.isEmpty)) {s with toks:=tk}):
  wpAny (model V w) A (call (.type "bool") [.ref l]) Q E s:=
 call_bool_1 (GI l xs hfit) ⟨hl,show wants (fun obj s₁=>s₁.TypeIs obj "bool"∧Q obj s₁) E _ _ from⟨rfl,h _⟩⟩
section
variable{K:Frag}
theorem Nw{a:Addr}:Bm V w H0 n (compareOp .Is) (.v (.ref a)) (.d .none) (Rd (.bool false)):=by
 intro A s zy u v g B ra rb;cases C0 rb;have e:u=.ref a:=ra;subst e;exact is_ref_none (Pu.here (BB _ _))
theorem Px{e:Expr}{p pos:Pos}{a:Addr}{ob:Obj}{ds:List PyData}(hg:GIs H0 (S "tuple") (.type "tuple"))(hgo:BA sc (S "tuple")=true)(he:Am V w H0 n sc σ zx e (.v (.ref a)))(ho:(a,ob)∈zx)(hl:OwnL ds ob)(hz:ds.length≤sizeLine)
  (hb:∀zz,backTo pos (starEach [e] zz)=[(false,eval e zz)])(hb2:∀zz,(backTo pos (starEach [e] zz)).any (·.1)=false):Am V w H0 n sc σ zx (.Call (.Name (S "tuple") p) [e] [] pos) (.d (.tuple ds)):=by
 intro A zz s zy g o F;refine Call_Name rfl (Aq (DA hg hgo A zz s zy g o F) fun v s₁ q=>?_);have e1:=q.val;subst e1;have F1:=F.ext q.ext;refine B9 (zz:=zz) F1.toBase.h0 B2 (hb2 zz) (Bk he hb A zz s₁ zy g o F1) fun vs s2 q2=>?_;have F2:=F1.ext q2.ext;have mv:=q2.val;obtain⟨u,rfl,hu⟩:=C7 mv;have e2:u=.ref a:=hu;subst e2;refine B8 (Dw hl (F2.ledg _ ho)) fun vs k hL f=>?_;have sz:(toArray vs).size≤sizeLine:=by rw[size_toArray,f.length];exact hz
 refine call_tuple_list hL.isList (fun h' hk=>?_) sz;have fr:s2.heap.get? h'.objs.size=none:=by
  cases e:s2.heap.get? h'.objs.size with
  |none=>rfl
  |some o=>exact absurd (Heap.lt_size (hk _ _ e)) (lt_irrefl _)
 refine(q.trans q2).trans ⟨_,s2.toks,rfl,fun b o e=>Heap.get?_push_of_some _ (hk b o e),?_⟩;have nh:h'.objs.size∉zy:=fun m=>by
  refine ex1 (F2.alive _ m) fun o e=>?_;rw[fr] at e;exact CE e
 exact Hj (vs:=vs) ⟨_,AQ (Heap.get?_push_size _ rfl) nh,rfl,_,rfl⟩ (f.imp fun v d hv=>hv _)
theorem Q8{e:Expr}{p pos:Pos}{a:Addr}{ob:Obj}{ds:List PyData}(hg:GIs H0 (S "bool") (.type "bool"))(hgo:BA sc (S "bool")=true)(he:Am V w H0 n sc σ zx e (.v (.ref a)))(ho:(a,ob)∈zx)(hl:OwnL ds ob)(hz:ds.length≤sizeLine)
  (hb:∀zz,backTo pos (starEach [e] zz)=[(false,eval e zz)])(hb2:∀zz,(backTo pos (starEach [e] zz)).any (·.1)=false):Am V w H0 n sc σ zx (.Call (.Name (S "bool") p) [e] [] pos) (.d (.bool (!ds.isEmpty))):=by
 intro A zz s zy g o F;refine Call_Name rfl (Aq (DA hg hgo A zz s zy g o F) fun v s₁ q=>?_);have e1:=q.val;subst e1;have F1:=F.ext q.ext;refine B9 (zz:=zz) F1.toBase.h0 B2 (hb2 zz) (Bk he hb A zz s₁ zy g o F1) fun vs s2 q2=>?_;have F2:=F1.ext q2.ext;have mv:=q2.val;obtain⟨u,rfl,hu⟩:=C7 mv;have e2:u=.ref a:=hu;subst e2;refine B8 (Dw hl (F2.ledg _ ho)) fun vs k hL f=>?_;have e:(!(toArray vs).isEmpty)=!ds.isEmpty:=by
  have:=f.length;cases vs<;> cases ds<;> simp_all
 refine JL hL.isList (by rw[size_toArray,f.length];exact MM ‹_›) fun tk=>?_;rw[e];exact(q.trans q2).trans (Pu.tok (BB _ _))
end
noncomputable def Rep.outs (r:Rep) (l:List NM):Rep:={r with np:=fun y=>if y∈l then -1 else r.np y}
noncomputable def Rep.got (r:Rep) (l:List NM):Rep:={r.outs l with ready:=some [],passed:=r.passed+l.length}
theorem Nx{V:Program}{w:World}{H0:Heap}{n:Nat}{sc:Scope}{σ:AN}{zx:Aw}{x:Str}{p:Pos}{i:Int}(h:∃t,GIs H0 x (.int i t))(hg:BA sc x=true):Am V w H0 n sc σ zx (.Name x p) (.d (.int i)):=by
 refine ex1 h fun t x2=>?_;revert x2;intro h;exact EX (DA h hg)
section
variable{K:Frag}{c:Cls2}{r:Rep}
theorem JM(h:RepOk V w c r zx){r':Rep}{o':Obj}(hn:r'.names=r.names)(hat:r'.at'=r.at')(hnp:r'.np=r.np)(hs:r'.succ=r.succ)(hrd:r'.ready=r.ready)(hf:∃t1 t2,FD (r'.fields t1 t2) o'):RepOk V w c r' (Ak (r.at' .dS) o' zx):=by
 obtain⟨a,ns,np,su,rd,pa,fi⟩:=r';dsimp at hn hat hnp hs hrd;subst hn hat hnp hs hrd;refine h.upd (p₀:=.dS) rfl (fun p hp=>by cases p<;> exact hp) trivial hf fun p hp ok o sh=>?_
 cases p<;> first|exact sh|exact absurd rfl hp
theorem KO(h:RepOk V w c r zx){l l':List NM}(hr:r.ready=some l){o':Obj}(ho:OwnL (BE l') o'):RepOk V w c {r with ready:=some l'} (Ak (r.at' .R) o' zx):=by
 have hrv:∀p,({r with ready:=some l'}:Rep).ok p->r.ok p:=fun p hp=>by
  cases p with
  |R=>show r.ready.isSome=true;rw[hr];rfl
  |_=>exact hp
 refine h.upd (p₀:=.R) rfl hrv (by show r.ready.isSome=true;rw[hr];rfl) ho fun p hp ok o sh=>?_;cases p with
 |R=>exact absurd rfl hp
 |dS=>
  refine ex2 sh fun t1 t2 f=>?_;refine⟨t1,t2,?_⟩;have e:({r with ready:=some l'}:Rep).fields t1 t2=r.fields t1 t2:=by
   unfold Rep.fields Rep.rv;rw[hr]
  rw[e];exact f
 |_=>exact sh
theorem Mo{e value:Expr}{p pos:Pos}{x:NM}{i:Int}(hK:K.In H0)(ck:ClsK K c)(h:RepOk V w c r zx)(hx:x∈r.names)(he:Am V w H0 n sc σ zx e (.v (.ref (r.at' (.I x)))))(hv:Am V w H0 n sc σ zx value (.d (.int i)))(hs:∀zz,swapsWith value (some (.Attribute e (S "npredecessors") p)) pos.line zz=pure false):
  GT V w H0 n sc σ zx (.Assign [.Attribute e (S "npredecessors") p] value pos) (fun Z fl σ' zx'=>fl=.next∧σ'=σ∧RepOk V w c {r with np:=fun y=>if y=x then i else r.np y} zx'∧∃o',zx'=Ak (r.at' (.I x)) o' zx):=by
 obtain⟨o,m,t1,t2,rfl⟩:=h.hold (.I x) hx;refine Ad (h.hold (.e x) hx) fun o m' Z=>?_;refine ex1 ck.s1 fun pp sp=>?_;refine AV (IZ (x:=r.at' (.I x)) (dx:=r.at' (.e x)) (sl:=#[some (.str (tx x) t1),some (.int (r.np x) t2),some (.ref (r.at' (.T x)))]) hK ck.c2 (FX hv) (fun g v σ₁ zx₁ q=>?_) sp hs) fun g fl σ' zx' q=>?_
 ·refine CZ q fun Z x2 x3=>?_;try clear q;subst x2;subst x3
  exact⟨he,m,_,m'⟩
 ·obtain⟨e1,g1,v,zx₁,⟨mv,rfl,rfl⟩,rfl⟩:=q
  refine ex1 (Ax mv) fun t' x2=>?_;subst x2;exact⟨e1,rfl,Q4 h hx rfl rfl,_,rfl⟩
theorem LA{e k:Expr}{pos:Pos}{x:NM}(h:RepOk V w c r zx)(hx:x∈r.names)(he:Am V w H0 n sc σ zx e (.v (.ref (r.at' .D))))(hk:Am V w H0 n sc σ zx k (.d (.str (tx x))))(hs:Ca k):
  Am V w H0 n sc σ zx (.Subscript e k pos) (.v (.ref (r.at' (.I x)))):=by
 refine Ad (h.hold .D trivial) fun oD mD hD=>?_;exact Mi he mD hD hk (by rw[CY (fun y=>Value.ref (r.at' (.I y))),if_pos hx]) hs
theorem SQ{l:List NM}(hr:r.ready=some l):r.rv=.ref (r.at' .R):=by unfold Rep.rv;rw[hr]
theorem EY{e:Expr}{pos:Pos}{l:List NM}(hK:K.In H0)(ck:ClsK K c)(h:RepOk V w c r zx)(hr:r.ready=some l)(he:Am V w H0 n sc σ zx e (.v (.ref (r.at' .S))))(ha:DG e (S "_ready_nodes") pos):Am V w H0 n sc σ zx (.Attribute e (S "_ready_nodes") pos) (.v (.ref (r.at' .R))):=by
 rw[←SQ hr];exact JK hK ck h he ha
theorem Gm{e:Expr}{pa p0 pos:Pos}{l:List NM}{k:Nat}(hK:K.In H0)(ck:ClsK K c)(h:RepOk V w c r zx)(hr:r.ready=some l)(he:Am V w H0 n sc σ zx e (.v (.ref (r.at' .S))))(ha:DG e (S "_ready_nodes") pa)(hm:behindInMarks .Is (.Constant .none k p0)=false):
  FI V w H0 n sc σ zx (.Compare (.Attribute e (S "_ready_nodes") pa) [.Is] [.Constant .none k p0] pos) false:=
 Ar (EY hK ck h hr he ha) BV Nw hm
theorem Hd{e:Expr}{y:Str}{py pos:Pos}{rest:List Stmt}{x:Ent}{Φ:Ba}(h:Am V w H0 n sc σ zx e x)(hr:GX V w H0 n sc ((y,x)::σ) zx rest Φ)(hy:Az sc y)(hs:∀zz,EnvOk sc zz->swapsWith e (some (.Name y py)) pos.line zz=pure false)(hw:∀zz,EnvOk sc zz->swappedStores [.Name y py] e zz=pure none):
  GX V w H0 n sc σ zx (.Assign [.Name y py] e pos::rest) Φ:=AA (BX (Av h (Af hy) hs hw fun Z=>rfl)) hr
noncomputable abbrev UY:Scope:=Ap (Cv 13 4)
theorem Q9{l:List NM}(hK:K.In H0)(ck:ClsK K c)(hlen:GIs H0 (S "len") (.builtin "len"))(htup:GIs H0 (S "tuple") (.type "tuple"))(hout:∃t,GIs H0 (S "_NODE_OUT") (.int (-1) t))(h:RepOk V w c r zx)(hr:r.ready=some l)(hz:l.length≤1000)(hl:Cf l r.names):
  GX V w H0 n UY [(S "self",.v (.ref (r.at' .S)))] zx (AD (Cv 13 4)) (fun g fl Z zx'=>∃v,fl=.ret v∧Rd (.tuple (BE l)) g v∧RepOk V w c (r.got l) zx'):=by
 revert hK ck hlen htup hout h hr hz hl;revert l;revert V w H0 n zx K c r;refine no_implicit_lambda% (HS (by exact(((default,w0),default),(default,(⟨0,0⟩,w1)))) ?_);generalize FK _ _=t9;generalize t9.1.1.1=V,t9.1.1.2=w,t9.1.2.1=H0,t9.1.2.2=n,t9.2.1.1=zx,t9.2.1.2=K,t9.2.2.1=c,t9.2.2.2=r;refine no_implicit_lambda% (Io (default) ?_);generalize HR _ _=l;intro hK ck hlen htup hout h hr hz hl;have vs:∀{σ' zx' pos},σ'.lookup (S "self")=some (.v (.ref (r.at' .S)))->Am V w H0 n UY σ' zx' (.Name (S "self") pos) (.v (.ref (r.at' .S))):=fun h=>Aa h rfl;have hzl:(BE l).length=l.length:=by simp[BE]
 refine AA (σ₁:=_) (zx₁:=zx) (BR (b:=false) (Gm hK ck h hr (vs rfl) (fun Z=>rfl) rfl) (fun q=>absurd q (by decide)) fun Z=>AC fun g=>⟨rfl,rfl,rfl⟩) ?_;refine Ad (h.hold .R (by show r.ready.isSome=true;rw[hr];rfl)) fun oR mR hR=>?_;have hR':OwnL (BE l) oR:=by
  have:OwnL (BE (r.ready.getD [])) oR:=hR;rw[hr] at this;exact this
 refine Hd (x:=.d (.tuple (BE l))) (Px (a:=r.at' .R) htup rfl (EY hK ck h hr (vs rfl) fun Z=>rfl) mR hR' (by rw[hzl];exact Ai (le_trans hz (by decide))) (fun Z=>rfl) fun Z=>rfl) ?_ (Ab rfl) (fun Z Z=>rfl) (fun Z Z=>rfl);refine Hd (x:=.v (.ref (r.at' .D))) (JJ hK ck h (vs rfl) fun Z=>rfl) ?_ (Ab rfl) (fun Z Z=>rfl) (fun Z Z=>rfl);refine AG (Fh (Fj (x:=false) (ds:=(BE l).map .d) [] (fun i σ' zx'=>σ'.lookup (S "self")=some (.v (.ref (r.at' .S)))∧σ'.lookup (S "n2i")=some (.v (.ref (r.at' .D)))∧σ'.lookup (S "result")=some (.d (.tuple (BE l)))∧RepOk V w c (r.outs (l.take i)) zx')
  (Ψ:=fun Z fl σ' zx'=>fl=.next∧σ'.lookup (S "self")=some (.v (.ref (r.at' .S)))∧σ'.lookup (S "result")=some (.d (.tuple (BE l)))∧RepOk V w c (r.outs l) zx') (GZ (Aa rfl rfl) Gz) ⟨rfl,rfl,rfl,?_⟩ (fun Z Z Z Z p hp=>BK hp) (fun i e σ' zx' he hJ=>?_) (fun g σ' zx' hJ=>?_) (fun Z Z=>rfl) (.inl ⟨_,_,rfl⟩))) fun g σ' zx' q=>?_
 ·have e:r.outs (l.take 0)=r:=by unfold Rep.outs;exact rfl
  rw[e];exact h
 ·refine JX hJ fun l1 l2 l3 h'=>?_
  refine Ad (HM he) fun p hp x3=>?_;subst x3;have hpl:p∈l:=mem_of_getElem? hp;refine⟨_,Af (Ab rfl),DU (EF fun Φ hΦ=>?_)⟩;refine AG (Mo (x:=p) (i:= -1) hK ck h' (hl p hpl) (LA h' (hl p hpl) (show Am _ _ _ _ _ _ _ _ (.v (.ref (r.at' .D))) from Aa l2 rfl) (Aa rfl rfl) fun Z Z=>rfl) (Nx hout rfl) fun Z=>rfl) fun g σ' zx' q=>AC fun g=>hΦ ?_;refine CZ q fun x1 h2 Z=>?_;try clear q;subst x1
  refine⟨l1,l2,l3,?_⟩;have e:r.outs (l.take (i+1))={r.outs (l.take i) with np:=fun y=>if y=p then -1 else (r.outs (l.take i)).np y}:=by
   have ht:l.take (i+1)=l.take i++[p]:=by rw[take_add_one,hp];rfl
   unfold Rep.outs;rw[ht]
   congr 1
   funext y
   by_cases hy:y=p
   ·subst hy;simp
   ·simp[hy]
  rw[e];exact h2
 ·refine JX hJ fun l1 l2 l3 h'=>?_
  rw[length_map,hzl,take_length] at h';exact⟨rfl,l1,l3,h'⟩
 refine CZ q fun l1 l3 h2=>?_;refine Ad (h2.hold .R (by show r.ready.isSome=true;rw[hr];rfl)) fun oR mR hR=>?_;have hR':OwnL (BE l) oR:=by
  have:OwnL (BE (r.ready.getD [])) oR:=hR;rw[hr] at this;exact this
 refine Ad (ownL_lo.mp hR') fun us hlo hf=>?_;have hr2:(r.outs l).ready=some l:=hr;refine AG (Pr (a:=r.at' .R) (vs:=us) (EY (r:=r.outs l) hK ck h2 hr2 (show Am _ _ _ _ _ _ _ _ (.v (.ref (r.at' .S))) from vs l1) fun Z=>rfl) mR hlo (by rw[hf.length,hzl];exact Ai (le_trans hz (by decide))) (fun Z=>rfl) rfl fun Z=>rfl) fun g σ'' zx'' q=>?_;obtain⟨rfl,o',ho',rfl⟩:=q;have h3:=KO (l':=[]) h2 hr2 (o':=o') (ownL_lo.mpr ⟨[],ho',.nil⟩);refine Ad (h3.hold .S trivial) fun oS mS x3=>?_;subst x3;obtain⟨oF,mF,t1,t2,f⟩:=h3.hold .dS trivial;refine AG (Oo (x:=r.at' .S) (dx:=r.at' .dS) (i:=r.passed) (k:=l.length) (r:=r.passed+l.length) hK ck.c1 (vs l1) mS mF f ck.f3 rfl (Ou hlen rfl (Aa l3 rfl) (Ai (by lia)) rfl) HG (show(4:Nat)≤100 by decide)) fun g σ3 zx3 q=>?_;obtain⟨rfl,t',od',hfd,rfl⟩:=q;have h4:RepOk V w c (r.got l) (Ak (r.at' .dS) od' _):=JM h3 (r':=r.got l) rfl rfl rfl rfl rfl ⟨t',t2,hfd⟩;exact Gq (AV (DD (show Am _ _ _ _ _ _ _ _ (.d (.tuple (BE l))) from Aa l3 rfl)) fun g fl σ' zx' q=>by
  refine BL q fun x1 x2=>?_;try clear q;rcases x1 with ⟨v,e,m⟩;subst x2
  exact⟨v,e,m,h4⟩) fun g σ' zx' q=>by
  refine Ad q fun v e Z=>?_;exact ML e
end
noncomputable def Rep.putNp (r:Rep) (x:NM) (i:Int):Rep:={r with np:=fun y=>if y=x then i else r.np y}
noncomputable def Rep.dec (r:Rep) (y:NM):Rep:={r.putNp y (r.np y - 1) with ready:=if r.np y - 1=0 then r.ready.map (·++[y]) else r.ready}
noncomputable def Rep.decs (r:Rep) (l:List NM):Rep:=l.foldl Rep.dec r
noncomputable def Rep.done (r:Rep) (x:NM):Rep:={(r.putNp x (-2)).decs (r.succ x) with fin:=r.fin+1}
theorem GC:∀(l:List NM) (r:Rep),(r.decs l).at'=r.at'∧(r.decs l).names=r.names∧(r.decs l).succ=r.succ∧(r.decs l).passed=r.passed∧(r.decs l).fin=r.fin:=by
 intro l
 induction l with
 |nil=>
  intro r;exact⟨rfl,rfl,rfl,rfl,rfl⟩
 |cons y l GC=>
  intro r;exact GC (r.dec y)
theorem He:∀(l:List NM) (r:Rep) (m:List NM),r.ready=some m->∃m',(r.decs l).ready=some m'∧m'.length≤m.length+l.length:=by
 intro l
 induction l with
 |nil=>
  intro r m h;exact⟨m,h,le_refl _⟩
 |cons y l He=>
  intro r m h;have:∃m1,(r.dec y).ready=some m1∧m1.length≤m.length+1:=by
   show∃m1,(if r.np y - 1=0 then r.ready.map (·++[y]) else r.ready)=some m1∧_;rw[h];split
   ·exact⟨m++[y],rfl,by simp⟩
   ·exact⟨m,rfl,le_succ _⟩
  refine Ad this fun m1 h1 h2=>?_;refine Ad (He (r.dec y) m1 h1) fun m2 h3 h4=>?_;exact⟨m2,h3,by rw[length_cons];lia⟩
section
variable{K:Frag}{c:Cls2}{r:Rep}
theorem Ra{e:Expr}{pos:Pos}{x:NM}{i:Int}(hK:K.In H0)(ck:ClsK K c)(h:RepOk V w c r zx)(hx:x∈r.names)(hi:r.np x=i)(he:Am V w H0 n sc σ zx e (.v (.ref (r.at' (.I x)))))(ha:DG e (S "npredecessors") pos):Am V w H0 n sc σ zx (.Attribute e (S "npredecessors") pos) (.d (.int i)):=by
 subst hi;exact UW hK ck h hx he ha
noncomputable abbrev UZ:Scope:=Ap (Cv 13 5)
theorem Rb{l:List NM}(hK:K.In H0)(ck:ClsK K c)(hbool:GIs H0 (S "bool") (.type "bool"))(h:RepOk V w c r zx)(hr:r.ready=some l)(hz:l.length≤1000):
  GX V w H0 n UZ [(S "self",.v (.ref (r.at' .S)))] zx (AD (Cv 13 5)) (fun g fl Z zx'=>(∃v,fl=.ret v∧Rd (.bool (decide (r.fin<r.passed) ||!l.isEmpty)) g v)∧zx'=zx):=by
 have vs:∀{σ' zx' pos},σ'.lookup (S "self")=some (.v (.ref (r.at' .S)))->Am V w H0 n UZ σ' zx' (.Name (S "self") pos) (.v (.ref (r.at' .S))):=fun h=>Aa h rfl;have hzl:(BE l).length=l.length:=by simp[BE]
 refine AA (σ₁:=_) (zx₁:=zx) (BR (b:=false) (Gm hK ck h hr (vs rfl) (fun Z=>rfl) rfl) (fun q=>absurd q (by decide)) fun Z=>AC fun g=>⟨rfl,rfl,rfl⟩) ?_;refine Ad (h.hold .R (by show r.ready.isSome=true;rw[hr];rfl)) fun oR mR hR=>?_;have hR':OwnL (BE l) oR:=by
  have:OwnL (BE (r.ready.getD [])) oR:=hR;rw[hr] at this;exact this
 have e:(BE l).isEmpty=l.isEmpty:=by cases l<;> rfl
 refine Gq (DD (P:=fun g v=>Rd (.bool (decide (r.fin<r.passed) ||!l.isEmpty)) g v) (Ci (x:=.d _) (I9 (DX (Uf hK ck h (vs rfl) fun Z=>rfl) (Ps hK ck h (vs rfl) fun Z=>rfl) Ei rfl) fun Z=>Ez (by
  rw[←e];exact Q8 (a:=r.at' .R) hbool rfl (EY hK ck h hr (vs rfl) fun Z=>rfl) mR hR' (by rw[hzl];exact Ai (le_trans hz (by decide))) (fun Z=>rfl) fun Z=>rfl)))) fun g σ' zx' q=>by
  refine BL q fun x1 Z=>?_;rcases x1 with ⟨v,e,_⟩;exact ML e
noncomputable abbrev U0:Scope:=Ap (Cv 13 7)
theorem Py{x:NM}{l:List NM}(hK:K.In H0)(ck:ClsK K c)(hout:∃t,GIs H0 (S "_NODE_OUT") (.int (-1) t))(hdn:∃t,GIs H0 (S "_NODE_DONE") (.int (-2) t))(h:RepOk V w c r zx)(hr:r.ready=some l)(hx:x∈r.names)(hnp:r.np x= -1)(hs:Cf (r.succ x) r.names)(hz:l.length+(r.succ x).length≤1000):
  GX V w H0 n U0 [(S "self",.v (.ref (r.at' .S))),(S "nodes",.d (.tuple (BE [x])))] zx (AD (Cv 13 7)) (fun Z fl Z zx'=>fl=.next∧RepOk V w c (r.done x) zx'):=by
 revert hK ck hout hdn h hr hx hnp hs hz;revert x l;revert V w H0 n zx K c r;refine no_implicit_lambda% (HS (by exact(((default,w0),default),(default,(⟨0,0⟩,w1)))) ?_);generalize FK _ _=t9;generalize t9.1.1.1=V,t9.1.1.2=w,t9.1.2.1=H0,t9.1.2.2=n,t9.2.1.1=zx,t9.2.1.2=K,t9.2.2.1=c,t9.2.2.2=r;refine no_implicit_lambda% (I8 (by exact default) ?_);generalize Ip _ _=t9;generalize t9.1=x,t9.2=l;intro hK ck hout hdn h hr hx hnp hs hz;have vs:∀{σ' zx' pos},σ'.lookup (S "self")=some (.v (.ref (r.at' .S)))->Am V w H0 n U0 σ' zx' (.Name (S "self") pos) (.v (.ref (r.at' .S))):=fun h=>Aa h rfl;refine AA (σ₁:=_) (zx₁:=zx) (BR (b:=false) (Gm hK ck h hr (vs rfl) (fun Z=>rfl) rfl) (fun q=>absurd q (by decide)) fun Z=>AC fun g=>⟨rfl,rfl,rfl⟩) ?_;refine Hd (x:=.v (.ref (r.at' .D))) (JJ hK ck h (vs rfl) fun Z=>rfl) ?_ (Ab rfl) (fun Z Z=>rfl) (fun Z Z=>rfl);refine AG (Fh (Fj (x:=false) (ds:=(BE [x]).map .d) [] (fun i σ' zx'=>σ'.lookup (S "self")=some (.v (.ref (r.at' .S)))∧σ'.lookup (S "n2i")=some (.v (.ref (r.at' .D)))∧(i=0->zx'=zx)∧(i=1->RepOk V w c (r.done x) zx'))
  (Ψ:=fun Z fl σ' zx'=>fl=.next∧RepOk V w c (r.done x) zx') (GZ (Aa rfl rfl) Gz) ⟨rfl,rfl,fun Z=>rfl,UG⟩ (fun Z Z Z Z p hp=>BK hp) (fun i e σ' zx' he hJ=>?_) (fun g σ' zx' hJ=>⟨rfl,hJ.2.2.2 rfl⟩) (fun Z Z=>rfl) (.inl ⟨_,_,rfl⟩))) fun g σ' zx' q=>AC fun g=>⟨rfl,q⟩
 refine JX hJ fun l1 l2 x3 Z=>?_;revert x3;intro hJ;have hi:i=0:=by
  cases i with
  |zero=>rfl
  |succ i=>simp[BE] at he
 subst hi;obtain rfl:=hJ rfl;have e0:e=.d (.str (tx x)):=by
  have:some (Ent.d (.str (tx x)))=some e:=he;injection this with q;exact q.symm
 subst e0;refine⟨_,Af (Ab rfl),DU (EF fun Φ hΦ=>?_)⟩;refine Ad (h.hold .D trivial) fun oD mD hD=>?_;have hget:=CY (fun y=>Value.ref (r.at' (.I y))) r.names x;rw[if_pos hx] at hget;refine AG (Fh (Ψ:=Ek ((S "nodeinfo",.v (.ref (r.at' (.I x))))::(S "node",.d (.str (tx x)))::σ') zx') (MW (x:=false) (Fg (KJ (y:=S "nodeinfo") (v:=.ref (r.at' (.I x))) (Op (d:=r.at' .D) (x:=tx x) (show Am _ _ _ _ _ _ _ _ (.v (.ref (r.at' .D))) from Aa l2 rfl) mD hD h.lo (Aa rfl rfl) (by rw[hget];rfl) (fun Z=>rfl) (by decide) fun Z=>rfl) (Ab rfl) (.inr ⟨_,rfl⟩)))
  (fun g σ' zx' q=>absurd q.1 (by nofun)) fun g σ' zx' q=>Dk fun g=>⟨rfl,q.2.1,q.2.2⟩)) fun g σ₁ zx₁ q=>?_
 refine BL q fun x1 x2=>?_;try clear q;subst x1;subst x2
 refine Hd (x:=.d (.int (-1))) (Ra hK ck h hx hnp (Aa rfl rfl) fun Z=>rfl) ?_ (Ab rfl) (fun Z Z=>rfl) (fun Z Z=>rfl);refine AA (BR (b:=false) (Ar (Aa (e:=.d (.int (-1))) rfl rfl) (Nx hout rfl) (HV rfl rfl) rfl) (fun q=>absurd q (by decide)) fun Z=>AC fun g=>⟨rfl,rfl,rfl⟩) ?_;refine AG (Mo (x:=x) (i:= -2) hK ck h hx (Aa rfl rfl) (Nx hdn rfl) fun Z=>rfl) fun g σ2 zx2 q=>?_;refine CZ q fun x1 h2 Z=>?_;try clear q;subst x1
 have h2:RepOk V w c (r.putNp x (-2)) zx2:=h2;refine Ad (h2.hold (.T x) hx) fun oT mT hT=>?_;have hT:OwnL (BE (r.succ x)) oT:=hT;have hzs:(BE (r.succ x)).length=(r.succ x).length:=by simp[BE]
 refine AG (Fh (Fj (x:=false) (ds:=(BE (r.succ x)).map .d) [(r.at' (.T x),oT)] (fun i σ' zx'=>σ'.lookup (S "self")=some (.v (.ref (r.at' .S)))∧σ'.lookup (S "n2i")=some (.v (.ref (r.at' .D)))∧(r.at' (.T x),oT)∈zx'∧RepOk V w c ((r.putNp x (-2)).decs ((r.succ x).take i)) zx')
  (Ψ:=fun Z fl σ' zx'=>fl=.next∧σ'.lookup (S "self")=some (.v (.ref (r.at' .S)))∧σ'.lookup (S "n2i")=some (.v (.ref (r.at' .D)))∧RepOk V w c ((r.putNp x (-2)).decs (r.succ x)) zx')
  (SK (Lx (r:=r.putNp x (-2)) (x:=x) hK ck h2 hx (Aa rfl rfl) fun Z=>rfl) mT hT) ⟨l1,l2,mT,h2⟩ (fun i σ' zx' hJ p hp=>by rw[AU hp];exact hJ.2.2.1) (fun i e σ' zx' he hJ=>?_) (fun g σ' zx' hJ=>?_) (fun Z Z=>rfl) (.inl ⟨_,_,rfl⟩))) fun g σ3 zx3 q=>?_
 ·refine JX hJ fun l1 l2 mT' h'=>?_
  refine Ad (HM he) fun y hp x3=>?_;subst x3;have hyl:y∈r.succ x:=mem_of_getElem? hp;have htk:(r.succ x).take (i+1)=(r.succ x).take i++[y]:=by rw[take_add_one,hp];rfl
  have hdec:(r.putNp x (-2)).decs ((r.succ x).take (i+1))=((r.putNp x (-2)).decs ((r.succ x).take i)).dec y:=by
   unfold Rep.decs;rw[htk,foldl_append];rfl
  refine JY (GC ((r.succ x).take i) (r.putNp x (-2))) fun ea en es Z Z=>?_;refine Ad (He ((r.succ x).take i) (r.putNp x (-2)) l hr) fun m hm hml=>?_;rw[hdec];generalize (r.putNp x (-2)).decs ((r.succ x).take i)=r' at h' ea en es hm;have ea:r'.at'=r.at':=ea;have hyn:y∈r'.names:=by rw[en];exact hs y hyl
  have hTn:x∈r'.names:=by rw[en];exact hx
  refine⟨_,Af (Ab rfl),DU (EF fun Φ hΦ=>?_)⟩;refine Hd (x:=.v (.ref (r'.at' (.I y)))) (LA h' hyn (by rw[ea];exact Aa l2 rfl) (Aa rfl rfl) fun Z Z=>rfl) ?_ (Ab rfl) (fun Z Z=>rfl) (fun Z Z=>rfl);refine AG (Mn (x:=y) (k:=1) (i:=r'.np y - 1) hK ck h' hyn (Aa rfl rfl) Ao Ma) fun g σ₁ zx₁ q=>?_;obtain⟨rfl,h3,o',rfl⟩:=q;have h3:RepOk V w c (r'.putNp y (r'.np y - 1)) _:=h3;have hne:r.at' (.T x)≠r'.at' (.I y):=fun e=>by
   rw[←ea] at e;exact absurd (h'.apart (.T x) (.I y) hTn hyn e) (by intro q;exact GR Pl.ctorIdx q rfl)
  have mT3:=Au (o':=o') mT' hne;have hnp3:(r'.putNp y (r'.np y - 1)).np y=r'.np y - 1:=if_pos rfl;refine AG (BR (b:=(r'.np y - 1==0)) (Ar (Ra (r:=r'.putNp y (r'.np y - 1)) (x:=y) hK ck h3 hyn hnp3 (Aa rfl rfl) fun Z=>rfl) Ao KW rfl)
   (Ψ:=fun Z fl σ' zx'=>fl=.next∧σ'.lookup (S "self")=some (.v (.ref (r.at' .S)))∧σ'.lookup (S "n2i")=some (.v (.ref (r.at' .D)))∧(r.at' (.T x),oT)∈zx'∧RepOk V w c (r'.dec y) zx') (fun hb=>?_) fun hb=>AC fun g=>?_) fun g σ2 zx2 q=>AC fun g=>hΦ q
  ·refine Ad (h3.hold .R (by show r'.ready.isSome=true;rw[hm];rfl)) fun oR mR hR=>?_
   have hR':OwnL (BE m) oR:=by
    have:OwnL (BE (r'.ready.getD [])) oR:=hR;rw[hm] at this;exact this
   refine Ad (ownL_lo.mp hR') fun us hlo hf=>?_;have hul:us.length=m.length:=by rw[hf.length,BE,length_map]
   have hlt:((r.succ x).take i).length≤(r.succ x).length:=by rw[length_take];exact min_le_right _ _
   refine AG (Fx (a:=r'.at' .R) (ob:=oR) (vs:=us) (EY (r:=r'.putNp y (r'.np y - 1)) (l:=m) hK ck h3 hm (by show Am _ _ _ _ _ _ _ _ (.v (.ref (r'.at' .S)));rw[ea];exact vs l1) fun Z=>rfl) mR hlo (FX (Aa (e:=.d (.str (tx y))) rfl rfl)) (fun g v σ₁ zx₁ q=>?_) (Ai (by omega)) (fun Z=>rfl) rfl (fun Z=>rfl) fun Z=>rfl) fun g σ2 zx2 q=>AC fun g=>?_
   ·refine CZ q fun Z x2 x3=>?_;try clear q;subst x2;subst x3;exact mR
   refine KT q fun g1 v zx₁ o2 x5 hl' x7=>?_;try clear q;rcases x5 with ⟨mv,rfl,rfl⟩;subst x7
   have mv':Rd (.str (tx y)) g1 v:=mv;have h4:=KO (r:=r'.putNp y (r'.np y - 1)) (l':=m++[y]) h3 hm (ownL_lo.mpr ⟨_,hl',by
    rw[BE,map_append];exact F2.append hf (.cons (JC rfl mv') .nil)⟩)
   have e4:r'.dec y={r'.putNp y (r'.np y - 1) with ready:=some (m++[y])}:=by
    have hb':r'.np y - 1=0:=of_decide_eq_true hb;unfold Rep.dec;rw[if_pos hb',hm];rfl
   refine⟨rfl,l1,l2,Au mT3 fun e=>?_,by rw[e4];exact h4⟩;have e:r.at' (.T x)=r'.at' .R:=e;rw[←ea] at e;exact absurd (h'.apart (.T x) .R hTn (by show r'.ready.isSome=true;rw[hm];rfl) e) (by intro q;exact GR Pl.ctorIdx q rfl)
  ·have e4:r'.dec y=r'.putNp y (r'.np y - 1):=by
    have hb':¬(r'.np y - 1=0):=by simpa using hb
    unfold Rep.dec;rw[if_neg hb'];rfl
   exact⟨rfl,l1,l2,mT3,by rw[e4];exact h3⟩
 ·refine JX hJ fun l1 l2 mT' h'=>?_
  rw[length_map,hzs,take_length] at h';exact⟨rfl,l1,l2,h'⟩
 ·refine CZ q fun l1 l2 h3=>?_
  refine JY (GC (r.succ x) (r.putNp x (-2))) fun ea en es ep ef=>?_;have hd:r.done x={(r.putNp x (-2)).decs (r.succ x) with fin:=r.fin+1}:=rfl;generalize hr':(r.putNp x (-2)).decs (r.succ x)=r' at h3 ea en es ep ef hd;have ea:r'.at'=r.at':=ea;have ef:r'.fin=r.fin:=ef;refine Ad (h3.hold .S trivial) fun oS mS x3=>?_;subst x3;obtain⟨oF,mF,t1,t2,f⟩:=h3.hold .dS trivial;refine AG (Oo (x:=r'.at' .S) (dx:=r'.at' .dS) (i:=r'.fin) (k:=1) (r:=r.fin+1) hK ck.c1 (by rw[ea];exact vs l1) mS mF f ck.f4 rfl Ao (by rw[ef];exact HG) (show(4:Nat)≤100 by decide)) fun g σ3 zx3 q=>AC fun g=>hΦ ?_;obtain⟨rfl,t',od',hfd,rfl⟩:=q;rw[hd];exact⟨l1,l2,(Vj),fun Z=>JM h3 (r':={r' with fin:=r.fin+1}) rfl rfl rfl rfl rfl ⟨t1,t',hfd⟩⟩
end
noncomputable def Rep.new (a d D:Addr):Rep:=⟨fun p=>match p with|.dS=>d|.D=>D|_=>a,[],fun Z=>0,fun Z=>[],none,0,0⟩
section
variable{K:Frag}{c:Cls2}{r:Rep}
noncomputable abbrev Uk:Scope:=Ap (Cv 13 0)
theorem Ny{a d:Addr}(hda:d≠a)(hsm:∃o,H0.get? mainGlobals=some o)(hK:K.In H0)(ck:ClsK K c):
  GX V w H0 n Uk [(S "self",.v (.ref a)),(S "graph",.d .none)] [(a,Bg c.C1 d #[]),(d,emptyDict)] (AD (Cv 13 0)) (fun Z fl Z zx'=>fl=.next∧∃D,RepOk V w c (Rep.new a d D) zx'):=by
 revert hda hsm hK ck;revert V w H0 n K c a d;refine no_implicit_lambda% (HS (by exact(((default,w0),default),((default,⟨0,0⟩),default))) ?_);generalize FK _ _=t9;generalize t9.1.1.1=V,t9.1.1.2=w,t9.1.2.1=H0,t9.1.2.2=n,t9.2.1.1=K,t9.2.1.2=c,t9.2.2.1=a,t9.2.2.2=d;intro hda hsm hK ck;have vs:∀zx pos,Am V w H0 n Uk [(S "self",.v (.ref a)),(S "graph",.d .none)] zx (.Name (S "self") pos) (.v (.ref a)):=fun zx pos=>Aa rfl rfl;refine AG (HK (x:=a) (dx:=d) (sl:=#[]) (fs:=[]) hK ck.c1 (JH (KM hsm)) (fun g v σ₁ zx₁ q=>?_) (zero_le _) ck.f1 fun Z=>rfl) fun g σ' zx' q=>?_
 ·obtain⟨rfl,D,oD,rfl,⟨rfl,_⟩,rfl,_⟩:=q
  exact⟨vs _ _,.tail _ (.head _),emptyDict,.tail _ (.tail _ (.head _)),[],0,rfl,.nil⟩
 refine KT q fun g1 v zx₁ od x5 hfd x7=>?_;try clear q;rcases x5 with ⟨rfl,D,oD,rfl,⟨rfl,lo⟩,rfl,hnw,hh0⟩;subst x7
 have nDa:a≠D:=hnw _ mem_cons_self;have nDd:d≠D:=hnw (d,emptyDict) (.tail _ (.head _));have stp:∀{zx:Aw} {fs:List (Str×Value)} {od:Obj},((a,Bg c.C1 d #[])∈zx∧(D,emptyDict)∈zx)->FD fs od->(a,Bg c.C1 d #[])∈Ak d od zx∧(D,emptyDict)∈Ak d od zx∧(d,od)∈Ak d od zx∧FD fs od:=fun h f=>⟨Au h.1 hda.symm,Au h.2 (Ne.symm nDd),BZ,f⟩;have b1:=stp (zx:=(D,emptyDict)::[(a,Bg c.C1 d #[]),(d,emptyDict)]) ⟨.tail _ (.head _),.head _⟩ hfd;generalize Ak d od ((D,emptyDict)::[(a,Bg c.C1 d #[]),(d,emptyDict)])=zx1 at b1;refine AG (HK (x:=a) (dx:=d) (sl:=#[]) (fs:=[(S "_node2info",.ref D)]) hK ck.c1 (FX BV) (fun g v σ₁ zx₁ q=>?_) (show(1:Nat)≤100 by decide) ck.f2 fun Z=>rfl) fun g σ' zx' q=>?_
 ·refine CZ q fun Z x2 x3=>?_;try clear q;subst x2;subst x3
  exact⟨vs _ _,b1.1,od,b1.2.2⟩
 refine KT q fun g2 v zx₂ od2 x5 hfd2 x7=>?_;try clear q;rcases x5 with ⟨mv,rfl,rfl⟩;subst x7
 have e:=C0 mv;subst e;have b2:=stp ⟨b1.1,b1.2.1⟩ hfd2;generalize Ak d od2 zx₂=zx2 at b2;refine AG (HK (x:=a) (dx:=d) (sl:=#[]) (fs:=[(S "_node2info",.ref D),(S "_ready_nodes",.none)]) hK ck.c1 (FX (Ao (i:=0))) (fun g v σ₁ zx₁ q=>?_) (show(2:Nat)≤100 by decide) ck.f3 fun Z=>rfl) fun g σ' zx' q=>?_
 ·refine CZ q fun Z x2 x3=>?_;try clear q;subst x2;subst x3
  exact⟨vs _ _,b2.1,od2,b2.2.2⟩
 refine KT q fun g3 v zx₃ od3 x5 hfd3 x7=>?_;try clear q;rcases x5 with ⟨mv,rfl,rfl⟩;subst x7
 refine ex1 (Ax mv) fun t3 x2=>?_;subst x2;have b3:=stp ⟨b2.1,b2.2.1⟩ hfd3;generalize Ak d od3 zx₃=zx3 at b3;refine AG (HK (x:=a) (dx:=d) (sl:=#[]) (fs:=[(S "_node2info",.ref D),(S "_ready_nodes",.none),(S "_npassedout",.int 0 t3)]) hK ck.c1 (FX (Ao (i:=0))) (fun g v σ₁ zx₁ q=>?_) (show(3:Nat)≤100 by decide) ck.f4 fun Z=>rfl) fun g σ' zx' q=>?_
 ·refine CZ q fun Z x2 x3=>?_;try clear q;subst x2;subst x3
  exact⟨vs _ _,b3.1,od3,b3.2.2⟩
 refine KT q fun g4 v zx₄ od4 x5 hfd4 x7=>?_;try clear q;rcases x5 with ⟨mv,rfl,rfl⟩;subst x7
 refine ex1 (Ax mv) fun t4 x2=>?_;subst x2;have b4:=stp ⟨b3.1,b3.2.1⟩ hfd4;generalize Ak d od4 zx₄=zx4 at b4;refine AG (BR (b:=false) (Ar (Aa (e:=.d .none) rfl rfl) BV DP rfl) (fun q=>absurd q (by decide)) fun Z=>AC (Ψ:=Ek _ zx4) fun g=>⟨rfl,rfl,rfl⟩) fun g σ' zx' q=>AC fun g=>?_;refine BL q fun x1 x2=>?_;try clear q;subst x1;subst x2
 refine⟨rfl,D,fun p hp=>?_,fun p q hp hq e=>?_,lo⟩
 ·cases p with
  |S=>exact⟨_,b4.1,rfl⟩
  |dS=>exact⟨_,b4.2.2.1,t3,t4,b4.2.2.2⟩
  |D=>exact⟨_,b4.2.1,HL⟩
  |R=>exact EP hp
  |I y=>exact BK hp
  |e y=>exact BK hp
  |T y=>exact BK hp
 ·cases p<;> first|(cases hp;done)|skip
  all_goals cases q<;> first|rfl|(cases hq;done)|exact absurd e hda|exact absurd e.symm hda|exact absurd e nDa|exact absurd e.symm nDa|exact absurd e nDd|exact absurd e.symm nDd
structure SortK(V:Program)(w:World)(H0:Heap)(K:Frag)(c:Cls2):Prop where
 mkc:makesIn K c.C1=true
 sm:∃o,H0.get? mainGlobals=some o
 init:∃fI fd,findIn K (.ref c.C1) (S "__init__")=some (some (.ref fI))∧typeIn K (.ref fI)=some (.type "function")∧DefG H0 fI fd Uk (AD (Cv 13 0))∧∀a,Kl V w H0 fd [S "self",S "graph"] [.v (.ref a)] [.v (.ref a),.d .none]
 glob:GIs H0 (S "TopologicalSorter") (.ref c.C1)
theorem Pz{p pos:Pos}(hK:K.In H0)(ck:ClsK K c)(sk:SortK V w H0 K c)(hgl:BA sc (S "TopologicalSorter")=true):
  GS V w H0 (n+2) sc σ zx (eval (.Call (.Name (S "TopologicalSorter") p) [] [] pos)) (fun g v σ' zx'=>σ'=σ∧∃a d D L',v=.ref a∧RepOk V w c (Rep.new a d D) L'∧zx'=L'++zx):=by
 refine ex2 sk.init fun fI fd h9=>?_;refine JX h9 fun h1 h2 Df hb=>?_;clear h9;refine AV (Q0 (n:=n+1) (xs:=[]) (Θ:=fun a d L'=>∃D,RepOk V w c (Rep.new a d D) L') hK sk.mkc h1 h2 (DA sk.glob hgl) Bc (fun a d hne=>?_) fun Z=>rfl) fun g v σ' zx' q=>?_
 ·refine(Ew (x:=false) (ps:=[S "self",S "graph"]) (xs':=[.v (.ref a),.d .none]) Df (hb a) rfl rfl (DU (AV (Ny hne sk.sm hK ck) fun g fl σ' zx' q=>?_))).gc
  refine BL q fun x1 x2=>?_;try clear q;revert x2;intro q;subst x1
  exact⟨rfl,q⟩
 ·obtain⟨rfl,a,d,L',rfl,⟨⟨D,h⟩,_⟩,rfl⟩:=q
  exact⟨rfl,a,d,D,L',rfl,h,rfl⟩
end
section
variable{K:Frag}
theorem GP.news{α:Type}{s:Shared}{zy:List Addr}{zz:Env}{h₁:Heap}{tk:Nat}{N:Aw}{Ψ:Heap->α->AN->Aw->Prop}{v:α}(F:Fm H0 zy zx zz σ s.heap)(ex:Ext s.heap h₁)(hn:∀p∈N,s.heap.get? p.1=none)(ha:∀p∈N,h₁.get? p.1=some p.2)
  (h:∀g,(∀p∈zx,∀q∈N,p.1≠q.1)->Ψ g v σ (N++zx)):GP H0 s zy zz zx Ψ v {s with heap:=h₁,toks:=tk}:=by
 have F1:Fm H0 (N.map (·.1)++zy) zx zz σ h₁:=F.more ex (fun b m=>by
   refine Ad (Ct m) fun p hp x3=>?_;subst x3;exact hn p hp) fun b m=>by
   refine Ad (Ct m) fun p hp x3=>?_;subst x3;exact⟨_,ha p hp⟩
 have nl:∀p∈N,p.1≠zz.locals:=fun p hp q=>by
  refine Ad F.ns fun m x2 Z=>?_;rcases x2 with ⟨oo,es,ep,e1,r⟩;have:=hn p hp;rw[q,e1] at this;exact E4 this
 have nc:∀p∈N,∀c∈zz.cells,p.1≠c.2:=fun p hp c hc q=>by
  refine B8 (F.cells c hc) fun v oo e1 Z=>?_;have:=hn p hp;rw[q,e1] at this;exact E4 this
 have F2:Fm H0 (N.map (·.1)++zy) (N++zx) zz σ h₁:={F1 with
  ledh:=fun p hp=>by
   rcases Cx hp with hp|hp
   ·exact mem_append_left _ (mem_map_of_mem (f:=(·.1)) hp)
   ·exact F1.ledh p hp
  ledg:=fun p hp=>by
   rcases Cx hp with hp|hp
   ·exact ha p hp
   ·exact F1.ledg p hp
  ledoff:=fun p hp=>by
   rcases Cx hp with hp|hp
   ·exact⟨nl p hp,nc p hp⟩
   ·exact F1.ledoff p hp}
 refine⟨h₁,tk,_,σ,N++zx,rfl,ex.keep _,F2,fun b m=>mem_append_right _ m,fun b m=>?_,fun p hp=>?_,h _ fun p hp q hq e=>?_⟩
 ·rcases Cx m with m|m
  ·refine Ad (Ct m) fun p hp x3=>?_;subst x3;exact .inr (hn p hp)
  ·exact .inl m
 ·rcases Cx hp with hp|hp
  ·exact .inr (hn p hp)
  ·exact .inl (mem_map_of_mem hp)
 ·have:=F.ledg p hp
  rw[e,hn q hq] at this;exact CE this
theorem PA{x:Str}{e:Expr}{p pos:Pos}{f:Value}{a:Addr}{P:Heap->Value->Prop}(hg:GIs H0 x f)(hc:Cn H0 f)(hgo:BA sc x=true)(he:Am V w H0 n sc σ zx e (.v (.ref a)))
  (hcall:∀A s zy zz,Good n A->Fm H0 zy zx zz σ s.heap->wpAny (model V w) A (call f [.ref a]) (Pu s zy P) CO s)
  (hb:∀zz,backTo pos (starEach [e] zz)=[(false,eval e zz)])(hb2:∀zz,(backTo pos (starEach [e] zz)).any (·.1)=false):EvP V w H0 n sc σ zx (.Call (.Name x p) [e] [] pos) P:=by
 intro A zz s zy g o F;refine Call_Name rfl (Aq (DA hg hgo A zz s zy g o F) fun v s₁ q=>?_);have e1:=q.val;subst e1;have F1:=F.ext q.ext;refine B9 (zz:=zz) F1.toBase.h0 hc (hb2 zz) (Bk he hb A zz s₁ zy g o F1) fun vs s2 q2=>?_;have F2:=F1.ext q2.ext;have mv:=q2.val;obtain⟨u,rfl,hu⟩:=C7 mv;have e2:u=.ref a:=hu;subst e2;exact Ah (hcall A s2 zy zz g F2) (fun v s3 q3=>(q.trans q2).trans q3) fun Z Z f=>f
theorem SR{e:Expr}{p pos:Pos}{a:Addr}{ob:Obj}{vs:List Value}(hg:GIs H0 (S "len") (.builtin "len"))(hgo:BA sc (S "len")=true)(he:Am V w H0 n sc σ zx e (.v (.ref a)))(ho:(a,ob)∈zx)(hl:LO vs ob)(hz:vs.length≤sizeLine)
  (hb:∀zz,backTo pos (starEach [e] zz)=[(false,eval e zz)])(hb2:∀zz,(backTo pos (starEach [e] zz)).any (·.1)=false):Am V w H0 n sc σ zx (.Call (.Name (S "len") p) [e] [] pos) (.d (.int vs.length)):=by
 refine PA hg Be hgo he (fun A s zy zz g F=>?_) hb hb2;obtain⟨k,rfl⟩:=hl;have hL:=F.ledg _ ho;refine PyProof.Rows.len_list (items:=toArray vs) ⟨_,hL,rfl,k,rfl⟩ (by rw[size_toArray];exact MM ‹_›) ?_;rw[size_toArray];exact Pu.tok (BN _ _ _)
noncomputable abbrev By (T:Addr) (i:Nat):Obj:={cls:=.type "list_iterator",data:=.fields #[.ref T,.int i 0]}
noncomputable abbrev C6 (I:Addr):Obj:=Dv "method-wrapper" (.builtin "list_iterator.__next__") (.ref I)
namespace NF
theorem entry_iter:entryFor table "iter"=some Builtin.«iter»:=entryFor_of_fast (by kernel_rfl)
theorem plain_iter:plainId "iter"=true:=by exact rfl
end NF
theorem JN{A:Around}{E:Value->Shared->Prop}{s:Shared}{l:Addr}{items:Array Value}{Q:Value->Shared->Prop}(hl:s.heap.IsList l items)(hQ:Q (.ref s.heap.objs.size) {s with heap:=s.heap.push (By l 0)}):wpAny (model V w) A (call (.builtin "iter") [.ref l]) Q E s:=by
 have ck:checkBuiltinCall "iter" ⟨[.ref l],[]⟩=pure ():=by exact rfl
 refine wpAny_call (codeAny_call_builtin NF.plain_iter NF.entry_iter ?_);rw[ck];refine Ag ?_;show wpAny _ _ (pyIter (.ref l) >>=fun v=>ret v) _ _ _;exact Ac (wpAny_pyIter_list hl (Ag hQ))
theorem Mp{e:Expr}{p pc pa:Pos}{a:Addr}{ob:Obj}{ds:List PyData}(hg:GIs H0 (S "iter") (.builtin "iter"))(hgo:BA sc (S "iter")=true)(he:Am V w H0 n sc σ zx e (.v (.ref a)))(ho:(a,ob)∈zx)(hl:OwnL ds ob)
  (hb:∀zz,backTo pc (starEach [e] zz)=[(false,eval e zz)])(hb2:∀zz,(backTo pc (starEach [e] zz)).any (·.1)=false)(hat:DG (.Call (.Name (S "iter") p) [e] [] pc) (S "__next__") pa):
  GS V w H0 n sc σ zx (eval (.Attribute (.Call (.Name (S "iter") p) [e] [] pc) (S "__next__") pa)) (fun Z v σ' zx'=>σ'=σ∧∃W I,v=.ref W∧W≠I∧(∀p∈zx,p.1≠W∧p.1≠I)∧zx'=[(W,C6 I),(I,By a 0)]++zx):=by
 intro A zz s zy g o F;refine Attribute_any_ (he:=hat zz) (Call_Name rfl (Aq (DA hg hgo A zz s zy g o F) fun v s₁ q=>?_));have e1:=q.val;subst e1;have F1:=F.ext q.ext;refine B9 (zz:=zz) F1.toBase.h0 Be (hb2 zz) (Bk he hb A zz s₁ zy g o F1) fun vs s2 q2=>?_;have F2:=F1.ext q2.ext;have mv:=q2.val;obtain⟨u,rfl,hu⟩:=C7 mv;have e2:u=.ref a:=hu;subst e2;refine B8 (Dw hl (F2.ledg _ ho)) fun vs k hL f=>?_;refine JN hL.isList ?_;obtain⟨h,gn,dr,tk,os⟩:=s2;have eI:(h.push (By a 0)).get? h.objs.size=some (By a 0):=Heap.get?_push_size _ rfl;refine bnd_next.attr (a:=h.objs.size) (o:=By a 0) eI rfl rfl rfl ?_;have hsz:(h.push (By a 0)).objs.size=h.objs.size+1:=Heap.size_push ..;have n1:h.get? (h.push (By a 0)).objs.size=none:=by rw[hsz];exact CA (le_succ _)
 have hne:(h.push (By a 0)).objs.size≠h.objs.size:=by rw[hsz];exact Nat.succ_ne_self _
 refine GP.backP F q (GP.backP F1 q2 (GP.news (N:=[((h.push (By a 0)).objs.size,C6 h.objs.size),(h.objs.size,By a 0)]) F2 ((An _ _).trans (An _ _)) (fun p hp=>?_) (fun p hp=>?_) fun g hd=>⟨rfl,_,_,rfl,hne,fun p hp=>⟨hd p hp _ mem_cons_self,hd p hp (h.objs.size,By a 0) (.tail _ (.head _))⟩,rfl⟩))
 ·rcases BF hp with rfl|hp
  ·exact n1
  ·rw[AU hp];exact CA (le_refl _)
 ·rcases BF hp with rfl|hp
  ·exact Heap.get?_push_size _ rfl
  ·rw[AU hp];exact Heap.get?_push_of_some _ eI
inductive SetO(V:Program)(w:World)(xs:List (List Nat))(o:Obj):Prop
 |mk:∀S n,o.SetObjOf (DN V w) S n->n≤xs.length->(∀x:List Nat,S (tx x)=decide (x∈xs))->SetO V w xs o
theorem SU{p pos:Pos}(hg:GIs H0 (S "set") (.type "set"))(hgo:BA sc (S "set")=true):J3 V w H0 n sc σ zx (.Call (.Name (S "set") p) [] [] pos) (SetO V w []):=by
 intro A zz s zy g o F;refine Call_Name rfl (Aq (DA hg hgo A zz s zy g o F) fun v s₁ q=>?_);have e1:=q.val;subst e1;have F1:=F.ext q.ext;refine B9 (zz:=zz) F1.toBase.h0 B2 rfl (Bc A zz s₁ zy g o F1) fun vs s2 q2=>?_;have mv:=q2.val;obtain rfl:=KU mv;refine call_set_0 fun ld=>?_;obtain⟨h2,t2,e2,ex,_⟩:=q.trans q2;subst e2;exact⟨_,_,_,_,rfl,ex.trans (An _ _),rfl,Heap.get?_push_size _ rfl,by
  cases z:s.heap.get? h2.objs.size with
  |none=>rfl
  |some o=>exact absurd (Heap.lt_size (ex _ _ z)) (lt_irrefl _),fun Z=>false,0,setObjOf_fresh ld,le_refl _,fun x=>by exact rfl⟩
theorem Mq{e k:Expr}{pos:Pos}{a:Addr}{ob:Obj}{xs:List (List Nat)}{x:List Nat}(he:Am V w H0 n sc σ zx e (.v (.ref a)))(ho:(a,ob)∈zx)(hs:SetO V w xs ob)(hz:xs.length≤100)(hk:Am V w H0 n sc σ zx k (.d (.str (tx x))))(hm:behindInMarks .In e=false):
  FI V w H0 n sc σ zx (.Compare k [.In] [e] pos) (decide (x∈xs)):=by
 intro A zz s zy g o F;refine wpAny_isTrue_Compare1 (Aq (hk A zz s zy g o F) fun u s₁ q1=>?_) hm;have F1:=F.ext q1.ext;refine Aq (he A zz s₁ zy g o F1) fun c s2 q2=>?_;have e1:=q2.val;subst e1;refine ex1 (AR q1.val) fun t x2=>?_;subst x2;obtain⟨S',m,hso,hm',hS⟩:=hs;refine wpAny_inSet_of (knd:=DN V w) (k:=tx x) (Ev _ t) rfl (hso.setOf ((F1.ext q2.ext).ledg _ ho) (lt_of_le_of_lt hm' (lt_of_le_of_lt hz (by decide)))) ?_;rw[hS];exact wpAny_truthy_bool ((q1.trans q2).trans (Pu.tok rfl))
theorem PB{e k:Expr}{pa pos pos':Pos}{a:Addr}{ob:Obj}{xs:List (List Nat)}{x:List Nat}(he:Am V w H0 n sc σ zx e (.v (.ref a)))(ho:(a,ob)∈zx)(hs:SetO V w xs ob)(hz:xs.length≤99)(hk:Am V w H0 n sc σ zx k (.d (.str (tx x))))
  (hbase:∀zz,attributeBase e "add" zz (eval e zz)=eval e zz)(hline:(pa.endLine==pos.line)=true)(hs1:∀zz,starEach [k] zz=[(false,eval k zz)])(hsw:∀zz,swapsWith (.Call (.Attribute e "add" pa) [k] [] pos) none pos'.line zz=pure false):
  GT V w H0 n sc σ zx (.Expr (.Call (.Attribute e "add" pa) [k] [] pos) pos') (fun Z fl σ' zx'=>fl=.next∧σ'=σ∧∃o',SetO V w (xs++[x]) o'∧zx'=Ak a o' zx):=by
 intro A zz s zy g oo F;refine wpAny_Expr_any ?_ (CD oo) (hsw zz);obtain⟨S',m,hso,hm',hS⟩:=hs;refine Call_method1 (hbase _) (hs1 zz) hline (Aq (he A zz s zy g oo F) fun u s₁ q=>?_);have e1:=q.val;subst e1;have F1:=F.ext q.ext;have hb1:m<scanBound:=lt_of_le_of_lt hm' (lt_of_le_of_lt hz (by decide));have h1:=hso.setOf (F1.ledg _ ho) hb1;refine⟨"set","set.add",PySem.F.plainAttrs_set,PySem.F.slot_set_add,PySem.F.type_set_add,h1.typeIs,h1.noDict,?_⟩;refine callWith_builtin rfl (evalArgs_plain (spliced_cons (Aq (hk A zz s₁ zy g oo F1) fun v s2 q2=>spliced_nil ?_)));refine ex1 (AR q2.val) fun t x2=>?_;subst x2;have F2:=F1.ext q2.ext;refine call_set_add (knd:=DN V w) (k:=tx x) (Ev _ t) rfl (hso.setOf (F2.ledg _ ho) hb1) (lt_of_le_of_lt (succ_le_succ (le_trans hm' hz)) (by decide)) fun h' hsb hS'=>?_;refine Ad hS'.objOf fun o' ho' hso'=>?_;refine GP.backP F q (GP.backP F1 q2 (GP.mut F2 ho (AF hsb) ho' ⟨rfl,rfl,o',⟨_,_,hso',?_,fun y=>?_⟩,rfl⟩))
 ·rw[length_append,List.length_singleton]
  split<;> lia
 ·rw[hS]
  by_cases hy:y=x
  ·subst hy;simp
  ·have:tx y≠tx x:=fun e=>hy (Ep e)
   simp[hy,this]
end
section
variable{K:Frag}
structure Seen(L:List Addr)(h h':Heap):Prop where
 stay:∀b o,b∉L->h.get? b=some o->h'.get? b=some o
 up:∀b∈L,∀o,h.get? b=some o->(∀vs,o.data≠ .fields vs)->∃sl,h'.get? b=some {o with slots:=sl}
theorem I4{zy:List Addr}{zz:Env}{zw:List Env}{h h':Heap}(F:Fm H0 zy zx zz σ h)(lo:∀b∈Ck zw,b∈zy∧∃o,h.get? b=some o∧∀vs,o.data≠ .fields vs)(O:GG zw zz zx)(s:Seen (zz.locals::Ck zw) h h'):
  Fm H0 zy zx zz σ h'∧KeepU (AI zz zx) (Ck zw) h h':=by
 have inh:∀b∈zz.locals::Ck zw,b∈zy:=fun b m=>by
  rcases BF m with rfl|m
  ·exact F.loc
  ·exact(lo b m).1
 have nd:∀b∈zz.locals::Ck zw,∃o,h.get? b=some o∧∀vs,o.data≠ .fields vs:=fun b m=>by
  rcases BF m with rfl|m
  ·refine Ad F.ns fun m x2 Z=>?_;rcases x2 with ⟨o,es,ep,e,hd,_⟩
   exact⟨o,e,fun vs q=>by rw[hd] at q;exact GR Data.ctorIdx q rfl⟩
  ·exact(lo b m).2
 have gv:Ext (vis h zy) (vis h' zy):=fun b o e=>AQ (s.stay b o (fun m=>(Al e).2 (inh b m)) (Al e).1) (Al e).2;have offc:∀p∈zz.cells,p.2∉zz.locals::Ck zw:=fun p hp m=>by
  rcases BF m with e|m
  ·exact F.off p hp e
  ·exact O _ m (mem_cons_of_mem _ (mem_append_left _ (mem_map_of_mem hp)))
 have offl:∀p∈zx,p.1∉zz.locals::Ck zw:=fun p hp m=>by
  rcases BF m with e|m
  ·exact(F.ledoff p hp).1 e
  ·exact O _ m (FW (mem_map_of_mem hp))
 have cell:∀c v,(∃p∈zz.cells,p.2=c)->h.IsCell c v->h'.IsCell c v:=fun c v ⟨p,hp,e⟩ ⟨o,a,b⟩=>⟨o,s.stay c o (by rw[←e];exact offc p hp) a,b⟩;refine⟨{F with
  base:=F.base.trans gv
  alive:=fun a m=>?_
  ns:=?_
  cell:=fun x e hx hk=>?_
  cells:=fun p hp=>let⟨v,c⟩:=F.cells p hp;⟨v,cell _ _ ⟨p,hp,rfl⟩ c⟩
  ledg:=fun p hp=>s.stay _ _ (offl p hp) (F.ledg p hp)},fun b o n1 n2 e=>s.stay b o (fun m=>?_) e,fun b m o e d=>s.up b (mem_cons_of_mem _ m) o e d⟩
 ·by_cases q:a∈zz.locals::Ck zw
  ·refine Ad (nd a q) fun o e d=>?_
   refine ex1 (s.up a q o e d) fun sl e'=>?_;exact⟨_,e'⟩
  ·refine ex1 (F.alive a m) fun o e=>?_
   exact⟨o,s.stay a o q e⟩
 ·refine Ad F.ns fun m x2 q=>?_;rcases x2 with ⟨o,es,ep,e,hd,r⟩
  obtain⟨sl,e'⟩:=s.up _ mem_cons_self o e fun vs q=>by rw[hd] at q;exact GR Data.ctorIdx q rfl
  refine⟨m,⟨_,es,ep,e',hd,r⟩,fun x e hx hk=>?_⟩;refine Ad (q x e hx hk) fun v a b=>?_;exact⟨v,a,b.ext gv⟩
 ·refine Bh (F.cell x e hx hk) fun c v a b d=>?_
  exact⟨c,v,a,cell c _ ⟨(x,c),mem_of_lookup a,rfl⟩ b,d.ext gv⟩
 ·rcases BF m with rfl|m
  ·exact n1 mem_cons_self
  ·exact n2 m
section
variable{A:Around}{E:Value->Shared->Prop}{s:Shared}{it l:Addr}{i:Nat}{items:Array Value}
theorem PC{x:Value}{Q:PySem.Fin->Shared->Prop}(ho:s.heap.get? it=some (By l i))(hl:s.heap.IsList l items)(hx:items[i]? =some x)
  (hQ:Q (.done (.ret x)) {s with heap:=s.heap.update it (Obj.mapFields (·.setIfInBounds 1 (.int (i+1:Nat) 0)))}):wpAny (model V w) A (Builtin.«list_iterator.__next__» ⟨[.ref it],[]⟩) Q E s:=by
 obtain⟨ol,hol,_,nl,hdl⟩:=hl;show wpAny _ _ (field (.ref it) 0 >>=_) _ _ s;refine Ac (wpAny_field ho rfl (x:=.ref l) rfl ?_);show wpAny _ _ (if(Value.ref l==Value.none)=true then _ else _) _ _ s;rw[if_neg (show¬((Value.ref l==Value.none)=true) from Bool.false_ne_true)];show wpAny _ _ (field (.ref it) 1 >>=_) _ _ s;refine Ac (wpAny_field ho rfl (x:=.int i 0) rfl ?_);show wpAny _ _ (seqItems? (.ref l) >>=_) _ _ s;refine Ac (wpAny_seqItems hol hdl ?_);simp only[Int.toNat_natCast,hx];exact Ac (wpAny_setField ho rfl (lt_succ_self _) (Ag hQ))
theorem Rc{Q:PySem.Fin->Shared->Prop}(hh:A.handled=none)(ho:s.heap.get? it=some (By l i))(hl:s.heap.IsList l items)(hx:items[i]? =none)
  (hE:∀u o' h' e oe vs t,Heap.SameBut it s.heap u->u.get? it=some o'->Ext u h'->u.get? e=none->h'.get? e=some oe->oe.cls=.type "StopIteration"->oe.data=.fields vs->vs[0]? =some (.ref t)->vs[1]? =some .none->E (.ref e) {s with heap:=h'}):wpAny (model V w) A (Builtin.«list_iterator.__next__» ⟨[.ref it],[]⟩) Q E s:=by
 obtain⟨ol,hol,_,nl,hdl⟩:=hl;show wpAny _ _ (field (.ref it) 0 >>=_) _ _ s;refine Ac (wpAny_field ho rfl (x:=.ref l) rfl ?_);show wpAny _ _ (if(Value.ref l==Value.none)=true then _ else _) _ _ s;rw[if_neg (show¬((Value.ref l==Value.none)=true) from Bool.false_ne_true)];show wpAny _ _ (field (.ref it) 1 >>=_) _ _ s;refine Ac (wpAny_field ho rfl (x:=.int i 0) rfl ?_);show wpAny _ _ (seqItems? (.ref l) >>=_) _ _ s;refine Ac (wpAny_seqItems hol hdl ?_);simp only[Int.toNat_natCast,hx];refine Ac (wpAny_rule (Ac (wpAny_setField ho rfl (le_succ _) ?_)));show wpAny _ _ (newExc (.type "StopIteration") [] >>=_) _ _ _;refine Ac ?_;simp only[newExc,newTuple];refine Ac (wpAny_newObj_type ?_ (by size_fits));refine Ac (m:=firstArgMember _ _) (wpAny_of_eq (a:=Value.none) (by first|rfl|(simp only[firstArgMember];rfl)) ?_);refine wpAny_newObj_type ?_ (by size_fits);simp -iota only[raiseNew];refine Ac (wpAny_handled ?_);rw[hh];refine Ac (Ag (wpAny_throw ?_));have eu:(s.heap.update it (Obj.mapFields (·.setIfInBounds 0 Value.none))).get? it=some (Obj.mapFields (·.setIfInBounds 0 Value.none) (By l i)):=Heap.get?_update_self _ ho rfl;have sb:Heap.SameBut it s.heap (s.heap.update it (Obj.mapFields (·.setIfInBounds 0 Value.none))):=Heap.SameBut.update ..;generalize s.heap.update it (Obj.mapFields (·.setIfInBounds 0 Value.none))=u at *;have sz:=sb.1;have sz2:(u.push {cls:=.type "tuple",data:=.seq #[]}).objs.size=s.heap.objs.size+1:=by rw[Heap.size_push,sz]
 exact hE u _ _ _ _ _ u.objs.size sb eu ((An _ _).trans (An _ _)) (by rw[sz2,←sz];exact CA (le_succ _)) (Heap.get?_push_size _ rfl) rfl rfl (by rw[Array.getElem?_append_left (succ_pos _)];rfl) (by rw[Array.getElem?_append_left (by simp)];rfl)
end
theorem Hf{h base:Heap}:∀(l:List Env),(∀e∈l,(e.scope.kind≠ .module∧e.frame=some e.locals)∧base.get? e.locals=none∧∃o,h.get? e.locals=some o∧∀vs,o.data≠ .fields vs)->h.FunFrames base l:=by
 intro l
 induction l with
 |nil=>
  intro Z;exact trivial
 |cons e l Hf=>
  intro q;exact⟨(q e mem_cons_self).1.1,⟨e.locals,(q e mem_cons_self).2.2.choose,(q e mem_cons_self).1.2,(q e mem_cons_self).2.1,(q e mem_cons_self).2.2.choose_spec⟩,Hf fun e' m=>q e' (mem_cons_of_mem _ m)⟩
noncomputable abbrev EM (zz:Env) (zw:List Env) (u:Heap):Heap:=vis u (zz.locals::Ck zw)
theorem Ie{zz:Env}{zw:List Env}{u:Heap}{b:Addr}(m:b∈zz.locals::Ck zw∨u.get? b=none):(EM zz zw u).get? b=none:=by
 cases e:(EM zz zw u).get? b with
 |none=>rfl
 |some o=>
  have:=Al e;rcases m with m|m
  ·exact absurd m this.2
  ·rw[this.1] at m;exact E4 m
theorem KP{A:Around}{zz:Env}{zw:List Env}{zy:List Addr}{u h':Heap}(F:Fm H0 zy zx zz σ u)(K:FrOk A zz zw zy u)(ex:Ext u h'):h'.FunFrames (EM zz zw u) (zz::zw):=Hf _ fun e m=>⟨K.fn e m,Ie (.inl (by
  rcases BF m with rfl|m
  ·exact mem_cons_self
  ·exact mem_cons_of_mem _ (mem_map_of_mem m))),by
 rcases BF m with rfl|m
 ·refine Ad F.ns fun m x2 Z=>?_;rcases x2 with ⟨o,es,ep,e,hd,_⟩
  exact⟨o,ex _ _ e,fun vs q=>by rw[hd] at q;exact GR Data.ctorIdx q rfl⟩
 ·obtain⟨_,o,e,d⟩:=K.low _ (mem_map_of_mem m)
  exact⟨o,ex _ _ e,d⟩⟩
theorem Nz{A:Around}{E:Value->Shared->Prop}{s:Shared}{zz:Env}{zw:List Env}{zy:List Addr}{u:Heap}{e:Addr}{oe:Obj}{vs:Array Value}{a0:Value}{Q:Unit->Shared->Prop}(F:Fm H0 zy zx zz σ u)(K:FrOk A zz zw zy u)
  (ex:Ext u s.heap)(hn:u.get? e=none)(he:s.heap.get? e=some oe)(hd:oe.data=.fields vs)(h0:vs[0]? =some a0)(h1:vs[1]? =some .none)
  (hQ:∀h',Heap.FlyingW (EM zz zw u) (zz::zw) e oe.cls a0 h'->Seen (zz.locals::Ck zw) u h'->Q () {s with heap:=h'}):
  wpAny (model V w) A (noteFrame (.ref e) zz) (fun Z s2=>wpAny (model V w) A (setFlight (.ref e) none) Q E s2) E s:=by
 have hf:zz.frame=some zz.locals:=(K.fn zz mem_cons_self).2;have fl:s.heap.FunFrames (EM zz zw u) (zz::zw):=KP F K ex;have st:(EM zz zw u).StaysIn s.heap:=fun b o q=>ex b o (Al q).1;unfold noteFrame;simp only[hf];refine Ac (wpAny_field he hd h1 ?_);rw[if_neg (by decide)];refine wpAny_entryW K.stack fl hf he st (Ie (.inr hn)) hd (Array.getElem?_eq_some_iff.mp h1).1 h0 fun h2 ⟨k1,k2,k3,k4⟩=>?_;refine wpAny_landsW ⟨k1,Ie (.inr hn),k2,k3⟩ fun h₃ fl3 up=>hQ h₃ fl3 ⟨fun b o n q=>fl3.1 b o (AQ q n),fun b m o q d=>?_⟩;refine ex1 (k4 b o (ex b o q) d) fun sl q2=>?_;refine ex1 (up b _ q2 d) fun sl' q3=>?_;exact⟨sl',q3⟩
theorem NA{A:Around}{E:Value->Shared->Prop}{s:Shared}{zz:Env}{zw:List Env}{u:Heap}{e:Addr}{cls a0:Value}{Q:Unit->Shared->Prop}(fl:Heap.FlyingW (EM zz zw u) (zz::zw) e cls a0 s.heap)(sn:Seen (zz.locals::Ck zw) u s.heap)
  (hQ:∀h',Heap.FlyingW (EM zz zw u) (zz::zw) e cls a0 h'->Seen (zz.locals::Ck zw) u h'->Q () {s with heap:=h'}):wpAny (model V w) A (setFlight (.ref e) none) Q E s:=by
 refine JX fl fun f1 f2 f3 f4=>?_;refine wpAny_setFlight_noneW f1 f3 f4.at fun h' k1 k2 k3 k4=>hQ h' ⟨k1,f2,k2,k3⟩ ⟨fun b o n q=>k1 b o (AQ q n),fun b m o q d=>?_⟩;refine ex1 (sn.up b m o q d) fun sl q2=>?_;exact⟨sl,k4 b _ q2 d⟩
end
section
variable{K:Frag}
section
variable{A:Around}{zz:Env}{s:Shared}{zy:List Addr}
theorem Mr{x:Str}{pos:Pos}{e:Ent}(o:EnvOk sc zz)(F:Fm H0 zy zx zz σ s.heap)(hs:σ.lookup x=some e)(h:El sc x=true):wpAny (model V w) A (eval (.Name x pos) zz) (Pu s zy (fun g v=>Means g v e)) CO s:=by
 have hkf:=o.kf;simp only[El,Bool.and_eq_true,Bool.or_eq_true,beq_iff_eq,bne_iff_ne] at h;refine BL h fun x1 hn=>?_;rcases x1 with ⟨hx,hd⟩;refine wpAny_Name ?_ (by simpa using hd);rcases hx with (hx|hx)|hx
 ·refine Ad F.ns fun m hm q=>?_
  refine Ad (q x e hs (by rw[o.kind];exact hx)) fun v a b=>?_;exact wpAny_loadName_local hkf (by rw[o.kind];exact hx) hm a (Pu.here b)
 ·refine Bh (F.cell x e hs (by rw[o.kind];exact .inl hx)) fun c v a b d=>?_
  exact wpAny_loadName_cell hkf (by rw[o.kind];exact hx) a b (Pu.here d)
 ·refine Bh (F.cell x e hs (by rw[o.kind];exact .inr hx)) fun c v a b d=>?_
  exact wpAny_loadName_free hkf (by rw[o.kind];exact hx) a b (Pu.here d) (by simpa using hn)
theorem Ms{x:Str}{pos:Pos}{v:Value}(o:EnvOk sc zz)(F:Fm H0 zy zx zz σ s.heap)(hg:GIs H0 x v)(h:BA sc x=true):wpAny (model V w) A (eval (.Name x pos) zz) (Pu s zy (fun g u=>u=v)) CO s:=by
 simp only[BA,Bool.and_eq_true,beq_iff_eq,bne_iff_ne] at h;have hkf:=o.kf;obtain⟨mg,h1,h2⟩:=hg;have h1':s.heap.Ns zz.globals mg:=by rw[o.glob];exact h1.keeps F.toBase.h0
 refine Name_function_global hkf (by rw[o.kind];exact h.1) ?_ (by simpa using h.2);rcases h2 with h2|⟨h2,mb,h3,h4⟩
 ·exact loadGlobal_global h1' h2 (Pu.here rfl)
 ·exact loadGlobal_builtin h1' h2 (by rw[o.bi];exact h3.keeps F.toBase.h0) h4 (Pu.here rfl)
theorem Ov{vs:List Value}{v:Value}{k:Nat}:Obj.mapSeq (fun xs=>xs.eraseIdxIfInBounds ((toArray (vs++[v])).size - 1)) (W.listOf (toArray (vs++[v])) k)=W.listOf (toArray vs) (k+1):=by
 have e:(toArray (vs++[v])).eraseIdxIfInBounds ((toArray (vs++[v])).size - 1)=toArray vs:=by
  unfold Array.eraseIdxIfInBounds;rw[dif_pos (by simp)];apply Array.ext';simp[List.eraseIdx_append_of_length_le]
 simp only[Obj.mapSeq,e];simp
theorem Ow{x:Str}{p pa pos:Pos}{a:Addr}{ob:Obj}{vs:List Value}{v:Value}(o:EnvOk sc zz)(F:Fm H0 zy zx zz σ s.heap)(hs:σ.lookup x=some (.v (.ref a)))(h:El sc x=true)(ho:(a,ob)∈zx)(hl:LO (vs++[v]) ob)(hz:vs.length<sizeLine)
  (hbase:attributeBase (.Name x p) "pop" zz (eval (.Name x p) zz)=eval (.Name x p) zz)(hline:(pa.endLine==pos.line)=true):
  wpAny (model V w) A (eval (.Call (.Attribute (.Name x p) "pop" pa) [] [] pos) zz) (GP H0 s zy zz zx (fun Z u σ' zx'=>u=v∧σ'=σ∧∃o',LO vs o'∧zx'=Ak a o' zx)) CO s:=by
 obtain⟨k,rfl⟩:=hl;refine Call_method0 hbase hline (Aq (Mr o F hs h) fun u s₁ q=>?_);have e1:=q.val;subst e1;have F1:=F.ext q.ext;refine⟨"list","list.pop",PySem.F.plainAttrs_list,PySem.F.slot_list_pop,PySem.F.type_list_pop,⟨_,F1.ledg _ ho,rfl⟩,(fun b e=>by injection e with e;subst e;exact⟨_,F1.ledg _ ho,rfl⟩),?_⟩;refine P.pop_list (y:=v) (n:=k) (F1.ledg _ ho) (by simp) ?_ (by simp;assumption);exact GP.backP F q (GP.upd F1 ho (by rw[Ov];rfl) ⟨rfl,rfl,_,⟨k+1,Ov⟩,rfl⟩)
theorem SV{d:Addr}{ob:Obj}{kvs:List (Str×Value)}{x:Str}{t:Tok}(F:Fm H0 zy zx zz σ s.heap)(ho:(d,ob)∈zx)(hl:ob.IsDictOf (DN V w) kvs)(hx:(valueAt kvs x).isSome=true)(hz:kvs.length≤sizeLine):
  wpAny (model V w) A (delItem (.ref d) (.str x t)) (GP H0 s zy zz zx (fun Z (Z:Unit) σ' zx'=>σ'=σ∧∃o',o'.IsDictOf (DN V w) (without kvs x)∧zx'=Ak d o' zx)) CO s:=by
 have hD:=EG (V:=V) (w:=w) (F.ledg _ ho) hl;unfold delItem
 try with_reducible refine wpAny_holding ?_
 refine Ac (wpAny_sequenceKey hD.typeIs (by decide) ?_);refine Ac (wpAny_callSpecial?_slot (name:=Str.ofString "__delitem__") hD.typeIs PySem.F.slot_dict_delitem
  (call_meetsIn PySem.F.slot_dict_delitem hD.typeIs PySem.F.entry_dict_delitem (PySem.F.args_dict_delitem_2 _ _) (meets_dict_delitem_pairs (DN V w) d (Ev x t)) ⟨kvs,hD,hz,hx,fun h' hmm hs=>?_⟩))
 exact Ag (JI F ho hmm hs fun Z o' hi=>⟨rfl,o',hi,rfl⟩)
end
theorem PD{x:Str}{p:Pos}{slice:Expr}{pos:Pos}{a:Addr}{ob:Obj}{vs:List Value}{u:Value}(hx:Am V w H0 n sc σ zx (.Name x p) (.v (.ref a)))(ho:(a,ob)∈zx)(hl:LO (vs++[u]) ob)(hz:vs.length<1000)(hi:Am V w H0 n sc σ zx slice (.d (.int (-1))))
  (hs:Ca slice):Am V w H0 n sc σ zx (.Subscript (.Name x p) slice pos) (.v u):=by
 intro A zz s zy g oo F;refine PyProof.Rows.Subscript_ (Aq (hx A zz s zy g oo F) fun v s₁ q1=>Aq (hi A zz s₁ zy g oo (F.ext q1.ext)) fun i s2 q2=>?_);refine ex1 (Ax q2.val) fun t x2=>?_;subst x2;have e:=q1.val;subst e;obtain⟨k,rfl⟩:=hl;have hL:=((F.ext q1.ext).ext q2.ext).ledg _ ho;have hI:s2.heap.IsList a (toArray (vs++[u])):=⟨_,hL,rfl,k,rfl⟩;exact tail_any hI.typeIs slot_list_getitem.lookup (wpAny_getItem_list_neg hI (by decide) (by simp;lia) (by decide) (by rw[show((-1:Int)+((toArray (vs++[u])).size:Nat)).toNat=vs.length by simp[Vn]];simp) ((q1.trans q2).trans (Pu.here rfl))) (hs _ _)
theorem GP.toF{α:Type}{s s':Shared}{zy:List Addr}{zz:Env}{zw:List Env}{Ψ:Heap->α->AN->Aw->Prop}{a:α}(O:GG zw zz zx)(x:GP H0 s zy zz zx Ψ a s'):GPf H0 s zy zz zx (Ck zw) Ψ a s':=by
 obtain⟨h',tk,zy',σ',zx',e,k,F',m1,m2,m3,p⟩:=x;exact⟨h',tk,zy',σ',zx',e,.of_but k O,F',m1,m2,m3,p⟩
theorem Hg{base h h':Heap}{l:List Env}{e:Addr}{cls a0:Value}(x:Heap.FlyingW base l e cls a0 h)(ex:Ext h h'):Heap.FlyingW base l e cls a0 h':=by
 obtain⟨f1,f2,f3,oe,vs,T,oT,ts,he,hc,hd,h1,hn,hT,hT2,hd2,h3⟩:=x;exact⟨fun b o q=>ex _ _ (f1 b o q),f2,f3.of_keeps fun b o q d=>⟨o,ex _ _ q,rfl⟩,oe,vs,T,oT,ts,ex _ _ he,hc,hd,h1,hn,hT,ex _ _ hT2,hd2,h3⟩
theorem Seen.ext{L:List Addr}{h h' h'':Heap}(x:Seen L h h')(ex:Ext h' h''):Seen L h h'':=⟨fun b o n q=>ex _ _ (x.stay b o n q),fun b m o q d=>let⟨sl,e⟩:=x.up b m o q d;⟨sl,ex _ _ e⟩⟩
theorem PE:isSubtype (.type "StopIteration") (.type "BaseException")=pure true:=by rw[isSubtype_type];exact rfl
theorem PF:isSubtype (.type ((Manifest.find? "StopIteration").elim "type" fun x=>x.metatype)) (.type "tuple")=pure false:=by exact rfl
theorem Re{pos:Pos}{A:Around}{s:Shared}{zz:Env}{E:Value->Shared->Prop}{Q:Flow->Shared->Prop}{rest:List Stmt}(h:Q .brk s):wpAny (model V w) A (execs (.Break pos::rest) zz) Q E s:=wpAny_execs_cons (wpAny_Break h)
theorem Rf{y z d st:Str}{py pz p1 pc pa pb pos ph pd pdn p3 pst p4 pp p5 pi p6 p7:Pos}{slice:Expr}{px:Pos}{aI aD aS W I T:Addr}{oI oD oS oT:Obj}{vs us:List Value}{u:Value}{kvs:List (Str×Value)}{x:List Nat}{i:Nat}{ds:List PyData}{Φ:Ba}
  (hst:GIs H0 (S "StopIteration") (.type "StopIteration"))(hgo:BA sc (S "StopIteration")=true)(vz:El sc z=true)(vd:El sc d=true)(vst:El sc st=true)(hy:Az sc y)
  (lz:σ.lookup z=some (.v (.ref aI)))(ld:σ.lookup d=some (.v (.ref aD)))(ls:σ.lookup st=some (.v (.ref aS)))
  (mI:(aI,oI)∈zx)(hI:LO (vs++[.ref W]) oI)(mW:(W,C6 I)∈zx)(mIt:(I,By T i)∈zx)(mT:(T,oT)∈zx)(hT:OwnL ds oT)
  (mS:(aS,oS)∈zx)(hS:LO (us++[u]) oS)(fu:SF (.str (tx x)) u)(mD:(aD,oD)∈zx)(hD:oD.IsDictOf (DN V w) kvs)(hx:(valueAt kvs (tx x)).isSome=true)
  (nIS:I≠aS)(nID:I≠aD)(nII:I≠aI)(nSD:aS≠aD)(nSI:aS≠aI)(nDI:aD≠aI)(hz:vs.length<1000∧us.length<1000∧kvs.length<1000)
  (hi:∀σ' zx',Am V w H0 n sc σ' zx' slice (.d (.int (-1))))(hsl:Ca slice)
  (hcall:∀zz,eval (.Call (.Subscript (.Name z pz) slice p1) [] [] pc) zz=(do callWith pc (←eval (.Subscript (.Name z pz) slice p1) zz) [] (backTo pc (starEach [] zz)) (backToKw pc (keywordEach [] zz))))
  (hsw:∀zz,swapsWith (.Call (.Subscript (.Name z pz) slice p1) [] [] pc) (some (.Name y py)) pa.line zz=pure false)(hws:∀zz,swappedStores [.Name y py] (.Call (.Subscript (.Name z pz) slice p1) [] [] pc) zz=pure none)
  (hb1:∀zz,attributeBase (.Name st pst) "pop" zz (eval (.Name st pst) zz)=eval (.Name st pst) zz)(hl1:(p4.endLine==pp.line)=true)(hb2:∀zz,attributeBase (.Name z pi) "pop" zz (eval (.Name z pi) zz)=eval (.Name z pi) zz)(hl2:(p6.endLine==p7.line)=true)
  (hsw2:∀zz,swapsWith (.Call (.Attribute (.Name z pi) "pop" p6) [] [] p7) none px.line zz=pure false)
  (hA:∀g dd,ds[i]? =some dd->Φ g .brk ((y,.d dd)::σ) (Ak I (By T (i+1)) zx))
  (hB:∀g oI' oD' oS' o',ds[i]? =none->LO vs oI'->oD'.IsDictOf (DN V w) (without kvs (tx x))->LO us oS'->Φ g .next σ (Ak aI oI' (Ak aD oD' (Ak aS oS' (Ak I o' zx))))):
  HT true V w H0 n sc σ zx (.Try [.Assign [.Name y py] (.Call (.Subscript (.Name z pz) slice p1) [] [] pc) pa,.Break pb] [.ExceptHandler (some (.Name (S "StopIteration") ph)) none [.Delete [.Subscript (.Name d pdn) (.Call (.Attribute (.Name st pst) "pop" p4) [] [] pp) p3] pd,.Expr (.Call (.Attribute (.Name z pi) "pop" p6) [] [] p7) px] p5] [] [] pos) Φ:=by
 revert hst hgo vz vd vst hy lz ld ls mI hI mW mIt mT hT mS hS fu mD hD hx nIS nID nII nSD nSI nDI hz hi hsl hcall hsw hws hb1 hl1 hb2 hl2 hsw2 hA hB;revert Φ;revert aD aS W I T oI oD oS oT vs us u kvs x i ds;revert pb pos ph pd pdn p3 pst p4 pp p5 pi p6 p7 slice px aI;revert V w H0 n sc σ zx y z d st py pz p1 pc pa;refine no_implicit_lambda% (FM (by exact((((default,w0),default),default),default)) ?_);generalize CF _ _=t9;generalize t9.1.1.1.1=V,t9.1.1.1.2=w,t9.1.1.2.1=H0,t9.1.1.2.2=n,t9.1.2.1.1=sc,t9.1.2.1.2=σ,t9.1.2.2.1=zx,t9.1.2.2.2=y,t9.2.1.1.1=z,t9.2.1.1.2=d,t9.2.1.2.1=st,t9.2.1.2.2=py,t9.2.2.1.1=pz,t9.2.2.1.2=p1,t9.2.2.2.1=pc,t9.2.2.2.2=pa;refine no_implicit_lambda% (FM (by exact default) ?_);generalize CF _ _=t9;generalize t9.1.1.1.1=pb,t9.1.1.1.2=pos,t9.1.1.2.1=ph,t9.1.1.2.2=pd,t9.1.2.1.1=pdn,t9.1.2.1.2=p3,t9.1.2.2.1=pst,t9.1.2.2.2=p4,t9.2.1.1.1=pp,t9.2.1.1.2=p5,t9.2.1.2.1=pi,t9.2.1.2.2=p6,t9.2.2.1.1=p7,t9.2.2.1.2=slice,t9.2.2.2.1=px,t9.2.2.2.2=aI;refine no_implicit_lambda% (FM (by exact default) ?_);generalize CF _ _=t9;generalize t9.1.1.1.1=aD,t9.1.1.1.2=aS,t9.1.1.2.1=W,t9.1.1.2.2=I,t9.1.2.1.1=T,t9.1.2.1.2=oI,t9.1.2.2.1=oD,t9.1.2.2.2=oS,t9.2.1.1.1=oT,t9.2.1.1.2=vs,t9.2.1.2.1=us,t9.2.1.2.2=u,t9.2.2.1.1=kvs,t9.2.2.1.2=x,t9.2.2.2.1=i,t9.2.2.2.2=ds;refine no_implicit_lambda% (Io (default) ?_);generalize HR _ _=Φ;intro hst hgo vz vd vst hy lz ld ls mI hI mW mIt mT hT mS hS fu mD hD hx nIS nID nII nSD nSI nDI hz hi hsl hcall hsw hws hb1 hl1 hb2 hl2 hsw2 hA hB;intro A zz zw s zy g oo F K O;have K':FrOk A zz zw zy s.heap:=K;refine wpAny_Try_except (wpAny_execs_cons ?_);show wpAny _ A (standAt pa >>=fun Z=>swapsWithSole [.Name y py] (.Call (.Subscript (.Name z pz) slice p1) [] [] pc) pa.line zz >>=fun b=>if b=true then _ else _) _ _ s;refine Ac (wpAny_standAt (Ac ?_));show wpAny _ A (swapsWith (.Call (.Subscript (.Name z pz) slice p1) [] [] pc) (some (.Name y py)) pa.line zz) _ _ s;rw[hsw zz];refine Ag ?_;rw[if_neg Bool.false_ne_true];refine Ac (Call_ (he:=hcall zz) (Ah (PD (Aa lz vz) mI hI hz.1 (hi _ _) hsl A zz s zy g oo F) (fun v s₁ q=>?_) fun Z Z f=>f.elim));refine Tu fun Q hQ E hE=>?_;have e1:=q.val;subst e1;have F1:=F.ext q.ext;obtain⟨h₁,t₁,rfl,ex₁,_⟩:=id q;have hW:=F1.ledg _ mW;have hIt:=F1.ledg _ mIt;refine B8 (Dw hT (F1.ledg _ mT)) fun ws k hL f=>?_;refine callWith_of (P:=fun h=>h.get? W=some (C6 I)) rfl (fun h e=>⟨.machine,.inr (.inl rfl),IE e (.inr rfl)⟩) (CI rfl (spliced_nil ⟨hW,?_⟩));refine JB (Bi:=Builtin.«list_iterator.__next__») hW (.inr rfl) (fun A' Q E q=>Np q) (by kernel_rfl) entry_listiter_next ?_;cases hd:ds[i]? with
 |some dd=>
  refine Ad (f.get hd) fun v hv hf=>?_;refine PC hIt hL.isList (by simpa using hv) ?_;have gp:GP H0 s zy zz zx (fun Z (u:Value) σ' zx'=>σ'=σ∧zx'=Ak I (By T (i+1)) zx) v {s with toks:=t₁,heap:=h₁.update I (Obj.mapFields (·.setIfInBounds 1 (.int (i+1:Nat) 0)))}:=GP.backP F q (GP.upd (f:=Obj.mapFields (·.setIfInBounds 1 (.int (i+1:Nat) 0))) F1 mIt rfl ⟨rfl,rfl⟩);refine GQ (GP.back (α:=Flow) F gp) fun zy2 σ2 zx2 F2 x5 Z back2=>?_;rcases x5 with ⟨rfl,rfl⟩;refine hQ _ _ ?_;show wpAny _ A _ _ _ _;refine Ac ?_;rw[hws zz];refine Ag ?_;show wpAny _ A (assignAll v [assign (.Name y py) zz] >>=fun Z=>pure Flow.next) _ _ _;refine Ac ?_;show wpAny _ A (assign (.Name y py) zz v) _ _ _;refine Ah (Af (V:=V) (w:=w) (H0:=H0) (n:=n) (e:=.d dd) hy A zz _ zy2 _ _ v g oo F2 (hf _)) (fun Z s2 q2=>Ag ?_) fun Z Z f=>f.elim;refine Bh q2 fun h2 t2 x3 k2 F3=>?_;try clear q2;subst x3
  refine Re (GP.toF O (back2 _ _ _ ⟨h2,t2,zy2,_,_,rfl,k2.more (AL zz _ _),F3,fun Z m=>m,fun Z m=>.inl m,fun p m=>.inl (mem_map_of_mem m),hA _ dd hd⟩))
 |none=>
  have hn:(toArray ws)[i]? =none:=by
   have:=f.length;simp only[List.getElem?_toArray,List.getElem?_eq_none_iff] at hd ⊢;exact this▸hd
  refine Rc g.hh hIt hL.isList hn fun u' o' h' e oe vs' t sb hu ex en he hc hdt h0 h1=>?_;have gp:GP H0 s zy zz zx (fun Z (Z:Unit) σ' zx'=>σ'=σ∧zx'=Ak I o' zx) () {s with toks:=t₁,heap:=u'}:=GP.backP F q (GP.mut F1 mIt (AF sb) hu ⟨rfl,rfl⟩);obtain⟨hU,tU,zy2,σ2,zx2,eU,k2,F2,m1,m2,m3,rfl,rfl⟩:=GP.toF O gp;have eh:hU=u':=by have:=congrArg Shared.heap eU;exact this.symm
  subst eh;have lo:=K'.low;have al:∀b∈Ck zw,b∈zy∧∃ob,s.heap.get? b=some ob:=fun b m=>let⟨h1,o,e,_⟩:=lo b m;⟨h1,o,e⟩;have K2:FrOk A zz zw zy2 hU:=Fk.move (x:=true) K m1 k2;have O2:=Eh O (fun b m=>(al b m).2) m3;refine hE _ _ ?_;show wpAny _ A (noteFrame (.ref e) zz) _ _ _;refine Nz F2 K2 ex en he hdt h0 h1 fun h₃ fl3 sn3=>?_;refine BL (I4 F2 K2.low O2 sn3) fun F3 Z=>?_;refine wpAny_handleBy_builtin (X:="StopIteration") (T:="StopIteration") (b:=true) PE PF isSubtype_stop ?_;refine Ah (Ms (s:={s with heap:=h₃,toks:=t₁}) oo F3 hst hgo) (fun c s4 q4=>?_) fun Z Z f=>f.elim;obtain⟨h4,t4,rfl,OJ,ec⟩:=q4;refine⟨ec,?_,?_⟩
  ·refine Ad ((Hg fl3 OJ).there) fun ob hob hoc=>?_
   exact⟨ob,hob,hoc.trans hc⟩
  rw[if_pos rfl];refine NA (Hg fl3 OJ) (sn3.ext OJ) fun h5 fl5 sn5=>?_;refine BL (I4 F2 K2.low O2 sn5) fun F5 k5=>?_;have mS':(aS,oS)∈Ak I o' zx:=Au mS nIS.symm;refine wpAny_execs_cons (wpAny_Delete (wpAny_deleteEach_cons (delete_Subscript (Ah (Mr (s:={s with heap:=h5,toks:=t4}) oo F5 ld vd) (fun u1 s7 q7=>?_) fun Z Z f=>f.elim))));have e7:=q7.val;subst e7;have F7:=F5.ext q7.ext;refine Ah (Ow oo F7 ls vst mS' hS (lt_of_lt_of_le hz.2.1 (by decide)) (hb1 zz) hl1) (fun u2 s8 gp8=>?_) fun Z Z f=>f.elim;refine GQ (GP.back (α:=Flow) F7 gp8) fun zy8 σ8 zx8 F8 x5 Z back8=>?_;rcases x5 with ⟨rfl,rfl,oS',hS',rfl⟩;refine ex1 (AR (fu h5)) fun tt x2=>?_;subst x2;refine Ah (SV F8 (Au (Au mD nID.symm) nSD.symm) hD hx (le_of_lt (lt_of_lt_of_le hz.2.2 (by decide)))) (fun Z s9 gp9=>wpAny_deleteEach_nil ?_) fun Z Z f=>f.elim;refine GQ (GP.back (α:=Flow) F8 gp9) fun zy9 σ9 zx9 F9 x5 Z back9=>?_;rcases x5 with ⟨rfl,oD',hD',rfl⟩;refine wpAny_execs_cons (wpAny_Expr_any (Ah (Ow oo F9 lz vz (Au (Au (Au mI nII.symm) nSI.symm) nDI.symm) hI (lt_of_lt_of_le hz.1 (by decide)) (hb2 zz) hl2) (fun u3 s10 gp10=>?_) fun Z Z f=>f.elim) (CD oo) (hsw2 zz));refine wpAny_execs_nil ?_;have g6:GP H0 {s with heap:=h5,toks:=t4} zy2 zz (Ak I o' zx) Φ .next s10:=GP.backP F5 q7 (back8 _ _ _ (back9 _ _ _ (GP.next gp10 fun gg σ' zx' p=>by
   obtain⟨_,rfl,oI',hI',rfl⟩:=p;exact hB gg oI' oD' oS' o' hd hI' hD' hS')))
  have al2:∀b∈Ck zw,b∈zy2∧∃ob,hU.get? b=some ob:=fun b m=>let⟨h1,o,e,_⟩:=K2.low b m;⟨h1,o,e⟩;exact GPf.glue F al k2 F2 m1 m2 m3 (GPf.glue (s:={s with heap:=hU,toks:=tU}) F2 al2 k5 F5 (fun Z m=>m) (fun Z m=>.inl m) (fun p m=>.inl (mem_map_of_mem m)) (g6.toF O2))
end
section
variable{K:Frag}
theorem PG{value lower:Expr}{p pos:Pos}{a:Addr}{ob:Obj}{ds:List PyData}{i:Nat}(hv:Am V w H0 n sc σ zx value (.v (.ref a)))(ho:(a,ob)∈zx)(hl:OwnL ds ob)(hi:Am V w H0 n sc σ zx lower (.d (.int i)))(hz:ds.length≤sizeLine)(ht:∀o r,letTemporaryGo value o r=pure ()):
  Am V w H0 n sc σ zx (.Subscript value (.Slice (some lower) none none p) pos) (.d (.list (ds.drop i))):=by
 intro A zz s zy g o F;refine PyProof.Rows.Subscript_ (Aq (hv A zz s zy g o F) fun v s₁ q1=>?_);have e1:=q1.val;subst e1;have F1:=F.ext q1.ext;refine wpAny_Slice (wpAny_evalPart_some (Aq (hi A zz s₁ zy g o F1) fun vl s2 q2=>Ag (Ag ?_)));refine ex1 (Ax q2.val) fun u x2=>?_;subst x2;have F2:=F1.ext q2.ext;refine B8 (Dw hl (F2.ledg _ ho)) fun vs k hL f=>?_;have hl':=hL.isList;refine subscriptTail_ops (Heap.IsList.typeIs (s:={s2 with heap:=s2.heap.push {cls:=.type "slice",data:=.fields #[.int i u,.none,.none]}}) (hl'.push _)) list_getitem_lookup
  (wpAny_getItem_list_slice (hl'.push _) (Heap.IsSliceOf.new ..) (lo:=some (i:Int)) (.int _ _) .none .none (by nofun) ?_ (by rw[size_toArray,f.length];exact hz)) rfl (ht _)
 rw[slicePick_from'];have e1:=An s2.heap {cls:=.type "slice",data:=.fields #[.int i u,.none,.none]};have e2:=An (s2.heap.push {cls:=.type "slice",data:=.fields #[.int i u,.none,.none]}) {cls:=.type "list",data:=.seq ((toArray vs).toList.drop i).toArray};refine(q1.trans q2).trans ⟨_,_,rfl,e1.trans e2,D9 ⟨_,De (F2.toBase.ext e1) _,rfl,0,rfl⟩ ?_⟩;exact(f.drop i).imp fun Z Z r=>r _
end
section
variable{succ:NM->List NM}
noncomputable def IF (succ:NM->List NM) (dn:List NM):List (NM×Nat)->Option NM->Prop
 |[],_=>True
 |(x,i)::r,some y=>(∃j,i=j+1∧(succ x)[j]? =some y∧∀m,m<j->∀z,(succ x)[m]? =some z->z∈dn)∧IF succ dn r (some x)
 |(x,i)::r,none=>(∀m,m<i->∀z,(succ x)[m]? =some z->z∈dn)∧IF succ dn r (some x)
noncomputable def SW (succ:NM->List NM):List NM->Prop
 |[]=>True
 |x::r=>Cf (succ x) r∧SW succ r
structure Dfs(succ:NM->List NM)(names:List NM)(fs:List (NM×Nat))(seen dn:List NM)(pend:Option NM):Prop where
 chain:IF succ dn fs pend
 topo:SW succ dn
 nd:(fs.map (·.1)).Nodup
 mem:∀x,x∈seen↔x∈fs.map (·.1)∨x∈dn
 sub:∀x∈seen,x∈names
 apart:∀x∈fs.map (·.1),x∉dn
 snd:seen.Nodup
theorem NB{dn dn':List NM}(h:Cf dn dn'){fs:List (NM×Nat)}:∀{p:Option NM},IF succ dn fs p->IF succ dn' fs p:=by
 induction fs with
 |nil=>exact fun Z=>trivial
 |cons a r ih=>
  intro p;cases p with
  |none=>exact fun q=>⟨fun m hm z hz=>h z (q.1 m hm z hz),ih q.2⟩
  |some y=>exact fun q=>⟨q.1.elim fun j e=>⟨j,e.1,e.2.1,fun m hm z hz=>h z (e.2.2 m hm z hz)⟩,ih q.2⟩
theorem Hh{dn:List NM}:∀{fs:List (NM×Nat)} {y:NM},IF succ dn fs (some y)->y∈dn->IF succ dn fs none:=by
 intro fs
 induction fs with
 |nil=>
  intro Z Z Z;exact trivial
 |cons hd0 r Hh=>
  rcases hd0 with ⟨x,i⟩;intro y z1 hy;rcases z1 with ⟨⟨j,a,b,c⟩,d⟩;exact⟨fun m hm z hz=>by
    by_cases e:m<j
    ·exact c m e z hz
    ·have:m=j:=by lia
     subst this;rw[b] at hz;injection hz with hz;rw[←hz];exact hy,d⟩
variable{names seen dn:List NM}{fs:List (NM×Nat)}
theorem Dfs.start(h:Dfs succ names [] seen dn none)(y:NM):Dfs succ names [] seen dn (some y):={h with chain:=trivial}
theorem Dfs.known{y:NM}(h:Dfs succ names fs seen dn (some y))(hs:y∈seen)(hn:y∉fs.map (·.1)):Dfs succ names fs seen dn none:={h with
 chain:=Hh h.chain (((h.mem y).mp hs).resolve_left hn)}
theorem Dfs.push{y:NM}(h:Dfs succ names fs seen dn (some y))(hs:y∉seen)(hy:y∈names):Dfs succ names ((y,0)::fs) (seen++[y]) dn none where
 chain:=⟨fun m hm=>absurd hm (not_lt_zero _),h.chain⟩
 topo:=h.topo
 nd:=nodup_cons.mpr ⟨fun m=>hs ((h.mem y).mpr (.inl m)),h.nd⟩
 mem:=fun x=>by
  rw[mem_append,mem_singleton,h.mem,map_cons,mem_cons];constructor
  ·rintro ((a|a)|a)
   ·exact .inl (.inr a)
   ·exact .inr a
   ·exact .inl (.inl a)
  ·rintro ((a|a)|a)
   ·exact .inr a
   ·exact .inl (.inl a)
   ·exact .inl (.inr a)
 sub:=fun x m=>by
  rcases Cx m with m|m
  ·exact h.sub x m
  ·rw[AU m];exact hy
 apart:=fun x m=>by
  rcases BF m with rfl|m
  ·exact fun q=>hs ((h.mem _).mpr (.inr q))
  ·exact h.apart x m
 snd:=nodup_append.mpr ⟨h.snd,by simp,fun a ha b hb e=>by
  rw[AU hb] at e;exact hs (e▸ha)⟩
theorem Dfs.take{x y:NM}{i:Nat}(h:Dfs succ names ((x,i)::fs) seen dn none)(hy:(succ x)[i]? =some y):Dfs succ names ((x,i+1)::fs) seen dn (some y):={h with
 chain:=⟨⟨i,rfl,hy,h.chain.1⟩,h.chain.2⟩}
theorem Dfs.pop{x:NM}{i:Nat}(h:Dfs succ names ((x,i)::fs) seen dn none)(hy:(succ x)[i]? =none):Dfs succ names fs seen (x::dn) none:=by
 have hx:Cf (succ x) dn:=fun y hm=>by
  obtain⟨j,hj,e⟩:=List.mem_iff_getElem.mp hm;have hi:=List.getElem?_eq_none_iff.mp hy;exact h.chain.1 j (lt_of_lt_of_le hj hi) y (by rw[getElem?_eq_getElem hj,e])
 have nd:=nodup_cons.mp h.nd;exact{
  chain:=Hh (NB (fun z m=>mem_cons_of_mem _ m) h.chain.2) mem_cons_self
  topo:=⟨hx,h.topo⟩
  nd:=nd.2
  mem:=fun z=>by
   rw[h.mem,map_cons,mem_cons,mem_cons];constructor
   ·rintro ((a|a)|a)
    ·exact .inr (.inl a)
    ·exact .inl a
    ·exact .inr (.inr a)
   ·rintro (a|a|a)
    ·exact .inl (.inr a)
    ·exact .inl (.inl a)
    ·exact .inr a
  sub:=h.sub
  apart:=fun z m q=>by
   rcases BF q with rfl|q
   ·exact nd.1 m
   ·exact h.apart z (mem_cons_of_mem _ m) q
  snd:=h.snd}
def Dx(succ:NM->List NM)(names:List NM):Prop:=∀lv:NM->Nat,¬∀x∈names,∀y∈succ x,lv x<lv y
theorem NC{dn:List NM}{lv:NM->Nat}{fs:List (NM×Nat)}:∀{y:NM},IF succ dn fs (some y)->(∀x∈fs.map (·.1),∀z∈succ x,lv x<lv z)->∀x∈fs.map (·.1),lv x<lv y:=by
 induction fs with
 |nil=>intro y Z Z z hz;exact BK hz
 |cons p r ih=>
  intro y hc hl z hz;rcases hc with ⟨⟨j,_,b,_⟩,d⟩;have hxy:lv p.1<lv y:=hl p.1 mem_cons_self y (mem_of_getElem? b);rcases BF hz with hz|hz
  ·rw[hz];exact hxy
  ·exact lt_trans (ih d (fun w m=>hl w (mem_cons_of_mem _ m)) z hz) hxy
theorem Dfs.ring{y:NM}(h:Dfs succ names fs seen dn (some y))(hy:y∈fs.map (·.1)):Dx succ names:=fun lv hl=>
 lt_irrefl _ (NC h.chain (fun x m=>hl x (h.sub x ((h.mem x).mpr (.inl m)))) y hy)
noncomputable def Fy (succ:NM->List NM) (names seen:List NM) (fs:List (NM×Nat)):Nat:=(((names.filter fun x=>decide (x∉seen)).map fun x=>(succ x).length+1).sum)+(fs.map fun p=>(succ p.1).length - p.2).sum
noncomputable def ND (f:NM->Nat) (S l:List NM):Nat:=((l.filter fun x=>decide (x∉S)).map f).sum
theorem LB(f:NM->Nat)(S:List NM)(a:NM)(l:List NM):ND f S (a::l)=(if a∈S then 0 else f a)+ND f S l:=by
 unfold ND
 by_cases h:a∈S
 ·rw[if_pos h,zero_add,List.filter_cons_of_neg (by simpa using h)]
 ·rw[if_neg h,List.filter_cons_of_pos (by simpa using h),map_cons,sum_cons]
theorem SX(f:NM->Nat){S S':List NM}(h:∀x∈S,x∈S')(l:List NM):ND f S' l≤ND f S l:=by
 induction l with
 |nil=>exact le_refl _
 |cons a l ih=>
  rw[LB,LB];refine add_le_add ?_ ih
  by_cases q:a∈S'
  ·rw[if_pos q];exact zero_le _
  ·rw[if_neg q,if_neg fun m=>q (h a m)];exact le_refl _
theorem SY(f:NM->Nat){y:NM}(l:List NM)(hm:y∈l)(hs:y∉seen):ND f (seen++[y]) l+f y≤ND f seen l:=by
 induction l with
 |nil=>exact BK hm
 |cons a l ih=>
  rw[LB,LB]
  by_cases e:a=y
  ·rw[e,if_pos (mem_append_right _ mem_cons_self),zero_add,if_neg hs,add_comm]
   exact add_le_add_left (SX f (fun x m=>mem_append_left _ m) l) _
  ·rw[add_assoc]
   refine add_le_add ?_ (ih ((BF hm).resolve_left (Ne.symm e)))
   by_cases q:a∈seen
   ·rw[if_pos (mem_append_left _ q)];exact zero_le _
   ·rw[if_neg (fun m=>(Cx m).elim q fun m=>e (AU m)),if_neg q];exact le_refl _
theorem PH{y:NM}(hy:y∈names)(hs:y∉seen):Fy succ names (seen++[y]) ((y,0)::fs)<Fy succ names seen fs:=by
 have:=SY (fun x=>(succ x).length+1) names hy hs;unfold Fy;simp only[map_cons,sum_cons,Nat.sub_zero];rw[←add_assoc];exact Nat.add_lt_add_right this _
theorem PI{x y:NM}{i:Nat}(h:(succ x)[i]? =some y):Fy succ names seen ((x,i+1)::fs)<Fy succ names seen ((x,i)::fs):=by
 have:i<(succ x).length:=by
  rcases lt_or_ge i (succ x).length with q|q
  ·exact q
  ·rw[getElem?_eq_none q] at h;exact CE h
 unfold Fy;simp only[map_cons,sum_cons];exact Nat.add_lt_add_left (Nat.add_lt_add_right (sub_succ_lt_self _ _ this) _) _
theorem Rg{x:NM}{i:Nat}:Fy succ names seen fs≤Fy succ names seen ((x,i)::fs):=by
 unfold Fy;simp only[map_cons,sum_cons]
 lia
end
inductive FPl where
 |st|it|se|di
 |I(k:Nat)|W(k:Nat)
 |old(p:Addr×Obj)
structure Cy where
 a:FPl->Addr
 st:List NM
 it:Nat
 di:List NM
 fr:List (NM×Nat)
 seen:List NM
noncomputable def w2:Cy:=⟨fun Z=>0,[],0,[],[],[]⟩
noncomputable def Cy.ok (c:Cy) (zx0:Aw):FPl->Prop
 |.I k|.W k=>k<c.fr.length
 |.old p=>p∈zx0
 |_=>True
def Mt(kvs:List (Str×Value))(xs:List NM):Prop:=kvs.map (·.1)=xs.map tx∧∀kv∈kvs,∃(i:Nat) (t:Tok),kv.2=.int i t∧i<1000
noncomputable def LL (c:Cy) (k:Nat):List Value:=(List.range k).map fun j=>.ref (c.a (.W j))
section
variable(V:Program)(w:World)(r:Rep)
noncomputable def Cy.shape (c:Cy) (o:Obj):FPl->Prop
 |.st=>OwnL (BE c.st) o
 |.it=>LO (LL c c.it) o
 |.se=>SetO V w c.seen o
 |.di=>∃kvs,o.IsDictOf (DN V w) kvs∧Mt kvs c.di
 |.I k=>∃x i,c.fr[k]? =some (x,i)∧o=By (r.at' (.T x)) i
 |.W k=>o=C6 (c.a (.I k))
 |.old p=>o=p.2
structure CyOk(zx0:Aw)(c:Cy)(L:Aw):Prop where
 hold:∀p,c.ok zx0 p->∃o,(c.a p,o)∈L∧c.shape V w r o p
 apart:∀p q,(∀b,p≠ .old b)->c.ok zx0 p->c.ok zx0 q->c.a p=c.a q->p=q
 old:∀p,c.a (.old p)=p.1
end
section
variable{V:Program}{w:World}{r:Rep}{zx0 L:Aw}{c c':Cy}
theorem CyOk.upd(h:CyOk V w r zx0 c L){p₀:FPl}{o':Obj}(ha:c'.a=c.a)(hok:∀p,c'.ok zx0 p->c.ok zx0 p)(hno:∀b,p₀≠ .old b)(h0:c.ok zx0 p₀)(hs:c'.shape V w r o' p₀)(ho:∀p,p≠p₀->c'.ok zx0 p->∀o,c.shape V w r o p->c'.shape V w r o p):CyOk V w r zx0 c' (Ak (c.a p₀) o' L) where
 hold:=fun p hp=>by
  by_cases e:p=p₀
  ·subst e
   exact⟨o',by rw[ha];exact BZ,hs⟩
  ·refine Ad (h.hold p (hok p hp)) fun o m sh=>?_
   exact⟨o,by rw[ha];exact Au m fun q=>e (h.apart _ _ hno h0 (hok p hp) q.symm).symm,ho p e hp o sh⟩
 apart:=fun p q hn hp hq e=>h.apart p q hn (hok p hp) (hok q hq) (by rw[ha] at e;exact e)
 old:=by rw[ha];exact h.old
theorem CyOk.keeps(h:CyOk V w r zx0 c L):Cf zx0 L:=fun p hp=>by
 refine Ad (h.hold (.old p) hp) fun o m sh=>?_;have e:o=p.2:=sh;rw[h.old,e] at m;exact m
theorem TD(h:CyOk V w r zx0 c L){l:List NM}{o':Obj}(ho:OwnL (BE l) o'):CyOk V w r zx0 {c with st:=l} (Ak (c.a .st) o' L):=
 h.upd (p₀:=.st) rfl (fun p hp=>by cases p<;> exact hp) (fun b e=>by exact nomatch e) trivial ho fun p hp ok o sh=>by cases p<;> first|exact absurd rfl hp|exact sh
theorem TE(h:CyOk V w r zx0 c L){k:Nat}{o':Obj}(ho:LO (LL c k) o'):CyOk V w r zx0 {c with it:=k} (Ak (c.a .it) o' L):=
 h.upd (p₀:=.it) rfl (fun p hp=>by cases p<;> exact hp) (fun b e=>by exact nomatch e) trivial ho fun p hp ok o sh=>by cases p<;> first|exact absurd rfl hp|exact sh
theorem U1(h:CyOk V w r zx0 c L){l:List NM}{o':Obj}(ho:SetO V w l o'):CyOk V w r zx0 {c with seen:=l} (Ak (c.a .se) o' L):=
 h.upd (p₀:=.se) rfl (fun p hp=>by cases p<;> exact hp) (fun b e=>by exact nomatch e) trivial ho fun p hp ok o sh=>by cases p<;> first|exact absurd rfl hp|exact sh
theorem TF(h:CyOk V w r zx0 c L){l:List NM}{o':Obj}{kvs:List (Str×Value)}(ho:o'.IsDictOf (DN V w) kvs)(hk:Mt kvs l):CyOk V w r zx0 {c with di:=l} (Ak (c.a .di) o' L):=
 h.upd (p₀:=.di) rfl (fun p hp=>by cases p<;> exact hp) (fun b e=>by exact nomatch e) trivial ⟨kvs,ho,hk⟩ fun p hp ok o sh=>by cases p<;> first|exact absurd rfl hp|exact sh
theorem SZ(h:CyOk V w r zx0 c L){fr:List (NM×Nat)}{x:NM}{i:Nat}(hf:c.fr=fr++[(x,i)]):CyOk V w r zx0 {c with fr:=fr++[(x,i+1)]} (Ak (c.a (.I fr.length)) (By (r.at' (.T x)) (i+1)) L):=by
 have hl:c.fr.length=fr.length+1:=by rw[hf];simp
 refine h.upd (p₀:=.I fr.length) rfl (fun p hp=>?_) (fun b e=>by exact nomatch e) (by show fr.length<c.fr.length;rw[‹c.fr.length=fr.length+1›];exact lt_succ_self _) ⟨x,i+1,by simp,rfl⟩ fun p hp ok o sh=>?_
 ·cases p with
  |I k=>
   have hp':k<(fr++[(x,i+1)]).length:=hp;show k<c.fr.length;rw[hl];simpa using hp'
  |W k=>
   have hp':k<(fr++[(x,i+1)]).length:=hp;show k<c.fr.length;rw[hl];simpa using hp'
  |_=>exact hp
 ·cases p with
  |I k=>
   refine B8 sh fun y j e q=>?_;refine⟨y,j,?_,q⟩;have ok':k<(fr++[(x,i+1)]).length:=ok;have hk:k≠fr.length:=fun e=>hp (by rw[e]);have hk2:k<fr.length:=by simp at ok';lia
   show(fr++[(x,i+1)])[k]? =some (y,j);rw[hf,getElem?_append_left hk2] at e;rw[getElem?_append_left hk2];exact e
  |_=>exact sh
theorem S1(h:CyOk V w r zx0 c L){fr:List (NM×Nat)}{x:NM}{i:Nat}(hf:c.fr=fr++[(x,i)]):CyOk V w r zx0 {c with fr:=fr} L:=by
 have hl:c.fr.length=fr.length+1:=by rw[hf];simp
 have hok:∀p,({c with fr:=fr}:Cy).ok zx0 p->c.ok zx0 p:=fun p hp=>by
  cases p with
  |I k=>
   have hp':k<fr.length:=hp;show k<c.fr.length;exact R6 ‹_› ‹_›
  |W k=>
   have hp':k<fr.length:=hp;show k<c.fr.length;exact R6 ‹_› ‹_›
  |_=>exact hp
 refine⟨fun p hp=>?_,fun p q hn hp hq e=>h.apart p q hn (hok p hp) (hok q hq) e,h.old⟩;refine Ad (h.hold p (hok p hp)) fun o m sh=>?_;refine⟨o,m,?_⟩;cases p with
 |I k=>
  refine B8 sh fun y j e q=>?_;have hp':k<fr.length:=hp;refine⟨y,j,?_,q⟩;rw[hf,getElem?_append_left hp'] at e;exact e
 |_=>exact sh
theorem Ul(h:CyOk V w r zx0 c L){b:Addr}{o':Obj}(hb:∀p,c.ok zx0 p->c.a p≠b):CyOk V w r zx0 c (Ak b o' L) where
 hold:=fun p hp=>let⟨o,m,sh⟩:=h.hold p hp;⟨o,Au m (hb p hp),sh⟩
 apart:=h.apart
 old:=h.old
noncomputable def Cy.grow (c:Cy) (x:NM) (I W:Addr):Cy:={c with
 a:=fun p=>match p with
  |.I k=>if k=c.fr.length then I else c.a (.I k)
  |.W k=>if k=c.fr.length then W else c.a (.W k)
  |p=>c.a p
 fr:=c.fr++[(x,0)]}
theorem S2(h:CyOk V w r zx0 c L){x:NM}{I W:Addr}(hn:∀p∈L,p.1≠W∧p.1≠I)(hWI:W≠I)(hi:c.it≤c.fr.length):CyOk V w r zx0 (c.grow x I W) ([(W,C6 I),(I,By (r.at' (.T x)) 0)]++L):=by
 revert h hn hWI hi;revert W;revert V w r zx0 L c x I;refine no_implicit_lambda% (HS (by exact(((default,w0),(w1,default)),((default,w2),default))) ?_);generalize FK _ _=t9;generalize t9.1.1.1=V,t9.1.1.2=w,t9.1.2.1=r,t9.1.2.2=zx0,t9.2.1.1=L,t9.2.1.2=c,t9.2.2.1=x,t9.2.2.2=I;refine no_implicit_lambda% (Io (default) ?_);generalize HR _ _=W;intro h hn hWI hi;have hl:(c.grow x I W).fr.length=c.fr.length+1:=length_append;have hI:(c.grow x I W).a (.I c.fr.length)=I:=if_pos rfl;have hW:(c.grow x I W).a (.W c.fr.length)=W:=if_pos rfl;have hIk:∀k,k≠c.fr.length->(c.grow x I W).a (.I k)=c.a (.I k):=fun k e=>if_neg e;have hWk:∀k,k≠c.fr.length->(c.grow x I W).a (.W k)=c.a (.W k):=fun k e=>if_neg e;have cls:∀p,(c.grow x I W).ok zx0 p->(c.ok zx0 p∧(c.grow x I W).a p=c.a p)∨(p=.I c.fr.length∧(c.grow x I W).a p=I)∨(p=.W c.fr.length∧(c.grow x I W).a p=W):=fun p hp=>by
  cases p with
  |I k=>
   have hp':k<(c.grow x I W).fr.length:=hp
   by_cases e:k=c.fr.length
   ·subst e;exact .inr (.inl ⟨rfl,hI⟩)
   ·exact .inl ⟨by show k<c.fr.length;lia,hIk k e⟩
  |W k=>
   have hp':k<(c.grow x I W).fr.length:=hp
   by_cases e:k=c.fr.length
   ·subst e;exact .inr (.inr ⟨rfl,hW⟩)
   ·exact .inl ⟨by show k<c.fr.length;lia,hWk k e⟩
  |old p=>exact .inl ⟨hp,rfl⟩
  |_=>exact .inl ⟨trivial,rfl⟩
 have old:∀p,c.ok zx0 p->c.a p≠W∧c.a p≠I:=fun p hp=>by
  refine Ad (h.hold p hp) fun o m Z=>?_;exact hn _ m
 refine⟨fun p hp=>?_,fun p q hno hp hq e=>?_,h.old⟩
 ·rcases cls p hp with ⟨h1,e1⟩|⟨rfl,e1⟩|⟨rfl,e1⟩
  ·refine Ad (h.hold p h1) fun o m sh=>?_
   refine⟨o,by rw[e1];exact mem_append_right _ m,?_⟩;cases p with
   |I k=>
    refine B8 sh fun y j e q=>?_;have h1':k<c.fr.length:=h1;exact⟨y,j,by show(c.fr++[(x,0)])[k]? =_;rw[getElem?_append_left h1'];exact e,q⟩
   |W k=>
    have h1':k<c.fr.length:=h1;have:o=C6 (c.a (.I k)):=sh;show o=C6 ((c.grow x I W).a (.I k));rw[hIk k (ne_of_lt h1')];exact this
   |it=>
    have sh':LO (LL c c.it) o:=sh;show LO (LL (c.grow x I W) c.it) o;have e:LL (c.grow x I W) c.it=LL c c.it:=by
     unfold LL;refine map_congr_left fun k hk=>?_;have:=mem_range.mp hk;rw[hWk k (by lia)]
    rw[e];exact sh'
   |_=>exact sh
  ·exact⟨_,by rw[e1];exact .tail _ (.head _),x,0,by show(c.fr++[(x,0)])[c.fr.length]? =_;simp,rfl⟩
  ·exact⟨_,by rw[e1];exact mem_cons_self,by show _=C6 _;rw[hI]⟩
 ·rcases cls p hp with ⟨h1,e1⟩|⟨rfl,e1⟩|⟨rfl,e1⟩<;> rcases cls q hq with ⟨h2,e2⟩|⟨rfl,e2⟩|⟨rfl,e2⟩<;> have e:=e1.symm.trans (e.trans e2)
  ·exact h.apart _ _ hno h1 h2 e
  ·exact absurd e (old _ h1).2
  ·exact absurd e (old _ h1).1
  ·exact absurd e.symm (old _ h2).2
  ·rfl
  ·exact absurd e.symm hWI
  ·exact absurd e.symm (old _ h2).1
  ·exact absurd e hWI
  ·rfl
end
noncomputable def Rh (l:List Stmt) (k:Nat):Stmt:=l[k]?.getD (.Pass default)
noncomputable abbrev Ri:Scope:=Ap (Cv 13 8)
noncomputable abbrev U2:Stmt:=Rh (AD (Cv 13 8)) 5
noncomputable abbrev Vr:Stmt:=Rh (AD U2) 1
noncomputable abbrev Vs:Stmt:=Rh (AD Vr) 1
structure FcK(H0:Heap):Prop where
 set:GIs H0 (S "set") (.type "set")
 iter:GIs H0 (S "iter") (.builtin "iter")
 len:GIs H0 (S "len") (.builtin "len")
 stop:GIs H0 (S "StopIteration") (.type "StopIteration")
structure Ad4 where
 st:Addr
 it:Addr
 se:Addr
 di:Addr
noncomputable def w4:Ad4:=⟨0,0,0,0⟩
structure Lk(r:Rep)(d:Ad4)(σ:AN):Prop where
 n2i:σ.lookup (S "n2i")=some (.v (.ref (r.at' .D)))
 st:σ.lookup (S "stack")=some (.v (.ref d.st))
 it:σ.lookup (S "itstack")=some (.v (.ref d.it))
 se:σ.lookup (S "seen")=some (.v (.ref d.se))
 di:σ.lookup (S "node2stacki")=some (.v (.ref d.di))
theorem Lk.node{r:Rep}{d:Ad4}{σ:AN}(h:Lk r d σ)(e:Ent):Lk r d ((S "node",e)::σ):=⟨h.n2i,h.st,h.it,h.se,h.di⟩
structure At(V:Program)(w:World)(r:Rep)(zx0:Aw)(d:Ad4)(c:Cy)(L:Aw)(dn:List NM)(pend:Option NM):Prop where
 ok:CyOk V w r zx0 c L
 ast:c.a .st=d.st
 ait:c.a .it=d.it
 ase:c.a .se=d.se
 adi:c.a .di=d.di
 st:c.st=c.fr.map (·.1)
 it:c.it=c.fr.length
 di:c.di=c.fr.map (·.1)
 dfs:Dfs r.succ r.names c.fr.reverse c.seen dn pend
section
variable{V:Program}{w:World}{H0:Heap}{n:Nat}{σ:AN}{L zx0:Aw}{K:Frag}{c2:Cls2}{r:Rep}{d:Ad4}{c:Cy}{dn:List NM}{pend:Option NM}
theorem Um{sc:Scope}{x:Bool}{zx:Aw}{pos:Pos}{rest:List Stmt}{Φ:Ba}(h:∀g,Φ g .brk σ zx):HX x V w H0 n sc σ zx (.Break pos::rest) Φ:=fun A zz zw s zy g o F K O=>wpAny_execs_cons (wpAny_Break (GPf.here F (h _)))
theorem S3{sc:Scope}{x:Bool}{zx:Aw}{pos:Pos}{rest:List Stmt}{Φ:Ba}(h:∀g,Φ g .cont σ zx):HX x V w H0 n sc σ zx (.Continue pos::rest) Φ:=fun A zz zw s zy g o F K O=>wpAny_execs_cons (wpAny_Continue (GPf.here F (h _)))
theorem At.frLen(h:At V w r zx0 d c L dn pend)(hz:r.names.length≤8):c.fr.length≤8:=by
 have:=Bx (l:=c.fr.reverse.map (·.1)) (m:=r.names) h.dfs.nd fun x m=>h.dfs.sub x ((h.dfs.mem x).mpr (.inl m));rw[length_map,length_reverse] at this;exact le_trans this hz
theorem At.seLen(h:At V w r zx0 d c L dn pend)(hz:r.names.length≤8):c.seen.length≤8:=le_trans (Bx h.dfs.snd h.dfs.sub) hz
theorem LC{kvs:List (Str×Value)}{xs:List NM}{x:NM}(h:Mt kvs (xs++[x]))(hx:x∉xs):(valueAt kvs (tx x)).isSome=true∧Mt (without kvs (tx x)) xs:=by
 refine BL h fun h1 h2=>?_;have hl:kvs.length=xs.length+1:=by
  have:=congrArg List.length h1;simpa using this
 obtain⟨ks,kv,rfl⟩:∃ks kv,kvs=ks++[kv]:=by
  refine⟨kvs.dropLast,kvs.getLast (fun e=>by rw[e] at hl;exact UG hl),(List.dropLast_concat_getLast _).symm⟩
 rw[map_append,map_append] at h1;have e:=List.append_inj h1 (by simp at hl ⊢;exact hl);have e2:kv.1=tx x:=by simpa using e.2
 have hn:tx x∉ks.map (·.1):=fun m=>by
  rw[e.1] at m;refine Ad (Ct m) fun y hy q=>?_;exact hx (Ep q▸hy)
 constructor
 ·rw[valueAt_isSome_eq_any]
  simp[e2]
 ·have:without (ks++[kv]) (tx x)=ks:=by
   have h1:=without_of_not_mem ks (tx x) hn;unfold without at h1 ⊢;rw[List.filter_append,h1];simp[e2]
  rw[this];exact⟨e.1,fun q m=>h2 q (mem_append_left _ m)⟩
theorem S4{α β:Type}{R:α->β->Prop}{as:List β}{b:β}{vs:List α}(h:F2 R vs (as++[b])):∃us u,vs=us++[u]∧F2 R us as∧R u b:=by
 induction as generalizing vs with
 |nil=>
  cases h with
  |cons h t=>cases t;exact⟨[],_,rfl,.nil,h⟩
 |cons a as ih=>
  cases h with
  |cons h t=>
   refine Bh (ih t) fun us u e f q=>?_;exact⟨_::us,u,by rw[e];rfl,.cons h f,q⟩
noncomputable def NE (V:Program) (w:World) (r:Rep) (zx0:Aw) (d:Ad4) (k:Nat) (sn:List NM):Ba:=fun Z fl σ L=>Lk r d σ∧∃c dn,Cf sn c.seen∧match fl with
 |.next=>∃y,At V w r zx0 d c L dn (some y)∧y∈r.names∧σ.lookup (S "node")=some (.d (.str (tx y)))∧Fy r.succ r.names c.seen c.fr.reverse<k
 |.brk=>At V w r zx0 d c L dn none∧c.fr=[]
 |_=>False
theorem Rj{k:Nat}{sn:List NM}(fk:FcK H0)(R:RepOk V w c2 r zx0)(hz:r.names.length≤8)(hcl:∀x∈r.names,∀y∈r.succ x,y∈r.names)(lk:Lk r d σ)(h:At V w r zx0 d c L dn none)(hk:Fy r.succ r.names c.seen c.fr.reverse≤k)(hs:Cf sn c.seen):
  HT true V w H0 n Ri σ L Vs (NE V w r zx0 d k sn):=by
 revert fk R hz hcl lk h hk hs;revert k sn;revert r d c dn;revert V w H0 n σ L zx0 c2;refine no_implicit_lambda% (HS (by exact(((default,w0),default),(default,(default,⟨0,0⟩)))) ?_);generalize FK _ _=t9;generalize t9.1.1.1=V,t9.1.1.2=w,t9.1.2.1=H0,t9.1.2.2=n,t9.2.1.1=σ,t9.2.1.2=L,t9.2.2.1=zx0,t9.2.2.2=c2;refine no_implicit_lambda% (JZ (by exact((w1,w4),(w2,default))) ?_);generalize Iq _ _=t9;generalize t9.1.1=r,t9.1.2=d,t9.2.1=c,t9.2.2=dn;refine no_implicit_lambda% (I8 (by exact default) ?_);generalize Ip _ _=t9;generalize t9.1=k,t9.2=sn;intro fk R hz hcl lk h hk hs;refine Hp (fun i σ' L'=>Lk r d σ'∧∃c dn,At V w r zx0 d c L' dn none∧Fy r.succ r.names c.seen c.fr.reverse≤k∧Cf sn c.seen∧c.fr.length=i) c.fr.length (fun i σ' L' hI=>?_) ⟨lk,c,dn,h,hk,hs,rfl⟩;obtain⟨lk,c,dn,h,hk,hs,rfl⟩:=hI;refine Ad (h.ok.hold .st trivial) fun oS mS hS=>?_;rw[h.ast] at mS;have hS:OwnL (BE c.st) oS:=hS;have zf:=h.frLen hz;have zs:(BE c.st).length≤8:=by rw[BE,length_map,h.st,length_map];exact zf
 refine⟨_,K7 (Ls (Aa lk.st rfl) mS hS (le_trans zs (by decide))),fun g σ₁ zx₁ q=>?_,fun g σ₁ zx₁ q=>?_⟩
 ·refine CZ q fun hb x2 x3=>?_;try clear q;subst x2;subst x3
  have hne:c.fr≠[]:=fun e=>by rw[BE,h.st,e] at hb;exact E3 hb
  obtain⟨fr,⟨x,i⟩,hfr⟩:∃fr p,c.fr=fr++[p]:=⟨c.fr.dropLast,c.fr.getLast hne,(List.dropLast_concat_getLast _).symm⟩;have hrev:c.fr.reverse=(x,i)::fr.reverse:=by rw[hfr];simp
  have hlen:c.fr.length=fr.length+1:=by rw[hfr];simp
  have hst:c.st=fr.map (·.1)++[x]:=by rw[h.st,hfr];simp
  have hdi:c.di=fr.map (·.1)++[x]:=by rw[h.di,hfr];simp
  have df:=h.dfs;rw[hrev] at df hk;have hxn:x∈r.names:=df.sub x ((df.mem x).mpr (.inl (.head _)));have hnf:x∉fr.map (·.1):=fun m=>by
   have:=(nodup_cons.mp df.nd).1;simp at this m;refine ex1 m fun b hb=>?_;exact this b hb
  have okI:c.ok zx0 (.I fr.length):=by show fr.length<c.fr.length;rw[‹c.fr.length=fr.length+1›];exact lt_succ_self _
  have okW:c.ok zx0 (.W fr.length):=okI;refine Ad (h.ok.hold .it trivial) fun oI mI hI=>?_;have hI:LO (LL c fr.length++[.ref (c.a (.W fr.length))]) oI:=by
   have:LO (LL c c.it) oI:=hI;rw[h.it,hlen] at this;unfold LL at this ⊢;rw[range_succ,map_append] at this;exact this
  refine Ad (h.ok.hold (.W fr.length) okW) fun oW mW hW=>?_;have hW:oW=C6 (c.a (.I fr.length)):=hW;obtain⟨oJ,mJ,x',i',e',hJ⟩:=h.ok.hold (.I fr.length) okI;have e'':(x',i')=(x,i):=by rw[hfr] at e';simp at e';rw[e'.1,e'.2]
  cases e'';refine Ad (R.hold (.T x) hxn) fun oT mT0 hT=>?_;have mT:=h.ok.keeps _ mT0;have hT:OwnL (BE (r.succ x)) oT:=hT;rw[hst,BE,map_append] at hS;refine Ad (ownL_lo.mp hS) fun vs0 hlo hf0=>?_;refine Bh (S4 hf0) fun us u x3 hf hu=>?_;subst x3;obtain⟨oD,mD,kvs,hD,hkv⟩:=h.ok.hold .di trivial;rw[hdi] at hkv;refine BL (LC hkv hnf) fun hv1 hv2=>?_;rw[h.ait] at mI;rw[h.adi] at mD;subst hW hJ;have hul:us.length=fr.length:=by have:=hf.length;simpa [BE] using this
  have hkl:kvs.length=fr.length+1:=by have:=congrArg List.length hkv.1;simpa using this
  have ap:∀q,c.ok zx0 q->q≠ .I fr.length->c.a (.I fr.length)≠c.a q:=fun q hq hn e=>hn (h.ok.apart _ _ (fun b e=>GR FPl.ctorIdx e rfl) okI hq e).symm;have aS:=ap .st trivial (fun e=>GR FPl.ctorIdx e rfl);have aI:=ap .it trivial (fun e=>GR FPl.ctorIdx e rfl);have aD:=ap .di trivial (fun e=>GR FPl.ctorIdx e rfl);have n1:c.a .st≠c.a .di:=fun e=>by cases h.ok.apart .st .di (fun b e=>GR FPl.ctorIdx e rfl) trivial trivial e
  have n2:c.a .st≠c.a .it:=fun e=>by cases h.ok.apart .st .it (fun b e=>GR FPl.ctorIdx e rfl) trivial trivial e
  have n3:c.a .di≠c.a .it:=fun e=>by cases h.ok.apart .di .it (fun b e=>GR FPl.ctorIdx e rfl) trivial trivial e
  rw[h.ast] at aS n1 n2;rw[h.ait] at aI n2 n3;rw[h.adi] at aD n1 n3;refine Dm (Rf fk.stop rfl rfl rfl rfl (Ab rfl) lk.it lk.di lk.st mI hI mW mJ mT hT mS hlo hu mD hD hv1 aS aD aI n1 n2 n3 ⟨by unfold LL;simp;lia,by lia,by lia⟩
   (fun σ' zx'=>Jo (i:=1) Ao) (fun Z Z=>rfl) (fun Z=>rfl) (fun Z=>rfl) (fun Z=>rfl) (fun Z=>rfl) rfl (fun Z=>rfl) rfl (fun Z=>rfl)
   (Φ:=fun g fl σ₁ zx₁=>match fl with|.next|.cont=>∃j,j<c.fr.length∧(Lk r d σ₁∧∃c dn,At V w r zx0 d c zx₁ dn none∧Fy r.succ r.names c.seen c.fr.reverse≤k∧Cf sn c.seen∧c.fr.length=j)|.brk=>NE V w r zx0 d k sn g .next σ₁ zx₁|.ret v=>NE V w r zx0 d k sn g (.ret v) σ₁ zx₁)
   (fun g dd hdd=>?_) fun g oI' oD' oS' o' hdd hI' hD' hS'=>?_) (fun g σ' zx' q=>Dk fun Z=>q) fun g fl σ' zx' hn q=>by cases fl<;> first|exact absurd rfl hn|exact q
  ·rw[BE,getElem?_map,Option.map_eq_some_iff] at hdd
   refine Ad hdd fun y hy x3=>?_;try clear hdd;subst x3
   refine⟨lk.node _,{c with fr:=fr++[(x,i+1)]},dn,hs,y,⟨SZ h.ok hfr,h.ast,h.ait,h.ase,h.adi,by rw[hst];simp,by rw[h.it,hlen];simp,by rw[hdi];simp,?_⟩,hcl x hxn y (mem_of_getElem? hy),rfl,?_⟩
   ·show Dfs r.succ r.names (fr++[(x,i+1)]).reverse c.seen dn (some y)
    rw[List.reverse_append];exact df.take hy
   ·show Fy r.succ r.names c.seen (fr++[(x,i+1)]).reverse<k
    rw[List.reverse_append];exact lt_of_lt_of_le (PI hy) hk
  ·rw[BE,getElem?_map,Option.map_eq_none_iff] at hdd
   have h1:=S1 h.ok hfr;have h2:=Ul (b:=c.a (.I fr.length)) (o':=o') h1 fun p hp e=>by
    have okp:c.ok zx0 p:=by
     cases p with
     |I k=>
      have hp':k<fr.length:=hp;show k<c.fr.length;exact R6 ‹_› ‹_›
     |W k=>
      have hp':k<fr.length:=hp;show k<c.fr.length;exact R6 ‹_› ‹_›
     |_=>exact hp
    have:=h.ok.apart (.I fr.length) p (fun b e=>GR FPl.ctorIdx e rfl) okI okp e.symm;subst this;exact absurd (show fr.length<fr.length from hp) (lt_irrefl _)
   have hf:F2 (fun v d=>SF d v) us (BE (fr.map (·.1))):=hf;have h5:CyOk V w r zx0 {c with fr:=fr,st:=fr.map (·.1),di:=fr.map (·.1),it:=fr.length} (Ak d.it oI' (Ak d.di oD' (Ak d.st oS' (Ak (c.a (.I fr.length)) o' zx₁)))):=by
    rw[←h.ait,←h.adi,←h.ast];exact TE (k:=fr.length) (TF (l:=fr.map (·.1)) (TD (l:=fr.map (·.1)) h2 (o':=oS') (ownL_lo.mpr ⟨us,hS',hf⟩)) hD' hv2) hI'
   exact⟨fr.length,by assumption,lk,_,x::dn,⟨h5,h.ast,h.ait,h.ase,h.adi,rfl,rfl,rfl,df.pop hdd⟩,le_trans Rg hk,hs,rfl⟩
 ·refine CZ q fun hb x2 x3=>?_;try clear q;subst x2;subst x3
  have hfr:c.fr=[]:=by
   have:(BE c.st).isEmpty=true:=by simpa using hb.symm
   rw[BE,h.st] at this;simpa using this
  exact Um fun g=>⟨lk,c,dn,hs,h,hfr⟩
end
section
variable{V:Program}{w:World}{H0:Heap}{n:Nat}{σ:AN}{L zx0:Aw}{K:Frag}{c2:Cls2}{r:Rep}{d:Ad4}{c:Cy}{dn:List NM}{pend:Option NM}
def LD(r:Rep)(zx0:Aw):Heap->Value->Aw->Prop:=fun g v L=>(∃ds,ds≠[]∧ds.length≤100∧Rd (.list ds) g v)∧Dx r.succ r.names∧∀p∈zx0,p∈L
noncomputable def LE (V:Program) (w:World) (r:Rep) (zx0:Aw) (d:Ad4) (k:Nat) (sn:List NM):Ba:=fun g fl σ L=>match fl with
 |.next=>Lk r d σ∧∃c dn,At V w r zx0 d c L dn none∧Fy r.succ r.names c.seen c.fr.reverse≤k∧∀z∈sn,z∈c.seen
 |.ret v=>LD r zx0 g v L
 |_=>False
noncomputable def S5 (V:Program) (w:World) (r:Rep) (zx0:Aw) (d:Ad4) (sn:List NM):Ba:=fun g fl σ L=>match fl with
 |.next=>Lk r d σ∧∃c dn,At V w r zx0 d c L dn none∧c.fr=[]∧∀z∈sn,z∈c.seen
 |.ret v=>LD r zx0 g v L
 |_=>False
noncomputable abbrev Vt:Stmt:=Rh (AD Vr) 0
theorem Rk{kvs:List (Str×Value)}{xs:List NM}{y:NM}(h:Mt kvs xs):(valueAt kvs (tx y)).isSome=decide (y∈xs):=by
 rw[valueAt_isSome_eq_any]
 by_cases hy:y∈xs
 ·rw[decide_eq_true hy,any_eq_true]
  have:tx y∈kvs.map (·.1):=by rw[h.1];exact mem_map_of_mem hy
  refine Ad (Ct this) fun kv hm e=>?_;exact⟨kv,hm,by exact decide_eq_true e⟩
 ·rw[decide_eq_false hy]
  cases hq:kvs.any fun kv=>decide (kv.1=tx y) with
  |false=>rfl
  |true=>
   refine Ad (any_eq_true.mp hq) fun kv hm e=>?_;have:kv.1∈xs.map tx:=by rw[←h.1];exact mem_map_of_mem hm
   refine Ad (Ct this) fun z hz e2=>?_;have e:kv.1=tx y:=of_decide_eq_true e;exact absurd (Ep (e2.trans e)▸hz) hy
theorem Un{kvs:List (Str×Value)}{xs:List NM}{y:NM}(h:Mt kvs xs)(hy:y∈xs):∃(i:Nat) (t:Tok),valueAt kvs (tx y)=some (.int i t):=by
 have:=Rk (y:=y) h;rw[decide_eq_true hy] at this;refine ex1 (Option.isSome_iff_exists.mp this) fun v hv=>?_;have:∃k,(k,v)∈kvs:=by
  unfold valueAt at hv;refine Ad (Option.map_eq_some_iff.mp hv) fun p hp e=>?_;exact⟨p.1,by rw[←e];exact List.mem_of_find?_eq_some hp⟩
 refine ex1 this fun k hk=>?_;refine B8 (h.2 _ hk) fun i t e Z=>?_;exact⟨i,t,by rw[hv];exact congrArg some e⟩
theorem S6{kvs:List (Str×Value)}{xs:List NM}{y:NM}{i:Nat}{t:Tok}(h:Mt kvs xs)(hy:y∉xs)(hi:i<1000):Mt (stored kvs (tx y) (.int i t)) (xs++[y]):=by
 have hn:tx y∉kvs.map (·.1):=fun m=>by
  rw[h.1] at m;refine Ad (Ct m) fun z hz q=>?_;exact hy (Ep q▸hz)
 rw[G5 hn];refine⟨by rw[map_append,h.1,map_append];rfl,fun kv m=>?_⟩;rcases Cx m with m|m
 ·exact h.2 kv m
 ·rw[AU m];exact⟨i,t,rfl,hi⟩
theorem U3{k:Nat}{sn:List NM}{y y0:NM}(hlo:(d.di==sysModules)=false)(hK:K.In H0)(ck:ClsK K c2)(fk:FcK H0)(R:RepOk V w c2 r zx0)(hz:r.names.length≤8)(lk:Lk r d σ)(h:At V w r zx0 d c L dn (some y))(hy:y∈r.names)(hn:σ.lookup (S "node")=some (.d (.str (tx y))))(hk:Fy r.succ r.names c.seen c.fr.reverse≤k)(hs:Cf sn c.seen)(h0:y0∈c.seen∨y=y0):
  HT true V w H0 n Ri σ L Vt (LE V w r zx0 d k (y0::sn)):=by
 revert hlo hK ck fk R hz lk h hy hn hk hs h0;revert y0;revert V w H0 n σ L zx0 K c2 r d c dn k sn y;refine no_implicit_lambda% (FM (by exact((((default,w0),default),default),(((⟨0,0⟩,w1),(w4,w2)),default))) ?_);generalize CF _ _=t9;generalize t9.1.1.1.1=V,t9.1.1.1.2=w,t9.1.1.2.1=H0,t9.1.1.2.2=n,t9.1.2.1.1=σ,t9.1.2.1.2=L,t9.1.2.2.1=zx0,t9.1.2.2.2=K,t9.2.1.1.1=c2,t9.2.1.1.2=r,t9.2.1.2.1=d,t9.2.1.2.2=c,t9.2.2.1.1=dn,t9.2.2.1.2=k,t9.2.2.2.1=sn,t9.2.2.2.2=y;refine no_implicit_lambda% (Io (default) ?_);generalize HR _ _=y0;intro hlo hK ck fk R hz lk h hy hn hk hs h0;refine Ad (h.ok.hold .se trivial) fun oE mE hE=>?_;rw[h.ase] at mE;have hE:SetO V w c.seen oE:=hE;have zf:=h.frLen hz;have ze:=h.seLen hz;have vn:∀{zx' pos},Am V w H0 n Ri σ zx' (.Name (S "node") pos) (.d (.str (tx y))):=Aa hn rfl;refine P7 (Mq (Aa lk.se rfl) mE hE (le_trans ze (by decide)) vn rfl) (fun hb=>?_) fun hb=>?_
 ·have hys:y∈c.seen:=of_decide_eq_true hb
  obtain⟨oD,mD,kvs,hD,hkv⟩:=h.ok.hold .di trivial;rw[h.adi] at mD;rw[h.di] at hkv;have hys0:∀z∈y0::sn,z∈c.seen:=fun z m=>by
   rcases BF m with rfl|m
   ·rcases h0 with q|rfl
    ·exact q
    ·exact hys
   ·exact hs z m
  refine Dm (P7 (b:=decide (y∈c.fr.map (·.1))) (by rw[←Rk hkv];exact Ue (Aa lk.di rfl) mD hD hlo vn rfl) (fun hb2=>?_) fun hb2=>Dk (Ψ:=LE V w r zx0 d k (y0::sn)) fun g=>⟨lk,c,dn,?_,hk,hys0⟩) (fun g σ' zx' q=>Dk fun g=>q) fun g fl σ' zx' hn q=>q
  ·have hyf:y∈c.fr.map (·.1):=of_decide_eq_true hb2
   refine Ad (h.ok.hold .st trivial) fun oS mS hS=>?_;rw[h.ast] at mS;have hS:OwnL (BE c.st) oS:=hS;refine ex2 (Un hkv hyf) fun i t hi=>?_;have zs:(BE c.st).length≤8:=by rw[BE,length_map,h.st,length_map];exact zf
   have zd:((BE c.st).drop i).length≤8:=by rw[length_drop];exact le_trans (sub_le _ _) zs
   have ring:Dx r.succ r.names:=h.dfs.ring (by rw[map_reverse,mem_reverse];exact hyf);refine Dm (Ψ:=LE V w r zx0 d k (y0::sn)) (CS (AV (DD (P:=fun g v=>Rd (.list ((BE c.st).drop i++[.str (tx y)])) g v) (AO (PG (Aa lk.st rfl) mS hS (EX (Mi (Aa lk.di rfl) mD hD vn hi fun Z Z=>rfl)) (le_trans zs (by decide)) fun Z Z=>rfl) (AE (ds:=[.str (tx y)]) (Bk vn fun Z=>rfl) (show(1:Nat)≤sizeLine by decide)) (EB (by
    rw[List.length_singleton];have:(9:Nat)≤sizeLine:=by decide
    exact lt_of_le_of_lt zd (by decide))))) fun g fl σ' zx' q=>?_)) (fun g σ' zx' q=>Dk fun g=>q) fun g fl σ' zx' hn q=>q
   refine BL q fun x1 x2=>?_;try clear q;rcases x1 with ⟨v,rfl,hv⟩;subst x2
   exact⟨⟨_,by simp,by rw[length_append,List.length_singleton];exact lt_of_le_of_lt zd (by decide),hv⟩,ring,h.ok.keeps⟩
  ·have hyf:y∉c.fr.map (·.1):=by simpa using hb2
   exact{h with dfs:=h.dfs.known hys (by rw[map_reverse,mem_reverse];exact hyf)}
 ·have hys:y∉c.seen:=by simpa using hb
  have hyf:y∉c.fr.map (·.1):=fun m=>hys ((h.dfs.mem y).mpr (.inl (by rw[map_reverse,mem_reverse];exact m)));refine B3 (CS (PB (a:=d.se) (xs:=c.seen) (x:=y) (Aa lk.se rfl) mE hE (le_trans ze (by decide)) vn (fun Z=>rfl) rfl (fun Z=>rfl) fun Z=>rfl)) fun g σ' zx' q=>?_;obtain⟨rfl,oE',hE',rfl⟩:=q;have k1:CyOk V w r zx0 {c with seen:=c.seen++[y]} (Ak d.se oE' L):=by rw[←h.ase];exact U1 h.ok hE'
  generalize Ak d.se oE' L=L1 at k1;refine Ad (k1.hold .it trivial) fun oI mI hI=>?_;have mI:(d.it,oI)∈L1:=by rw[←h.ait];exact mI
  have hI:LO (LL c c.it) oI:=hI;have R1:=R.mono k1.keeps;refine Ad (R1.hold (.T y) hy) fun oT mT hT=>?_;refine B3 (CS (Fx (a:=d.it) (ob:=oI) (vs:=LL c c.it) (Aa lk.it rfl) mI hI (Mp fk.iter rfl (Lx (x:=y) hK ck R1 hy (LA R1 hy (Aa lk.n2i rfl) vn fun Z Z=>rfl) fun Z=>rfl) mT hT (fun Z=>rfl) (fun Z=>rfl) fun Z=>rfl) (fun g v σ₁ zx₁ q=>?_) (by unfold LL;rw[length_map,length_range,h.it];exact le_trans zf (by decide)) (fun Z=>rfl) rfl (fun Z=>rfl) fun Z=>rfl)) fun g σ' zx' q=>?_
  ·obtain⟨_,W,I,_,_,_,rfl⟩:=q
   exact mem_append_right _ mI
  refine KT q fun g1 v zx₁ oI' x5 hI' x7=>?_;try clear q;rcases x5 with ⟨rfl,W,I,rfl,hWI,hnew,rfl⟩;subst x7
  have k2:=S2 (x:=y) k1 hnew hWI (le_of_eq h.it);have hI2:LO (LL (Cy.grow {c with seen:=c.seen++[y]} y I W) (c.fr.length+1)) oI':=by
   have e:LL (Cy.grow {c with seen:=c.seen++[y]} y I W) (c.fr.length+1)=LL c c.it++[.ref W]:=by
    unfold LL;rw[range_succ,map_append,h.it]
    congr 1
    ·refine map_congr_left fun j hj=>?_
     have:=mem_range.mp hj;exact congrArg Value.ref (if_neg (by show¬j=c.fr.length;exact ne_of_lt this))
    ·exact congrArg (fun q=>[Value.ref q]) (if_pos rfl)
   rw[e];exact hI'
  have k3:CyOk V w r zx0 {Cy.grow {c with seen:=c.seen++[y]} y I W with it:=c.fr.length+1} (Ak d.it oI' ([(W,C6 I),(I,By (r.at' (.T y)) 0)]++L1)):=by
   rw[←h.ait];exact TE k2 hI2
  generalize hc3:({Cy.grow {c with seen:=c.seen++[y]} y I W with it:=c.fr.length+1}:Cy)=c3 at k3;generalize Ak d.it oI' ([(W,C6 I),(I,By (r.at' (.T y)) 0)]++L1)=L3 at k3;have f1:c3.a .st=d.st:=hc3▸h.ast;have f2:c3.a .it=d.it:=hc3▸h.ait;have f3:c3.a .se=d.se:=hc3▸h.ase;have f4:c3.a .di=d.di:=hc3▸h.adi;have f5:c3.fr=c.fr++[(y,0)]:=hc3▸rfl;have f6:c3.st=c.fr.map (·.1):=hc3▸h.st;have f7:c3.di=c.fr.map (·.1):=hc3▸h.di;have f8:c3.it=c.fr.length+1:=hc3▸rfl;have f9:c3.seen=c.seen++[y]:=hc3▸rfl;clear hc3;refine Ad (k3.hold .st trivial) fun oS mS hS=>?_;rw[f1] at mS;have hS:OwnL (BE (c.fr.map (·.1))) oS:=by rw[←f6];exact hS
  refine Ad (ownL_lo.mp hS) fun us hlo' hf=>?_;have hul:us.length=c.fr.length:=by have:=hf.length;simpa [BE] using this
  obtain⟨oD,mD,kvs,hD,hkv⟩:=k3.hold .di trivial;rw[f4] at mD;rw[f7] at hkv;have hkl:kvs.length=c.fr.length:=by have:=congrArg List.length hkv.1;simpa using this
  refine B3 (CS (Nu (d:=d.di) (ob:=oD) (kvs:=kvs) (x:=tx y) (FX (SR (a:=d.st) fk.len rfl (Aa lk.st rfl) mS hlo' (by rw[hul];exact le_trans zf (by decide)) (fun Z=>rfl) fun Z=>rfl)) (fun g v σ₁ zx₁ q=>?_) hD (by rw[hkl];exact le_trans zf (by decide)) fun Z=>rfl)) fun g σ' zx' q=>?_
  ·refine CZ q fun Z x2 x3=>?_;try clear q;subst x2;subst x3
   exact⟨Aa lk.di rfl,vn,mD⟩
  refine KT q fun g2 v zx2 oD' x5 hD' x7=>?_;try clear q;rcases x5 with ⟨mv,rfl,rfl⟩;subst x7
  refine ex1 (Ax mv) fun t x2=>?_;subst x2;have k4:CyOk V w r zx0 {c3 with di:=c.fr.map (·.1)++[y]} (Ak d.di oD' zx2):=by
   rw[←f4];exact TF k3 hD' (S6 hkv hyf (by lia))
  generalize hc4:({c3 with di:=c.fr.map (·.1)++[y]}:Cy)=c4 at k4;have f1:c4.a .st=d.st:=hc4▸f1;have f2:c4.a .it=d.it:=hc4▸f2;have f3:c4.a .se=d.se:=hc4▸f3;have f4:c4.a .di=d.di:=hc4▸f4;have f5:c4.fr=c.fr++[(y,0)]:=hc4▸f5;have f6:c4.st=c.fr.map (·.1):=hc4▸f6;have f7:c4.di=c.fr.map (·.1)++[y]:=hc4▸rfl;have f8:c4.it=c.fr.length+1:=hc4▸f8;have f9:c4.seen=c.seen++[y]:=hc4▸f9;clear hc4;refine Ad (k4.hold .st trivial) fun oS mS hS=>?_;rw[f1] at mS;have hS:OwnL (BE (c.fr.map (·.1))) oS:=by rw[←f6];exact hS
  refine Ad (ownL_lo.mp hS) fun us hlo' hf=>?_;have hul:us.length=c.fr.length:=by have:=hf.length;simpa [BE] using this
  refine B3 (CS (Fx (a:=d.st) (ob:=oS) (vs:=us) (Aa lk.st rfl) mS hlo' (FX vn) (fun g v σ₁ zx₁ q=>?_) (by rw[hul];exact le_trans zf (by decide)) (fun Z=>rfl) rfl (fun Z=>rfl) fun Z=>rfl)) fun g σ' zx' q=>Dk fun g=>?_
  ·refine CZ q fun Z x2 x3=>?_;try clear q;subst x2;subst x3;exact mS
  refine KT q fun g3 v zx3 oS' x5 hS' x7=>?_;try clear q;rcases x5 with ⟨mv,rfl,rfl⟩;subst x7
  have mv':Rd (.str (tx y)) g3 v:=mv;have k5:CyOk V w r zx0 {c4 with st:=c.fr.map (·.1)++[y]} (Ak d.st oS' (Ak d.di oD' zx2)):=by
   rw[←f1];exact TD k4 (ownL_lo.mpr ⟨_,hS',by rw[BE,map_append];exact F2.append hf (.cons (JC rfl mv') .nil)⟩)
  have rv:c4.fr.reverse=(y,0)::c.fr.reverse:=by rw[f5];simp
  refine⟨lk,{c4 with st:=c.fr.map (·.1)++[y]},dn,⟨k5,f1,f2,f3,f4,by rw[f5];simp,by rw[f5];simpa using f8,by rw[f5,f7];simp,?_⟩,?_,fun z m=>?_⟩
  ·show Dfs r.succ r.names c4.fr.reverse c4.seen dn none
   rw[rv,f9];exact h.dfs.push hys hy
  ·show Fy r.succ r.names c4.seen c4.fr.reverse≤k
   rw[rv,f9];exact le_trans (le_of_lt (PH hy hys)) hk
  ·show z∈c4.seen
   rw[f9];rcases BF m with rfl|m
   ·rcases h0 with q|rfl
    ·exact mem_append_left _ q
    ·simp
   ·exact mem_append_left _ (hs z m)
end
section
variable{V:Program}{w:World}{H0:Heap}{n:Nat}{σ:AN}{L zx0:Aw}{K:Frag}{c2:Cls2}{r:Rep}{d:Ad4}{c:Cy}{dn:List NM}{pend:Option NM}
theorem Rl{sn:List NM}{y0:NM}(hlo:(d.di==sysModules)=false)(hK:K.In H0)(ck:ClsK K c2)(fk:FcK H0)(R:RepOk V w c2 r zx0)(hz:r.names.length≤8)(hcl:∀x∈r.names,∀y∈r.succ x,y∈r.names)(lk:Lk r d σ)(h:At V w r zx0 d c L dn none)(hfr:c.fr=[])(hy:y0∈r.names)(hn:σ.lookup (S "node")=some (.d (.str (tx y0))))(hs:Cf sn c.seen):
  HT true V w H0 n Ri σ L Vr (S5 V w r zx0 d (y0::sn)):=by
 revert hlo hK ck fk R hz hcl lk h hfr hy hn hs;revert y0;revert dn sn;revert c2 r d c;revert V w H0 n σ L zx0 K;refine no_implicit_lambda% (HS (by exact(((default,w0),default),default)) ?_);generalize FK _ _=t9;generalize t9.1.1.1=V,t9.1.1.2=w,t9.1.2.1=H0,t9.1.2.2=n,t9.2.1.1=σ,t9.2.1.2=L,t9.2.2.1=zx0,t9.2.2.2=K;refine no_implicit_lambda% (JZ ((⟨0,0⟩,w1),(w4,w2)) ?_);generalize Iq _ _=t9;generalize t9.1.1=c2,t9.1.2=r,t9.2.1=d,t9.2.2=c;refine no_implicit_lambda% (I8 (by exact default) ?_);generalize Ip _ _=t9;generalize t9.1=dn,t9.2=sn;refine no_implicit_lambda% (Io (default) ?_);generalize HR _ _=y0;intro hlo hK ck fk R hz hcl lk h hfr hy hn hs;refine Hp (fun i σ' L'=>Lk r d σ'∧∃c dn y,At V w r zx0 d c L' dn (some y)∧y∈r.names∧σ'.lookup (S "node")=some (.d (.str (tx y)))∧Fy r.succ r.names c.seen c.fr.reverse=i∧Cf sn c.seen∧(y0∈c.seen∨y=y0)) (Fy r.succ r.names c.seen c.fr.reverse) (fun i σ' L' hI=>?_)
  ⟨lk,c,dn,y0,{h with dfs:=by have:=h.dfs;rw[hfr] at this ⊢;exact this.start y0},hy,hn,rfl,hs,.inr rfl⟩
 obtain⟨lk,c,dn,y,h,hy,hn,rfl,hs,h0⟩:=hI;refine⟨_,K7 (b:=true) (CQ (KV (b:=true)) IN fun Z Z=>rfl),fun g σ₁ zx₁ q=>?_,fun g σ₁ zx₁ q=>absurd q.1 (by decide)⟩;refine CZ q fun Z x2 x3=>?_;try clear q;subst x2;subst x3
 refine Dm (U3 (y0:=y0) hlo hK ck fk R hz lk h hy hn (le_refl _) hs h0) (fun g σ' zx' q=>?_) fun g fl σ' zx' hn q=>?_
 ·obtain⟨lk,c',dn',h',hk',hs'⟩:=q
  refine Dm (Rj fk R hz hcl lk h' hk' hs') (fun g σ' zx' q=>Dk fun g=>?_) fun g fl σ' zx' hn q=>?_
  ·obtain⟨lk,c,dn,hs,y,h,hy,hn,hr⟩:=q
   exact⟨_,hr,lk,c,dn,y,h,hy,hn,rfl,fun z m=>hs z (mem_cons_of_mem _ m),.inl (hs y0 mem_cons_self)⟩
  ·obtain⟨lk,c,dn,hs,q⟩:=q
   cases fl with
   |brk=>exact⟨lk,c,dn,q.1,q.2,hs⟩
   |next=>exact absurd rfl hn
   |_=>exact q.elim
 ·cases fl with
  |next=>exact absurd rfl hn
  |ret v=>exact q
  |_=>exact q.elim
def IL(succ:NM->List NM)(names:List NM):Prop:=∃dn,Cf names dn∧SW succ dn
def TG(r:Rep)(g:Heap)(v:Value):Prop:=(v=.none∧IL r.succ r.names)∨((∃ds,ds≠[]∧ds.length≤100∧Rd (.list ds) g v)∧Dx r.succ r.names)
theorem Rm{aS aI aE aD:Addr}{oS oI oE oD:Obj}(hS:OwnL [] oS)(hI:OwnL [] oI)(hE:SetO V w [] oE)(hD:oD=emptyDict)(n1:∀p∈zx0,p.1≠aS)(n2:∀p∈(aS,oS)::zx0,p.1≠aI)(n3:∀p∈(aI,oI)::(aS,oS)::zx0,p.1≠aE)(n4:∀p∈(aE,oE)::(aI,oI)::(aS,oS)::zx0,p.1≠aD):
  At V w r zx0 ⟨aS,aI,aE,aD⟩ ⟨fun p=>match p with|.it=>aI|.se=>aE|.di=>aD|.old q=>q.1|_=>aS,[],0,[],[],[]⟩ ((aD,oD)::(aE,oE)::(aI,oI)::(aS,oS)::zx0) [] none where
 ok:=by
  refine⟨fun p hp=>?_,fun p q hno hp hq e=>?_,fun p=>rfl⟩
  ·cases p with
   |st=>exact⟨oS,by simp,hS⟩
   |it=>
    refine Ad (ownL_lo.mp hI) fun us hl hf=>?_;cases hf;exact⟨oI,.tail _ (.tail _ (.head _)),hl⟩
   |se=>exact⟨oE,.tail _ (.head _),hE⟩
   |di=>exact⟨oD,.head _,[],hD▸HL,rfl,fun kv m=>BK m⟩
   |I k=>exact absurd (show k<0 from hp) (not_lt_zero _)
   |W k=>exact absurd (show k<0 from hp) (not_lt_zero _)
   |old p=>exact⟨p.2,by simp;exact .inr (.inr (.inr (.inr hp))),rfl⟩
  ·have m1:aS≠aI:=n2 (aS,oS) (.head _)
   have m2:aS≠aE:=n3 (aS,oS) (.tail _ (.head _));have m3:aI≠aE:=n3 (aI,oI) (.head _);have m4:aS≠aD:=n4 (aS,oS) (.tail _ (.tail _ (.head _)));have m5:aI≠aD:=n4 (aI,oI) (.tail _ (.head _));have m6:aE≠aD:=n4 (aE,oE) (.head _);cases p with
   |I k=>exact absurd (show k<0 from hp) (not_lt_zero _)
   |W k=>exact absurd (show k<0 from hp) (not_lt_zero _)
   |old b=>exact absurd rfl (hno b)
   |st=>
    cases q with
    |st=>rfl
    |it=>exact absurd e m1
    |se=>exact absurd e m2
    |di=>exact absurd e m4
    |I k=>exact absurd (show k<0 from hq) (not_lt_zero _)
    |W k=>exact absurd (show k<0 from hq) (not_lt_zero _)
    |old b=>exact absurd e.symm (n1 b hq)
   |it=>
    cases q with
    |st=>exact absurd e.symm m1
    |it=>rfl
    |se=>exact absurd e m3
    |di=>exact absurd e m5
    |I k=>exact absurd (show k<0 from hq) (not_lt_zero _)
    |W k=>exact absurd (show k<0 from hq) (not_lt_zero _)
    |old b=>exact absurd e.symm (n2 b (mem_cons_of_mem _ hq))
   |se=>
    cases q with
    |st=>exact absurd e.symm m2
    |it=>exact absurd e.symm m3
    |se=>rfl
    |di=>exact absurd e m6
    |I k=>exact absurd (show k<0 from hq) (not_lt_zero _)
    |W k=>exact absurd (show k<0 from hq) (not_lt_zero _)
    |old b=>exact absurd e.symm (n3 b (mem_cons_of_mem _ (mem_cons_of_mem _ hq)))
   |di=>
    cases q with
    |st=>exact absurd e.symm m4
    |it=>exact absurd e.symm m5
    |se=>exact absurd e.symm m6
    |di=>rfl
    |I k=>exact absurd (show k<0 from hq) (not_lt_zero _)
    |W k=>exact absurd (show k<0 from hq) (not_lt_zero _)
    |old b=>exact absurd e.symm (n4 b (mem_cons_of_mem _ (mem_cons_of_mem _ (mem_cons_of_mem _ hq))))
 ast:=rfl
 ait:=rfl
 ase:=rfl
 adi:=rfl
 st:=rfl
 it:=rfl
 di:=rfl
 dfs:=⟨trivial,trivial,.nil,(fun x=>by simp),(fun x m=>BK m),(fun x m=>BK m),.nil⟩
theorem S7(hsm:∃o,H0.get? mainGlobals=some o)(hK:K.In H0)(ck:ClsK K c2)(fk:FcK H0)(R:RepOk V w c2 r L)(hz:r.names.length≤8)(hcl:∀x∈r.names,∀y∈r.succ x,y∈r.names):
  HX true V w H0 n Ri [(S "self",.v (.ref (r.at' .S)))] L (AD (Cv 13 8)) (fun g fl Z zx'=>∃v,fl=.ret v∧TG r g v∧∀p∈L,p∈zx'):=by
 revert hsm hK ck fk R hz hcl;revert V w H0 n L K c2 r;refine no_implicit_lambda% (HS (by exact(((default,w0),default),(default,(⟨0,0⟩,w1)))) ?_);generalize FK _ _=t9;generalize t9.1.1.1=V,t9.1.1.2=w,t9.1.2.1=H0,t9.1.2.2=n,t9.2.1.1=L,t9.2.1.2=K,t9.2.2.1=c2,t9.2.2.2=r;intro hsm hK ck fk R hz hcl;refine IR (CS (BX (Av (JJ hK ck R (Aa rfl rfl) fun Z=>rfl) (Af (Ab rfl)) (fun Z Z=>rfl) (fun Z Z=>rfl) fun Z=>rfl))) ?_;refine B3 (CS (DH (I2 IY) (Ab rfl) (fun Z Z=>rfl) (fun Z Z=>rfl))) fun g σ' zx' q=>?_;refine FH q fun g1 v σ₁ x4 x5=>?_;try clear q;rcases x4 with ⟨rfl,aS,oS,rfl,hS,rfl,n1,_⟩;subst x5
 refine B3 (CS (DH (I2 IY) (Ab rfl) (fun Z Z=>rfl) (fun Z Z=>rfl))) fun g σ' zx' q=>?_;refine FH q fun g1 v σ₁ x4 x5=>?_;try clear q;rcases x4 with ⟨rfl,aI,oI,rfl,hI,rfl,n2,_⟩;subst x5
 refine B3 (CS (DH (I2 (SU fk.set rfl)) (Ab rfl) (fun Z Z=>rfl) (fun Z Z=>rfl))) fun g σ' zx' q=>?_;refine FH q fun g1 v σ₁ x4 x5=>?_;try clear q;rcases x4 with ⟨rfl,aE,oE,rfl,hE,rfl,n3,_⟩;subst x5
 refine B3 (CS (DH (JH (KM hsm)) (Ab rfl) (fun Z Z=>rfl) (fun Z Z=>rfl))) fun g σ' zx' q=>?_;refine FH q fun g1 v σ₁ x4 x5=>?_;try clear q;rcases x4 with ⟨rfl,aD,oD,rfl,⟨hD,hlo⟩,rfl,n4,nH⟩;subst x5
 have h0:=Rm (r:=r) hS hI hE hD n1 n2 n3 n4;refine Ad (R.hold .D trivial) fun oN mN hN=>?_;have hdl:((r.names.map fun x=>(tx x,Value.ref (r.at' (.I x)))).map fun p=>Ent.d (.str p.1)).length=r.names.length:=by simp
 refine Dm (Fj (x:=true) [(r.at' .D,oN)] (fun i σ' L'=>Lk r ⟨aS,aI,aE,aD⟩ σ'∧∃c dn,At V w r L ⟨aS,aI,aE,aD⟩ c L' dn none∧c.fr=[]∧∀z∈r.names.take i,z∈c.seen)
  (Ψ:=fun g fl σ' L'=>match fl with|.next=>Cf L L'∧IL r.succ r.names|.ret v=>LD r L g v L'|_=>False)
  (QV (Aa rfl rfl) (by simp;exact .inr (.inr (.inr (.inr mN)))) hN R.lo) ⟨⟨rfl,rfl,rfl,rfl,rfl⟩,_,[],h0,rfl,fun z m=>BK m⟩ (fun i σ' L' hJ p hp=>?_) (fun i e σ' L' he hJ=>?_) (fun g σ' L' hJ=>?_) (fun Z Z=>rfl) (.inl ⟨_,_,rfl⟩)) (fun g σ' zx' q=>?_) fun g fl σ' zx' hn q=>?_
 ·rw[AU hp]
  obtain⟨_,c,dn,h,_⟩:=hJ;exact h.ok.keeps _ mN
 ·obtain⟨lk,c,dn,h,hfr,hs⟩:=hJ
  rw[getElem?_map,Option.map_eq_some_iff] at he;refine Ad he fun p hp x3=>?_;try clear he;subst x3
  rw[getElem?_map,Option.map_eq_some_iff] at hp;refine Ad hp fun y hy x3=>?_;try clear hp;subst x3
  have hyn:y∈r.names:=mem_of_getElem? hy;have htk:r.names.take (i+1)=r.names.take i++[y]:=by rw[take_add_one,hy];rfl
  refine⟨_,Af (Ab rfl),N9 fun Φ hΦ=>?_⟩;have lk':Lk r ⟨aS,aI,aE,aD⟩ ((S "node",.d (.str (tx y)))::σ'):=lk.node _;refine Ad (h.ok.hold .se trivial) fun oE' mE hE'=>?_;rw[h.ase] at mE;have ze:=h.seLen hz;refine Dm (P7 (Mq (a:=aE) (x:=y) (Aa lk'.se rfl) mE hE' (le_trans ze (by decide)) (Aa rfl rfl) rfl) (fun hb=>?_) fun hb=>Dk (Ψ:=fun g fl σ₁ L1=>match fl with|.next=>σ₁=(S "node",.d (.str (tx y)))::σ'∧L1=L'|.cont=>y∈c.seen∧σ₁=(S "node",.d (.str (tx y)))::σ'∧L1=L'|_=>False) fun g=>⟨rfl,rfl⟩) (fun g σ₁ L1 q=>?_) fun g fl σ₁ L1 hn q=>hΦ ?_
  ·exact S3 fun g=>⟨of_decide_eq_true hb,rfl,rfl⟩
  ·refine BL q fun x1 x2=>?_;try clear q;subst x1;subst x2
   refine Dm (Rl hlo hK ck fk R hz hcl lk' h hfr hyn rfl hs) (fun g σ₁ L1 q=>Dk fun g=>hΦ ?_) fun g fl σ₁ L1 hn q=>hΦ ?_
   ·obtain⟨lk,c,dn,h,hfr,hs⟩:=q
    refine⟨lk,c,dn,h,hfr,fun z m=>hs z ?_⟩;rw[htk] at m;rcases Cx m with m|m
    ·exact mem_cons_of_mem _ m
    ·rw[AU m];exact mem_cons_self
   ·cases fl with
    |next=>exact absurd rfl hn
    |ret v=>
     intro g' ex;refine BL q fun x1 rest=>?_;rcases x1 with ⟨ds,a,b,hv⟩;exact⟨⟨ds,a,b,hv.ext ex⟩,rest⟩
    |_=>exact q.elim
  ·cases fl with
   |next=>exact absurd rfl hn
   |cont=>
    refine CZ q fun hys x2 x3=>?_;try clear q;subst x2;subst x3
    refine⟨lk',c,dn,h,hfr,fun z m=>?_⟩;rw[htk] at m;rcases Cx m with m|m
    ·exact hs z m
    ·rw[AU m];exact hys
   |_=>exact q.elim
 ·obtain⟨lk,c,dn,h,hfr,hs⟩:=hJ
  refine⟨h.ok.keeps,dn,fun x hx=>?_,h.dfs.topo⟩;rw[hdl,take_length] at hs;have:=(h.dfs.mem x).mp (hs x hx);rw[hfr] at this;simpa using this
 ·refine DU (Gq (AV (DD (P:=fun Z v=>v=.none) (EvP.mono (BV) fun g v r=>C0 r)) fun g fl σ' zx'' p=>?_) fun g σ' zx' p=>by refine Ad p fun v e Z=>?_;exact ML e)
  refine BL p fun x1 x2=>?_;try clear p;rcases x1 with ⟨v,rfl,rfl⟩;subst x2
  exact⟨_,rfl,.inl ⟨rfl,q.2⟩,q.1⟩
 ·cases fl with
  |next=>exact absurd rfl hn
  |ret v=>exact⟨v,rfl,.inr ⟨q.1,q.2.1⟩,q.2.2⟩
  |_=>exact q.elim
end
noncomputable def LF:AccK (List PyData) where
 R:=fun h zy D ds=>∃o,h.get? D=some o∧OwnL ds o
 move:=fun hD x ⟨o,e,r⟩=>⟨o,hD o e,r⟩
 alive:=fun⟨o,e,_⟩=>⟨o,e⟩
section
variable{β:Type}{K:AccK β}
theorem NG:FT V w H0 LF (newList []) []:=fun A s Z=>wpAny_newObj_type ⟨_,rfl,rfl,rfl,fun zy=>⟨_,Heap.get?_push_size _ rfl,[],0,rfl,.nil⟩⟩
theorem NH{elt:Expr}{xs:List Str}{b:List PyData}{d:PyData}(hfd:KH d=true)(h:Am V w H0 n sc σ zx elt (.d d))(hz:b.length≤sizeLine):
  CoP V w H0 n sc σ zx xs LF (fun zz acc=>do let _ ←call (.builtin "list.append") [acc,←eval elt zz]) b (b++[d]):=by
 intro A zz s zy D g o F hD hoff hK;refine Ac (Aq (h A zz s zy g o F) fun v s₁ q=>?_);obtain⟨h₁,t₁,rfl,ex,r⟩:=q;obtain⟨ob,he,vs,k,rfl,f⟩:=hK;have he1:=ex _ _ he;have fu:=JC hfd r;refine Ac (call_meets PySem.F.slot_list_append ⟨_,he1,rfl⟩ PySem.F.entry_list_append (PySem.F.args_list_append_2 _ _) (list_append D (toArray vs) k v (by rw[size_toArray,f.length];exact hz)) ⟨he1,?_⟩);refine Ag ?_;have hs:Heap.SameBut D h₁ (h₁.update D (Obj.mapSeq fun x=>x.push v)):=Heap.SameBut.update ..;have hg:=Heap.get?_update_self (Obj.mapSeq fun x=>x.push v) he1 (by rw[I1];rfl);rw[I1] at hg;have k:=AF hs;refine⟨_,t₁,rfl,(ex.keep _).trans (k.more fun a m=>by rw[AU m];exact mem_cons_self),?_,_,hg,vs++[v],_,rfl,f.append (.cons fu .nil)⟩;refine(F.ext ex).keepBut k (fun a m=>by rw[AU m];exact hD) (fun a m=>by rw[AU m];exact⟨hoff.1,hoff.2.1,hoff.2.2⟩) (fun a m=>?_);rw[AU m];exact⟨_,hg⟩
theorem NI{α:Type}{items:List α}{enc:α->Ent}{F:α->Option PyData}{target iter elt:Expr}{ifs:List Expr}{xs:List Str}(hz:items.length≤sizeLine)(hfd:∀a d,F a=some d->KH d=true)
  (turn:∀a∈items,Ff V w H0 n sc σ zx target ifs elt xs enc F a):
  TurnsP V w H0 n sc σ zx ⟨target,iter,ifs,0⟩ (fun zz acc=>do let _ ←call (.builtin "list.append") [acc,←eval elt zz]) xs LF (items.map enc) (fun i=>(items.take i).filterMap F):=by
 intro i x hx;rw[getElem?_map] at hx;cases ha:items[i]? with
 |none=>rw[ha] at hx;exact CE hx
 |some a=>
  rw[ha] at hx;replace hx:=Option.some.inj hx;subst hx;have hm:a∈items:=mem_of_getElem? ha;refine OK (turn a hm) fun bs p h1 h2 h3 h4 h5 h6=>?_;have e:(items.take (i+1)).filterMap F=(items.take i).filterMap F++(F a).toList:=by
   rw[take_add_one,ha,List.filterMap_append];simp -iota only[Option.toList];cases hF:F a<;> simp[hF]
  have hlen:((items.take i).filterMap F).length≤sizeLine:=le_trans (length_filterMap_le ..) (le_trans (by rw[length_take];exact min_le_right _ _) hz);refine⟨bs,p,h1,fun y hy=>by rw[←h2];exact hy,fun y hy=>h3 y (by rw[←h2];exact hy),h4,fun hp=>?_,fun hp=>?_⟩
  ·refine Ad (h5 hp) fun d hd hE=>?_
   show CoP _ _ _ _ _ _ _ _ _ _ _ ((items.take (i+1)).filterMap F);rw[e,hd];exact NH (hfd _ _ hd) hE hlen
  ·show(items.take (i+1)).filterMap F=_
   rw[e,h6 hp];simp
theorem Rn{e:Expr}{c:Comprehension}{gs:List Comprehension}{tail:Env->Value->Sem Unit}{scope:Scope}{xs:List Str}{ds:List Ent}{newAcc:Sem Value}{pos:Pos}{Q:Obj->Prop}(B:Nat->β)
  (hf:CompForm e 0 c tail)(hgs:clausesOf e=c::gs)(hok:BQ sc scope=true)(hxs:∀x∈xs,scope.names.lookup x=some .local∨scope.names.lookup x=some .cell)(hacc:FT V w H0 K newAcc (B 0))
  (he:∀zz,eval e zz=comprehension e scope zz pos newAcc false (eval c.iter zz))(hs:∀zz x,foldedSetIterable c.iter zz x=pure x)
  (hi:Tv V w H0 n sc σ zx c.target c.iter ds)(turn:TurnsP V w H0 n (CR sc scope) (Cj scope σ) zx c tail xs K ds B)
  (hP:∀h zy D,K.R h zy D (B ds.length)->∃o,h.get? D=some o∧Q o):J3 V w H0 n sc σ zx e Q:=by
 intro A zz s zy g o F;rw[he];have hok':=hok;simp only[BQ,Bool.and_eq_true,decide_eq_true_eq,all_eq_true,Bool.or_eq_true,bne_iff_ne,ne_eq,beq_iff_eq] at hok';refine BL hok' fun x1 hloc=>?_;rcases x1 with ⟨⟨hk,hnd⟩,hfree⟩;refine wpAny_comprehension_free (use:=none) hgs (hs zz) (EJ hok o) hk (fun y hy hl=>(hloc y hy).resolve_left fun q=>q hl) ?_;refine Ah (hi A zz s zy g o F) (fun v s₁ q=>Ah q (fun it s2 q2=>?_) fun Z Z f=>f) fun Z Z f=>f;refine HZ (RR:=fun acc C=>compPost (model V w) A CO none (fun v s'=>∃h' tk a o,s'={s with heap:=h',toks:=tk}∧Ext s.heap h'∧v=.ref a∧h'.get? a=some o∧s.heap.get? a=none∧Q o) acc C) B hf hok hxs hacc turn.j (zero_le _) g o F q2 ?_;intro D C h' tk hn hx hC hD hDC hR;refine ex1 hn fun m x2=>?_;revert x2;intro hn;refine⟨m,hn,fun h'' hs''=>?_⟩;have k:=AF hs'';refine Ad (hP _ _ _ hR) fun ob e r=>?_;refine⟨h'',tk,D,ob,rfl,fun b oo eb=>k b oo (fun hm=>?_) (hx b oo eb),rfl,k D ob (by simpa using hDC) e,hD,r⟩;rw[AU hm,hC] at eb;exact CE eb
theorem Uo{α:Type}{items:List α}{enc:α->Ent}(F:α->Option PyData){target iter elt:Expr}{ifs:List Expr}{scope:Scope}{pos:Pos}{xs:List Str}(ht:(∃y p,target=.Name y p)∨∃es k p,target=.Tuple es k p)
  (hok:BQ sc scope=true)(hxs:∀x∈xs,scope.names.lookup x=some .local∨scope.names.lookup x=some .cell)(hs:∀zz x,foldedSetIterable iter zz x=pure x)(hfd:∀a d,F a=some d->KH d=true)
  (hi:Tv V w H0 n sc σ zx target iter (items.map enc))(hz:items.length≤sizeLine)
  (turn:∀a∈items,Ff V w H0 n (CR sc scope) (Cj scope σ) zx target ifs elt xs enc F a):J3 V w H0 n sc σ zx (.ListComp elt [⟨target,iter,ifs,0⟩] scope pos) (OwnL (items.filterMap F)):=by
 refine Rn (K:=LF) (fun i=>(items.take i).filterMap F) (FV ht) rfl hok hxs (by simpa using NG) (fun zz=>rfl) hs hi (NI hz hfd turn) fun h zy D hK=>?_;rw[length_map,take_length] at hK;exact hK
end
section
variable{K:Frag}
theorem S8{zy:List Addr}{zz:Env}{h:Heap}{σ'':AN}{D:Addr}{oD:Obj}(F:Fm H0 zy zx zz σ h)(hD:(D,oD)∈zx)
  (hσ:∀g,g.get? D=some oD->∀x e',σ''.lookup x=some e'->∃e,σ.lookup x=some e∧∀v,Means g v e->Means g v e'):
  Fm H0 (zy.filter fun b=>b !=D) (zx.filter fun p=>p.1 !=D) zz σ'' h:=by
 have F1:Fm H0 zy (zx.filter fun p=>p.1 !=D) zz σ h:={F with
  ledh:=fun p hp=>F.ledh p (mem_filter.mp hp).1
  ledg:=fun p hp=>F.ledg p (mem_filter.mp hp).1
  ledoff:=fun p hp=>F.ledoff p (mem_filter.mp hp).1}
 have o:=F.ledoff _ hD;have nin:∀b,b∈zy->b≠D->b∈zy.filter fun b=>b !=D:=fun b m n=>mem_filter.mpr ⟨m,by simpa using n⟩;have F2:Fm H0 (zy.filter fun b=>b !=D) (zx.filter fun p=>p.1 !=D) zz σ h:=F1.less (fun a m=>(mem_filter.mp m).1) (nin _ F.loc fun e=>o.1 e.symm) (fun p hp=>nin _ (F.celh p hp) fun e=>o.2 p hp e.symm) fun p hp=>nin _ (F1.ledh p hp) (by simpa using (mem_filter.mp hp).2);have gD:(vis h (zy.filter fun b=>b !=D)).get? D=some oD:=AQ (F.ledg _ hD) fun m=>by simpa using (mem_filter.mp m).2
 exact{F2 with
  ns:=by
   refine Ad F2.ns fun m hm q=>?_;refine⟨m,hm,fun x e' hx hk=>?_⟩;refine Ad (hσ _ gD x e' hx) fun e he hme=>?_;refine Ad (q x e he hk) fun v a b=>?_;exact⟨v,a,hme v b⟩
  cell:=fun x e' hx hk=>by
   refine Ad (hσ _ gD x e' hx) fun e he hme=>?_;refine Bh (F2.cell x e he hk) fun c v a b d=>?_;exact⟨c,v,a,b,hme v d⟩}
theorem Ro{e:Expr}{Q:Obj->Prop}{σ'':AN}{D:Addr}{oD:Obj}(hD:(D,oD)∈zx)
  (hσ:∀g,g.get? D=some oD->∀x e',σ''.lookup x=some e'->∃e,σ.lookup x=some e∧∀v,Means g v e->Means g v e')
  (h:J3 V w H0 n sc σ'' (zx.filter fun p=>p.1 !=D) e Q):J3 V w H0 n sc σ zx e Q:=fun A zz s zy g o F=>h A zz s _ g o (S8 F hD hσ)
noncomputable def TH (D:Addr) (oD:Obj):Ent:=.p (fun g v=>∃vw o,v=.ref vw∧g.get? vw=some o∧o.cls=.type "dict_values"∧o.data=.fields #[.ref D]∧g.get? D=some oD) fun g g' v x ⟨vw,o,e,a,b,c,d⟩=>⟨vw,o,e,x _ _ a,b,c,x _ _ d⟩
theorem Rp{D:Addr}{oD:Obj}{kvs:List (Str×Value)}(hl:oD.IsDictOf (DN V w) kvs):DS V w H0 n (TH D oD) (kvs.map fun p=>.v p.2):=by
 intro A s zy v g B ra;refine ex2 ra fun vw o h9=>?_;refine JY h9 fun x3 hv hc hd hD=>?_;clear h9;try clear ra;subst x3
 refine BL (Al hv) fun hv1 Z=>?_;refine BL (Al hD) fun hD1 hDn=>?_;refine FH (Heap.dictOf_iff.mpr ⟨oD,hD1,hl⟩) fun o' es ep ho' hr=>?_;have hat:s.heap.DictAt (DN V w) D kvs ep:=⟨o',es,ho',hr⟩;have dne:D≠s.heap.objs.size:=ne_of_lt (Heap.lt_size hD1);have nfresh:s.heap.get? s.heap.objs.size=none:=CA (le_refl _);refine wpAny_pyIter_values (knd:=DN V w) ⟨o,hv1,hc,hd⟩ hat ⟨s.heap.objs.size,[s.heap.objs.size,D],[s.heap.objs.size],(fun i h=>h.IsValIter s.heap.objs.size D i kvs.length ep∧h.DictAt (DN V w) D kvs ep),_,s.toks,rfl,rfl,An _ _,⟨?_,?_,?_⟩,?_,?_,?_⟩
 ·have W:=Walks.dictValues (prog:=V) (w:=w) (knd:=DN V w) g.hh s.heap.objs.size D dne kvs ep
  have e:kvs.length=(kvs.map fun p=>Ent.v p.2).length:=by rw[length_map]
  rw[e] at W;have:=Walks.imp (P':=fun i v=>∃e,(kvs.map fun p=>Ent.v p.2)[i]? =some e∧Means (vis s.heap zy) v e) W fun i v p=>by
   refine ex1 p fun k h1=>?_;exact⟨.v v,by rw[getElem?_map,h1];rfl,rfl⟩
  rw[←e] at this ⊢;exact this
 ·intro i h st b hb
  refine BL st fun x1 Z=>?_;rcases x1 with ⟨o,e,_⟩;rw[AU hb];exact⟨o,e⟩
 ·intro i h st
  refine BL st fun x1 Z=>?_;rcases x1 with ⟨o,e,c,_⟩;exact⟨o,_,e,c,by decide⟩
 ·exact⟨⟨_,Heap.get?_push_size _ rfl,rfl,rfl⟩,⟨o',es,Heap.get?_push_of_some _ ho',hr⟩⟩
 ·intro b hb
  rw[AU hb];exact nfresh
 ·intro b hb
  rcases BF hb with rfl|hb
  ·exact⟨⟨_,Heap.get?_push_size _ rfl⟩,B.fresh⟩
  ·rw[AU hb]
   exact⟨⟨_,Heap.get?_push_of_some _ hD1⟩,hDn⟩
noncomputable def Ox (u:Value) (D:Addr) (oD:Obj):Ent:=.p (fun g v=>v=u∧g.get? D=some oD) fun g g' v x ⟨e,a⟩=>⟨e,x _ _ a⟩
theorem PJ{e:Expr}{pa pos:Pos}{D:Addr}{oD:Obj}{kvs:List (Str×Value)}(he:Am V w H0 n sc σ zx e (Ox (.ref D) D oD))(hl:oD.IsDictOf (DN V w) kvs)(lo:(D==sysModules)=false)
  (hbase:∀zz,attributeBase e "values" zz (eval e zz)=eval e zz)(hline:(pa.endLine==pos.line)=true):Am V w H0 n sc σ zx (.Call (.Attribute e "values" pa) [] [] pos) (TH D oD):=by
 intro A zz s zy g o F;refine Call_method0 (hbase _) hline (Aq (he A zz s zy g o F) fun u s₁ q=>?_);refine BL q.val fun x1 hD=>?_;subst x1;have hDh:=EG (V:=V) (w:=w) (Al hD).1 hl;refine⟨"dict","dict.values",PySem.F.plainAttrs_dict,PySem.F.slot_dict_values,PySem.F.type_dict_values,hDh.typeIs,hDh.mapOf.noDict,?_⟩;refine callWith_builtin rfl (PySem.evalArgs_none ?_);refine call_meetsIn PySem.F.slot_dict_values hDh.typeIs PySem.F.entry_dict_values (PySem.F.args_dict_values_1 _) (meets_dict_values (DN V w) D lo) ⟨⟨_,hDh⟩,?_⟩;have F1:=F.ext q.ext;exact q.trans ⟨_,_,rfl,An _ _,_,_,rfl,De F1.toBase _,rfl,rfl,AK zy (An _ _) _ _ hD⟩
theorem Rq{e:Expr}{name:Str}{pos:Pos}{C x dx D:Addr}{oD:Obj}{sl:Array (Option Value)}{od:Obj}{fs:List (Str×Value)}{v:Value}(hK:K.In H0)(c:DCls K C)(he:Am V w H0 n sc σ zx e (Ox (.ref x) D oD))(hx:(x,Bg C dx sl)∈zx)(hd:(dx,od)∈zx)(hf:FD fs od)
  (hn:B6 K C name)(hl:fs.lookup name=some v)(hv:handedIn v=true)(ha:DG e name pos):Am V w H0 n sc σ zx (.Attribute e name pos) (Ox v D oD):=by
 intro A zz s zy g o F;obtain⟨es,m,rfl,hes⟩:=hf;refine Attribute_any_ (Aq (he A zz s zy g o F) fun u s₁ q=>?_) (ha zz);refine BL q.val fun x1 hD=>?_;subst x1;have F1:=F.ext q.ext;exact getD (HH hK F1) c (F1.ledg _ hx) (F1.ledg _ hd) hn (by rw[Eu name hes,hl]) hv (q.trans (Pu.tok ⟨rfl,hD⟩))
end
section
variable{K:Frag}
theorem JO{A:Around}{zz:Env}{s:Shared}{zy:List Addr}{f:Value}{first:List Value}{pos:Pos}{trees:List (Bool×Sem Value)}{xs:List Ent}{Q:Value->Shared->Prop}{E:Value->Shared->Prop}(hH:Ext H0 s.heap)(hc:Cn H0 f)(hp:trees.any (·.1)=false)
  (ha:wpAny (model V w) A (spliced trees) (Pu s zy (fun g vs=>MeansAll g vs xs)) CO s)
  (h:∀vs s₁,Pu s zy (fun g vs=>MeansAll g vs xs) vs s₁->wpAny (model V w) A (call f (first++vs)) Q E s₁):
  wpAny (model V w) A (callWith pos f first trees []) Q E s:=by
 refine callWith_of (P:=fun h=>Ext H0 h) (by rw[hp];rfl) (fun h e=>hc _ h e) (CI hp ?_);exact Ah ha (fun vs s₁ q=>⟨hH.trans q.ext,h vs s₁ q⟩) fun Z Z f=>f.elim
theorem Mu{e:Expr}{m:Str}{pa pos:Pos}{args:List Expr}{C x dx f:Addr}{sl:Array (Option Value)}{od:Obj}{fs:List (Str×Value)}{xs:List Ent}{A:Around}{zz:Env}{s:Shared}{zy:List Addr}{Q E:Value->Shared->Prop}(g:Good n A)(o:EnvOk sc zz)(F:Fm H0 zy zx zz σ s.heap)(hK:K.In H0)(c:DCls K C)(he:Am V w H0 n sc σ zx e (.v (.ref x)))(hx:(x,Bg C dx sl)∈zx)(hd:(dx,od)∈zx)(hf:FD fs od)
  (hsh:fs.lookup m=none)(hm:findIn K (.ref C) m=some (some (.ref f)))(ht:typeIn K (.ref f)=some (.type "function"))(hc:Cn H0 (.ref f))(ha:Ey V w H0 n sc σ zx pos args xs)
  (hb:∀zz,(backTo pos (starEach args zz)).any (·.1)=false)(hev:D5 e m pa args pos)
  (h:∀s2 vs,Pu s zy (fun Z (Z:Value)=>True) .none s2->Fm H0 zy zx zz σ s2.heap->MeansAll (vis s2.heap zy) (.ref x::vs) (.v (.ref x)::xs)->wpAny (model V w) A (call (.ref f) (.ref x::vs)) Q E s2):
  wpAny (model V w) A (eval (.Call (.Attribute e m pa) args [] pos) zz) Q E s:=by
 refine ex1 (hev zz) fun pl hpl=>?_;obtain⟨es,k,rfl,hes⟩:=hf;refine MethodCall_ (pl:=pl) (Ah (he A zz s zy g o F) (fun u s₁ q=>?_) fun Z Z f=>f.elim) hpl;have e1:=q.val;subst e1;have F1:=F.ext q.ext;refine method_fn (HH hK F1) (Gy (F1.ledg _ hx) (F1.ledg _ hd)) c.ga c.gn hm ht (by show(lookIn m (dictOf es k)).map _=_;rw[lookIn_dict,Eu m hes,hsh];rfl) ?_;refine JO (zz:=zz) F1.toBase.h0 hc (hb zz) (ha A zz s₁ zy g o F1) fun vs s2 q2=>?_;have F2:=F1.ext q2.ext;exact h s2 vs (q.trans q2.any) F2 ⟨rfl,q2.val⟩
theorem Fm.callU{zy zy':List Addr}{zz:Env}{zw:List Env}{h h':Heap}{L L' rest:Aw}(F:Fm H0 zy zx zz σ h)(lo:Cf (Ck zw) zy)(O:GG zw zz zx)(hL:Cf L zx)(hr:∀p∈rest,p∈zx∧p.1∉L.map (·.1))(k:KeepU (L.map (·.1)) (zz.locals::Ck zw) h h')(B:Base H0 zy' h')(LO:LedOk zy' L' h')
  (m1:Cf zy zy')(m2:MN zy zy' h)(m3:GF L L' h):Fm H0 zy' (L'++rest) zz σ h':=by
 have hLo:Cf (L.map (·.1)) zy:=fun b m=>by refine Ad (Ct m) fun p hp x3=>?_;subst x3;exact F.ledh p (hL p hp)
 have inh:∀b∈zz.locals::Ck zw,b∈zy:=fun b m=>by
  rcases BF m with rfl|m
  ·exact F.loc
  ·exact lo b m
 have vk:Ext (vis h zy) (vis h' zy'):=fun b o e=>AQ (k.1 b o (fun m=>(Al e).2 (hLo b m)) (fun m=>(Al e).2 (inh b m)) (Al e).1) fun m=>by
  rcases m2 b m with m|m
  ·exact(Al e).2 m
  ·rw[(Al e).1] at m;exact E4 m
 have nc:∀q∈zz.cells,q.2∉L.map (·.1):=fun q hq m=>by refine Ad (Ct m) fun p hp e=>?_;exact(F.ledoff p (hL p hp)).2 q hq e
 have nf:∀q∈zz.cells,q.2∉zz.locals::Ck zw:=fun p hp m=>by
  rcases BF m with e|m
  ·exact F.off p hp e
  ·exact O _ m (mem_cons_of_mem _ (mem_append_left _ (mem_map_of_mem hp)))
 have offl:∀p∈zx,p.1∉zz.locals::Ck zw:=fun p hp m=>by
  rcases BF m with e|m
  ·exact(F.ledoff p hp).1 e
  ·exact O _ m (FW (mem_map_of_mem hp))
 have kc:∀q∈zz.cells,∀o,h.get? q.2=some o->h'.get? q.2=some o:=fun q hq o e=>k.1 _ _ (nc q hq) (nf q hq) e;exact{
  toBase:=B
  loc:=m1 _ F.loc
  celh:=fun p hp=>m1 _ (F.celh p hp)
  ledh:=fun p hp=>by
   rcases Cx hp with hp|hp
   ·exact LO.1 p hp
   ·exact m1 _ (F.ledh p (hr p hp).1)
  ns:=by
   refine Ad F.ns fun m x2 q=>?_;rcases x2 with ⟨o,es,ep,e,hd,r⟩;obtain⟨sl,e'⟩:=k.2 zz.locals mem_cons_self o e fun vs q=>by rw[hd] at q;exact GR Data.ctorIdx q rfl
   exact⟨m,⟨_,es,ep,e',hd,r⟩,fun y e a b=>let⟨v,c,d⟩:=q y e a b;⟨v,c,d.ext vk⟩⟩
  cell:=fun y e a b=>let⟨c,v,p,⟨o,e1,e2⟩,r⟩:=F.cell y e a b;⟨c,v,p,⟨o,kc (y,c) (mem_of_lookup p) _ e1,e2⟩,r.ext vk⟩
  cells:=fun p m=>let⟨v,o,e1,e2⟩:=F.cells p m;⟨v,o,kc p m _ e1,e2⟩
  ledg:=fun p hp=>by
   rcases Cx hp with hp|hp
   ·exact LO.2 p hp
   ·exact k.1 _ _ (hr p hp).2 (offl p (hr p hp).1) (F.ledg p (hr p hp).1)
  apart:=F.apart
  off:=F.off
  ledoff:=fun p hp=>by
   rcases Cx hp with hp|hp
   ·rcases m3 p hp with m|m
    ·refine Ad (Ct m) fun p' hp' e=>?_
     rw[←e];exact F.ledoff p' (hL p' hp')
    ·refine⟨fun q=>?_,fun c hc q=>?_⟩
     ·refine Ad F.ns fun m' x2 Z=>?_;rcases x2 with ⟨o,es,ep,e,r⟩
      rw[q,e] at m;exact E4 m
     ·refine B8 (F.cells c hc) fun v o e1 e2=>?_
      rw[q,e1] at m;exact E4 m
   ·exact F.ledoff p (hr p hp).1}
theorem GPf.of_cpf{s s':Shared}{zy:List Addr}{zz:Env}{zw:List Env}{L rest:Aw}{Ψ:Heap->Value->Aw->Prop}{v:Value}(F:Fm H0 zy zx zz σ s.heap)(lo:Cf (Ck zw) zy)(O:GG zw zz zx)(hL:Cf L zx)(hr:∀p∈rest,p∈zx∧p.1∉L.map (·.1))(x:CPf H0 s zy L (zz.locals::Ck zw) Ψ v s'):
  GPf H0 s zy zz zx (Ck zw) (fun g v σ' zx'=>σ'=σ∧∃L',Ψ g v L'∧zx'=L'++rest) v s':=by
 obtain⟨h',tk,zy',L',rfl,k,B,LO,m1,m2,m3,p⟩:=x;refine⟨h',tk,zy',σ,L'++rest,rfl,⟨fun b o n1 n2 e=>k.1 b o (fun m=>n1 ?_) (fun m=>?_) e,fun b m o e d=>k.2 b (mem_cons_of_mem _ m) o e d⟩,F.callU lo O hL hr k B LO m1 m2 m3,m1,m2,fun p hp=>?_,rfl,L',p,rfl⟩
 ·refine Ad (Ct m) fun q hq x3=>?_;subst x3
  exact FW (mem_map_of_mem (hL q hq))
 ·rcases BF m with rfl|m
  ·exact n1 mem_cons_self
  ·exact n2 m
 ·rcases Cx hp with hp|hp
  ·rcases m3 p hp with m|m
   ·refine Ad (Ct m) fun q hq e=>?_
    rw[←e];exact .inl (mem_map_of_mem (hL q hq))
   ·exact .inr m
  ·exact .inl (mem_map_of_mem (hr p hp).1)
theorem FkC.of{A:Around}{zz:Env}{zw:List Env}{zy:List Addr}{h:Heap}(F:Fm H0 zy zx zz σ h)(K:FrOk A zz zw zy h):FkC true A (zz::zw) zy h:=show _∧_∧_ from⟨K.stack,K.fn,fun b m=>by
 rcases BF m with rfl|m
 ·refine Ad F.ns fun m x2 Z=>?_;rcases x2 with ⟨o,es,ep,e,hd,_⟩
  exact⟨F.loc,o,e,fun vs q=>by rw[hd] at q;exact GR Data.ctorIdx q rfl⟩
 ·exact K.low b m⟩
theorem JP{zz:Env}{zw:List Env}{L:Aw}{zy:List Addr}{h:Heap}(F:Fm H0 zy zx zz σ h)(O:GG zw zz zx)(hL:Cf L zx):∀b∈Ck (zz::zw),b∉L.map (·.1):=fun b m hm=>by
 refine Ad (Ct hm) fun p hp x3=>?_;subst x3;rcases BF m with e|m
 ·exact(F.ledoff p (hL p hp)).1 e
 ·exact O _ m (FW (mem_map_of_mem (hL p hp)))
theorem S9{e:Expr}{m:Str}{pa pos:Pos}{args:List Expr}{C x dx f:Addr}{sl:Array (Option Value)}{od:Obj}{fs:List (Str×Value)}{xs:List Ent}{L rest:Aw}{Ψ:Heap->Value->Aw->Prop}(hK:K.In H0)(c:DCls K C)(he:Am V w H0 n sc σ zx e (.v (.ref x)))(hx:(x,Bg C dx sl)∈zx)(hd:(dx,od)∈zx)(hf:FD fs od)
  (hsh:fs.lookup m=none)(hm:findIn K (.ref C) m=some (some (.ref f)))(ht:typeIn K (.ref f)=some (.type "function"))(hc:Cn H0 (.ref f))(ha:Ey V w H0 n sc σ zx pos args xs)(hcall:FnF true V w H0 n (.ref f) (.v (.ref x)::xs) L Ψ)(hL:Cf L zx)(hr:∀p∈rest,p∈zx∧p.1∉L.map (·.1))
  (hb:∀zz,(backTo pos (starEach args zz)).any (·.1)=false)(hev:D5 e m pa args pos):MJ true V w H0 n sc σ zx (eval (.Call (.Attribute e m pa) args [] pos)) (fun g v σ' zx'=>σ'=σ∧∃L',Ψ g v L'∧zx'=L'++rest):=by
 intro A zz zw s zy g o F Kf O;refine Mu g o F hK c he hx hd hf hsh hm ht hc ha hb hev fun s2 vs q2 F2 mv=>?_;have K2:FrOk A zz zw zy s2.heap:=Fk.move (x:=true) Kf (fun Z m=>m) (.of_but (q2.ext.keep _) O);refine wpAny_call (codeAny_mono (hcall A (zz::zw) s2 zy (.ref x::vs) g F2.toBase ⟨fun p hp=>F2.ledh p (hL p hp),fun p hp=>F2.ledg p (hL p hp)⟩ (FkC.of F2 K2) (JP F2 O hL) mv) fun r s' z=>?_);rcases r with e|(v|_|_|_)<;> first|exact z.elim|skip
 have lo:=K2.low;have gp:=GPf.of_cpf F2 (fun b m=>(lo b m).1) O hL hr z;obtain⟨h2,t2,rfl,ex2,_⟩:=q2;have lo0:=Fk.low (x:=true) Kf;exact GPf.glue (h₁:=h2) (t₁:=t2) F (fun b m=>⟨(lo0 b m).1,let⟨_,o,e,_⟩:=lo0 b m;⟨o,e⟩⟩) (.of_but (ex2.keep _) O) F2 (fun Z m=>m) (fun Z m=>.inl m) (fun p m=>.inl (mem_map_of_mem m)) gp
end
section
variable{K:Frag}{C:Addr}
inductive Rz(H0:Heap)(C:Addr)(s:Shared)(zy:List Addr)(zz:Env)(zx:Aw)(fr:List Addr)(Ξ:AN->Aw->Prop)(e:Value)(s':Shared):Prop
 |mk:∀u tu h'' a vs,e=.ref a->GPf H0 s zy zz zx fr (fun Z (Z:Unit) σ' zx'=>Ξ σ' zx') () {s with heap:=u,toks:=tu}->s'={s with heap:=h'',toks:=tu}->Heap.MadeExcOf u h'' a (.ref C) vs->Rz H0 C s zy zz zx fr Ξ e s'
theorem Rz.glue{s:Shared}{zy zy1:List Addr}{zz:Env}{zx₁:Aw}{σ₁:AN}{fr:List Addr}{Ξ:AN->Aw->Prop}{e:Value}{s2:Shared}{h₁:Heap}{t₁:Nat}(F:Fm H0 zy zx zz σ s.heap)(hr:∀b∈fr,b∈zy∧∃o,s.heap.get? b=some o)
  (k1:KeepU (AI zz zx) fr s.heap h₁)(F1:Fm H0 zy1 zx₁ zz σ₁ h₁)(hm1:Cf zy zy1)(hf1:MN zy zy1 s.heap)(hl1:GF zx zx₁ s.heap)
  (q:Rz H0 C {s with heap:=h₁,toks:=t₁} zy1 zz zx₁ fr Ξ e s2):Rz H0 C s zy zz zx fr Ξ e s2:=by
 obtain⟨u,tu,h'',a,vs,rfl,gp,rfl,mx⟩:=q;exact⟨u,tu,h'',a,vs,rfl,GPf.glue F hr k1 F1 hm1 hf1 hl1 gp,rfl,mx⟩
def Ta(V:Program)(w:World)(H0:Heap)(C:Addr)(n:Nat)(sc:Scope)(σ:AN)(zx:Aw)(sts:List Stmt)(Ψ:Ba)(Ξ:AN->Aw->Prop):Prop:=
 ∀A zz zw s zy,Good n A->EnvOk sc zz->Fm H0 zy zx zz σ s.heap->FrOk A zz zw zy s.heap->GG zw zz zx->wpAny (model V w) A (execs sts zz) (GPf H0 s zy zz zx (Ck zw) Ψ) (Rz H0 C s zy zz zx (Ck zw) Ξ) s
theorem LG{st:Stmt}{rest:List Stmt}{Ψ Φ:Ba}{Ξ:AN->Aw->Prop}(h:HT true V w H0 n sc σ zx st Ψ)(hr:∀g σ' zx',Ψ g .next σ' zx'->Ta V w H0 C n sc σ' zx' rest Φ Ξ)(hs:∀g fl σ' zx',fl≠ .next->Ψ g fl σ' zx'->Φ g fl σ' zx'):
  Ta V w H0 C n sc σ zx (st::rest) Φ Ξ:=by
 intro A zz zw s zy g o F K O;refine wpAny_execs_cons (Ah (h A zz zw s zy g o F K O) (fun fl s₁ q=>?_) fun Z Z f=>f.elim);cases fl with
 |next=>
  obtain⟨h₁,t₁,zy1,σ₁,zx₁,rfl,k1,F1,m1,m2,m3,p1⟩:=q;have lo:=K.low;have al:∀b∈Ck zw,b∈zy∧∃ob,s.heap.get? b=some ob:=fun b m=>let⟨h1,o,e,_⟩:=lo b m;⟨h1,o,e⟩;have K1:FrOk A zz zw zy1 h₁:=Fk.move (x:=true) K m1 k1;exact Ah (hr _ σ₁ zx₁ p1 A zz zw {s with heap:=h₁,toks:=t₁} zy1 g o F1 K1 (Eh O (fun b m=>(al b m).2) m3)) (fun fl s2 q2=>GPf.glue F al k1 F1 m1 m2 m3 q2) fun e s2 q2=>Rz.glue F al k1 F1 m1 m2 m3 q2
 |_=>exact q.mono fun g σ' zx' p=>hs g _ σ' zx' (by intro e;exact nomatch e) p
structure ExcK(H0:Heap)(x:Str)(C:Addr)(B newId initId:String)(bmB:List Value):Prop where
 own:∃mg,H0.Ns mainGlobals mg∧OwnCls x C bmB newId mg H0
 fb:ExcBaseFacts B newId initId bmB
theorem ExcK.glob{x:Str}{B newId initId:String}{bmB:List Value}(k:ExcK H0 x C B newId initId bmB):GIs H0 x (.ref C):=let⟨mg,h,O⟩:=k.own;⟨mg,h,.inl O.bound⟩
theorem Mv{f:Value}{trees:List (Bool×Sem Value)}{A:Around}{s:Shared}{E:Value->Shared->Prop}{Q:Args->Shared->Prop}(hp:trees.any (·.1)=false)(h:wpAny (model V w) A (spliced trees) (fun vs s₁=>Q ⟨vs,[]⟩ s₁) E s):wpAny (model V w) A (evalArgs f true trees []) Q E s:=CI hp h
theorem Rr{x:Str}{np cpos pos:Pos}{args:List Expr}{rest:List Stmt}{B newId initId:String}{bmB:List Value}{xs:List Ent}{Ψ:Ba}{Ξ:AN->Aw->Prop}(X:ExcK H0 x C B newId initId bmB)(hg:BA sc x=true)(ha:Ey V w H0 n sc σ zx cpos args xs)(hz:xs.length≤sizeLine)
  (hplain:∀zz,(backTo cpos (starEach args zz)).any (·.1)=false)(h:Ξ σ zx):Ta V w H0 C n sc σ zx (.Raise (some (.Call (.Name x np) args [] cpos)) none pos::rest) Ψ Ξ:=by
 revert X hg ha hz hplain h;revert Ξ;revert initId bmB xs Ψ;revert V w H0 n sc σ zx C x np cpos pos args rest B newId;refine no_implicit_lambda% (FM (by exact((((default,w0),default),default),default)) ?_);generalize CF _ _=t9;generalize t9.1.1.1.1=V,t9.1.1.1.2=w,t9.1.1.2.1=H0,t9.1.1.2.2=n,t9.1.2.1.1=sc,t9.1.2.1.2=σ,t9.1.2.2.1=zx,t9.1.2.2.2=C,t9.2.1.1.1=x,t9.2.1.1.2=np,t9.2.1.2.1=cpos,t9.2.1.2.2=pos,t9.2.2.1.1=args,t9.2.2.1.2=rest,t9.2.2.2.1=B,t9.2.2.2.2=newId;refine no_implicit_lambda% (JZ (by exact default) ?_);generalize Iq _ _=t9;generalize t9.1.1=initId,t9.1.2=bmB,t9.2.1=xs,t9.2.2=Ψ;refine no_implicit_lambda% (Io (default) ?_);generalize HR _ _=Ξ;intro X hg ha hz hplain h;intro A zz zw s zy g o F K O;refine Ad X.own fun mg hns OC=>?_;obtain⟨tl,N,nm,q,bs,hdct,sn,sub,ab,col,dd,k0,k1,k2,k3,k5,mN,hC,hN,hni,T⟩:=OC.obj;refine wpAny_execs_cons (wpAny_Raise_call_subT (C:=C) (nm:=nm) (q:=q) (N:=N) (bs:=bs) (bm:=tl) (hdct:=hdct) (sn:=sn) (sub:=sub) (ab:=ab) (col:=col) (dd:=dd) (k0:=k0) (k1:=k1) (k2:=k2) (k3:=k3) (k5:=k5)
  X.fb (mN:=mN) (T.hasType X.fb.hasBase) g.hh (hplain zz) hni (Ah (DA X.glob hg A zz s zy g o F) (fun v s₁ q1=>?_) fun Z Z f=>f.elim))
 refine⟨q1.val,Mv (hplain zz) ?_⟩;have F1:=F.ext q1.ext;refine Ah (ha A zz s₁ zy g o F1) (fun vs s2 q2=>?_) fun Z Z f=>f.elim;have F2:=F1.ext q2.ext;have e0:Ext H0 s2.heap:=F2.toBase.h0;refine⟨rfl,by rw[(CH q2.val).length];exact hz,e0 _ _ hC,hN.keeps e0,T.keeps e0,fun h' e mx=>?_⟩;obtain⟨u,tu,rfl,ex,_⟩:=q1.trans q2;exact⟨u,tu,h',e,vs,rfl,⟨u,tu,zy,σ,zx,rfl,.of_but (ex.keep _) O,F2,fun Z m=>m,fun Z m=>.inl m,fun p m=>.inl (mem_map_of_mem m),h⟩,rfl,mx⟩
theorem TJ{test:Expr}{body orelse rest:List Stmt}{pos:Pos}{b:Bool}{Ψ:Ba}{Ξ:AN->Aw->Prop}(h:FI V w H0 n sc σ zx test b)(h1:b=true->Ta V w H0 C n sc σ zx body (fun Z Z Z Z=>False) Ξ)(h2:b=false->HX true V w H0 n sc σ zx (orelse++rest) Ψ)(ho:orelse=[]):
  Ta V w H0 C n sc σ zx (.If test body orelse pos::rest) Ψ Ξ:=by
 subst ho;intro A zz zw s zy g o F K O;have lo:=K.low;have al:∀b∈Ck zw,b∈zy∧∃ob,s.heap.get? b=some ob:=fun b m=>let⟨h1,o,e,_⟩:=lo b m;⟨h1,o,e⟩;refine wpAny_execs_cons (wpAny_If (Ah (h A zz s zy g o F) (fun c s₁ q=>?_) fun Z Z f=>f.elim));obtain⟨h₁,t₁,rfl,ex,e⟩:=q;subst e;have F1:=F.ext ex;have ku:KeepU (AI zz zx) (Ck zw) s.heap h₁:=.of_but (ex.keep _) O;have K1:FrOk A zz zw zy h₁:=Fk.move (x:=true) K (fun Z m=>m) ku;cases c with
 |true=>exact Ah (h1 rfl A zz zw _ zy g o F1 K1 O) (fun fl s2 q2=>(let⟨_,_,_,_,_,_,_,_,_,_,_,f⟩:=q2;f.elim)) fun e s2 q2=>Rz.glue F al ku F1 (fun Z m=>m) (fun Z m=>.inl m) (fun p m=>.inl (mem_map_of_mem m)) q2
 |false=>
  refine wpAny_execs_nil ?_;exact Ah (h2 rfl A zz zw {s with heap:=h₁,toks:=t₁} zy g o F1 K1 O) (fun fl s2 q2=>GPf.glue F al ku F1 (fun Z m=>m) (fun Z m=>.inl m) (fun p m=>.inl (mem_map_of_mem m)) q2) fun Z Z f=>f.elim
end
section
variable{K:Frag}{C:Addr}
inductive RzC(H0:Heap)(C:Addr)(s:Shared)(zy:List Addr)(L:Aw)(zw:List Env)(Ξ:Aw->Prop)(e:Value)(s':Shared):Prop
 |mk:∀u tu zy₁ L₁ a a0 h₃ zz',e=.ref a->KeepU (L.map (·.1)) (Ck zw) s.heap u->Base H0 zy₁ u->LedOk zy₁ L₁ u->Cf zy zy₁->MN zy zy₁ s.heap->GF L L₁ s.heap->Ξ L₁->s'={s with heap:=h₃,toks:=tu}->(zz'.locals∈zy₁∧s.heap.get? zz'.locals=none∧zz'.locals∉L₁.map (·.1)∧∃o,u.get? zz'.locals=some o∧∀vs,o.data≠ .fields vs)->Heap.FlyingW (EM zz' zw u) zw a (.ref C) a0 h₃->Seen (zz'.locals::Ck zw) u h₃->RzC H0 C s zy L zw Ξ e s'
def VD(V:Program)(w:World)(H0:Heap)(C:Addr)(n:Nat)(f:Value)(xs:List Ent)(L:Aw)(Ψ:Heap->Value->Aw->Prop)(Ξ:Aw->Prop):Prop:=
 ∀A zw s zy vs,Good n A->Base H0 zy s.heap->LedOk zy L s.heap->FkC true A zw zy s.heap->(∀b∈Ck zw,b∉L.map (·.1))->MeansAll (vis s.heap zy) vs xs->
  codeAny (model V w) A (.call f ⟨vs,[]⟩) (fun r s'=>match r with|.ok (.ret v)=>CPf H0 s zy L (Ck zw) Ψ v s'|.error e=>RzC H0 C s zy L zw Ξ e s'|_=>False) s
theorem Vu{f:Addr}{fd:FuncData}{ps:List Str}{body:List Stmt}{xs xs':List Ent}{L:Aw}{Ψ:Heap->Value->Aw->Prop}{Ξ:Aw->Prop}(D:DefG H0 f fd sc body)(hb:Kl V w H0 fd ps xs xs')(hsc:Fa sc ps=true)(hl:xs'.length=ps.length)
  (h:Ta V w H0 C n sc (ps.zip xs') L body (fun g fl Z zx'=>Ψ g (match fl with|.ret v=>v|_=>.none) zx') (fun Z L'=>Ξ L')):VD V w H0 C (n+1) (.ref f) xs L Ψ Ξ:=by
 intro A zw s zy vs g B LO K hO hm;refine H3 D hb hsc hl g B LO hm fun zz h₁ t₁ o eF F ex hnew=>?_;have lo:=K.low;have Kf:=Fk.enter (x:=true) (zz:=zz) (zy':=AI zz []++zy) o eF K ex fun b m=>mem_append_right _ m;have O:=KK (zz:=zz) (fun b m=>(lo b m).2.imp fun Z q=>q.1) hO hnew;refine Ah (h _ zz zw _ _ g.deeper o F Kf O) (fun fl s' q=>?_) fun e s' q=>?_
 ·cases fl with
  |ret v=>exact CPf.of_gpf (fl:=.ret v) (v:=v) ex hnew (q.to fun Z Z Z h=>h)
  |next=>exact CPf.of_gpf (fl:=.next) (v:=.none) ex hnew (q.to fun Z Z Z h=>h)
  |brk=>exact CPf.of_gpf (fl:=.brk) (v:=.none) ex hnew (q.to fun Z Z Z h=>h)
  |cont=>exact CPf.of_gpf (fl:=.cont) (v:=.none) ex hnew (q.to fun Z Z Z h=>h)
 ·obtain⟨u,tu,h'',a,ws,rfl,gp,rfl,mx⟩:=q
  obtain⟨u',tu',zy2,σ2,L2,eU,k2,F2,m1,m2,m3,p2⟩:=gp;have eh:u'=u:=by have:=congrArg Shared.heap eU;exact this.symm
  have et:tu'=tu:=by have:=congrArg Shared.toks eU;exact this.symm
  subst eh et;have K2:FrOk (A.deeper zz) zz zw zy2 u':=Fk.move (x:=true) Kf m1 k2;have back:∀b,h₁.get? b=none->s.heap.get? b=none:=fun b e=>by
   cases q:s.heap.get? b with
   |none=>rfl
   |some ob=>rw[ex b ob q] at e;exact E4 e
  have own:∀b,b∈AI zz L->b∈AI zz []∨b∈L.map (·.1):=fun b hb=>by
   rcases BF hb with rfl|hb
   ·exact .inl mem_cons_self
   ·rcases Cx hb with hb|hb
    ·exact .inl (mem_cons_of_mem _ (mem_append_left _ hb))
    ·exact .inr hb
  refine wpAny_leaves_madeW (base:=EM zz zw u') (h:=u') (args:=ws) K2.stack eF (fun b o q=>(Al q).1) (KP F2 K2 (Ext.refl _)) mx fun h₃ t fl tp Z up=>?_;refine⟨u',tu',zy2,L2,a,.ref t,h₃,zz,rfl,⟨fun b ob nb nf e=>k2.1 b ob (fun m=>?_) nf (ex b ob e),fun b m ob e d=>k2.2 b m ob (ex b ob e) d⟩,F2.toBase,⟨F2.ledh,F2.ledg⟩,fun b m=>m1 b (mem_append_right _ m),fun b m=>?_,fun p m=>(m3 p m).imp id (back _),p2,rfl,⟨F2.loc,hnew _ mem_cons_self,fun m=>?_,?_⟩,fl,fun b ob nb e=>fl.1 b ob (AQ e nb),fun b m ob e d=>up b ob (mx.keeps b ob e) d⟩
  ·rcases own b m with q|q
   ·rw[hnew b q] at e;exact CE e
   ·exact nb q
  ·rcases m2 b m with m|m
   ·rcases Cx m with m|m
    ·exact .inr (hnew b m)
    ·exact .inl m
   ·exact .inr (back b m)
  ·refine Ad (Ct m) fun p hp e=>?_
   exact(F2.ledoff p hp).1 e
  ·refine Ad F2.ns fun m x2 Z=>?_;rcases x2 with ⟨o,es,ep,e,hd,_⟩
   exact⟨o,e,fun vs q=>by rw[hd] at q;exact GR Data.ctorIdx q rfl⟩
end
noncomputable def Rep.begin (r:Rep) (a:Addr):Rep:={r with at':=fun p=>match p with|.R=>a|p=>r.at' p,ready:=some (r.names.filter fun x=>r.np x==0)}
section
variable{V:Program}{w:World}{H0:Heap}{n:Nat}{sc:Scope}{σ:AN}{L zx zx0:Aw}{K:Frag}{c:Cls2}{r:Rep}{C:Addr}
theorem PK{a:Addr}{o od':Obj}{t1 t2:Tok}(h:RepOk V w c r zx)(hr:r.ready=none)(hnew:∀p∈zx,p.1≠a)(ho:OwnL (BE (r.names.filter fun x=>r.np x==0)) o)(hf:FD ((r.begin a).fields t1 t2) od'):
  RepOk V w c (r.begin a) (Ak (r.at' .dS) od' ((a,o)::zx)):=by
 revert h hr hnew ho hf;revert t1 t2;revert V w zx c r a o od';refine no_implicit_lambda% (HS (by exact(((default,w0),(default,⟨0,0⟩)),((w1,default),default))) ?_);generalize FK _ _=t9;generalize t9.1.1.1=V,t9.1.1.2=w,t9.1.2.1=zx,t9.1.2.2=c,t9.2.1.1=r,t9.2.1.2=a,t9.2.2.1=o,t9.2.2.2=od';refine no_implicit_lambda% (I8 (by exact default) ?_);generalize Ip _ _=t9;generalize t9.1=t1,t9.2=t2;intro h hr hnew ho hf;have old:∀p,r.ok p->r.at' p≠a:=fun p hp=>by
  refine Ad (h.hold p hp) fun o m Z=>?_;exact hnew _ m
 have nR:¬r.ok .R:=by show¬(r.ready.isSome=true);rw[hr];nofun
 have cls:∀p,(r.begin a).ok p->(p≠ .R∧r.ok p∧(r.begin a).at' p=r.at' p)∨(p=.R∧(r.begin a).at' p=a):=fun p hp=>by
  cases p with
  |R=>exact .inr ⟨rfl,rfl⟩
  |_=>exact .inl ⟨(by intro e;exact GR Pl.ctorIdx e rfl),hp,rfl⟩
 refine⟨fun p hp=>?_,fun p q hp hq e=>?_,h.lo⟩
 ·rcases cls p hp with ⟨hn,h1,e1⟩|⟨rfl,e1⟩
  ·by_cases e:p=.dS
   ·subst e
    exact⟨od',by rw[e1];exact BZ,t1,t2,hf⟩
   ·refine Ad (h.hold p h1) fun ob m sh=>?_
    refine⟨ob,by rw[e1];exact Au (mem_cons_of_mem _ m) fun q=>e (h.apart _ _ h1 trivial q),?_⟩;cases p<;> first|exact sh|exact absurd rfl hn|exact absurd rfl e
  ·exact⟨o,by rw[e1];exact Au mem_cons_self fun q=>old .dS trivial q.symm,ho⟩
 ·rcases cls p hp with ⟨hn,h1,e1⟩|⟨rfl,e1⟩<;> rcases cls q hq with ⟨hn',h2,e2⟩|⟨rfl,e2⟩<;> have e:=e1.symm.trans (e.trans e2)
  ·exact h.apart _ _ h1 h2 e
  ·exact absurd e (old _ h1)
  ·exact absurd e.symm (old _ h2)
  ·rfl
theorem Rs(r:Rep):(r.names.filterMap fun x=>if r.np x==0 then some (PyData.str (tx x)) else none)=BE (r.names.filter fun x=>r.np x==0):=by
 unfold BE
 induction r.names with
 |nil=>rfl
 |cons y l ih=>
  rw[List.filterMap_cons,filter_cons];cases r.np y==0 with
  |true=>exact congrArg (_:: ·) ih
  |false=>exact ih
theorem Rt:MO V w H0 n (.d .none) false:=by
 intro A s zy v g B m;cases C0 m;exact truthy_none (Pu.here rfl)
theorem NK{x:Bool}{e:Expr}{y:Str}{py pos:Pos}{Ψ:Ent->AN->Aw->Prop}(h:MJ x V w H0 n sc σ zx (eval e) (fun g v σ' zx'=>∃z,Means g v z∧Ψ z σ' zx'))(hy:Az sc y)
  (hs:∀zz,EnvOk sc zz->swapsWith e (some (.Name y py)) pos.line zz=pure false)(hw:∀zz,EnvOk sc zz->swappedStores [.Name y py] e zz=pure none):
  HT x V w H0 n sc σ zx (.Assign [.Name y py] e pos) (fun Z fl σ' zx'=>fl=.next∧∃z σ₁,Ψ z σ₁ zx'∧σ'=(y,z)::σ₁):=by
 intro A zz zw s zy g o F Kf O;show wpAny _ A (standAt pos >>=fun Z=>swapsWithSole [.Name y py] e pos.line zz >>=fun b=>if b=true then _ else _) _ _ s;refine Ac (wpAny_standAt (Ac ?_));show wpAny _ A (swapsWith e (some (.Name y py)) pos.line zz) _ _ s;rw[hs zz o];refine Ag ?_;rw[if_neg Bool.false_ne_true];refine Ac (Ah (h A zz zw s zy g o F Kf O) (fun v s₁ q=>?_) fun Z Z f=>f);refine q.then F Kf O fun zy1 σ₁ zx₁ F1 K1 O1 p1 Z=>?_;refine Ad p1 fun z mv x3=>?_;revert x3;intro p1;refine Ac ?_;rw[hw zz o];refine Ag ?_;show wpAny _ A (assignAll v [assign (.Name y py) zz] >>=fun Z=>pure Flow.next) _ _ _;refine Ac ?_;show wpAny _ A (assign (.Name y py) zz v) _ _ _;refine Ah (Af (V:=V) (w:=w) (H0:=H0) (n:=n) (e:=z) hy A zz s₁ zy1 zx₁ σ₁ v g o F1 mv) (fun Z s2 q2=>Ag ?_) fun Z Z f=>f;refine Bh q2 fun h2 t2 x3 k2 F2=>?_;try clear q2;subst x3
 exact GP.toF O1 ⟨h2,t2,zy1,_,zx₁,rfl,k2.more (AL zz zx₁ _),F2,fun Z m=>m,fun Z m=>.inl m,fun p m=>.inl (mem_map_of_mem m),rfl,z,σ₁,p1,rfl⟩
noncomputable abbrev U4:Scope:=Ap (Cv 13 3)
theorem Ru{e:Expr}{pos:Pos}{x:Ent}(h:Am V w H0 n sc σ zx e x):Am V w H0 n sc σ zx (.JoinedStr [e] pos) x:=fun A zz s zy g o F=>PyProof.Rows.JoinedStr_one (h A zz s zy g o F)
def Up(K:Frag)(H0:Heap)(c:Cls2):Prop:=∃f fd,MethK K H0 c (S "_find_cycle") (Cv 13 8) f fd∧∀vs:List Value,vs.length=[S "self"].length->bindArgs fd ⟨vs,[]⟩=pure ([S "self"].zip vs)
structure PrepK(H0:Heap)(K:Frag)(c:Cls2)(C:Addr):Prop where
 fc:Up K H0 c
 fk:FcK H0
 sm:∃o,H0.get? mainGlobals=some o
 cy:ExcK H0 (S "CycleError") C "ValueError" "ValueError.__new__" "ValueError.__init__" [.type "ValueError",.type "Exception",.type "BaseException",.type "object"]
theorem U5{e:Expr}{pa pos:Pos}(hK:K.In H0)(ck:ClsK K c)(pk:PrepK H0 K c C)(R:RepOk V w c r zx)(hz:r.names.length≤8)(hcl:∀x∈r.names,∀y∈r.succ x,y∈r.names)(he:Am V w H0 (n+1) sc σ zx e (.v (.ref (r.at' .S))))(hev:D5 e (S "_find_cycle") pa [] pos):
  MJ true V w H0 (n+1) sc σ zx (eval (.Call (.Attribute e (S "_find_cycle") pa) [] [] pos)) (fun g v σ' zx'=>∃z,Means g v z∧σ'=σ∧RepOk V w c r zx'∧((z=.d .none∧IL r.succ r.names)∨((∃ds,ds≠[]∧ds.length≤100∧z=.d (.list ds))∧Dx r.succ r.names))):=by
 refine B8 pk.fc fun f fd mk hb=>?_;refine Ad (R.hold .S trivial) fun o m1 x3=>?_;subst x3;obtain⟨o,m2,t1,t2,fD⟩:=R.hold .dS trivial;refine ET (S9 (rest:=[]) hK ck.c1 he m1 m2 fD rfl mk.find mk.ty mk.dfn.callee Bc (Ψ:=fun g v L'=>TG r g v∧∀p∈zx,p∈L') (Ew (x:=true) (n:=n) (ps:=[S "self"]) (xs':=[.v (.ref (r.at' .S))]) mk.dfn (Cb hb rfl) rfl rfl (ET (S7 pk.sm hK ck pk.fk R hz hcl) fun g fl σ' zx' q=>?_)) (fun p hp=>hp) (fun p hp=>BK hp) (fun Z=>rfl) hev) fun g v σ' zx' q=>?_
 ·refine Dz q fun v x2 h1 h2=>?_;try clear q;subst x2
  exact⟨h1,h2⟩
 ·obtain⟨rfl,L',⟨h1,h2⟩,rfl⟩:=q
  rw[append_nil];rcases h1 with ⟨rfl,ha⟩|⟨⟨ds,hne,hl,hd⟩,hr⟩
  ·exact⟨.d .none,⟨[],.none⟩,rfl,R.mono h2,.inl ⟨rfl,ha⟩⟩
  ·exact⟨.d (.list ds),hd,rfl,R.mono h2,.inr ⟨⟨ds,hne,hl,rfl⟩,hr⟩⟩
theorem PL(hK:K.In H0)(ck:ClsK K c)(pk:PrepK H0 K c C)(R:RepOk V w c r zx)(hr:r.ready=none)(hz:r.names.length≤8)(hcl:∀x∈r.names,∀y∈r.succ x,y∈r.names):
  Ta V w H0 C (n+1) U4 [(S "self",.v (.ref (r.at' .S)))] zx (AD (Cv 13 3)) (fun Z fl Z zx'=>fl=.next∧∃a,RepOk V w c (r.begin a) zx'∧IL r.succ r.names) (fun Z zx'=>∃a,RepOk V w c (r.begin a) zx'∧Dx r.succ r.names):=by
 revert hK ck pk R hr hz hcl;revert C;revert V w H0 n zx K c r;refine no_implicit_lambda% (HS (by exact(((default,w0),default),(default,(⟨0,0⟩,w1)))) ?_);generalize FK _ _=t9;generalize t9.1.1.1=V,t9.1.1.2=w,t9.1.2.1=H0,t9.1.2.2=n,t9.2.1.1=zx,t9.2.1.2=K,t9.2.2.1=c,t9.2.2.2=r;refine no_implicit_lambda% (Io (default) ?_);generalize HR _ _=C;intro hK ck pk R hr hz hcl;have vs:∀{σ' zx' pos},σ'.lookup (S "self")=some (.v (.ref (r.at' .S)))->Am V w H0 (n+1) U4 σ' zx' (.Name (S "self") pos) (.v (.ref (r.at' .S))):=fun h=>Aa h rfl;refine LG (Ψ:=Ek _ zx) (CS (BR (b:=false) (Ar (KI (by
   have hrv:r.rv=.none:=by unfold Rep.rv;rw[hr]
   rw[←hrv];exact JK hK ck R (vs rfl) fun Z=>rfl)) BV DP rfl) (fun q=>absurd q (by decide)) fun Z=>AC fun g=>⟨rfl,rfl,rfl⟩)) (fun g σ' zx' q=>?_) fun g fl σ' zx' hn q=>absurd q.1 hn
 refine CZ q fun Z x2 x3=>?_;try clear q;subst x2;subst x3
 refine Ad (R.hold .D trivial) fun oD mD hD=>?_;refine Ad (R.hold .S trivial) fun oS mS x3=>?_;subst x3;obtain⟨oF,mF,t1,t2,f⟩:=R.hold .dS trivial;have nD:∀{p:Pl} {o:Obj},r.ok p->p≠ .D->(r.at' p,o)∈zx'->(r.at' p,o)∈zx'.filter fun q=>q.1 !=r.at' .D:=fun hp hn m=>mem_filter.mpr ⟨m,by simpa using fun e=>hn (R.apart _ _ hp trivial e)⟩;refine ex1 ck.s0 fun p0 s0=>?_;refine ex1 ck.s1 fun p1 s1=>?_;refine LG (CS (HK (x:=r.at' .S) (dx:=r.at' .dS) (sl:=#[]) (fs:=r.fields t1 t2) hK ck.c1 (Os (Ro (σ'':=[(S "self",Ox (.ref (r.at' .S)) (r.at' .D) oD)]) mD (fun g hg x e' hx=>?_) (Uo (items:=r.names) (enc:=fun x=>.v (.ref (r.at' (.I x)))) (xs:=[S "i"]) (fun x=>if r.np x==0 then some (.str (tx x)) else none) (.inl ⟨_,_,rfl⟩) rfl (by decide +kernel) (fun Z Z=>rfl) (fun x d h=>?_)
  (Iv (PJ (kvs:=r.names.map fun x=>(tx x,Value.ref (r.at' (.I x)))) (Rq hK ck.c1 (Aa rfl rfl) (nD (p:=.S) trivial (by intro e;exact GR Pl.ctorIdx e rfl) mS) (nD (p:=.dS) trivial (by intro e;exact GR Pl.ctorIdx e rfl) mF) f ck.f1 rfl rfl fun Z=>rfl) hD R.lo (fun Z=>rfl) rfl) (by have:=Rp (V:=V) (w:=w) (H0:=H0) (n:=n+1) (D:=r.at' .D) hD;rwa [map_map] at this) (.inl ⟨_,_,rfl⟩)) (Ai (le_trans hz (by decide))) fun x hx=>?_)))
  (fun g v σ₁ zx₁ q=>?_) (show(4:Nat)≤100 by decide) ck.f2 fun Z=>rfl)) (fun g σ' zx2 q=>?_) fun g fl σ' zx' hn q=>absurd q.1 hn
 ·rw[lookup_cons] at hx
  cases hb:x==S "self" with
  |false=>rw[hb] at hx;exact CE hx
  |true=>
   rw[hb] at hx;have e:x=S "self":=of_decide_eq_true hb;subst e;injection hx with hx;subst hx;exact⟨_,rfl,fun v m=>⟨m,hg⟩⟩
 ·split at h
  ·injection h with h;subst h;rfl
  ·exact CE h
 ·obtain⟨oI,mI,u1,u2,rfl⟩:=R.hold (.I x) hx
  refine Ad (R.hold (.e x) hx) fun oe me Z=>?_;have mI':=nD (p:=.I x) hx (by intro e;exact GR Pl.ctorIdx e rfl) mI;have me':=nD (p:=.e x) hx (by intro e;exact GR Pl.ctorIdx e rfl) me;refine⟨[(S "i",.v (.ref (r.at' (.I x))))],r.np x==0,Af (Ab rfl),rfl,(fun y hy=>by rw[AU hy];rfl),Fd (Ar (EX (HJ (v:=.int (r.np x) u2) hK ck.c2 (Aa rfl rfl) mI' me' s1 rfl rfl fun Z=>rfl)) Ao KW rfl),fun hp=>⟨_,if_pos hp,QY (HJ (v:=.str (tx x) u1) hK ck.c2 (Aa rfl rfl) mI' me' s0 rfl rfl fun Z=>rfl)⟩,fun hp=>if_neg (by rw[hp];exact Bool.false_ne_true)⟩
 ·obtain⟨rfl,a,o,rfl,ho,rfl,hnew⟩:=q
  exact⟨vs rfl,mem_cons_of_mem _ mS,oF,mem_cons_of_mem _ mF,f⟩
 ·obtain⟨_,g1,v,zx₁,od',⟨rfl,a,o,rfl,ho,rfl,hnew⟩,hfd,rfl⟩:=q
  rw[Rs] at ho;have h2:=PK R hr hnew ho hfd;refine LG (NK (Ψ:=fun z σ₁ zx₁=>σ₁=[(S "self",.v (.ref (r.at' .S)))]∧RepOk V w c (r.begin a) zx₁∧((z=.d .none∧IL r.succ r.names)∨((∃ds,ds≠[]∧ds.length≤100∧z=.d (.list ds))∧Dx r.succ r.names))) (U5 (r:=r.begin a) hK ck pk h2 hz hcl (show Am _ _ _ _ _ _ _ _ (.v (.ref (r.at' .S))) from vs rfl) fun Z=>⟨_,rfl⟩) (Ab rfl) (fun Z Z=>rfl) (fun Z Z=>rfl)) (fun g σ' zx' q=>?_) fun g fl σ' zx' hn q=>absurd q.1 hn;obtain⟨_,z,σ₁,⟨rfl,h3,hc⟩,rfl⟩:=q;rcases hc with ⟨rfl,ha⟩|⟨⟨ds,hne,hlen,rfl⟩,hring⟩
  ·refine TJ (b:=false) (CQ (Aa (e:=.d .none) rfl rfl) Rt fun Z Z=>rfl) (fun q=>absurd q (by decide)) (fun Z=>Dk fun g=>⟨rfl,a,h3,ha⟩) rfl
  ·refine TJ (b:=true) (by have:=R9 (V:=V) (w:=w) (H0:=H0) (n:=n+1) (xs:=ds) (le_trans hlen (by decide));rw[show(!ds.isEmpty)=true by cases ds with|nil=>exact absurd rfl hne|cons _ _=>rfl] at this;exact CQ (Aa (e:=.d (.list ds)) rfl rfl) this fun Z Z=>rfl) (fun Z=>?_) (fun q=>absurd q (by decide)) rfl
   exact Rr (xs:=[.d (.str (S "nodes are in a cycle")),.d (.list ds)]) pk.cy rfl (Bo (Ru Bz) (Aa rfl rfl) (fun Z=>rfl) fun Z=>rfl) (show(2:Nat)≤sizeLine by decide) (fun Z=>rfl) ⟨a,h3,hring⟩
end
section
variable{K:Frag}
def UE(V:Program)(w:World)(H0:Heap)(n:Nat)(sc:Scope)(σ:AN)(zx:Aw)(pos:Pos)(es:List Expr)(Θ:List Ent->AN->Aw->Prop):Prop:=
 GS V w H0 n sc σ zx (fun zz=>spliced (backTo pos (starEach es zz))) (fun g vs σ' zx'=>∃xs,MeansAll g vs xs∧Θ xs σ' zx')
theorem LH{pos:Pos}{Θ:List Ent->AN->Aw->Prop}(h:Θ [] σ zx):UE V w H0 n sc σ zx pos [] Θ:=fun A zz s zy g o F=>spliced_nil (GP.here F ⟨[],trivial,h⟩)
theorem Ex{pos:Pos}{e:Expr}{es:List Expr}{Ψ:Ent->AN->Aw->Prop}{Θ:List Ent->AN->Aw->Prop}(h:GS V w H0 n sc σ zx (eval e) (fun g v σ' zx'=>∃x,Means g v x∧Ψ x σ' zx'))(hr:∀x σ₁ zx₁,Ψ x σ₁ zx₁->UE V w H0 n sc σ₁ zx₁ pos es (fun xs=>Θ (x::xs)))
  (hb:∀zz,backTo pos (starEach (e::es) zz)=(false,eval e zz)::backTo pos (starEach es zz)):UE V w H0 n sc σ zx pos (e::es) Θ:=by
 intro A zz s zy g o F;show wpAny _ A (spliced (backTo pos (starEach (e::es) zz))) _ _ _;rw[hb];refine spliced_cons (Ah (h A zz s zy g o F) (fun v s₁ q=>?_) fun Z Z f=>f);refine GQ (GP.back (α:=List Value) F q) fun zy1 σ₁ zx₁ F1 x5 Z back1=>?_;rcases x5 with ⟨x,mx,p1⟩;refine Ah (hr x σ₁ zx₁ p1 A zz s₁ zy1 g o F1) (fun vs s2 q2=>?_) fun Z Z f=>f;have q2':=q2;obtain⟨h2,t2,zy2,σ2,zx2,rfl,k2,F2,m1,m2,m3,xs,mxs,p2⟩:=q2;have ext:Ext (vis s₁.heap zy1) (vis h2 zy2):=GP.vis (α:=List Value) (H0:=H0) (B1 F1) k2 m2;exact back1 _ _ _ ⟨h2,t2,zy2,σ2,zx2,rfl,k2,F2,m1,m2,m3,x::xs,⟨mx.ext ext,mxs⟩,p2⟩
theorem NL{e:Expr}{x:Ent}(h:Am V w H0 n sc σ zx e x):GS V w H0 n sc σ zx (eval e) (fun g v σ' zx'=>∃z,Means g v z∧(z=x∧σ'=σ∧zx'=zx)):=AV (FX h) fun Z Z Z Z ⟨a,b,c⟩=>⟨x,a,rfl,b,c⟩
theorem EZ{A:Around}{zz:Env}{s:Shared}{zy:List Addr}{y:Str}{v:Value}{x:Ent}{Q:Unit->Shared->Prop}{E:Value->Shared->Prop}(o:EnvOk sc zz)(F:Fm H0 zy zx zz σ s.heap)(hy:Az sc y)(hm:Means (vis s.heap zy) v x)
  (hQ:∀h2 t2,Fm H0 zy zx zz ((y,x)::σ) h2->KeepBut (AI zz zx) s.heap h2->Ext (vis s.heap zy) (vis h2 zy)->Q () {s with heap:=h2,toks:=t2}):wpAny (model V w) A (bindName zz y v) Q E s:=by
 refine wpAny_bindName (Ah (E8 F hm o.kf (Cm o hy)) (fun Z s3 q3=>?_) fun Z Z f=>f.elim);refine Bh q3 fun h₃ t3 x3 k3 F3=>?_;try clear q3;subst x3
 exact hQ h₃ t3 F3 (k3.more fun a m=>AL zz zx [y] a (by simpa [AZ] using m)) (AW (EC F _) k3)
theorem Oy{A:Around}{s:Shared}{zy:List Addr}{vs:List Value}{xs:List Ent}{zz:Env}{Q:List Value->Shared->Prop}{E:Value->Shared->Prop}(g:Good n A)(F:Fm H0 zy zx zz σ s.heap)(hm:MeansAll (vis s.heap zy) vs xs)
  (hQ:∀h',Ext s.heap h'->Fm H0 zy zx zz σ h'->MeansAll (vis h' zy) vs xs->Q vs {s with heap:=h'}):wpAny (model V w) A (unpackItems (.ref s.heap.objs.size) vs.length none) Q E {s with heap:=s.heap.push {cls:=.type "tuple",data:=.seq vs.toArray}}:=by
 have e:vs.length=(toArray vs).size:=by rw[size_toArray]
 rw[e];have hl:IsTup (s.heap.push {cls:=.type "tuple",data:=.seq vs.toArray}) s.heap.objs.size (toArray vs):=⟨_,Heap.get?_push_size _ rfl,rfl,0,rfl⟩;refine Ah (unpackItems_tuple (Q:=fun ws s'=>ws=vs∧∃h',Ext s.heap h'∧s'={s with heap:=h'}) (E:=CO) g.hh hl fun h' he=>⟨by simp,h',(An _ _).trans (DC he),rfl⟩) (fun ws s' q=>?_) fun Z Z f=>f.elim;obtain⟨rfl,h',ex,rfl⟩:=q;exact hQ h' ex (F.ext ex) (hm.ext (AK zy ex))
theorem Vv{g:Heap}{vs:List Value}{xs:List Ent}(m:MeansAll g vs xs)(h:xs.length=3):∃v1 v2 v3 x1 x2 x3,vs=[v1,v2,v3]∧xs=[x1,x2,x3]:=by
 refine PW (PY ((CH m).length.trans h)) fun a b c e=>?_;refine PW (PY h) fun x y z e'=>?_;exact⟨a,b,c,x,y,z,e,e'⟩
theorem Uq{g:Heap}{vs:List Value}{xs:List Ent}(m:MeansAll g vs xs)(h:xs.length=2):∃v1 v2 x1 x2,vs=[v1,v2]∧xs=[x1,x2]:=by
 refine ex2 (J9 ((CH m).length.trans h)) fun a b e=>?_;refine ex2 (J9 h) fun x y e'=>?_;exact⟨a,b,x,y,e,e'⟩
theorem NO{t1 t2 t3:Str}{p1 p2 p3 p4 p5 pos:Pos}{k k2:Nat}{es:List Expr}{Θ:List Ent->AN->Aw->Prop}(h:UE V w H0 n sc σ zx p5 es Θ)(h1:Az sc t1)(h2:Az sc t2)(h3:Az sc t3)(hlen:∀xs σ' zx',Θ xs σ' zx'->xs.length=3)
  (hs:∀zz,EnvOk sc zz->swapsWith (.Tuple es k2 p5) (some (.Tuple [.Name t1 p1,.Name t2 p2,.Name t3 p3] k p4)) pos.line zz=pure false)
  (hw:∀zz,EnvOk sc zz->swappedStores [.Tuple [.Name t1 p1,.Name t2 p2,.Name t3 p3] k p4] (.Tuple es k2 p5) zz=pure (some [t1,t2,t3])):
  GT V w H0 n sc σ zx (.Assign [.Tuple [.Name t1 p1,.Name t2 p2,.Name t3 p3] k p4] (.Tuple es k2 p5) pos) (fun Z fl σ' zx'=>fl=.next∧∃x1 x2 x3 σ₁,Θ [x1,x2,x3] σ₁ zx'∧σ'=(t1,x1)::(t2,x2)::(t3,x3)::σ₁):=by
 revert h h1 h2 h3 hlen hs hw;revert k k2 es Θ;revert V w H0 n sc σ zx t1 t2 t3 p1 p2 p3 p4 p5 pos;refine no_implicit_lambda% (FM (by exact((((default,w0),default),default),default)) ?_);generalize CF _ _=t9;generalize t9.1.1.1.1=V,t9.1.1.1.2=w,t9.1.1.2.1=H0,t9.1.1.2.2=n,t9.1.2.1.1=sc,t9.1.2.1.2=σ,t9.1.2.2.1=zx,t9.1.2.2.2=t1,t9.2.1.1.1=t2,t9.2.1.1.2=t3,t9.2.1.2.1=p1,t9.2.1.2.2=p2,t9.2.2.1.1=p3,t9.2.2.1.2=p4,t9.2.2.2.1=p5,t9.2.2.2.2=pos;refine no_implicit_lambda% (JZ (by exact default) ?_);generalize Iq _ _=t9;generalize t9.1.1=k,t9.1.2=k2,t9.2.1=es,t9.2.2=Θ;intro h h1 h2 h3 hlen hs hw;intro A zz s zy g o F;show wpAny _ A (standAt pos >>=fun Z=>swapsWithSole [.Tuple [.Name t1 p1,.Name t2 p2,.Name t3 p3] k p4] (.Tuple es k2 p5) pos.line zz >>=fun b=>if b=true then _ else _) _ _ s;refine Ac (wpAny_standAt (Ac ?_));show wpAny _ A (swapsWith (.Tuple es k2 p5) (some (.Tuple [.Name t1 p1,.Name t2 p2,.Name t3 p3] k p4)) pos.line zz) _ _ s;rw[hs zz o];refine Ag ?_;rw[if_neg Bool.false_ne_true];refine Ac (wpAny_Tuple_spliced (Ah (h A zz s zy g o F) (fun vs s₁ q=>?_) fun Z Z f=>f.elim));refine GQ (GP.back (α:=Flow) F q) fun zy1 σ₁ zx₁ F1 x5 Z back1=>?_;rcases x5 with ⟨xs,mxs,p₁⟩;refine UD (Vv mxs (hlen _ _ _ p₁)) fun v1 v2 v3 x1 x2 x3 h9=>?_;refine BL h9 fun x7 x8=>?_;clear h9;subst x7;subst x8;refine⟨by show(3:Nat)≤sizeLine;decide,?_⟩;refine Ac ?_;rw[hw zz o];refine Ag ?_;show wpAny _ A (rule "assign.swapped-stores" >>=fun Z=>unpackItems (.ref s₁.heap.objs.size) 3 none >>=fun items=>assignInOrder [bindName zz t3,bindName zz t2,bindName zz t1] items.reverse >>=fun Z=>pure Flow.next) _ _ _;refine Ac (wpAny_rule (Ac (Oy (vs:=[v1,v2,v3]) g F1 mxs fun h₂ ex2 F2 m₂=>?_)));refine JX m₂ fun m1 m2 m3 Z=>?_;refine Ac ?_;show wpAny _ A (holding [v2,v1] (bindName zz t3 v3) >>=fun Z=>holding [v1] (bindName zz t2 v2) >>=fun Z=>holding [] (bindName zz t1 v1) >>=fun Z=>pure ()) _ _ _;refine Ac (wpAny_holding (EZ o F2 h3 m3 fun h₃ tk3 F3 k3 e3=>?_));refine Ac (wpAny_holding (EZ o F3 h2 (m2.ext e3) fun h4 tk4 F4 k4 e4=>?_));refine Ac (wpAny_holding (EZ o F4 h1 ((m1.ext e3).ext e4) fun h5 tk5 F5 k5 e5=>?_));refine Ag (Ag (back1 _ _ _ ⟨h5,tk5,zy1,_,zx₁,rfl,(ex2.keep _).trans (k3.trans (k4.trans k5)),F5,fun Z m=>m,fun Z m=>.inl m,fun p m=>.inl (mem_map_of_mem m),rfl,x1,x2,x3,σ₁,p₁,rfl⟩))
theorem NP{t1 t2:Str}{p1 p2 p4 p5 pos:Pos}{k k2:Nat}{es:List Expr}{Θ:List Ent->AN->Aw->Prop}(h:UE V w H0 n sc σ zx p5 es Θ)(h1:Az sc t1)(h2:Az sc t2)(hlen:∀xs σ' zx',Θ xs σ' zx'->xs.length=2)
  (hs:∀zz,EnvOk sc zz->swapsWith (.Tuple es k2 p5) (some (.Tuple [.Name t1 p1,.Name t2 p2] k p4)) pos.line zz=pure false)
  (hw:∀zz,EnvOk sc zz->swappedStores [.Tuple [.Name t1 p1,.Name t2 p2] k p4] (.Tuple es k2 p5) zz=pure (some [t1,t2])):
  GT V w H0 n sc σ zx (.Assign [.Tuple [.Name t1 p1,.Name t2 p2] k p4] (.Tuple es k2 p5) pos) (fun Z fl σ' zx'=>fl=.next∧∃x1 x2 σ₁,Θ [x1,x2] σ₁ zx'∧σ'=(t1,x1)::(t2,x2)::σ₁):=by
 revert h h1 h2 hlen hs hw;revert es Θ;revert V w H0 n sc σ zx t1 t2 p1 p2 p4 p5 pos k k2;refine no_implicit_lambda% (FM (by exact((((default,w0),default),default),default)) ?_);generalize CF _ _=t9;generalize t9.1.1.1.1=V,t9.1.1.1.2=w,t9.1.1.2.1=H0,t9.1.1.2.2=n,t9.1.2.1.1=sc,t9.1.2.1.2=σ,t9.1.2.2.1=zx,t9.1.2.2.2=t1,t9.2.1.1.1=t2,t9.2.1.1.2=p1,t9.2.1.2.1=p2,t9.2.1.2.2=p4,t9.2.2.1.1=p5,t9.2.2.1.2=pos,t9.2.2.2.1=k,t9.2.2.2.2=k2;refine no_implicit_lambda% (I8 (by exact default) ?_);generalize Ip _ _=t9;generalize t9.1=es,t9.2=Θ;intro h h1 h2 hlen hs hw;intro A zz s zy g o F;show wpAny _ A (standAt pos >>=fun Z=>swapsWithSole [.Tuple [.Name t1 p1,.Name t2 p2] k p4] (.Tuple es k2 p5) pos.line zz >>=fun b=>if b=true then _ else _) _ _ s;refine Ac (wpAny_standAt (Ac ?_));show wpAny _ A (swapsWith (.Tuple es k2 p5) (some (.Tuple [.Name t1 p1,.Name t2 p2] k p4)) pos.line zz) _ _ s;rw[hs zz o];refine Ag ?_;rw[if_neg Bool.false_ne_true];refine Ac (wpAny_Tuple_spliced (Ah (h A zz s zy g o F) (fun vs s₁ q=>?_) fun Z Z f=>f.elim));refine GQ (GP.back (α:=Flow) F q) fun zy1 σ₁ zx₁ F1 x5 Z back1=>?_;rcases x5 with ⟨xs,mxs,p₁⟩;refine OJ (Uq mxs (hlen _ _ _ p₁)) fun v1 v2 x1 x2 h9=>?_;refine BL h9 fun x5 x6=>?_;clear h9;subst x5;subst x6;refine⟨by show(2:Nat)≤sizeLine;decide,?_⟩;refine Ac ?_;rw[hw zz o];refine Ag ?_;show wpAny _ A (rule "assign.swapped-stores" >>=fun Z=>unpackItems (.ref s₁.heap.objs.size) 2 none >>=fun items=>assignInOrder [bindName zz t2,bindName zz t1] items.reverse >>=fun Z=>pure Flow.next) _ _ _;refine Ac (wpAny_rule (Ac (Oy (vs:=[v1,v2]) g F1 mxs fun h₂ ex2 F2 m₂=>?_)));refine CZ m₂ fun m1 m2 Z=>?_;refine Ac ?_;show wpAny _ A (holding [v1] (bindName zz t2 v2) >>=fun Z=>holding [] (bindName zz t1 v1) >>=fun Z=>pure ()) _ _ _;refine Ac (wpAny_holding (EZ o F2 h2 m2 fun h₃ tk3 F3 k3 e3=>?_));refine Ac (wpAny_holding (EZ o F3 h1 (m1.ext e3) fun h4 tk4 F4 k4 e4=>?_));refine Ag (Ag (back1 _ _ _ ⟨h4,tk4,zy1,_,zx₁,rfl,(ex2.keep _).trans (k3.trans k4),F4,fun Z m=>m,fun Z m=>.inl m,fun p m=>.inl (mem_map_of_mem m),rfl,x1,x2,σ₁,p₁,rfl⟩))
end
section
variable{K:Frag}{C:Addr}
theorem Seen.of_mem{L L':List Addr}{h h':Heap}(x:Seen L h h')(hm:∀b,b∈L↔b∈L'):Seen L' h h':=⟨fun b o n e=>x.stay b o (fun m=>n ((hm b).mp m)) e,fun b m=>x.up b ((hm b).mpr m)⟩
theorem Seen.slots{L:List Addr}{h h' h'':Heap}(x:Seen L h h')(st:∀b o,b∉L->h.get? b=some o->h''.get? b=some o)(u:h'.UpToSlots h''):Seen L h h'':=⟨st,fun b m o e d=>by
 refine ex1 (x.up b m o e d) fun sl e1=>?_;refine ex1 (u b _ e1 d) fun sl' e2=>?_;exact⟨sl',e2⟩⟩
theorem Tb{e:Expr}{m x y:Str}{pa pos px ph py pc pa2 p5 pos2:Pos}{kc:Nat}{b:Bool}{Cc xx dx f:Addr}{sl:Array (Option Value)}{od:Obj}{fs:List (Str×Value)}{B newId initId:String}{bmB:List Value}{Ψ:Heap->Value->Aw->Prop}{Ξ:Aw->Prop}{Φ:Ba}(X:ExcK H0 x C B newId initId bmB)(hgo:BA sc x=true)(hy:Az sc y)
  (hK:K.In H0)(c:DCls K Cc)(he:Am V w H0 n sc σ zx e (.v (.ref xx)))(hx:(xx,Bg Cc dx sl)∈zx)(hd:(dx,od)∈zx)(hf:FD fs od)(hsh:fs.lookup m=none)(hm:findIn K (.ref Cc) m=some (some (.ref f)))(ht:typeIn K (.ref f)=some (.type "function"))(hc:Cn H0 (.ref f))
  (hcall:VD V w H0 C n (.ref f) [.v (.ref xx)] zx Ψ Ξ)(hev:D5 e m pa [] pos)(hsw:∀zz,swapsWith (.Call (.Attribute e m pa) [] [] pos) none px.line zz=pure false)
  (h1:∀g v zx',Ψ g v zx'->Φ g .next σ zx')(h2:∀g zx',Ξ zx'->Φ g .next ((y,.d (.bool b))::σ) zx'):
  HT true V w H0 n sc σ zx (.Try [.Expr (.Call (.Attribute e m pa) [] [] pos) px] [.ExceptHandler (some (.Name x ph)) none [.Assign [.Name y py] (.Constant (.bool b) kc pc) pa2] p5] [] [] pos2) Φ:=by
 revert X hgo hy hK c he hx hd hf hsh hm ht hc hcall hev hsw h1 h2;revert Ξ Φ;revert newId initId bmB Ψ;revert ph py pc pa2 p5 pos2 kc b Cc xx dx f sl od fs B;revert V w H0 n sc σ zx K C e m x y pa pos px;refine no_implicit_lambda% (FM (by exact((((default,w0),default),default),default)) ?_);generalize CF _ _=t9;generalize t9.1.1.1.1=V,t9.1.1.1.2=w,t9.1.1.2.1=H0,t9.1.1.2.2=n,t9.1.2.1.1=sc,t9.1.2.1.2=σ,t9.1.2.2.1=zx,t9.1.2.2.2=K,t9.2.1.1.1=C,t9.2.1.1.2=e,t9.2.1.2.1=m,t9.2.1.2.2=x,t9.2.2.1.1=y,t9.2.2.1.2=pa,t9.2.2.2.1=pos,t9.2.2.2.2=px;refine no_implicit_lambda% (FM (by exact default) ?_);generalize CF _ _=t9;generalize t9.1.1.1.1=ph,t9.1.1.1.2=py,t9.1.1.2.1=pc,t9.1.1.2.2=pa2,t9.1.2.1.1=p5,t9.1.2.1.2=pos2,t9.1.2.2.1=kc,t9.1.2.2.2=b,t9.2.1.1.1=Cc,t9.2.1.1.2=xx,t9.2.1.2.1=dx,t9.2.1.2.2=f,t9.2.2.1.1=sl,t9.2.2.1.2=od,t9.2.2.2.1=fs,t9.2.2.2.2=B;refine no_implicit_lambda% (JZ (by exact default) ?_);generalize Iq _ _=t9;generalize t9.1.1=newId,t9.1.2=initId,t9.2.1=bmB,t9.2.2=Ψ;refine no_implicit_lambda% (I8 (by exact default) ?_);generalize Ip _ _=t9;generalize t9.1=Ξ,t9.2=Φ;intro X hgo hy hK c he hx hd hf hsh hm ht hc hcall hev hsw h1 h2;intro A zz zw s zy g oo F Kf O;refine wpAny_Try_except (wpAny_execs_cons (wpAny_Expr_any (Mu g oo F hK c he hx hd hf hsh hm ht hc Bc (fun Z=>rfl) hev fun s2 vs q2 F2 mv=>Tu fun Q hQ E hE=>?_) (CD oo) (hsw zz)));have K2:FrOk A zz zw zy s2.heap:=Fk.move (x:=true) Kf (fun Z m=>m) (.of_but (q2.ext.keep _) O);have lo0:=Fk.low (x:=true) Kf;have lo:=K2.low;have hvs:vs=[]:=by
  have:=(CH mv).length;cases vs with
  |nil=>rfl
  |cons a l=>exact nomatch this
 subst hvs;have glue:∀{fl:Flow} {s':Shared},GPf H0 s2 zy zz zx (Ck zw) Φ fl s'->GPf H0 s zy zz zx (Ck zw) Φ fl s':=fun gp=>by
  obtain⟨h₂,t2,rfl,ex2,_⟩:=q2;exact GPf.glue (h₁:=h₂) (t₁:=t2) F (fun b m=>⟨(lo0 b m).1,let⟨_,o,e,_⟩:=lo0 b m;⟨o,e⟩⟩) (.of_but (ex2.keep _) O) F2 (fun Z m=>m) (fun Z m=>.inl m) (fun p m=>.inl (mem_map_of_mem m)) gp
 refine wpAny_call (codeAny_mono (hcall A (zz::zw) s2 zy [.ref xx] g F2.toBase ⟨F2.ledh,F2.ledg⟩ (FkC.of F2 K2) (JP F2 O fun p hp=>hp) mv) fun r s' z=>?_);rcases r with e|(v|_|_|_)
 ·obtain⟨u,tu,zy1,L1,a,a0,h₃,zz',rfl,k,Bs,LOk,m1,m2,m3,hΞ,rfl,⟨x1,x2,x3,x4⟩,fl,sn⟩:=z
  have F1:=F2.callU (rest:=[]) (fun b m=>(lo b m).1) O (fun p hp=>hp) (fun p hp=>nomatch hp) k Bs LOk m1 m2 m3;rw[append_nil] at F1;have hfe:zz.frame=some zz.locals:=(K2.fn zz mem_cons_self).2;have hal:∀b∈AI zz zx,∃o,s2.heap.get? b=some o:=fun b hb=>F2.alive b (B1 F2 b hb);have lou:∀b∈Ck zw,b∈zy1∧∃o,u.get? b=some o∧∀vs,o.data≠ .fields vs:=fun b m=>by
   obtain⟨h1,o,e,d⟩:=lo b m;refine ex1 (k.2 b (mem_cons_of_mem _ m) o e d) fun sl e'=>?_;exact⟨m1 b h1,_,e',d⟩
  have lo':∀b∈Ck (zz'::zw),b∈zy1∧∃o,u.get? b=some o∧∀vs,o.data≠ .fields vs:=fun b m=>by
   rcases BF m with rfl|m
   ·exact⟨x1,x4⟩
   ·exact lou b m
  have ownL:∀b,b∈AI zz L1->b∈AI zz zx∨s2.heap.get? b=none:=fun b hb=>EE m3 hb;have O1:GG zw zz L1:=Eh O (fun b m=>let⟨_,o,e,_⟩:=lo b m;⟨o,e⟩) m3;have O':GG (zz'::zw) zz L1:=fun b m hb=>by
   rcases BF m with rfl|m
   ·rcases BF hb with q|hb
    ·refine ex1 (hal zz.locals mem_cons_self) fun o e=>?_
     rw[←q,x2] at e;exact nomatch e
    ·rcases Cx hb with hb|hb
     ·refine ex1 (hal _ (mem_cons_of_mem _ (mem_append_left _ hb))) fun o e=>?_
      rw[x2] at e;exact nomatch e
     ·exact x3 hb
   ·exact O1 b m hb
  refine hE _ _ (wpAny_looks_onW K2.stack hfe fl fun h4 hh4 up4=>wpAny_landsW hh4 fun h5 fl5 up5=>Tu fun Q2 hQ2 E2 Z=>?_);have sn5:Seen (zz'.locals::Ck (zz::zw)) u h5:=sn.slots (fun b o n e=>fl5.1 b o (AQ e n)) (up4.trans up5);have mm:∀b,b∈zz'.locals::Ck (zz::zw)↔b∈zz.locals::Ck (zz'::zw):=fun b=>by simp[Ck];constructor<;> (rintro (q|q|q)<;> simp[q])
  refine BL (I4 F1 lo' O' (sn5.of_mem mm)) fun F5 Z=>?_;refine Ad X.own fun mg hns OC=>?_;obtain⟨tl,N,nm,q',bs,hdct,sn',sub,ab,col,dd,k0,k1,k2,k3,k5,mN,hC,hN,hni,T⟩:=OC.obj;refine wpAny_handleBy_cons (codeAny_handlers_test (Ah (Ms (s:={s2 with heap:=h5,toks:=tu}) oo F5 X.glob hgo) (fun cv s4 q4=>?_) fun Z Z f=>f.elim)) (by intro q;exact nomatch q);obtain⟨h6,t6,rfl,UD,rfl⟩:=q4;have fl6:=Hg fl5 UD;have sn6:=sn5.ext UD;refine Ad fl6.there fun ob hob hobc=>?_;have F6:=F5.ext UD;refine wpAny_excMatches_sub_self (F6.toBase.h0 _ _ hC) hob hobc (T.hasType X.fb.hasBase) (codeAny_handlers_suite ?_);refine JX fl6 fun f1 f2 f3 f4=>?_;refine wpAny_setFlight_noneW f1 f3 f4.at fun h7 k1' k2' k3' k4'=>?_;have sn7:Seen (zz'.locals::Ck (zz::zw)) u h7:=sn6.slots (fun b o n e=>k1' b o (AQ e n)) fun b o e d=>⟨o.slots,k4' b o e d⟩;refine BL (I4 F1 lo' O' (sn7.of_mem mm)) fun F7 Z=>?_;refine wpAny_execs_cons ?_;show wpAny _ _ (standAt pa2 >>=fun Z=>swapsWithSole [.Name y py] (.Constant (.bool b) kc pc) pa2.line zz >>=fun bb=>if bb=true then _ else _) _ _ _;refine Ac (wpAny_standAt (Ac ?_));show wpAny _ _ (pure false) _ _ _;refine Ag ?_;rw[if_neg Bool.false_ne_true];refine Ac ?_;show wpAny _ _ (pure (Value.bool b)) _ _ _;refine Ag (Ac ?_);show wpAny _ _ (pure none) _ _ _;refine Ag ?_;show wpAny _ _ (assignAll (.bool b) [assign (.Name y py) zz] >>=fun Z=>pure Flow.next) _ _ _;refine Ac ?_;show wpAny _ _ (assign (.Name y py) zz (.bool b)) _ _ _;refine wpAny_assign_Name (Ah (E8 (s:={s2 with heap:=h7,toks:=t6}) F7 (e:=.d (.bool b)) (BB _ _) oo.kf (Cm oo hy)) (fun Z s8 q8=>Ag ?_) fun Z Z f=>f.elim);refine Bh q8 fun h8 t8 x3 k8 F8=>?_;try clear q8;subst x3
  have k8':KeepBut (AI zz L1) h7 h8:=k8.more fun a m=>AL zz L1 [y] a (by simpa [AZ] using m);refine wpAny_execs_nil (hQ2 _ _<|glue ⟨h8,t8,zy1,_,L1,rfl,⟨fun b o n1 n2 e=>?_,fun b m o e d=>?_⟩,F8,m1,m2,m3,h2 _ _ hΞ⟩)
  ·have nl:b≠zz.locals:=fun q=>n1 (by rw[q];exact mem_cons_self)
   have ne:b≠zz'.locals:=fun q=>by rw[q,x2] at e;exact nomatch e
   have nL:b∉zx.map (·.1):=fun m=>n1 (FW m);have e1:=k.1 b o nL (fun m=>by
    rcases BF m with q|q
    ·exact nl q
    ·exact n2 q) e
   have e2:=sn7.stay b o (fun m=>by
    rcases BF m with q|q
    ·exact ne q
    ·rcases BF q with q|q
     ·exact nl q
     ·exact n2 q) e1
   refine k8' b o (fun m=>?_) e2;rcases ownL b m with q|q
   ·exact n1 q
   ·rw[e] at q;exact nomatch q
  ·refine ex1 (k.2 b (mem_cons_of_mem _ m) o e d) fun sl e1=>?_
   refine ex1 (sn7.up b (mem_cons_of_mem _ (mem_cons_of_mem _ m)) _ e1 d) fun sl' e2=>?_;exact⟨sl',k8' b _ (O1 b m) e2⟩
 all_goals first|exact z.elim|skip
 have gp:=GPf.of_cpf (rest:=[]) F2 (fun b m=>(lo b m).1) O (fun p hp=>hp) (fun p hp=>nomatch hp) z;refine hQ _ _ (wpAny_execs_nil (wpAny_execs_nil (glue ?_)));obtain⟨h',tk,zy',σ',zx',e,k,F',m1,m2,m3,rfl,L',p,rfl⟩:=gp;rw[append_nil] at F' m3;exact⟨h',tk,zy',σ',L',e,k,F',m1,m2,m3,h1 _ _ _ p⟩
end
structure Abs.Inv(N:List NM)(a:Abs):Prop where
 nd:a.names.Nodup
 sub:∀x∈a.names,x∈N
 clo:∀x∈a.names,∀y∈a.succ x,y∈a.names
theorem I5(a:Abs)(x:NM):x∈(a.get x).names:=by
 unfold Abs.get;split
 ·assumption
 ·simp
theorem I6{a:Abs}{x y:NM}(h:y∈a.names):y∈(a.get x).names:=by
 unfold Abs.get;split
 ·exact h
 ·exact mem_append_left _ h
theorem Oz{N:List NM}{a:Abs}(h:a.Inv N){x:NM}(hx:x∈N):(a.get x).Inv N:=by
 unfold Abs.get;split
 ·exact h
 ·next hn=>
  refine⟨nodup_append.mpr ⟨h.nd,by simp,fun p hp q hq e=>?_⟩,fun y hy=>?_,fun y hy z hz=>?_⟩
  ·rw[AU hq] at e;exact hn (e▸hp)
  ·rcases Cx hy with hy|hy
   ·exact h.sub y hy
   ·rw[AU hy];exact hx
  ·have hz:z∈(if y=x then [] else a.succ y):=hz
   split at hz
   ·exact BK hz
   ·next hne=>
    rcases Cx hy with hy|hy
    ·exact mem_append_left _ (h.clo y hy z hz)
    ·exact absurd (AU hy) hne
theorem Rv{N:List NM}{a:Abs}(h:a.Inv N){x p:NM}(hx:x∈a.names)(hp:p∈N):(a.link x p).Inv N∧x∈(a.link x p).names:=by
 have g:=Oz h hp;refine⟨⟨g.nd,g.sub,fun y hy z hz=>?_⟩,I6 hx⟩;have hz:z∈(if y=p then (a.get p).succ p++[x] else (a.get p).succ y):=hz;split at hz
 ·rcases Cx hz with hz|hz
  ·exact g.clo p (I5 a p) z hz
  ·rw[AU hz];exact I6 hx
 ·exact g.clo y hy z hz
theorem Ig{N:List NM}{x:NM}:∀(ps:List NM) {a:Abs},a.Inv N->x∈a.names->Cf ps N->(ps.foldl (Abs.link x) a).Inv N∧x∈(ps.foldl (Abs.link x) a).names:=by
 intro ps
 induction ps with
 |nil=>
  intro a h hx Z;exact⟨h,hx⟩
 |cons p ps Ig=>
  intro a h hx hp;refine BL (Rv h hx (hp p mem_cons_self)) fun h1 h2=>?_;exact Ig h1 h2 fun q m=>hp q (mem_cons_of_mem _ m)
theorem LI{N:List NM}{a:Abs}(h:a.Inv N){x:NM}{ps:List NM}(hx:x∈N)(hp:Cf ps N):(a.add x ps).Inv N:=by
 have g:=Oz h hx;exact(Ig (a:=a.more x ps.length) ps ⟨g.nd,g.sub,g.clo⟩ (I5 a x) hp).1
theorem OA{N:List NM}{a:Abs}(h:a.Inv N):a.names.length≤N.length:=Bx h.nd h.sub
noncomputable def Abs.job (js:NJ) (a:Abs) (j:List Nat×List Nat):Abs:=(Bd js j).foldl (fun a q=>a.add j.1 [q]) (a.add j.1 [])
noncomputable def Abs.empty:Abs:=⟨[],fun Z=>0,fun Z=>[]⟩
noncomputable def Abs.all (js:NJ):Abs:=js.foldl (Abs.job js) Abs.empty
theorem Ih(js:NJ)(j:List Nat×List Nat):Cf (Bd js j) (js.map (·.1)):=fun p hp=>(mem_filter.mp hp).1
theorem Ii(js:NJ)(j:List Nat×List Nat):(Bd js j).length≤js.length:=by
 have:=length_filter_le (fun o=>o !=j.1 && (j.2 !=[] && CV j.2 o)) (js.map (·.1));rw[length_map] at this;exact this
section
variable{K:Frag}{c:Cls2}{r:Rep}{C:Addr}
structure AddK(H0:Heap)(K:Frag)(c:Cls2):Prop where
 add:∃f fd,MethK K H0 c (S "add") (Cv 13 2) f fd∧∀vs ws:List Value,vs.length=[S "self",S "node"].length->bindArgs fd ⟨vs++ws,[]⟩=(newTuple ws >>=fun t=>pure (([S "self",S "node"]++[S "predecessors"]).zip (vs++[t])))
 gn:Vi K H0 c
 len:GIs H0 (S "len") (.builtin "len")
theorem Ur{e:Expr}{pa pos:Pos}{args:List Expr}{x:NM}{ps:List NM}{k:Nat}(hK:K.In H0)(ck:ClsK K c)(nk:NodeK V w H0 K c)(ak:AddK H0 K c)(h:RepOk V w c r zx)(hr:r.ready=none)(hz:(r.abs.add x ps).names.length≤8)(hk:r.abs.bnd k)(hkz:k+ps.length≤1000)
  (he:Am V w H0 (n+4) sc σ zx e (.v (.ref (r.at' .S))))(ha:Ey V w H0 (n+4) sc σ zx pos args (.d (.str (tx x))::(BE ps).map .d))(hb:∀zz,(backTo pos (starEach args zz)).any (·.1)=false)(hev:D5 e (S "add") pa args pos):
  GS V w H0 (n+4) sc σ zx (eval (.Call (.Attribute e (S "add") pa) args [] pos)) (fun g v σ' zx'=>σ'=σ∧∃r',RepOk V w c r' zx'∧r.Same r'∧r'.abs=r.abs.add x ps):=by
 refine B8 ak.add fun f fd mk hbind=>?_;have hl:(BE ps).length=ps.length:=by simp[BE]
 refine Ml (xs:=.d (.str (tx x))::(BE ps).map .d) hK ck h mk he (fun t1 t2=>rfl) ha (FnGc.g (FnF.gc (Ew (x:=false) (n:=n+3) (ps:=[S "self",S "node"]++[S "predecessors"]) (xs:=[.v (.ref (r.at' .S)),.d (.str (tx x))]++(BE ps).map .d) (xs':=[.v (.ref (r.at' .S)),.d (.str (tx x))]++[.d (.tuple (BE ps))]) mk.dfn (KN hbind rfl (by rw[hl];exact Ai (by lia))) rfl rfl (DU (AV (Q7 (n:=n) hK ck nk ak.gn ak.len h hr hz hk hkz) fun g fl σ' zx' q=>?_))))) hb hev;refine BL q fun x1 x2=>?_;try clear q;revert x2;intro q;subst x1
 exact q
noncomputable abbrev PM:Scope:=Ap (B7 27)
structure SJ(V:Program)(w:World)(c:Cls2)(js:NJ)(s0:Addr)(a:Abs)(k:Nat)(σ:AN)(zx:Aw):Prop where
 so:σ.lookup (S "sorter")=some (.v (.ref s0))
 nm:σ.lookup (S "names")=some (.d (Ae (js.map (·.1))))
 ri:σ.lookup (S "ring")=some (.d (.bool false))
 rep:∃r,RepOk V w c r zx∧r.at' .S=s0∧r.ready=none∧r.passed=0∧r.fin=0∧r.abs=a
 inv:a.Inv (js.map (·.1))
 bnd:a.bnd k
theorem Rw{js:NJ}{s0:Addr}{a:Abs}{k:Nat}{pa p0 pos px:Pos}{args:List Expr}{x:NM}{ps:List NM}(hj:js.length≤8)(hK:K.In H0)(ck:ClsK K c)(nk:NodeK V w H0 K c)(ak:AddK H0 K c)(h:SJ V w c js s0 a k σ zx)(hx:x∈js.map (·.1))(hp:Cf ps (js.map (·.1)))(hkz:k+ps.length≤1000)
  (ha:Ey V w H0 (n+4) PM σ zx pos args (.d (.str (tx x))::(BE ps).map .d))(hb:∀zz,(backTo pos (starEach args zz)).any (·.1)=false)(hev:D5 (.Name (S "sorter") p0) (S "add") pa args pos)(hsw:∀zz,swapsWith (.Call (.Attribute (.Name (S "sorter") p0) (S "add") pa) args [] pos) none px.line zz=pure false):
  GT V w H0 (n+4) PM σ zx (.Expr (.Call (.Attribute (.Name (S "sorter") p0) (S "add") pa) args [] pos) px) (fun Z fl σ' zx'=>fl=.next∧σ'=σ∧SJ V w c js s0 (a.add x ps) (k+ps.length) σ zx'):=by
 refine ex1 h.rep fun r h9=>?_;refine Tt h9 fun h1 x3 h3 h4 h5 x7=>?_;clear h9;subst x3;subst x7;have iv:=LI h.inv hx hp;have hz:(r.abs.add x ps).names.length≤8:=le_trans (OA iv) (by rw[length_map];exact hj);refine AV (Oq (Ur hK ck nk ak h1 h3 hz h.bnd hkz (Aa h.so rfl) ha hb hev) hsw) fun g fl σ' zx' q=>?_;obtain⟨e1,v,e2,r',q1,q2,q3⟩:=q;exact⟨e1,e2,h.so,h.nm,h.ri,⟨r',q1,q2.old .S trivial,q2.ready.trans h3,q2.passed.trans h4,q2.fin.trans h5,q3⟩,iv,SP h.bnd x ps⟩
end
section
variable{K:Frag}{c:Cls2}{r:Rep}{C:Addr}
noncomputable abbrev U6:Stmt:=Rh (AD (B7 27)) 1
structure SoK(V:Program)(w:World)(H0:Heap)(n:Nat):Prop where
 tr:∀p,Js p->CB V w H0 (S "_translate") n [.str (tx p),.none,.str (S "any")] (AM (AY p))
 tk:∀a b l,AJ a->AJ b->Ay l->CB V w H0 (S "_law_takes") n [AM (AY [a,b]),.str (tx l)] (.bool (CV [a,b] l))
theorem Us{js:NJ}(ok:JobsOk js){j:List Nat×List Nat}(hj:j∈js){s0:Addr}{a:Abs}{k:Nat}(hK:K.In H0)(ck:ClsK K c)(nk:NodeK V w H0 K c)(ak:AddK H0 K c)(so:SoK V w H0 (n+4))(h:SJ V w c js s0 a k σ zx)(hk:k≤100):
  HX true V w H0 (n+4) PM ([(S "pattern",.d (.str (tx j.2))),(S "name",.d (.str (tx j.1)))]++σ) zx (AD U6) (fun Z fl σ' zx'=>fl=.next∧SJ V w c js s0 (Abs.job js a j) (k+(Bd js j).length) σ' zx'):=by
 revert ok hj hK ck nk ak so h hk;revert k;revert js j s0 a;revert V w H0 n σ zx K c;refine no_implicit_lambda% (HS (by exact(((default,w0),default),(default,(default,⟨0,0⟩)))) ?_);generalize FK _ _=t9;generalize t9.1.1.1=V,t9.1.1.2=w,t9.1.2.1=H0,t9.1.2.2=n,t9.2.1.1=σ,t9.2.1.2=zx,t9.2.2.1=K,t9.2.2.2=c;refine no_implicit_lambda% (JZ (by exact(default,(default,w3))) ?_);generalize Iq _ _=t9;generalize t9.1.1=js,t9.1.2=j,t9.2.1=s0,t9.2.2=a;refine no_implicit_lambda% (Io (default) ?_);generalize HR _ _=k;intro ok hj hK ck nk ak so h hk;have hjn:j.1∈js.map (·.1):=mem_map_of_mem hj;have hz8:=ok.len;have hnl:=Ii js j;have h0:SJ V w c js s0 a k ([(S "pattern",.d (.str (tx j.2))),(S "name",.d (.str (tx j.1)))]++σ) zx:=⟨h.so,h.nm,h.ri,h.rep,h.inv,h.bnd⟩;refine B3 (CS (Rw (x:=j.1) (ps:=[]) hz8 hK ck nk ak h0 hjn (fun p m=>BK m) (by show k+0≤1000;exact le_trans hk (by decide)) (Bk (Aa rfl rfl) fun Z=>rfl) (fun Z=>rfl) (fun Z=>⟨_,rfl⟩) fun Z=>rfl)) fun g σ' zx' q=>?_;refine BL q fun x1 h1=>?_;try clear q;subst x1
 refine IR (CS (BX (Av (x:=.d (AM (AY j.2))) (Fo (xs:=[.str (tx j.2),.none,.str (S "any")]) (so.tr j.2 (ok.pats j hj)) (le_refl _) rfl (BM (Aa rfl rfl) (Bo BV Bz (fun Z=>rfl) fun Z=>rfl) fun Z=>rfl) fun Z=>rfl) (Af (Ab rfl)) (fun Z Z=>rfl) (fun Z Z=>rfl) fun Z=>rfl))) ?_;have h2:SJ V w c js s0 (a.add j.1 []) k ([(S "parts",.d (AM (AY j.2)))]++([(S "pattern",.d (.str (tx j.2))),(S "name",.d (.str (tx j.1)))]++σ)) zx':=⟨h1.so,h1.nm,h1.ri,h1.rep,h1.inv,h1.bnd⟩;have hd:Ae (Bd js j)=.list (BE (Bd js j)):=by unfold Ae LS BE;rw[map_map];rfl
 have e4:Ae (Bd js j)=.list ((js.map (·.1)).filterMap fun o=>if(o !=j.1 && (j.2 !=[] && CV j.2 o)) then some (PyData.str (tx o)) else none):=by
  rw[CL,Ae,LS,map_map];rfl
 refine B3 (Fj (x:=true) (ds:=(BE (Bd js j)).map .d) [] (fun i σ' zx'=>σ'.lookup (S "name")=some (.d (.str (tx j.1)))∧SJ V w c js s0 (((Bd js j).take i).foldl (fun a q=>a.add j.1 [q]) (a.add j.1 [])) (k+i) σ' zx')
  (Ψ:=fun Z fl σ' zx'=>fl=.next∧SJ V w c js s0 (Abs.job js a j) (k+(Bd js j).length) σ' zx') (GZ (y:=.d (.list (BE (Bd js j)))) ?_ BG) ⟨rfl,h2⟩ (fun Z Z Z Z p hp=>BK hp) (fun i e σ' zx' he hJ=>?_) (fun g σ' zx' hJ=>?_) (fun Z Z=>rfl) (.inl ⟨_,_,rfl⟩)) fun g σ' zx' q=>Dk fun g=>⟨rfl,q⟩
 ·rw[←hd,e4]
  refine FA (items:=js.map (·.1)) (enc:=fun o=>.d (.str (tx o))) (xs:=[S "other"]) (x:=.d (Ae (js.map (·.1)))) (fun o=>if(o !=j.1 && (j.2 !=[] && CV j.2 o)) then some (PyData.str (tx o)) else none) ?_ ?_ ?_ ?_ ?_ ?_ (Ai (by rw[length_map];exact le_trans hz8 (by decide))) fun o ho=>?_
  ·exact .inl ⟨_,_,rfl⟩
  ·decide +kernel
  ·decide +kernel
  ·exact fun Z Z=>rfl
  ·exact Aa h2.nm rfl
  ·have:=BG (V:=V) (w:=w) (H0:=H0) (n:=n+4) (ds:=((js.map (·.1)).map tx).map .str)
   rw[map_map (f:=tx),map_map (f:=PyData.str ∘ tx)] at this;unfold Ae LS;rw[map_map (f:=tx)];exact this
  have hn:Ay o:=by
   refine Ad (Ct ho) fun j' hj2 x3=>?_;subst x3;exact ok.names j' hj2
  refine⟨[(S "other",.d (.str (tx o)))],_,Af (Ab rfl),rfl,fun y hy=>by rw[AU hy];rfl,Fd (p:=o !=j.1 && (j.2 !=[] && CV j.2 o)) ?_,fun h=>⟨_,if_pos h,Aa rfl rfl⟩,fun h=>by simp[h]⟩;refine AH (BH ?_ fun Z=>BH ?_ fun hp=>Cq ?_)
  ·rw[←Ld]
   exact Ar (Aa rfl rfl) (Aa rfl rfl) HU rfl
  ·rw[←Ld,←Hy]
   exact Ar (Aa rfl rfl) Bz HU rfl
  ·rcases ok.pats j hj with e|⟨x,y,e,hx,hy⟩
   ·rw[e] at hp;exact EP hp
   ·have q:=so.tk x y o hx hy hn
    rw[←e] at q;exact Le q (le_refl _) rfl (Bo (Aa rfl rfl) (Aa rfl rfl) (fun Z=>rfl) fun Z=>rfl) fun Z=>rfl
 ·refine BL hJ fun hnm x2=>?_;revert x2;intro hJ
  refine Ad (HM he) fun q hq x3=>?_;subst x3;have hi:i<(Bd js j).length:=by
   rcases lt_or_ge i (Bd js j).length with z|z
   ·exact z
   ·rw[getElem?_eq_none z] at hq;exact CE hq
  have htk:(Bd js j).take (i+1)=(Bd js j).take i++[q]:=by rw[take_add_one,hq];rfl
  refine⟨_,Af (Ab rfl),N9 fun Φ hΦ=>?_⟩;have hJ':SJ V w c js s0 (((Bd js j).take i).foldl (fun a q=>a.add j.1 [q]) (a.add j.1 [])) (k+i) ([(S "need",.d (.str (tx q)))]++σ') zx':=⟨hJ.so,hJ.nm,hJ.ri,hJ.rep,hJ.inv,hJ.bnd⟩;refine B3 (CS (Rw (x:=j.1) (ps:=[q]) hz8 hK ck nk ak hJ' hjn (fun p m=>by rw[AU m];exact Ih js j q (mem_of_getElem? hq)) (by show k+i+1≤1000;omega) (Bo (Aa hnm rfl) (Aa rfl rfl) (fun Z=>rfl) fun Z=>rfl) (fun Z=>rfl) (fun Z=>⟨_,rfl⟩) fun Z=>rfl)) fun g σ' zx' q=>Dk fun g=>hΦ ?_;refine BL q fun x1 q1=>?_;try clear q;subst x1
  refine⟨hnm,?_⟩;rw[htk,foldl_append];exact⟨q1.so,q1.nm,q1.ri,q1.rep,q1.inv,q1.bnd⟩
 ·refine BL hJ fun Z x2=>?_;revert x2;intro hJ
  have e:((BE (Bd js j)).map Ent.d).length=(Bd js j).length:=by simp[BE]
  rw[e,take_length] at hJ;exact⟨rfl,hJ⟩
end
section
variable{K:Frag}{c:Cls2}{r:Rep}{C:Addr}
theorem Tc{e1 e2:Expr}{pos:Pos}{u1:Value}{b:Bool}(h1:Am V w H0 n sc σ zx e1 (.v u1))(h2:Am V w H0 n sc σ zx e2 (.d (.bool b)))(hb:∀zz,backTo pos (starEach [e1,e2] zz)=(false,eval e1 zz)::backTo pos (starEach [e2] zz))(hb':∀zz,backTo pos (starEach [e2] zz)=[(false,eval e2 zz)]):
  EvP V w H0 n sc σ zx (.List [e1,e2] pos) (fun g v=>∃l,v=.ref l∧g.IsList l #[u1,.bool b]):=by
 intro A zz s zy g o F;refine List_ (Aq (Bo h1 h2 hb hb' A zz s zy g o F) fun vs s₁ q1=>?_);have F1:=F.ext q1.ext;have mv:=q1.val;refine OJ (Uq mv rfl) fun v1 v2 x1 x2 h9=>?_;refine BL h9 fun x5 e=>?_;clear h9;subst x5;refine CZ mv fun m1 m2 Z=>?_;have e1':v1=u1:=m1;have e2':v2=.bool b:=E6 m2;subst e1' e2';refine wpAny_newObj_type ?_ (by show(2:Nat)≤sizeLine;decide);exact q1.trans ⟨_,_,rfl,An _ _,_,rfl,_,De F1.toBase _,rfl,0,rfl⟩
theorem Td{sts:List Stmt}{Ψ Φ:Ba}{Ξ:AN->Aw->Prop}(h:Ta V w H0 C n sc σ zx sts Ψ Ξ)(hi:∀g fl σ' zx',Ψ g fl σ' zx'->Φ g fl σ' zx'):Ta V w H0 C n sc σ zx sts Φ Ξ:=fun A zz zw s zy g o F K O=>Ah (h A zz zw s zy g o F K O) (fun Z Z q=>q.mono fun g σ' zx' p=>hi _ _ _ _ p) fun Z Z q=>q
def U7(K:Frag)(H0:Heap)(c:Cls2):Prop:=∃f fd,MethK K H0 c (S "prepare") (Cv 13 3) f fd∧∀vs:List Value,vs.length=[S "self"].length->bindArgs fd ⟨vs,[]⟩=pure ([S "self"].zip vs)
def TK(V:Program)(w:World)(c:Cls2)(js:NJ)(g:Heap)(v:Value)(L:Aw):Prop:=
 ∃(r:Rep) (a:Addr) (b:Bool) (l:Addr),r.abs=Abs.all js∧r.passed=0∧r.fin=0∧RepOk V w c (r.begin a) L∧v=.ref l∧g.IsList l #[.ref (r.at' .S),.bool b]∧(b=false->IL r.succ r.names)∧(b=true->Dx r.succ r.names)
theorem Te{js:NJ}(ok:JobsOk js)(hK:K.In H0)(ck:ClsK K c)(nk:NodeK V w H0 K c)(sk:SortK V w H0 K c)(ak:AddK H0 K c)(pk:PrepK H0 K c C)(prk:U7 K H0 c)(so:SoK V w H0 (n+4)):
  HX true V w H0 (n+4) PM [(S "jobs",.d (BY (js.map Ga)))] [] (AD (B7 27)) (fun g fl Z zx'=>∃v,fl=.ret v∧TK V w c js g v zx'):=by
 revert ok hK ck nk sk ak pk prk so;revert V w H0 n K c C js;refine no_implicit_lambda% (HS (by exact(((default,w0),default),((default,⟨0,0⟩),default))) ?_);generalize FK _ _=t9;generalize t9.1.1.1=V,t9.1.1.2=w,t9.1.2.1=H0,t9.1.2.2=n,t9.2.1.1=K,t9.2.1.2=c,t9.2.2.1=C,t9.2.2.2=js;intro ok hK ck nk sk ak pk prk so;have hz8:=ok.len;have src:DS V w H0 (n+4) (.d (BY (js.map Ga))) (js.map fun j=>.d (G0 (Ga j))):=by
  have:=BG (V:=V) (w:=w) (H0:=H0) (n:=n+4) (ds:=(js.map Ga).map G0);rw[map_map,map_map] at this;unfold BY;rw[map_map];exact this
 refine B3 (CS (NO (Θ:=fun xs σ' zx'=>∃a d D,xs=[.v (.ref a),.d (Ae (js.map (·.1))),.d (.bool false)]∧σ'=[(S "jobs",.d (BY (js.map Ga)))]∧RepOk V w c (Rep.new a d D) zx')
  (Ex (Ψ:=fun x σ' zx'=>∃a d D,x=.v (.ref a)∧σ'=[(S "jobs",.d (BY (js.map Ga)))]∧RepOk V w c (Rep.new a d D) zx') (AV (Pz (n:=n+2) hK ck sk rfl) fun g v σ' zx' q=>?_) (fun x σ₁ zx₁ q=>Ex (NL (x:=.d (Ae (js.map (·.1)))) ?_) (fun y σ2 zx2 q2=>Ex (NL (KV (b:=false))) (fun z σ3 zx3 q3=>LH ?_) fun Z=>rfl) fun Z=>rfl) fun Z=>rfl)
  (Ab rfl) (Ab rfl) (Ab rfl) (fun xs σ' zx' q=>by refine FH q fun a d D x4 Z=>?_;try clear q;subst x4;rfl) (fun Z Z=>rfl) fun zz o=>by have q:=o.scope;cases zz;simp only at q;subst q;rfl)) fun g σ' zx' q=>?_
 ·obtain⟨rfl,a,d,D,L',rfl,h,rfl⟩:=q
  exact⟨.v (.ref a),rfl,a,d,D,rfl,rfl,by rw[append_nil];exact h⟩
 ·refine PW q fun a d D h9=>?_;refine CZ h9 fun x4 x5 h=>?_;clear h9;try clear q;subst x4;subst x5
  have:=fun scope pos p1 p2 p3 p4 k pi h1 h2 h3=>Jm (V:=V) (w:=w) (H0:=H0) (n:=n+4) (sc:=PM) (σ:=[(S "jobs",.d (BY (js.map Ga)))]) (zx:=zx₁) (iter:=.Name "jobs" pi) (scope:=scope) (pos:=pos) (p1:=p1) (p2:=p2) (p3:=p3) (p4:=p4) (a:=S "name") (b:=S "pattern") (k:=k) (js:=js.map Ga) (Aa rfl rfl) (by rw[length_map];exact hz8) h1 h2 h3 (by decide +kernel);rw[map_map] at this;unfold Ae;rw[map_map];exact this _ _ _ _ _ _ _ _ rfl rfl rfl rfl rfl rfl fun Z Z=>rfl
 ·refine PW q fun a d D h9=>?_;refine CZ h9 fun x4 x5 h=>?_;clear h9;try clear q;subst x4;subst x5
  refine CZ q2 fun x1 x2 x3=>?_;try clear q2;subst x1;subst x2;subst x3
  refine CZ q3 fun x1 x2 x3=>?_;try clear q3;subst x1;subst x2;subst x3
  exact⟨a,d,D,rfl,rfl,h⟩
 refine OJ q fun x1 x2 x3 σ₁ h9=>?_;refine BL h9 fun x5 x6=>?_;clear h9;try clear q;rcases x5 with ⟨s0,d,D,e,rfl,h⟩;subst x6
 cases e;have sj0:SJ V w c js s0 Abs.empty 0 ((S "sorter",.v (.ref s0))::(S "names",.d (Ae (js.map (·.1))))::(S "ring",.d (.bool false))::[(S "jobs",.d (BY (js.map Ga)))]) zx':=⟨rfl,rfl,rfl,⟨_,h,rfl,rfl,rfl,rfl,rfl⟩,⟨.nil,(fun x m=>BK m),(fun x m=>BK m)⟩,fun y m=>BK m⟩;refine B3 (Fj (x:=true) (ds:=js.map fun j=>.d (G0 (Ga j))) [] (fun i σ' zx'=>∃k,k≤i*8∧SJ V w c js s0 ((js.take i).foldl (Abs.job js) Abs.empty) k σ' zx')
  (Ψ:=fun Z fl σ' zx'=>fl=.next∧∃k,SJ V w c js s0 (Abs.all js) k σ' zx') (GZ (Aa (e:=.d (BY (js.map Ga))) rfl rfl) src) ⟨0,le_refl _,sj0⟩ (fun Z Z Z Z p hp=>BK hp) (fun i e σ' zx' he hJ=>?_) (fun g σ' zx' hJ=>?_) (fun Z Z=>rfl) (.inr ⟨_,_,_,rfl⟩)) fun g σ' zx' q=>?_
 ·refine Ad hJ fun k hk x3=>?_;revert x3;intro hJ
  rw[getElem?_map,Option.map_eq_some_iff] at he;refine Ad he fun j hj x3=>?_;try clear he;subst x3
  have hjm:j∈js:=mem_of_getElem? hj;have hi:i<js.length:=by
   rcases lt_or_ge i js.length with z|z
   ·exact z
   ·rw[getElem?_eq_none z] at hj;exact CE hj
  have htk:js.take (i+1)=js.take i++[j]:=by rw[take_add_one,hj];rfl
  refine⟨_,DZ (b1:=[(S "name",.d (.str (tx j.1)))]) (b2:=[(S "pattern",.d (.str (tx j.2)))]) (FR (ds:=[.str (tx j.1),.str (tx j.2)])) (Af (Ab rfl)) (Af (Ab rfl)) (fun Z=>rfl),?_⟩;refine ET (Us ok hjm hK ck nk ak so hJ (by lia)) fun g fl σ' zx' q=>?_;refine BL q fun x1 x2=>?_;try clear q;revert x2;intro q;subst x1
  have:=Ii js j;refine⟨_,?_,by rw[htk,foldl_append];exact q⟩
  lia
 ·refine Ad hJ fun k Z x3=>?_;revert x3;intro hJ
  rw[length_map,take_length] at hJ;exact⟨rfl,k,hJ⟩
 refine ex1 q fun k sj=>?_;refine ex1 sj.rep fun r h9=>?_;refine Tt h9 fun hr hs0 h3 h4 h5 h6=>?_;clear h9;refine B8 prk fun fP fdP mk hbP=>?_;have hn8:r.names.length≤8:=by
  have:=OA sj.inv;rw[←h6,length_map] at this;exact le_trans this hz8
 have hcl:∀x∈r.names,∀y∈r.succ x,y∈r.names:=by
  have:=sj.inv.clo;rw[←h6] at this;exact this
 have hso:Am V w H0 (n+4) PM σ' zx' (.Name (S "sorter") default) (.v (.ref (r.at' .S))):=by rw[hs0];exact Aa sj.so rfl
 refine Ad (hr.hold .S trivial) fun oS mS x3=>?_;subst x3;obtain⟨oF,mF,t1,t2,f⟩:=hr.hold .dS trivial;refine Dm (Tb (b:=true) (fs:=r.fields t1 t2) (Φ:=fun Z fl σ2 zx2=>fl=.next∧∃a b,σ2.lookup (S "sorter")=some (.v (.ref (r.at' .S)))∧σ2.lookup (S "ring")=some (.d (.bool b))∧RepOk V w c (r.begin a) zx2∧(b=false->IL r.succ r.names)∧(b=true->Dx r.succ r.names)) pk.cy rfl (Ab rfl) hK ck.c1 (show Am _ _ _ _ _ _ _ _ (.v (.ref (r.at' .S))) by rw[hs0];exact Aa sj.so rfl) mS mF f rfl mk.find mk.ty mk.dfn.callee
  (Vu (n:=n+3) (ps:=[S "self"]) (xs':=[.v (.ref (r.at' .S))]) (Ψ:=fun Z Z L'=>∃a,RepOk V w c (r.begin a) L'∧IL r.succ r.names) (Ξ:=fun L'=>∃a,RepOk V w c (r.begin a) L'∧Dx r.succ r.names) mk.dfn (Cb hbP rfl) rfl rfl ?_) (fun Z=>⟨_,rfl⟩) (fun Z=>rfl) (fun g v L' q=>?_) fun g L' q=>?_) (fun g σ2 zx2 q=>?_) fun g fl σ2 zx2 hn q=>absurd q.1 hn
 ·exact Td (PL (n:=n+2) hK ck pk hr h3 hn8 hcl) fun g fl σ' zx' q=>q.2
 ·refine Ad q fun a q1 q2=>?_
  exact⟨rfl,a,false,by rw[hs0];exact sj.so,sj.ri,q1,fun Z=>q2,EP⟩
 ·refine Ad q fun a q1 q2=>?_
  exact⟨rfl,a,true,by rw[hs0];exact sj.so,rfl,q1,(E3),fun Z=>q2⟩
 ·obtain⟨_,a,b,l1,l2,hb,ha,hr'⟩:=q
  refine DU (Gq (AV (DD (Tc (Aa l1 rfl) (Aa l2 rfl) (fun Z=>rfl) fun Z=>rfl)) fun g fl σ' zx'' p=>?_) fun g σ' zx' p=>by refine Ad p fun v e Z=>?_;exact ML e);refine BL p fun x1 x2=>?_;try clear p;rcases x1 with ⟨v,rfl,l,rfl,hl⟩;subst x2
  exact⟨_,rfl,r,a,b,l,h6,h4,h5,hb,rfl,hl,ha,hr'⟩
end
theorem NQ{A:Around}{E:Value->Shared->Prop}{s:Shared}{l:Addr}{vs:List Value}{ss:List Str}{Q:Value->Shared->Prop}(hl:IsTup s.heap l vs.toArray)(hS:StrsAre vs ss)(h64:vs.length<64)
  (h:∀h' a (out:Array Value) ss' e,Ext s.heap h'->h'.get? a=some (seqObj "list" out e)->s.heap.get? a=none->StrsAre out.toList ss'->ss'.Perm ss->sortedS ss'=true->Q (.ref a) {s with heap:=h'}):
  wpAny (model V w) A (call (.builtin "sorted") [.ref l]) Q E s:=by
 refine Calls.call_function_entry kind_sorted plain_sorted entry_sorted (args_sorted1 _) ?_;unfold Builtin.«sorted»;refine Ac (m:=checkCount "sorted" 1 1 _) (Ag ?_);obtain⟨o,ho,hc,nn,hd⟩:=hl;refine Ac (wpAny_collect_seq l (.inr rfl) ho hc hd (fun h₁ hk=>?_) (by rw[size_toArray];exact le_of_lt (lt_of_lt_of_le h64 (by decide))));have ev:vs.toArray.toList=vs:=by simp
 rw[ev];refine Ac (wpAny_newList ?_);have hoL:(h₁.push (seqObj "list" vs.toArray 0)).get? h₁.objs.size=some (seqObj "list" vs.toArray 0):=Heap.get?_push_size _ rfl;show wpAny _ _ _ _ _ {s with heap:=h₁.push (seqObj "list" vs.toArray 0)};refine Ac (wpAny_holding (wpAny_call_entry slot_list_sort ⟨_,hoL,rfl⟩ entry_list_sort (list_sort_treeK strKind_oneLt hoL hS.keysOf (fun v1 v2 rest e=>keyKind_strs (by rw[←e];exact hS)) h64 fun st' a1 a2=>⟨_,rfl,?_⟩) (args_list_sort _)));refine Dz (sorted_out_str hS a1 a2) fun ss' q1 q2 q3=>?_;refine ex1 (sortedHeap_at (out:=(arrOf st').map (·.2)) hoL) fun e he=>?_;have fr:s.heap.get? h₁.objs.size=none:=by
  cases z:s.heap.get? h₁.objs.size with
  |none=>rfl
  |some o=>exact absurd (Heap.lt_size (hk _ _ z)) (lt_irrefl _)
 refine Ag ⟨_,rfl,h _ _ _ ss' e (fun b ob eb=>?_) he fr q1 q2 q3⟩;have hb1:=hk b ob eb;have lt:=Heap.lt_size hb1;rw[sortedHeap_old (ne_of_lt lt) (by rw[Heap.size_push];exact lt_succ_of_lt lt)];exact Heap.get?_push_of_some _ hb1
theorem NR{ls:List (List Nat)}(hz:ls.length<64):FnP V w H0 n (.builtin "sorted") [.d (.tuple (ls.map fun x=>.str (tx x)))] (Rd (Ae (Db ls))):=by
 intro A s zy vs g B hm;obtain⟨v,rfl,m⟩:=C7 hm;refine Bh (FO m) fun l vs x3 hl f=>?_;subst x3;have f':F2 (fun v d=>Rd d (vis s.heap zy) v) vs ((ls.map tx).map .str):=by rw[map_map];exact f
 refine NQ (Ef (Bp _ _) hl) (G6 f') (by have:=f.length;rw[this,length_map];exact hz) fun h' a out ss' e ex ha hn h1 h2 h3=>?_;have e2:=Kt h2 h3;subst e2;have nh:a∉zy:=fun m=>by
  refine ex1 (B.alive a m) fun o q=>?_;rw[hn] at q;exact CE q
 refine⟨_,s.toks,rfl,ex,D9 (vs:=out.toList) ⟨_,AQ ha nh,rfl,e,?_⟩ (G7 h1)⟩;exact rfl
theorem Mw(hg:GIs H0 (S "sorted") (.builtin "sorted")){ls:List (List Nat)}(hz:ls.length<64):CB V w H0 (S "sorted") n [.tuple (ls.map fun x=>.str (tx x))] (Ae (Db ls)):=⟨_,hg,Be,NR hz⟩
theorem Rx{ds:List PyData}:FnP V w H0 n (.type "type") [.d (.tuple ds)] (fun Z v=>v=.type "tuple"):=by
 intro A s zy vs g B hm;obtain⟨v,rfl,m⟩:=C7 hm;refine Bh (FO m) fun l vs x3 hl f=>?_;subst x3;refine Dz (Ef (Bp _ _) hl) fun o ho hc Z=>?_;exact call_type_of ⟨o,ho,hc⟩ (by decide) (Pu.here rfl)
theorem PN(hg:GIs H0 (S "type") (.type "type")){ds:List PyData}:Has V w H0 (S "type") n [.d (.tuple ds)] (fun Z v=>v=.type "tuple"):=⟨_,hg,B2,Rx⟩
theorem PO{v:Value}(hp:plainIs v v=true):Bm V w H0 n (compareOp .Is) (.v v) (.v v) (Rd (.bool true)):=by
 intro A s zy u x g B ra rb;have e1:u=v:=ra;have e2:x=v:=rb;subst e1 e2;exact wpAny_is_self hp (Pu.here (BB _ _))
theorem NS{y:Str}{p1 p2 p3 p4 pos:Pos}{ds:List PyData}(hty:GIs H0 (S "type") (.type "type"))(htu:GIs H0 (S "tuple") (.type "tuple"))(h1:BA sc (S "type")=true)(h2:BA sc (S "tuple")=true)(hy:Am V w H0 n sc σ zx (.Name y p2) (.d (.tuple ds))):
  FI V w H0 n sc σ zx (.Compare (.Call (.Name (S "type") p1) [.Name y p2] [] p3) [.Is] [.Name (S "tuple") p4] pos) true:=
 Ar (x:=.v (.type "tuple")) (AT (PN hty) (le_refl _) h1 (Bk hy fun Z=>rfl) fun Z=>rfl) (DA htu h2) (PO rfl) rfl
section
variable{K:Frag}{c:Cls2}{r:Rep}
structure RdK(H0:Heap)(K:Frag)(c:Cls2):Prop where
 act:∃f fd,MethK K H0 c (S "is_active") (Cv 13 5) f fd∧∀vs:List Value,vs.length=[S "self"].length->bindArgs fd ⟨vs,[]⟩=pure ([S "self"].zip vs)
 got:∃f fd,MethK K H0 c (S "get_ready") (Cv 13 4) f fd∧∀vs:List Value,vs.length=[S "self"].length->bindArgs fd ⟨vs,[]⟩=pure ([S "self"].zip vs)
 done:∃f fd,MethK K H0 c (S "done") (Cv 13 7) f fd∧∀vs ws:List Value,vs.length=[S "self"].length->bindArgs fd ⟨vs++ws,[]⟩=(newTuple ws >>=fun t=>pure (([S "self"]++[S "nodes"]).zip (vs++[t])))
 len:GIs H0 (S "len") (.builtin "len")
 tup:GIs H0 (S "tuple") (.type "tuple")
 bool:GIs H0 (S "bool") (.type "bool")
 out:∃t,GIs H0 (S "_NODE_OUT") (.int (-1) t)
 dn:∃t,GIs H0 (S "_NODE_DONE") (.int (-2) t)
theorem Ut{e:Expr}{pa pos:Pos}{l:List NM}(hK:K.In H0)(ck:ClsK K c)(rk:RdK H0 K c)(h:RepOk V w c r zx)(hr:r.ready=some l)(hz:l.length≤1000)(he:Am V w H0 (n+1) sc σ zx e (.v (.ref (r.at' .S))))(hev:D5 e (S "is_active") pa [] pos):
  GS V w H0 (n+1) sc σ zx (eval (.Call (.Attribute e (S "is_active") pa) [] [] pos)) (fun g v σ' zx'=>σ'=σ∧v=.bool (decide (r.fin<r.passed) ||!l.isEmpty)∧zx'=zx):=by
 refine B8 rk.act fun f fd mk hb=>?_;refine Ml (xs:=[]) hK ck h mk he (fun t1 t2=>rfl) Bc (FnGc.g (FnF.gc (Ew (x:=false) (n:=n) (ps:=[S "self"]) (xs':=[.v (.ref (r.at' .S))]) mk.dfn (Cb hb rfl) rfl rfl (DU (AV (Rb hK ck rk.bool h hr hz) fun g fl σ' zx' q=>?_))))) (fun Z=>rfl) hev;refine BL q fun x1 x2=>?_;try clear q;rcases x1 with ⟨v,rfl,m⟩;subst x2
 exact⟨E6 m,rfl⟩
theorem Ry{e:Expr}{pa pos:Pos}{l:List NM}(hK:K.In H0)(ck:ClsK K c)(rk:RdK H0 K c)(h:RepOk V w c r zx)(hr:r.ready=some l)(hz:l.length≤1000)(hl:Cf l r.names)(he:Am V w H0 (n+1) sc σ zx e (.v (.ref (r.at' .S))))(hev:D5 e (S "get_ready") pa [] pos):
  GS V w H0 (n+1) sc σ zx (eval (.Call (.Attribute e (S "get_ready") pa) [] [] pos)) (fun g v σ' zx'=>σ'=σ∧Rd (.tuple (BE l)) g v∧RepOk V w c (r.got l) zx'):=by
 refine B8 rk.got fun f fd mk hb=>?_;refine Ml (xs:=[]) hK ck h mk he (fun t1 t2=>rfl) Bc (FnGc.g (FnF.gc (Ew (x:=false) (n:=n) (ps:=[S "self"]) (xs':=[.v (.ref (r.at' .S))]) mk.dfn (Cb hb rfl) rfl rfl (DU (AV (Q9 hK ck rk.len rk.tup rk.out h hr hz hl) fun g fl σ' zx' q=>?_))))) (fun Z=>rfl) hev;refine Dz q fun v x2 m x4=>?_;try clear q;revert x4;intro q;subst x2
 exact⟨m,q⟩
theorem Tf{e:Expr}{y:Str}{p1 pa pos:Pos}{x:NM}{l:List NM}(hK:K.In H0)(ck:ClsK K c)(rk:RdK H0 K c)(h:RepOk V w c r zx)(hr:r.ready=some l)(hx:x∈r.names)(hnp:r.np x= -1)(hs:Cf (r.succ x) r.names)(hz:l.length+(r.succ x).length≤1000)(he:Am V w H0 (n+1) sc σ zx e (.v (.ref (r.at' .S))))(hy:Am V w H0 (n+1) sc σ zx (.Name y p1) (.d (.str (tx x))))(hev:D5 e (S "done") pa [.Name y p1] pos):
  GS V w H0 (n+1) sc σ zx (eval (.Call (.Attribute e (S "done") pa) [.Name y p1] [] pos)) (fun g v σ' zx'=>σ'=σ∧RepOk V w c (r.done x) zx'):=by
 refine B8 rk.done fun f fd mk hb=>?_;refine Ml (xs:=[.d (.str (tx x))]) hK ck h mk he (fun t1 t2=>rfl) (Bk hy fun Z=>rfl) (FnGc.g (FnF.gc (Ew (x:=false) (n:=n) (ps:=[S "self"]++[S "nodes"]) (xs:=[.v (.ref (r.at' .S))]++(BE [x]).map .d) (xs':=[.v (.ref (r.at' .S))]++[.d (.tuple (BE [x]))]) mk.dfn (KN (ds:=BE [x]) hb rfl (show(1:Nat)≤sizeLine by decide)) rfl rfl (DU (AV (Py hK ck rk.out rk.dn h hr hx hnp hs hz) fun g fl σ' zx' q=>?_))))) (fun Z=>rfl) hev;exact q.2
end
noncomputable def Rep.turn (r:Rep) (l:List NM):Rep:=l.foldl Rep.done ((r.got l).got [])
theorem HN:∀(l:List NM) (r:Rep),(l.foldl Rep.done r).at'=r.at'∧(l.foldl Rep.done r).names=r.names∧(l.foldl Rep.done r).succ=r.succ:=by
 intro l
 induction l with
 |nil=>
  intro r;exact⟨rfl,rfl,rfl⟩
 |cons x l HN=>
  intro r;refine CZ (HN (r.done x)) fun a b c=>?_;refine JY (GC (r.succ x) (r.putNp x (-2))) fun a' b' c' Z Z=>?_;exact⟨a.trans a',b.trans b',c.trans c'⟩
structure TurnsOk(Kv:Nat->Rep->List (List NM)->Prop):Prop where
 step:∀m r rs,Kv m r rs->∃l,r.ready=some l∧l.length≤8∧rs.length≤20∧Cf l r.names∧(decide (r.fin<r.passed) ||!l.isEmpty)=!l.isEmpty∧
  (l≠[]->(∀i x,l[i]? =some x->((l.take i).foldl Rep.done ((r.got l).got [])).np x= -1∧Cf (r.succ x) r.names∧∃l',((l.take i).foldl Rep.done ((r.got l).got [])).ready=some l'∧l'.length+(r.succ x).length≤1000)∧∃m',m'<m∧Kv m' (r.turn l) (rs++[Db l]))
section
variable{K:Frag}{c:Cls2}{r:Rep}
theorem PP{e:Expr}{b:Bool}{Ψ:AN->Aw->Prop}(h:GS V w H0 n sc σ zx (eval e) (fun g v σ' zx'=>v=.bool b∧Ψ σ' zx'))
  (hp:∀zz whole,PySem.isTrue e zz whole=(do let v ←whole;standAt e.pos;holding [v] (truthy v))):GS V w H0 n sc σ zx (fun zz=>isTrue e zz (eval e zz)) (fun Z c σ' zx'=>c=b∧Ψ σ' zx'):=by
 intro A zz s zy g o F;refine isTrue_plain (Ah (h A zz s zy g o F) (fun v s₁ q=>?_) fun Z Z f=>f) (hp _ _);obtain⟨h',tk,zy',σ',zx',e,k,F',m1,m2,m3,rfl,p⟩:=q;exact wpAny_truthy_bool ⟨h',tk,zy',σ',zx',e,k,F',m1,m2,m3,rfl,p⟩
noncomputable abbrev U8:Scope:=Ap (B7 29)
theorem Tg{Kv:Nat->Rep->List (List NM)->Prop}(kv:TurnsOk Kv){m0:Nat}(h0:Kv m0 r [])(hK:K.In H0)(ck:ClsK K c)(rk:RdK H0 K c)(hsort:GIs H0 (S "sorted") (.builtin "sorted"))(hty:GIs H0 (S "type") (.type "type"))(h:RepOk V w c r zx):
  GX V w H0 (n+1) U8 [(S "sorter",.v (.ref (r.at' .S)))] zx (AD (B7 29)) (fun g fl Z Z=>∃v,fl=.ret v∧∃m r' rs,Kv m r' rs∧r'.ready=some []∧Rd (Aj rs) g v):=by
 revert kv h0 hK ck rk hsort hty h;revert Kv m0;revert V w H0 n zx K c r;refine no_implicit_lambda% (HS (by exact(((default,w0),default),(default,(⟨0,0⟩,w1)))) ?_);generalize FK _ _=t9;generalize t9.1.1.1=V,t9.1.1.2=w,t9.1.2.1=H0,t9.1.2.2=n,t9.2.1.1=zx,t9.2.1.2=K,t9.2.2.1=c,t9.2.2.2=r;refine no_implicit_lambda% (I8 (by exact default) ?_);generalize Ip _ _=t9;generalize t9.1=Kv,t9.2=m0;intro kv h0 hK ck rk hsort hty h;refine Hd (x:=.d (Aj [])) (AE (ds:=[]) Bc (by decide)) ?_ (Ab rfl) (fun Z Z=>rfl) (fun Z Z=>rfl);refine AG (R:=fun Z σ' zx'=>∃m r' rs,Kv m r' rs∧r'.ready=some []∧σ'.lookup (S "rounds")=some (.d (Aj rs))) (Fh (Hp (x:=false) (fun i σ' zx'=>∃r' rs,Kv i r' rs∧r'.at' .S=r.at' .S∧RepOk V w c r' zx'∧σ'.lookup (S "sorter")=some (.v (.ref (r.at' .S)))∧σ'.lookup (S "rounds")=some (.d (Aj rs))) m0 (fun i σ' zx' hI=>?_) ?_)) fun g σ' zx' q=>?_
 ·refine ex2 hI fun r' rs h9=>?_;refine JY h9 fun hk hat hr l1 l2=>?_;clear h9
  refine ex1 (kv.step _ _ _ hk) fun l h9=>?_;refine Tt h9 fun hl hl8 hrs hln hact hgo=>?_;clear h9;refine⟨fun Z b σ₁ zx₁=>b=(!l.isEmpty)∧σ₁=σ'∧zx₁=zx',Fg (PP (b:=!l.isEmpty) (Ψ:=fun σ₁ zx₁=>σ₁=σ'∧zx₁=zx') (AV (Ut (n:=n) (r:=r') (l:=l) hK ck rk hr hl (le_trans hl8 (by decide)) (by rw[hat];exact Aa l1 rfl) fun Z=>⟨_,rfl⟩) fun g v σ₁ zx₁ q=>?_) fun Z Z=>rfl),fun g σ₁ zx₁ q=>?_,fun g σ₁ zx₁ q=>?_⟩
  ·refine CZ q fun x1 x2 x3=>?_;try clear q;subst x1;subst x2;subst x3
   exact⟨by rw[hact],rfl,rfl⟩
  ·refine CZ q fun hne x2 x3=>?_;try clear q;subst x2;subst x3
   have hne:l≠[]:=fun e=>by subst e;exact E3 hne
   obtain⟨hgo,m',hm',hk'⟩:=hgo hne;have sv:∀{σ' zx' pos},σ'.lookup (S "sorter")=some (.v (.ref (r.at' .S)))->Am V w H0 (n+1) U8 σ' zx' (.Name (S "sorter") pos) (.v (.ref (r.at' .S))):=fun h=>Aa h rfl;have g1:(r'.got l).ready=some []:=rfl;refine B3 (CS (NP (Θ:=fun xs σ2 zx2=>xs=[.d (.tuple (BE l)),.d (.tuple [])]∧σ2=σ₁∧RepOk V w c ((r'.got l).got []) zx2)
    (Ex (Ψ:=fun x σ2 zx2=>x=.d (.tuple (BE l))∧σ2=σ₁∧RepOk V w c (r'.got l) zx2) (AV (Ry (n:=n) (r:=r') (l:=l) hK ck rk hr hl (le_trans hl8 (by decide)) hln (by rw[hat];exact sv l1) fun Z=>⟨_,rfl⟩) fun g v σ2 zx2 q=>?_) (fun x σ2 zx2 q=>Ex (Ψ:=fun y σ3 zx3=>y=.d (.tuple [])∧σ3=σ₁∧RepOk V w c ((r'.got l).got []) zx3) ?_ (fun y σ3 zx3 q3=>LH ?_) fun Z=>rfl) fun Z=>rfl)
    (Ab rfl) (Ab rfl) (fun xs σ' zx' q=>by refine BL q fun x1 Z=>?_;try clear q;subst x1;rfl) (fun Z Z=>rfl) fun zz o=>by have q:=o.scope;cases zz;simp only at q;subst q;rfl)) fun g σ2 zx2 q=>?_
   ·refine CZ q fun x1 m x3=>?_;try clear q;revert x3;intro q;subst x1
    exact⟨.d (.tuple (BE l)),m,rfl,rfl,q⟩
   ·refine CZ q fun x1 x2 x3=>?_;try clear q;revert x3;intro q;subst x1;subst x2
    refine AV (Ry (n:=n) (r:=r'.got l) (l:=[]) hK ck rk q g1 (zero_le _) (fun x m=>BK m) (show Am _ _ _ _ _ _ _ _ (.v (.ref (r'.at' .S))) by rw[hat];exact sv l1) fun Z=>⟨_,rfl⟩) fun g v σ2 zx2 q=>?_;refine CZ q fun x1 m x3=>?_;try clear q;revert x3;intro q;subst x1
    exact⟨.d (.tuple (BE [])),m,rfl,rfl,q⟩
   ·refine CZ q fun x1 x2 x3=>?_;try clear q;revert x3;intro q;subst x1;subst x2
    refine CZ q3 fun x1 x2 x3=>?_;try clear q3;revert x3;intro q3;subst x1;subst x2
    exact⟨rfl,rfl,q3⟩
   refine FH q fun x1 x2 σ3 x4 x5=>?_;try clear q;rcases x4 with ⟨e,rfl,h2⟩;subst x5
   cases e;refine B3 (Fj (x:=false) (ds:=(BE l).map .d) [] (fun j σ' zx'=>σ'.lookup (S "sorter")=some (.v (.ref (r.at' .S)))∧σ'.lookup (S "rounds")=some (.d (Aj rs))∧σ'.lookup (S "group")=some (.d (.tuple (BE l)))∧σ'.lookup (S "behind")=some (.d (.tuple []))∧RepOk V w c ((l.take j).foldl Rep.done ((r'.got l).got [])) zx')
    (Ψ:=fun Z fl σ' zx'=>fl=.next∧σ'.lookup (S "sorter")=some (.v (.ref (r.at' .S)))∧σ'.lookup (S "rounds")=some (.d (Aj rs))∧σ'.lookup (S "group")=some (.d (.tuple (BE l)))∧σ'.lookup (S "behind")=some (.d (.tuple []))∧RepOk V w c (r'.turn l) zx') (GZ (Aa rfl rfl) Gz) ⟨l1,l2,rfl,rfl,h2⟩ (fun Z Z Z Z p hp=>BK hp) (fun j e σ' zx' he hJ=>?_) (fun g σ' zx' hJ=>?_) (fun Z Z=>rfl) (.inl ⟨_,_,rfl⟩)) fun g σ' zx' q=>?_
   ·refine JY hJ fun s1 s2 s3 s4 h'=>?_
    refine Ad (HM he) fun p hp x3=>?_;subst x3;obtain⟨n1,n2,l',n3,n4⟩:=hgo j p hp;refine CZ (HN (l.take j) ((r'.got l).got [])) fun ea en es=>?_;have htk:l.take (j+1)=l.take j++[p]:=by rw[take_add_one,hp];rfl
    have hfd:(l.take (j+1)).foldl Rep.done ((r'.got l).got [])=((l.take j).foldl Rep.done ((r'.got l).got [])).done p:=by rw[htk,foldl_append];rfl
    rw[hfd];generalize (l.take j).foldl Rep.done ((r'.got l).got [])=r1 at h' n1 n3 ea en es;have ea:r1.at'=r'.at':=ea;have en:r1.names=r'.names:=en;have es:r1.succ=r'.succ:=es;have hpn:=hln p (mem_of_getElem? hp);refine⟨_,Af (Ab rfl),DU (EF fun Φ hΦ=>?_)⟩;refine AG (Oq (Tf (n:=n) (r:=r1) (x:=p) (l:=l') hK ck rk h' n3 (by rw[en];exact hpn) n1 (by rw[es,en];exact n2) (by rw[es];exact n4) (show Am _ _ _ _ _ _ _ _ (.v (.ref (r1.at' .S))) by rw[ea,hat];exact sv s1) (Aa rfl rfl) fun Z=>⟨_,rfl⟩) fun Z=>rfl) fun g σ2 zx2 q=>AC fun g=>hΦ ?_;refine Ad q fun v x2 x3=>?_;try clear q;revert x3;intro q;subst x2
    exact⟨s1,s2,s3,s4,q⟩
   ·refine JY hJ fun s1 s2 s3 s4 h'=>?_
    rw[length_map,BE,length_map,take_length] at h';exact⟨rfl,s1,s2,s3,s4,h'⟩
   refine JY q fun s1 s2 s3 s4 h3=>?_;have e1:Aj (rs++[Db l])=.list (rs.map Ae++[if(true && true)=true then Ae (Db l) else .list []]):=by rw[Aj,map_append];rfl
   refine DU (Hd (x:=.d (Aj (rs++[Db l]))) (by
    rw[e1];exact AO (x:=.d (Aj rs)) (y:=.d (.list [if(true && true)=true then Ae (Db l) else .list []])) (Aa s2 rfl) (AE (ds:=[_]) (Bk (EH (AH (BH (NS (ds:=BE l) hty rk.tup rfl rfl (Aa s3 rfl)) fun Z=>Cq (Ar (Aa s4 rfl) (DR (ds:=[]) Bc (by decide)) (Jc rfl rfl) rfl))) (fun Z=>Fo (xs:=[.tuple (BE l)]) (Mw (n:=n+1) hsort (ls:=l) (by lia)) (le_refl _) rfl (Bk (Aa s3 rfl) fun Z=>rfl) fun Z=>rfl) fun Z=>AE (ds:=[]) Bc (by decide)) fun Z=>rfl) (Ai (succ_pos _))) (EB (Ai (by rw[length_map];simp;lia)))) (AC fun g=>?_) (Ab rfl) (fun Z Z=>rfl) (fun Z Z=>rfl))
   refine CZ (HN l ((r'.got l).got [])) fun ea en es=>?_;have ea:(r'.turn l).at'=r'.at':=ea;exact⟨m',hm',r'.turn l,_,hk',by rw[ea];exact hat,h3,s1,rfl⟩
  ·refine CZ q fun hne x2 x3=>?_;try clear q;subst x2;subst x3
   have hne:l=[]:=by cases l<;> first|rfl|exact EP hne
   subst hne;exact Dk fun g=>⟨rfl,i,r',rs,hk,hl,l2⟩
 ·exact⟨r,[],h0,rfl,h,rfl,rfl⟩
 ·refine PW q fun m r' rs h9=>?_;refine CZ h9 fun hk hr l2=>?_;clear h9
  exact Gc (P:=Rd (Aj rs)) (show Am _ _ _ _ _ _ _ _ (.d (Aj rs)) from Aa l2 rfl) fun g v σ' p=>⟨v,rfl,m,r',rs,hk,hr,p⟩
end
noncomputable abbrev Ce:=List (NM×NM)
noncomputable def R4 (E:Ce) (x:NM):Nat:=(E.filter fun e=>e.1==x).length
noncomputable def EN (E:Ce) (p:NM):List NM:=(E.filter fun e=>e.2==p).map (·.1)
structure EOk(a:Abs)(E:Ce):Prop where
 np:∀x,a.np x=(R4 E x:Int)
 succ:∀p,a.succ p=EN E p
 ends:∀e∈E,e.1∈a.names∧e.2∈a.names
theorem Mx{a:Abs}{E:Ce}{x:NM}(h:EOk a E)(hx:x∉a.names):R4 E x=0:=by
 unfold R4;rw[List.length_eq_zero_iff,filter_eq_nil_iff];intro e he q;have:e.1=x:=eq_of_beq q;exact hx (this▸(h.ends e he).1)
theorem My{a:Abs}{E:Ce}{x:NM}(h:EOk a E)(hx:x∉a.names):EN E x=[]:=by
 unfold EN;rw[List.map_eq_nil_iff,filter_eq_nil_iff];intro e he q;have:e.2=x:=eq_of_beq q;exact hx (this▸(h.ends e he).2)
theorem OB{a:Abs}{E:Ce}(h:EOk a E)(x:NM):EOk (a.get x) E:=by
 unfold Abs.get;split
 ·exact h
 ·next hn=>
  refine⟨fun y=>?_,fun y=>?_,fun e he=>⟨mem_append_left _ (h.ends e he).1,mem_append_left _ (h.ends e he).2⟩⟩
  ·show(if y=x then (0:Int) else a.np y)=_
   split
   ·next e=>subst e;rw[Mx h hn];rfl
   ·exact h.np y
  ·show(if y=x then [] else a.succ y)=_
   split
   ·next e=>subst e;rw[My h hn]
   ·exact h.succ y
theorem Mz(E:Ce)(e:NM×NM)(x:NM):R4 (E++[e]) x=R4 E x+if e.1=x then 1 else 0:=by
 unfold R4;rw[List.filter_append,length_append]
 by_cases h:e.1=x<;> simp[h]
theorem MA(E:Ce)(e:NM×NM)(x:NM):EN (E++[e]) x=EN E x++if e.2=x then [e.1] else []:=by
 unfold EN;rw[List.filter_append,map_append]
 by_cases h:e.2=x<;> simp[h]
theorem RA{a:Abs}{E:Ce}(h:EOk a E){x q:NM}(hx:x∈a.names):EOk (Abs.link x {a with np:=fun y=>if y=x then a.np x+1 else a.np y} q) (E++[(x,q)]):=by
 revert h hx;revert a E x q;refine no_implicit_lambda% (JZ (by exact((w3,default),default)) ?_);generalize Iq _ _=t9;generalize t9.1.1=a,t9.1.2=E,t9.2.1=x,t9.2.2=q;intro h hx
 by_cases hq:q∈a.names
 ·have e:Abs.get {a with np:=fun y=>if y=x then a.np x+1 else a.np y} q={a with np:=fun y=>if y=x then a.np x+1 else a.np y}:=if_pos hq
  unfold Abs.link;rw[e];refine⟨fun y=>?_,fun y=>?_,fun e he=>?_⟩
  ·show(if y=x then a.np x+1 else a.np y)=_
   rw[Mz]
   by_cases hy:y=x
   ·subst hy;rw[if_pos rfl,if_pos rfl,h.np];exact rfl
   ·rw[if_neg hy,if_neg (fun q=>hy q.symm),h.np];exact rfl
  ·show(if y=q then a.succ q++[x] else a.succ y)=_
   rw[MA]
   by_cases hy:y=q
   ·subst hy;rw[if_pos rfl,if_pos rfl,h.succ]
   ·rw[if_neg hy,if_neg (fun e=>hy e.symm),h.succ,append_nil]
  ·rcases Cx he with he|he
   ·exact h.ends e he
   ·rw[AU he];exact⟨hx,hq⟩
 ·have e:Abs.get {a with np:=fun y=>if y=x then a.np x+1 else a.np y} q=⟨a.names++[q],fun y=>if y=q then 0 else if y=x then a.np x+1 else a.np y,fun y=>if y=q then [] else a.succ y⟩:=if_neg hq
  unfold Abs.link;rw[e];have hxq:x≠q:=fun e=>hq (e▸hx);refine⟨fun y=>?_,fun y=>?_,fun e he=>?_⟩
  ·show(if y=q then (0:Int) else if y=x then a.np x+1 else a.np y)=_
   rw[Mz]
   by_cases hy:y=q
   ·subst hy;rw[if_pos rfl,if_neg hxq,Mx h hq];rfl
   ·rw[if_neg hy]
    by_cases hy:y=x
    ·subst hy;rw[if_pos rfl,if_pos rfl,h.np];exact rfl
    ·rw[if_neg hy,if_neg (fun q=>hy q.symm),h.np];exact rfl
  ·show(if y=q then (if q=q then [] else a.succ q)++[x] else if y=q then [] else a.succ y)=_
   rw[MA]
   by_cases hy:y=q
   ·subst hy;rw[if_pos rfl,if_pos rfl,if_pos rfl,My h hq]
   ·rw[if_neg hy,if_neg hy,if_neg (fun e=>hy e.symm),h.succ,append_nil]
  ·rcases Cx he with he|he
   ·exact⟨mem_append_left _ (h.ends e he).1,mem_append_left _ (h.ends e he).2⟩
   ·rw[AU he];exact⟨mem_append_left _ hx,mem_append_right _ (.head _)⟩
theorem RB{a:Abs}{E:Ce}(h:EOk a E)(x:NM):EOk (a.add x []) E:=by
 have g:=OB h x;refine⟨fun y=>?_,g.succ,g.ends⟩;show(if y=x then (a.get x).np x+0 else (a.get x).np y)=_;split
 ·next e=>subst e;rw[g.np];exact rfl
 ·exact g.np y
theorem RC{a:Abs}{E:Ce}(h:EOk a E)(x q:NM):EOk (a.add x [q]) (E++[(x,q)]):=RA (OB h x) (I5 a x)
noncomputable def I7 (js:NJ) (j:List Nat×List Nat):Ce:=(Bd js j).map fun q=>(j.1,q)
noncomputable def HO (js:NJ):Ce:=js.flatMap (I7 js)
theorem JQ(x:NM):∀(ps:List NM) {a:Abs} {E:Ce},EOk a E->EOk (ps.foldl (fun a q=>a.add x [q]) a) (E++ps.map fun q=>(x,q)):=by
 intro ps
 induction ps with
 |nil=>
  intro a E h;rw[map_nil,append_nil];exact h
 |cons p ps JQ=>
  intro a E h;have:=JQ (RC h x p);rw[append_assoc] at this;exact this
theorem Th{js:NJ}{a:Abs}{E:Ce}(h:EOk a E)(j:List Nat×List Nat):EOk (Abs.job js a j) (E++I7 js j):=JQ j.1 _ (RB h j.1)
theorem JR{js:NJ}:∀(l:NJ) {a:Abs} {E:Ce},EOk a E->EOk (l.foldl (Abs.job js) a) (E++l.flatMap (I7 js)):=by
 intro l
 induction l with
 |nil=>
  intro a E h;rw[List.flatMap_nil,append_nil];exact h
 |cons j l JR=>
  intro a E h;have:=JR (Th (js:=js) h j);rw[append_assoc] at this;rw[flatMap_cons];exact this
theorem OD(js:NJ):EOk (Abs.all js) (HO js):=JR js (a:=Abs.empty) (E:=[]) ⟨fun x=>rfl,fun x=>rfl,fun e m=>BK m⟩
theorem JS{js:NJ}:∀(l:NJ) {a:Abs},a.Inv (js.map (·.1))->Cf l js->(l.foldl (Abs.job js) a).Inv (js.map (·.1))∧(∀x∈a.names,x∈(l.foldl (Abs.job js) a).names)∧∀j∈l,j.1∈(l.foldl (Abs.job js) a).names:=by
 intro l
 induction l with
 |nil=>
  intro a h Z;exact⟨h,fun Z m=>m,fun j m=>BK m⟩
 |cons j l JS=>
  intro a h hl;have hj:j.1∈js.map (·.1):=mem_map_of_mem (hl j mem_cons_self);have hadd:∀(b:Abs) (x:NM) (ps:List NM),Cf b.names ((b.add x ps).names)∧x∈(b.add x ps).names:=fun b x ps=>by
   have:∀(ps:List NM) (b:Abs) (y:NM),y∈b.names->y∈(ps.foldl (Abs.link x) b).names:=fun ps=>by
    induction ps with
    |nil=>exact fun b y h=>h
    |cons p ps ih=>exact fun b y h=>ih _ y (I6 h)
   exact⟨fun y hy=>this ps _ y (I6 hy),this ps _ x (I5 b x)⟩
  have hfold:∀(ps:List NM) (b:Abs),b.Inv (js.map (·.1))->Cf ps (js.map (·.1))->(ps.foldl (fun a q=>a.add j.1 [q]) b).Inv (js.map (·.1))∧∀y∈b.names,y∈(ps.foldl (fun a q=>a.add j.1 [q]) b).names:=fun ps=>by
   induction ps with
   |nil=>exact fun b h Z=>⟨h,fun Z m=>m⟩
   |cons p ps ih=>
    intro b h hp;refine BL (ih (b.add j.1 [p]) (LI h hj fun q m=>by rw[AU m];exact hp p mem_cons_self) fun q m=>hp q (mem_cons_of_mem _ m)) fun h1 h2=>?_;exact⟨h1,fun y m=>h2 y ((hadd b j.1 [p]).1 y m)⟩
  refine BL (hfold (Bd js j) (a.add j.1 []) (LI h hj fun p m=>BK m) (Ih js j)) fun h1 h2=>?_;refine CZ (JS (a:=Abs.job js a j) h1 fun q m=>hl q (mem_cons_of_mem _ m)) fun h3 h4 h5=>?_;refine⟨h3,fun x m=>h4 x (h2 x ((hadd a j.1 []).1 x m)),fun q m=>?_⟩;rcases BF m with rfl|m
  ·exact h4 _ (h2 _ (hadd a q.1 []).2)
  ·exact h5 q m
theorem Ti(js:NJ):(Abs.all js).Inv (js.map (·.1))∧∀x,x∈(Abs.all js).names↔x∈js.map (·.1):=by
 refine CZ (JS (js:=js) js (a:=Abs.empty) ⟨.nil,(fun x m=>BK m),(fun x m=>BK m)⟩ fun j m=>m) fun h1 Z h3=>?_;refine⟨h1,fun x=>⟨h1.sub x,fun m=>?_⟩⟩;refine Ad (Ct m) fun j hj x3=>?_;subst x3;exact h3 j hj
theorem PQ{js:NJ}(nd:(js.map (·.1)).Nodup){x p:NM}:(x,p)∈HO js↔∃j∈js,j.1=x∧p∈Bd js j:=by
 unfold HO;rw[mem_flatMap];constructor
 ·rintro ⟨j,hj,h⟩
  refine Ad (Ct h) fun q hq e=>?_;injection e with e1 e2;exact⟨j,hj,e1,e2▸hq⟩
 ·rintro ⟨j,hj,rfl,hp⟩
  exact⟨j,hj,mem_map.mpr ⟨p,hp,rfl⟩⟩
theorem EO{α β:Type}{f:α->β}(hf:∀a b,f a=f b->a=b):∀{l:List α},l.Nodup->(l.map f).Nodup:=by
 intro l
 induction l with
 |nil=>
  intro Z;exact .nil
 |cons a l EO=>
  intro h;have h:=nodup_cons.mp h;exact nodup_cons.mpr ⟨fun m=>by refine Ad (Ct m) fun b hb e=>?_;exact h.1 (hf _ _ e▸hb),EO h.2⟩
theorem Fz{α:Type}{p:α->Bool}{l:List α}(h:l.Nodup):(l.filter p).Nodup:=List.Nodup.sublist List.filter_sublist h
theorem MB:∀{js:NJ},(js.map (·.1)).Nodup->(HO js).Nodup:=fun{js} nd=>by
 have:∀(l:NJ),(l.map (·.1)).Nodup->(l.flatMap (I7 js)).Nodup:=fun l=>by
  induction l with
  |nil=>exact fun Z=>.nil
  |cons j l ih=>
   intro h;have h:=nodup_cons.mp h;rw[flatMap_cons];refine nodup_append.mpr ⟨EO (fun a b e=>by injection e) (Fz nd),ih h.2,fun x hx y hy e=>?_⟩;refine Ad (Ct hx) fun q Z x3=>?_;subst x3;refine Ad (mem_flatMap.mp hy) fun j' hj' hy=>?_;refine Ad (Ct hy) fun q' Z x3=>?_;subst x3;injection e with e1 e2;refine h.1 ?_;show j.1∈_;rw[e1];exact mem_map_of_mem hj'
 exact this js nd
noncomputable def MK (E:Ce) (c:List NM) (y:NM):Nat:=(E.filter fun e=>e.1==y && !decide (e.2∈c)).length
theorem OE(E:Ce)(y:NM):MK E [] y=R4 E y:=by
 unfold MK R4
 congr 1
 exact filter_congr fun e Z=>by simp
theorem lef_zero{E:Ce}{c:List NM}{y:NM}:MK E c y=0↔∀p,(y,p)∈E->p∈c:=by
 unfold MK;rw[List.length_eq_zero_iff,filter_eq_nil_iff];constructor
 ·intro h p hp
  have:=h (y,p) hp;simpa using this
 ·rintro h ⟨a,b⟩ he q
  simp at q;refine BL q fun x1 x2=>?_;try clear q;revert x2;intro q;subst x1
  exact q (h b he)
theorem TL(a b:NM)(E:Ce)(c:List NM)(y:NM):MK ((a,b)::E) c y=(if a=y∧b∉c then 1 else 0)+MK E c y:=by
 unfold MK
 by_cases q:a=y∧b∉c
 ·rw[List.filter_cons_of_pos (by simpa using q),if_pos q,length_cons,add_comm]
 ·rw[List.filter_cons_of_neg (by simpa using q),if_neg q,zero_add]
theorem Tj{x:NM}{c:List NM}(hx:x∉c)(y:NM){E:Ce}(h:E.Nodup):MK E (c++[x]) y+(if(y,x)∈E then 1 else 0)=MK E c y:=by
 induction E with
 |nil=>rfl
 |cons p E ih=>
  rcases p with ⟨a,b⟩;have h:=nodup_cons.mp h;have ih:=ih h.2;rw[TL,TL]
  by_cases q:(a,b)=(y,x)
  ·rw[←q] at ih ⊢
   injection q with q1 q2;rw[if_neg h.1] at ih;rw[if_neg (fun z=>z.2 (q2▸mem_append_right _ mem_cons_self)),if_pos mem_cons_self,if_pos ⟨q1,q2▸hx⟩,zero_add,add_comm];exact congrArg (1+ ·) ih
  ·have e2:((y,x)∈(a,b)::E)=((y,x)∈E):=propext (mem_cons.trans (or_iff_right fun e=>q e.symm))
   have e3:(a=y∧b∉c++[x])=(a=y∧b∉c):=propext (and_congr_right fun hy=>not_congr (mem_append.trans (or_iff_left fun m=>q (by rw[hy,AU m]))));simp only[e2,e3];rw[add_assoc,ih]
theorem mem_suc{E:Ce}{x y:NM}:y∈EN E x↔(y,x)∈E:=by
 unfold EN;rw[mem_map];constructor
 ·rintro ⟨⟨a,b⟩,h,rfl⟩
  have h:=mem_filter.mp h;have:b=x:=by simpa using h.2
  exact this▸h.1
 ·exact fun h=>⟨(y,x),mem_filter.mpr ⟨h,by simp⟩,rfl⟩
theorem GD{x:NM}:∀{E:Ce},E.Nodup->(EN E x).Nodup:=by
 intro E
 induction E with
 |nil=>
  intro Z;exact .nil
 |cons hd0 E GD=>
  rcases hd0 with ⟨a,b⟩;intro h;have h:=nodup_cons.mp h;have ih:=GD h.2
  by_cases q:b=x
  ·have e:EN ((a,b)::E) x=a::EN E x:=by unfold EN;rw[filter_cons,if_pos (by exact beq_iff_eq.mpr q)];rfl
   rw[e];exact nodup_cons.mpr ⟨fun m=>h.1 (by rw[q];exact mem_suc.mp m),ih⟩
  ·have e:EN ((a,b)::E) x=EN E x:=by unfold EN;rw[filter_cons,if_neg (by simpa using q)]
   rw[e];exact ih
theorem RD(r:Rep)(z y:NM):(r.dec z).np y=if y=z then r.np z - 1 else r.np y:=rfl
theorem LJ:∀(ys:List NM) (r:Rep),ys.Nodup->∀y,(r.decs ys).np y=if y∈ys then r.np y - 1 else r.np y:=by
 intro ys
 induction ys with
 |nil=>
  intro r Z y;rw[if_neg (BK)];rfl
 |cons z ys LJ=>
  intro r h y;have h:=nodup_cons.mp h;have:=LJ (r.dec z) h.2 y;show((r.dec z).decs ys).np y=_;rw[this,RD]
  by_cases e:y=z
  ·subst e
   rw[if_neg h.1,if_pos rfl,if_pos mem_cons_self]
  ·by_cases m:y∈ys
   ·rw[if_pos m,if_neg e,if_pos (mem_cons_of_mem _ m)]
   ·rw[if_neg m,if_neg e,if_neg (fun q=>m ((BF q).resolve_left e))]
theorem JT:∀(ys:List NM) (r:Rep) (m:List NM),ys.Nodup->r.ready=some m->(r.decs ys).ready=some (m++ys.filter fun y=>r.np y - 1==0):=by
 intro ys
 induction ys with
 |nil=>
  intro r m Z h;rw[List.filter_nil,append_nil];exact h
 |cons z ys JT=>
  intro r m nd h;have nd:=nodup_cons.mp nd;show((r.dec z).decs ys).ready=_;have h1:(r.dec z).ready=some (if r.np z - 1=0 then m++[z] else m):=by
   show(if r.np z - 1=0 then r.ready.map (·++[z]) else r.ready)=_;rw[h];split<;> rfl
  rw[JT (r.dec z) _ nd.2 h1];have e1:(ys.filter fun y=>(r.dec z).np y - 1==0)=ys.filter fun y=>r.np y - 1==0:=filter_congr fun y hy=>by
   have hne:y≠z:=fun e=>nd.1 (by rw[←e];exact hy);rw[RD,if_neg hne]
  rw[e1,filter_cons]
  by_cases q:r.np z - 1=0
  ·rw[if_pos q,if_pos (by exact decide_eq_true q),append_assoc];rfl
  ·rw[if_neg q,if_neg (by simpa using q)]
structure Mid(N:List NM)(E:Ce)(come l d:List NM)(r:Rep):Prop where
 names:r.names=N
 succ:∀p,r.succ p=EN E p
 npl:∀y∈l,y∉d->r.np y= -1
 npo:∀y,y∉come->y∉l->r.np y=(MK E (come++d) y:Int)
 rdy:∃R,r.ready=some R∧R.Nodup∧∀y,y∈R↔y∈N∧y∉come∧y∉l∧MK E (come++d) y=0
 pf:r.fin+l.length=r.passed+d.length
 clo:∀y,y∈come∨y∈l->∀p,(y,p)∈E->p∈come
section
variable{N:List NM}{E:Ce}{come l d:List NM}{r:Rep}
theorem Tk(h:Mid N E come [] [] r)(hl:r.ready=some l):Mid N E come l [] ((r.got l).got []):=by
 refine Dz h.rdy fun R hR nd hm=>?_;rw[hl] at hR;injection hR with hR;subst hR;have np:∀y,((r.got l).got []).np y=if y∈l then -1 else r.np y:=fun y=>by
  show(if y∈([]:List NM) then (-1:Int) else if y∈l then -1 else r.np y)=_;rw[if_neg (BK)]
 refine⟨h.names,h.succ,(fun y hy Z=>by rw[np,if_pos hy]),(fun y h1 h2=>by rw[np,if_neg h2];exact h.npo y h1 BK),⟨[],rfl,.nil,fun y=>⟨(BK),fun q=>?_⟩⟩,?_,?_⟩
 ·exact absurd ((hm y).mpr ⟨q.1,q.2.1,(BK),q.2.2.2⟩) q.2.2.1
 ·have:=h.pf
  show r.fin+l.length=r.passed+l.length+0+0;simp at this
  lia
 ·rintro y (hy|hy) p hp
  ·exact h.clo y (.inl hy) p hp
  ·have:=lef_zero.mp ((hm y).mp hy).2.2.2 p hp
   rwa [append_nil] at this
theorem RE{x:NM}(nd:E.Nodup)(hE:∀e∈E,e.1∈N∧e.2∈N)(h:Mid N E come l d r)(hx:x∈l)(hd:x∉d)(hc:x∉come):Mid N E come l (d++[x]) (r.done x):=by
 revert nd hE h hx hd hc;revert x;revert d r;revert N E come l;refine no_implicit_lambda% (JZ (by exact default) ?_);generalize Iq _ _=t9;generalize t9.1.1=N,t9.1.2=E,t9.2.1=come,t9.2.2=l;refine no_implicit_lambda% (I8 (by exact(default,w1)) ?_);generalize Ip _ _=t9;generalize t9.1=d,t9.2=r;refine no_implicit_lambda% (Io (default) ?_);generalize HR _ _=x;intro nd hE h hx hd hc;have sd:(r.succ x).Nodup:=by rw[h.succ];exact GD nd
 have hs:∀y,y∈r.succ x↔(y,x)∈E:=fun y=>by rw[h.succ];exact mem_suc
 have hout:∀y,y∈come∨y∈l->y∉r.succ x:=fun y hy m=>hc (h.clo y hy x ((hs y).mp m));refine Dz h.rdy fun R hR rn hm=>?_;refine JY (GC (r.succ x) (r.putNp x (-2))) fun ea en es ep ef=>?_;have np:∀y,y≠x->(r.done x).np y=if y∈r.succ x then r.np y - 1 else r.np y:=fun y hy=>by
  show((r.putNp x (-2)).decs (r.succ x)).np y=_;rw[LJ _ _ sd];show(if y∈r.succ x then (if y=x then (-2:Int) else r.np y) - 1 else if y=x then -2 else r.np y)=_;rw[if_neg hy]
 have hxc:x∉come++d:=fun m=>(Cx m).elim hc hd;have la:=fun y=>Tj hxc y nd;have as:come++(d++[x])=come++d++[x]:=(append_assoc ..).symm;have rd:(r.done x).ready=some (R++(r.succ x).filter fun y=>(r.putNp x (-2)).np y - 1==0):=JT (r.succ x) (r.putNp x (-2)) R sd hR;refine⟨en.trans h.names,fun p=>(congrFun es p).trans (h.succ p),fun y hy hn=>?_,fun y h1 h2=>?_,⟨_,rd,?_,fun y=>?_⟩,?_,h.clo⟩
 ·have hyx:y≠x:=fun e=>hn (e▸mem_append_right _ (.head _))
  rw[np y hyx,if_neg (hout y (.inr hy))];exact h.npl y hy fun m=>hn (mem_append_left _ m)
 ·have hyx:y≠x:=fun e=>h2 (e▸hx)
  have:=la y;rw[np y hyx,h.npo y h1 h2,as]
  by_cases q:(y,x)∈E
  ·rw[if_pos q] at this
   rw[if_pos ((hs y).mpr q)];lia
  ·rw[if_neg q] at this
   rw[if_neg (fun m=>q ((hs y).mp m))];lia
 ·refine nodup_append.mpr ⟨rn,Fz sd,fun a ha b hb e=>?_⟩
  subst e;have:=lef_zero.mp ((hm a).mp ha).2.2.2 x ((hs a).mp (mem_filter.mp hb).1);exact hxc this
 ·rw[mem_append,mem_filter,hm,as]
  have:=la y
  by_cases hyl:y∈come∨y∈l
  ·constructor
   ·rintro (q|q)
    ·rcases hyl with z|z
     ·exact absurd z q.2.1
     ·exact absurd z q.2.2.1
    ·exact absurd q.1 (hout y hyl)
   ·rintro q
    rcases hyl with z|z
    ·exact absurd z q.2.1
    ·exact absurd z q.2.2.1
  ·have h1:y∉come:=fun m=>hyl (.inl m)
   have h2:y∉l:=fun m=>hyl (.inr m);have hyx:y≠x:=fun e=>h2 (e▸hx);have np':(r.putNp x (-2)).np y=(MK E (come++d) y:Int):=by
    show(if y=x then (-2:Int) else r.np y)=_;rw[if_neg hyx];exact h.npo y h1 h2
   rw[np',hs]
   by_cases q:(y,x)∈E
   ·rw[if_pos q] at this
    constructor
    ·rintro (z|z)
     ·have z4:=z.2.2.2;lia
     ·have z2:((MK E (come++d) y:Int) - 1==0)=true:=z.2
      have z2:(MK E (come++d) y:Int) - 1=0:=of_decide_eq_true z2;exact⟨(hE _ q).1,h1,h2,by lia⟩
    ·rintro z
     refine .inr ⟨q,?_⟩;have z4:=z.2.2.2;have:(MK E (come++d) y:Int) - 1=0:=by lia
     exact decide_eq_true this
   ·rw[if_neg q] at this
    constructor
    ·rintro (z|z)
     ·exact⟨z.1,h1,h2,by have:=z.2.2.2;lia⟩
     ·exact absurd z.1 q
    ·rintro z
     exact .inl ⟨z.1,h1,h2,by have:=z.2.2.2;lia⟩
 ·have:=h.pf
  have e1:(r.done x).fin=r.fin+1:=rfl;have e2:(r.done x).passed=r.passed:=ep;rw[e1,e2,length_append];simp
  lia
theorem Ij(nd:E.Nodup)(hE:∀e∈E,e.1∈N∧e.2∈N)(h:Mid N E come l [] r)(ln:l.Nodup)(hc:∀x∈l,x∉come):∀i,i≤l.length->Mid N E come l (l.take i) ((l.take i).foldl Rep.done r):=by
 intro i
 induction i with
 |zero=>
  intro Z;exact h
 |succ i Ij=>
  intro hi;have ih:=Ij (le_of_lt hi);have hx:l[i]? =some l[i]:=getElem?_eq_getElem hi;have htk:l.take (i+1)=l.take i++[l[i]]:=by rw[take_add_one,hx];rfl
  rw[htk,foldl_append];have hm:l[i]∈l:=getElem_mem hi;refine RE nd hE ih hm (fun m=>?_) (hc _ hm);have ln':=ln;rw[←take_append_drop (i+1) l,htk] at ln';have:=(nodup_append.mp (nodup_append.mp ln').1).2.2 _ m _ (mem_singleton.mpr rfl);exact this rfl
theorem RF(h:Mid N E come l l r)(hz:r.fin=r.passed):Mid N E (come++l) [] [] r:=by
 refine Dz h.rdy fun R h1 h2 h3=>?_;refine⟨h.names,h.succ,(fun y m=>BK m),fun y h1 Z=>?_,⟨R,h1,h2,fun y=>?_⟩,by simpa using hz,fun y hy p hp=>?_⟩
 ·rw[append_nil]
  exact h.npo y (fun m=>h1 (mem_append_left _ m)) fun m=>h1 (mem_append_right _ m)
 ·rw[h3,append_nil,mem_append]
  constructor
  ·rintro ⟨a,b,c,e⟩;exact⟨a,fun m=>m.elim b c,(BK),e⟩
  ·rintro ⟨a,b,c,e⟩;exact⟨a,fun m=>b (.inl m),fun m=>b (.inr m),e⟩
 ·rcases hy with hy|hy
  ·exact mem_append_left _ (h.clo y (Cx hy) p hp)
  ·exact BK hy
end
theorem NT{α:Type}[DecidableEq α]{a b:List α}(ha:a.Nodup)(hb:b.Nodup)(h:∀x,x∈a↔x∈b):a.Perm b:=(List.perm_ext_iff_of_nodup ha hb).mpr h
theorem MC{a b:List (List Nat)}(h:a.Perm b):Db a=Db b:=HA ((CC a).trans h) (Hz a)
theorem J8{ns:NN}{c c':List NM}(h:∀x,x∈c↔x∈c'):As ns c=As ns c':=by
 unfold As;simp only[h]
theorem NU{ns:NN}{c c':List NM}(h:∀x,x∈c↔x∈c'):Internal.left ns c=Internal.left ns c':=by
 unfold Internal.left;simp only[h]
theorem Gn{ns:NN}:∀(k:Nat) {c c':List NM},(∀x,x∈c↔x∈c')->Er ns k c=Er ns k c':=by
 intro k
 induction k with
 |zero=>
  intro Z Z Z;exact rfl
 |succ k Gn=>
  intro c c' h;rw[Fr,Fr,J8 h,Gn (c:=c++As ns c') (c':=c'++As ns c') fun x=>by rw[mem_append,mem_append,h]]
def Kv(N:List NM)(E:Ce)(ns:NN)(m:Nat)(r:Rep)(rs:List (List NM)):Prop:=
 ∃come:List NM,come.Nodup∧Cf come N∧Mid N E come [] [] r∧m+come.length=N.length∧rs.length≤come.length∧(rs.map List.length).sum=come.length∧rs++Er ns (Internal.left ns come+1) come=Lf ns∧
  ∃lv:NM->Nat,(∀y∈come,lv y<rs.length)∧∀y∈come,∀p,(y,p)∈E->lv p<lv y
structure EdgesOk(js:NJ)(N:List NM)(E:Ce):Prop where
 nd:N.Nodup
 mem:∀x,x∈N↔x∈js.map (·.1)
 en:E.Nodup
 ends:∀e∈E,e.1∈N∧e.2∈N
 edge:∀j∈js,∀p,(j.1,p)∈E↔p∈Bd js j
section
variable{js:NJ}{N:List NM}{E:Ce}{r:Rep}{rs:List (List NM)}{m:Nat}
theorem EdgesOk.len(h:EdgesOk js N E)(ok:JobsOk js):N.length=js.length:=by
 have h1:=Bx h.nd fun x m=>(h.mem x).mp m;have h2:=Bx ok.nodup fun x m=>(h.mem x).mpr m;rw[length_map] at h1 h2;exact le_antisymm h1 h2
theorem KQ(h:EdgesOk js N E)(ok:JobsOk js){come l:List NM}(M:Mid N E come [] [] r)(hl:r.ready=some l):As (BU js) come=Db l:=by
 refine Dz M.rdy fun R hR rn hm=>?_;rw[hl] at hR;injection hR with hR;subst hR;unfold As;refine MC (NT ?_ rn fun x=>?_)
 ·unfold BU
  rw[List.filter_map,map_map];exact List.Nodup.sublist (List.Sublist.map _ List.filter_sublist) ok.nodup
 ·rw[hm,append_nil,lef_zero,h.mem,mem_map]
  constructor
  ·rintro ⟨p,hp,rfl⟩
   have hp:=mem_filter.mp hp;refine Ad (Ct hp.1) fun j hj x3=>?_;subst x3;refine BL ((Bool.and_eq_true ..).mp hp.2) fun h1 h2=>?_;refine⟨mem_map_of_mem hj,by simpa using h1,(BK),fun q hq=>?_⟩;have h2:=List.isEmpty_iff.mp h2;have h2:=filter_eq_nil_iff.mp h2 q ((h.edge j hj q).mp hq);simpa using h2
  ·rintro ⟨h1,h2,_,h3⟩
   refine Ad (Ct h1) fun j hj x3=>?_;subst x3;refine⟨(j.1,Bd js j),mem_filter.mpr ⟨mem_map.mpr ⟨j,hj,rfl⟩,?_⟩,rfl⟩;rw[Bool.and_eq_true];refine⟨by simpa using h2,List.isEmpty_iff.mpr (filter_eq_nil_iff.mpr fun q hq=>?_)⟩;have:=h3 q ((h.edge j hj q).mpr hq);simpa using this
theorem U9(h:EdgesOk js N E)(ok:JobsOk js):TurnsOk (Kv N E (BU js)) where
 step:=by
  rintro m r rs ⟨come,cn,cs,M,hm,hr,hsum,hdue,lv,lv1,lv2⟩
  refine Dz M.rdy fun l hl ln hmem=>?_;have hN:N.length≤8:=by rw[h.len ok];exact ok.len
  have hlN:Cf l N:=fun x m=>((hmem x).mp m).1;have hl8:l.length≤8:=le_trans (Bx ln hlN) hN;have hc8:=Bx cn cs;have hlc:∀x∈l,x∉come:=fun x m=>((hmem x).mp m).2.1;have pf:=M.pf;have pf:r.fin=r.passed:=by simpa using pf
  refine⟨l,hl,hl8,by lia,fun x m=>by rw[M.names];exact hlN x m,?_,fun hne=>?_⟩
  ·have e:decide (r.fin<r.passed)=false:=decide_eq_false (by lia)
   rw[e];rfl
  have G:=Tk M hl;have D:=Ij h.en h.ends G ln hlc;refine⟨fun i x hx=>?_,?_⟩
  ·have hi:i<l.length:=by
    rcases lt_or_ge i l.length with z|z
    ·exact z
    ·rw[getElem?_eq_none z] at hx;exact CE hx
   have Di:=D i (le_of_lt hi);have hxl:x∈l:=mem_of_getElem? hx;have hxd:x∉l.take i:=fun m=>by
    have ln':=ln;have htk:l.take (i+1)=l.take i++[x]:=by rw[take_add_one,hx];rfl
    rw[←take_append_drop (i+1) l,htk] at ln';exact(nodup_append.mp (nodup_append.mp ln').1).2.2 _ m _ (mem_singleton.mpr rfl) rfl
   have hs:Cf (r.succ x) N:=fun y m=>by
    rw[M.succ] at m;exact(h.ends _ (mem_suc.mp m)).1
   have sn:(r.succ x).Nodup:=by rw[M.succ];exact GD h.en
   have hs8:=Bx sn hs;refine⟨Di.npl x hxl hxd,fun y m=>by rw[M.names];exact hs y m,?_⟩;refine Dz Di.rdy fun R hR rn hRm=>?_;have hR8:=Bx rn fun y m=>((hRm y).mp m).1;exact⟨R,hR,by lia⟩
  ·have Dl:=D l.length (le_refl _)
   rw[take_length] at Dl;have pf2:(r.turn l).fin=(r.turn l).passed:=by
    have:=Dl.pf;show(l.foldl Rep.done ((r.got l).got [])).fin=(l.foldl Rep.done ((r.got l).got [])).passed
    lia
   have T:Mid N E (come++l) [] [] (r.turn l):=RF Dl pf2;have cn':(come++l).Nodup:=nodup_append.mpr ⟨cn,ln,fun a ha b hb e=>hlc b hb (e▸ha)⟩;have cs':Cf (come++l) N:=fun y m=>(Cx m).elim (cs y) (hlN y);have hc8':=Bx cn' cs';have lpos:0<l.length:=length_pos_iff.mpr hne;have ds:=KQ h ok M hl;have dne:As (BU js) come≠[]:=fun e=>by
    rw[e] at ds;have:=(CC l).length_eq;rw[←ds] at this;simp at this
    lia
   have hcongr:∀x,x∈come++As (BU js) come↔x∈come++l:=fun x=>by
    rw[mem_append,mem_append,ds,(CC l).mem_iff]
   have hlt:=Lg dne;refine⟨m - l.length,?_,come++l,cn',cs',T,?_,?_,?_,?_,fun y=>if y∈come then lv y else rs.length,fun y hy=>?_,fun y hy p hp=>?_⟩
   ·rw[length_append] at hc8';exact Vl ‹_› hc8' lpos
   ·rw[length_append] at hc8' ⊢;exact Vm ‹_› hc8'
   ·rw[length_append,length_append];simp;lia
   ·rw[map_append,sum_append,hsum,length_append]
    have:=(CC l).length_eq;exact congrArg _ this
   ·rw[Fr,if_neg dne] at hdue
    rw[←hdue,append_assoc,ds]
    congr 1
    show Db l::Er _ _ _=Db l::Er _ _ _
    congr 1
    rw[←ds,←Gn _ hcongr];rw[←NU hcongr];exact Fs _ _ _ (lt_succ_self _) (by assumption)
   ·rw[length_append]
    show(if y∈come then lv y else rs.length)<rs.length+1;split
    ·next q=>have:=lv1 y q;exact le_succ_of_le this
    ·exact lt_succ_self _
   ·have hpc:p∈come:=by
     rcases Cx hy with hy|hy
     ·exact M.clo y (.inl hy) p hp
     ·have:=lef_zero.mp ((hmem y).mp hy).2.2.2 p hp
      rwa [append_nil] at this
    show(if p∈come then lv p else rs.length)<if y∈come then lv y else rs.length;rw[if_pos hpc];split
    ·next q=>exact lv2 y q p hp
    ·exact lv1 p hpc
theorem RG{a:Addr}(h:EdgesOk js N E)(ok:JobsOk js)(hn:r.names=N)(hnp:∀x,r.np x=(R4 E x:Int))(hs:∀p,r.succ p=EN E p)(h1:r.passed=0)(h2:r.fin=0):Kv N E (BU js) N.length (r.begin a) []:=by
 refine⟨[],.nil,(fun y m=>BK m),⟨hn,hs,(fun y m=>BK m),fun y Z Z=>?_,⟨_,rfl,?_,fun y=>?_⟩,?_,fun y hy=>?_⟩,rfl,le_refl _,rfl,?_,fun Z=>0,(fun y m=>BK m),fun y m=>BK m⟩
 ·show r.np y=_
  rw[hnp,append_nil,OE]
 ·show(r.names.filter _).Nodup
  rw[hn];exact Fz h.nd
 ·show y∈r.names.filter (fun x=>r.np x==0)↔_
  rw[mem_filter,hn,append_nil,OE,hnp];constructor
  ·rintro ⟨a,b⟩
   exact⟨a,(BK),(BK),by simpa using b⟩
  ·rintro ⟨a,_,_,b⟩
   exact⟨a,by simpa using b⟩
 ·show r.fin+0=r.passed+0
  rw[h1,h2]
 ·rcases hy with hy|hy<;> exact BK hy
 ·have h1:Internal.left (BU js) []≤(BU js).length:=length_filter_le ..
  rw[nil_append,Lf];exact Fs _ _ _ (lt_succ_self _) (by lia)
theorem Ik{succ:NM->List NM}:∀{dn:List NM},SW succ dn->∃lv:NM->Nat,∀x∈dn,∀y∈succ x,y∈dn∧lv x<lv y:=by
 intro dn
 induction dn with
 |nil=>
  intro Z;exact⟨fun Z=>0,fun x m=>BK m⟩
 |cons x dn Ik=>
  intro z0;rcases z0 with ⟨h1,h2⟩;refine ex1 (Ik h2) fun lv h=>?_;refine⟨fun z=>if z∈dn then lv z+1 else 0,fun z hz y hy=>?_⟩
  by_cases q:z∈dn
  ·refine BL (h z q y hy) fun a b=>?_
   refine⟨mem_cons_of_mem _ a,?_⟩;show(if z∈dn then lv z+1 else 0)<if y∈dn then lv y+1 else 0;rw[if_pos q,if_pos a];lia
  ·have e:=(BF hz).resolve_right q
   subst e;have a:=h1 y hy;refine⟨mem_cons_of_mem _ a,?_⟩;show(if z∈dn then lv z+1 else 0)<if y∈dn then lv y+1 else 0;rw[if_neg q,if_pos a];exact succ_pos _
theorem Uu(h:EdgesOk js N E)(ok:JobsOk js)(hk:Kv N E (BU js) m r rs)(hr:r.ready=some []):rs=Lf (BU js)∧(rs.length≤js.length∧(rs.map List.length).sum≤js.length)∧(IL (EN E) N->(rs.map List.length).sum=js.length)∧(Dx (EN E) N->(rs.map List.length).sum<js.length):=by
 revert h ok hk hr;revert rs m;revert js N E r;refine no_implicit_lambda% (JZ (by exact(default,(default,w1))) ?_);generalize Iq _ _=t9;generalize t9.1.1=js,t9.1.2=N,t9.2.1=E,t9.2.2=r;refine no_implicit_lambda% (I8 (by exact default) ?_);generalize Ip _ _=t9;generalize t9.1=rs,t9.2=m;intro h ok hk hr;obtain⟨come,cn,cs,M,hm,hrl,hsum,hdue,lv,lv1,lv2⟩:=hk;have ds:=KQ h ok M hr;have e0:Db ([]:List NM)=[]:=List.Perm.eq_nil (CC []);rw[e0] at ds;rw[Fr,if_pos ds,append_nil] at hdue;have hle:=Bx cn cs;have hNl:=h.len ok;refine⟨hdue,⟨by lia,by lia⟩,fun ha=>?_,fun hg=>?_⟩
 ·refine Ad ha fun dn hd ht=>?_
  refine ex1 (Ik ht) fun rk hrk=>?_;refine Dz M.rdy fun R hR Z hmem=>?_;rw[hr] at hR;injection hR with hR;subst hR;have all:∀(k:Nat) (y:NM),rk y=k->y∈N->y∈come:=fun k=>by
   induction k using Nat.strongRecOn with
   |ind k ih=>
    intro y hy hyN;rcases Classical.em (y∈come) with q|q
    ·exact q
    exfalso;have:MK E come y≠0:=fun z=>by
     have:=(hmem y).mpr ⟨hyN,q,(BK),by rw[append_nil];exact z⟩;exact BK this
    refine this (lef_zero.mpr fun p hp=>?_);have hpN:=(h.ends _ hp).2;have:=(hrk p (hd p hpN) y (mem_suc.mpr hp)).2;exact ih (rk p) (Nat.lt_of_lt_of_eq this hy) p rfl hpN
  have:=Bx h.nd fun y m=>all _ y rfl m;rw[hsum,←h.len ok];exact le_antisymm hle this
 ·rw[hsum,←h.len ok]
  rcases lt_or_ge come.length N.length with q|q
  ·exact q
  exfalso;have all:Cf N come:=fun y hy=>by
   rcases Classical.em (y∈come) with z|z
   ·exact z
   have:=Bx (l:=y::come) (m:=N) (nodup_cons.mpr ⟨z,cn⟩) fun x m=>(BF m).elim (fun e=>e▸hy) (cs x);rw[length_cons] at this
   lia
  refine hg lv fun x hx y hy=>?_;have he:=mem_suc.mp hy;exact lv2 y (all y (h.ends _ he).1) x he
end
theorem RH{js:NJ}(ok:JobsOk js):EdgesOk js (Abs.all js).names (HO js):=by
 refine BL (Ti js) fun h1 h2=>?_;refine⟨h1.nd,h2,MB ok.nodup,(OD js).ends,fun j hj p=>?_⟩;rw[PQ ok.nodup];constructor
 ·rintro ⟨j',hj',e,hp⟩
  have:j'=j:=by
   have nd:=ok.nodup;clear hp h1 h2;have aux:∀(l:NJ),(l.map (·.1)).Nodup->j∈l->j'∈l->j'=j:=fun l=>by
    induction l with
    |nil=>exact fun Z m=>BK m
    |cons a l ih=>
     intro h m m';have h:=nodup_cons.mp h;rcases BF m with rfl|m1<;> rcases BF m' with rfl|m2
     ·rfl
     ·exact absurd (show j.1∈l.map (·.1) by rw[←e];exact mem_map_of_mem m2) h.1
     ·exact absurd (show j'.1∈l.map (·.1) by rw[e];exact mem_map_of_mem m1) h.1
     ·exact ih h.2 m1 m2
   exact aux js nd hj hj'
  exact this▸hp
 ·exact fun hp=>⟨j,hj,rfl,hp⟩
theorem LK{js:NJ}(ok:JobsOk js){r:Rep}{a:Addr}(habs:r.abs=Abs.all js)(h1:r.passed=0)(h2:r.fin=0):
  ∃Kw m0,TurnsOk Kw∧Kw m0 (r.begin a) []∧∀m r' rs,Kw m r' rs->r'.ready=some []->rs=Lf (BU js)∧(rs.length≤js.length∧(rs.map List.length).sum≤js.length)∧(IL r.succ r.names->(rs.map List.length).sum=js.length)∧(Dx r.succ r.names->(rs.map List.length).sum<js.length):=by
 have E:=OD js;have h:=RH ok;have hs:r.succ=EN (HO js):=by
  funext p
  have:r.abs.succ p=EN (HO js) p:=by rw[habs];exact E.succ p
  exact this
 have hn:r.names=(Abs.all js).names:=congrArg Abs.names habs;refine⟨Kv (Abs.all js).names (HO js) (BU js),_,U9 h ok,RG h ok hn (fun x=>?_) (fun p=>by rw[hs]) h1 h2,fun m r' rs hk hr=>?_⟩
 ·have:r.abs.np x=(R4 (HO js) x:Int):=by rw[habs];exact E.np x
  exact this
 ·rw[hs,hn];exact Uu h ok hk hr
section
variable{K:Frag}
theorem Tl{a k:Int}(h0:0≤k)(hz:(Builtin.Int.intBits a:Int)*k≤2 ^ 27):Bm V w H0 n (binaryOp .Pow) (.d (.int a)) (.d (.int k)) (Rd (.int (a ^ k.toNat))):=by
 intro A s zy u v g B ra rb;refine ex1 (Ax ra) fun t x2=>?_;subst x2;refine ex1 (Ax rb) fun t' x2=>?_;subst x2;exact pow_int h0 hz (Pu.tok (BN _ _ _))
theorem MD{vs:List Value}{ss:List Str}(h:StrsAre vs ss):∃l:List (Str×Tok),vs=strValues l∧l.map (·.1)=ss:=by
 have f:=G7 (g:=default) h;have gen:∀{ds:List PyData} {vs:List Value},F2 (fun v d=>Rd d default v) vs ds->∀ss:List Str,ds=ss.map .str->∃l:List (Str×Tok),vs=strValues l∧l.map (·.1)=ss:=fun f=>by
  induction f with
  |nil=>intro ss e;cases ss with
   |nil=>exact⟨[],rfl,rfl⟩
   |cons=>exact Vz e
  |cons a b ih=>intro ss e;cases ss with
   |nil=>exact VA e
   |cons x ss=>
    injection e with e1 e2;rw[e1] at a;refine(AR a).elim fun t q=>(ih ss e2).elim fun l r=>⟨(x,t)::l,?_,?_⟩
    ·rw[q,r.1];rfl
    ·rw[map_cons,r.2]
 exact gen f ss rfl
theorem RI{arg:Expr}{pa pos pc:Pos}{k:Nat}{ss:List Str}{sep:Str}(ha:Am V w H0 n sc σ zx arg (.d (.list (ss.map .str))))(h1:Builtin.Str.tooLong (ss.toArray.foldl (·+ ·.length+sep.length) 0)=false)(h2:(Txt.join sep ss).length≤sizeLine)
  (hbase:∀zz,attributeBase (.Constant (.str sep) k pc) "join" zz (eval (.Constant (.str sep) k pc) zz)=eval (.Constant (.str sep) k pc) zz)(hline:(pa.endLine==pos.line)=true)(hs:∀zz,starEach [arg] zz=[(false,eval arg zz)]):
  Am V w H0 n sc σ zx (.Call (.Attribute (.Constant (.str sep) k pc) "join" pa) [arg] [] pos) (.d (.str (Txt.join sep ss))):=by
 intro A zz s zy g o F;refine Call_method1 (hbase _) (hs zz) hline (Constant_str ⟨"str","str.join",PySem.F.plainAttrs_str,PySem.F.slot_str_join,PySem.F.type_str_join,typeIs_str _ _ _,(fun a e=>by exact nomatch e),?_⟩);refine callWith_builtin rfl (evalArgs_plain (spliced_cons (Aq (ha A zz {s with toks:=s.toks+1} zy g o F) fun u s2 q2=>spliced_nil ?_)));refine Bh (CG q2.val) fun l vs x3 hl f=>?_;subst x3;refine Ad (MD (G6 f)) fun ps x2 e=>?_;subst x2;subst e;obtain⟨h',t',rfl,ex,_⟩:=q2;refine call_meets PySem.F.slot_str_join (typeIs_str _ _ _) PySem.F.entry_str_join (PySem.F.args_str_join_2 _ _) (meets_str_join_list _ _ _ ps h1) ⟨Bq (Bp _ _) hl,?_⟩;refine post_join (Q:=fun v s'=>wants (Pu s zy (Rd (.str (Txt.join sep (ps.map (·.1)))))) CO (.ok (.ret v)) s') ps ⟨h2,fun t k=>?_⟩;exact⟨h',k,rfl,ex,BO _ _ _⟩
theorem Tm{e1 e2 D:Expr}{pa pos dp p1 p2 p3 p4:Pos}{k1 k2 k3 k4:Nat}{c:Nat}(hsm:∃o,H0.get? mainGlobals=some o)(hc:AJ c)(h1:Am V w H0 n sc σ zx e1 (.d (.str (sg c))))(h2:Am V w H0 n sc σ zx e2 (.d (.str (sg c))))
  (hD:D=.Dict [some (.Constant (.str (S "*")) k1 p1),some (.Constant (.str (S "?")) k2 p2)] [.Constant .none k3 p3,.Constant (.str (S "any")) k4 p4] dp)(hbase:∀zz,attributeBase D "get" zz (eval D zz)=eval D zz)(hline:(pa.endLine==pos.line)=true)(hs:∀zz,starEach [e1,e2] zz=[(false,eval e1 zz),(false,eval e2 zz)]):
  Am V w H0 n sc σ zx (.Call (.Attribute D "get" pa) [e1,e2] [] pos) (.d (BD (D4 c))):=by
 intro A zz s zy g o F;refine Call_method2 (hbase zz) (hs zz) hline ?_;subst hD;refine wpAny_Dict_walk (knd:=DN V w) (by rfl) (by rfl) (by nofun) (by simp) ?_;refine pairTrees_cons_walk (Constant_str (Ag (pairTrees_cons_walk (Constant_str (Constant_str (pairTrees_nil_walk ?_))))));have hd0:(s.heap.push {cls:=.type "dict",data:=.dict #[]}).DictOf (DN V w) s.heap.objs.size []:=Heap.DictOf.new _;refine⟨[(S "*",.none),(S "?",.str (S "any") (s.toks+1+1))],⟨Ev _ _,rfl,Ev _ _,rfl,trivial⟩,hd0,fun h' hD hsb=>?_⟩;have ex:Ext s.heap h':=fun b ob eb=>AF hsb b ob (fun m=>lt_irrefl s.heap.objs.size (by have:=Heap.lt_size eb;rwa [AU m] at this)) (Heap.get?_push_of_some _ eb);have lo:(s.heap.objs.size==sysModules)=false:=KL (hm:=hsm) F.toBase;have F1:=F.ext ex;refine⟨"dict","dict.get",PySem.F.plainAttrs_dict,PySem.F.slot_dict_get,PySem.F.type_dict_get,hD.typeIs,hD.mapOf.noDict,?_⟩;refine callWith_builtin rfl (evalArgs_plain (spliced_cons (Aq (h1 A zz _ zy g o F1) fun u s2 q2=>?_)));have F2:=F1.ext q2.ext;refine spliced_cons (Aq (h2 A zz s2 zy g o F2) fun u2 s3 q3=>spliced_nil ?_);refine ex1 (AR q2.val) fun t x2=>?_;subst x2;refine ex1 (AR q3.val) fun t' x2=>?_;subst x2;have hD3:s3.heap.DictOf (DN V w) s.heap.objs.size _:=let⟨oo,es,ep,e,r⟩:=hD;⟨oo,es,ep,q3.ext _ _ (q2.ext _ _ e),r⟩;refine call_meetsIn PySem.F.slot_dict_get hD3.typeIs PySem.F.entry_dict_get (PySem.F.args_dict_get_3 _ _ _) (meets_dict_get_default (DN V w) _ (Ev (sg c) t) lo _) ⟨_,hD3.mapOf,?_⟩;show Pu s zy (Rd (BD (D4 c))) _ _;refine Pu.trans (P:=fun Z Z=>True) (a:=()) ⟨h',_,rfl,ex,trivial⟩ ((q2.trans q3).trans (Pu.tok ?_));rcases hc with rfl|rfl|rfl|rfl
 ·exact BO _ _ _
 ·exact BO _ _ _
 ·exact BO _ _ _
 ·exact⟨[],.none⟩
theorem ME{value:Expr}{pa pos p1 p2:Pos}{k1 k2:Nat}{x y z:Str}(hv:Am V w H0 n sc σ zx value (.d (.str x)))(hyz:(y==z)=false)(hb:x.length+(x.length+1)*z.length≤16777216)
  (hbase:∀zz,attributeBase value "replace" zz (eval value zz)=eval value zz)(hline:(pa.endLine==pos.line)=true):
  LP 1 V w H0 n sc σ zx (.Call (.Attribute value "replace" pa) [.Constant (.str y) k1 p1,.Constant (.str z) k2 p2] [] pos) (Rd (.str (Txt.replace x y z))):=by
 intro A zz s zy hj g o F;refine Call_method2 (hbase zz) rfl hline (Ah (Bv (k:=1) hj (hv A zz s zy g o F)) (fun v s₁ q=>?_) fun Z Z f=>f.elim);refine BL q fun hj1 x2=>?_;revert x2;intro q;refine ex1 (AR q.val) fun t x2=>?_;subst x2;refine⟨"str","str.replace",PySem.F.plainAttrs_str,PySem.F.slot_str_replace,PySem.F.type_str_replace,typeIs_str _ _ _,(fun a e=>by exact nomatch e),?_⟩;refine callWith_builtin rfl (evalArgs_plain (spliced_cons (Constant_str (spliced_cons (Constant_str (spliced_nil ?_))))));refine SC.replace (ne_of_gt hj1) (Nat.succ_ne_zero _) (ne_of_lt (lt_succ_self _)) hyz hb fun t' k=>?_;exact q.trans ⟨s₁.heap,k,rfl,Ext.refl _,BO _ _ _⟩
end
section
variable{K:Frag}{j:Nat}
theorem RJ{target iter:Expr}{x:Ent}{ds:List Ent}(hi:LP j V w H0 n sc σ zx iter (fun g v=>Means g v x))(h:DS V w H0 n x ds)(htg:Je target):TV j V w H0 n sc σ zx target iter ds:=by
 intro A zz s zy hj g o F;refine Aq (hi A zz s zy hj g o F) fun v s₁ q=>?_;refine Ah (h A s₁ zy v g (F.ext q.ext).toBase q.val) (fun it s2 q2=>?_) fun Z Z f=>f;obtain⟨h₁,t₁,rfl,ex1,_⟩:=q;obtain⟨I,fp,wr,St,h2,tk,a,rfl,c,S,d,e,f⟩:=q2;have fr:∀b∈wr,s.heap.get? b=none:=fun b hb=>by
  cases q:s.heap.get? b with
  |none=>rfl
  |some o=>have:=e b hb;rw[ex1 _ _ q] at this;exact E4 this
 exact⟨I,fp,wr,St,h2,tk,vis h₁ zy,a,rfl,ex1.trans c,fun zy' hw=>S.toT htg hw,d,fr,fun b hb=>⟨let⟨_,q⟩:=(f b hb).1;Heap.lt_size q,fun m=>(f b hb).2 m⟩,DQ c e⟩
theorem MF{elt:Expr}{xs:List Str}{b:List PyData}{d:PyData}(h:LP j V w H0 n sc σ zx elt (Rd d))(hz:b.length≤sizeLine):
  PZ j V w H0 n sc σ zx xs listK (fun zz acc=>do let _ ←call (.builtin "list.append") [acc,←eval elt zz]) b (b++[d]):=by
 intro A zz s zy D hj g o F hD hoff hK;refine Ac (Aq (h A zz s zy hj g o F) fun v s₁ q=>?_);obtain⟨h₁,t₁,rfl,ex,r⟩:=q;refine Ad hK fun vs hl f=>?_;refine Ac (wpAny_list_append (Bq ex hl) (fun h2 hl2 hs=>?_) (by rw[size_toArray,f.length];exact hz));refine Ag ?_;have k:=AF hs;have vk:Ext (vis h₁ zy) (vis h2 zy):=AW (fun a m=>by rw[AU m];exact hD) k;refine⟨h2,t₁,rfl,(ex.keep _).trans (k.more fun a m=>by rw[AU m];exact mem_cons_self),?_,?_⟩
 ·refine(F.ext ex).keepBut k (fun a m=>by rw[AU m];exact hD) (fun a m=>by rw[AU m];exact⟨hoff.1,hoff.2.1,hoff.2.2⟩) (fun a m=>?_)
  rw[AU m];refine Ad hl2 fun oo e Z=>?_;exact⟨oo,e⟩
 ·refine⟨vs++[v],by simpa using hl2,?_⟩
  exact(f.imp fun Z Z q=>(q.ext (AK zy ex)).ext vk).append (.cons (r.ext vk) .nil)
theorem RK{α:Type}{items:List α}{enc:α->Ent}(f:α->PyData){y:Str}{iter elt:Expr}{py:Pos}{scope:Scope}{pos:Pos}
  (hok:BQ sc scope=true)(hxs:scope.names.lookup y=some .local∨scope.names.lookup y=some .cell)(hs:∀zz x,foldedSetIterable iter zz x=pure x)
  (hi:TV j V w H0 n sc σ zx (.Name y py) iter (items.map enc))(hz:items.length≤sizeLine)(hy:Az (CR sc scope) y)(hn:(Cj scope σ).lookup y=none)
  (turn:∀a∈items,LP j V w H0 n (CR sc scope) ((y,enc a)::Cj scope σ) zx elt (Rd (f a))):LP j V w H0 n sc σ zx (.ListComp elt [⟨.Name y py,iter,[],0⟩] scope pos) (Rd (.list (items.map f))):=by
 refine LQ (K:=listK) (xs:=[y]) (fun i=>(items.take i).map f) (FV (.inl ⟨_,_,rfl⟩)) rfl hok (fun x m=>by rw[AU m];exact hxs) (by simpa using Da) (fun zz=>rfl) hs hi (fun i x hx=>?_) fun h zy D hD hK=>?_
 ·rw[getElem?_map] at hx
  cases ha:items[i]? with
  |none=>rw[ha] at hx;exact CE hx
  |some a=>
   rw[ha] at hx;replace hx:=Option.some.inj hx;subst hx;have hm:a∈items:=mem_of_getElem? ha;have e:(items.take (i+1)).map f=(items.take i).map f++[f a]:=by rw[take_add_one,ha,map_append];rfl
   refine⟨[(y,enc a)],true,Af hy,fun z hz=>hz,fun z hz=>by rw[AU hz];exact hn,BW,fun Z=>?_,E3⟩;show PZ _ _ _ _ _ _ _ _ _ _ _ _ ((items.take (i+1)).map f);rw[e];exact MF (turn a hm) (by rw[length_map,length_take];exact le_trans (min_le_right _ _) hz)
 ·have:=ES hD hK
  rwa [length_map,take_length] at this
theorem RL{e:Expr}{P:Heap->Value->Prop}(h:EvP V w H0 n sc σ zx e P):LP j V w H0 n sc σ zx e P:=fun A zz s zy Z=>h A zz s zy
def UF(j:Nat)(x:Bool)(V:Program)(w:World)(H0:Heap)(n:Nat)(sc:Scope)(σ:AN)(zx:Aw)(sts:List Stmt)(Ψ:Ba):Prop:=
 ∀A zz zw s zy,j≤s.toks->Good n A->EnvOk sc zz->Fm H0 zy zx zz σ s.heap->Fk x A zz zw zy s.heap->GG zw zz zx->wpAny (model V w) A (execs sts zz) (GPf H0 s zy zz zx (Ck zw) Ψ) CO s
variable{x:Bool}
theorem Uv{sts:List Stmt}{Ψ:Ba}(h:HX x V w H0 n sc σ zx sts Ψ):UF j x V w H0 n sc σ zx sts Ψ:=fun A zz zw s zy Z=>h A zz zw s zy
theorem RM{st:Stmt}{rest:List Stmt}{σ₁:AN}{zx₁:Aw}{Φ:Ba}(h:HT x V w H0 n sc σ zx st (Ek σ₁ zx₁))(hr:UF j x V w H0 n sc σ₁ zx₁ rest Φ):UF j x V w H0 n sc σ zx (st::rest) Φ:=by
 intro A zz zw s zy hj g o F K O;refine wpAny_execs_cons (Ah (Bv hj (h A zz zw s zy g o F K O)) (fun fl s₁ q=>?_) fun Z Z f=>f);refine BL q fun hj1 x2=>?_;revert x2;intro q;have e:fl=.next:=by obtain⟨_,_,_,_,_,_,_,_,_,_,_,p⟩:=q;exact p.1
 subst e;exact q.then F K O fun zy1 σ₁ zx₁ F1 K1 O1 p1 Z=>by refine CZ p1 fun Z x2 x3=>?_;try clear p1;subst x2;subst x3;exact hr A zz zw s₁ zy1 hj1 g o F1 K1 O1
theorem RN{l r:Expr}{body rest:List Stmt}{p pos:Pos}{a b:PyData}{Φ:Ba}(hl:Am V w H0 n sc σ zx l (.d a))(hr:LP j V w H0 n sc σ zx r (Rd b))(ha:Cp a=true)(hb:Cp b=true)(he:PySem.Spec.same a b=true)(hm:behindInMarks .NotEq r=false)
  (h:UF j x V w H0 n sc σ zx rest Φ):UF j x V w H0 n sc σ zx (.If (.Compare l [.NotEq] [r] p) body [] pos::rest) Φ:=by
 intro A zz zw s zy hj g o F K O;have key:wpAny (model V w) A (isTrue (.Compare l [.NotEq] [r] p) zz (eval (.Compare l [.NotEq] [r] p) zz)) (fun c s'=>j≤s'.toks∧Pu s zy (fun Z c=>c=false) c s') CO s:=by
  refine Bv hj (wpAny_isTrue_Compare1 (Ah (Bv hj (hl A zz s zy g o F)) (fun u s₁ q1=>?_) fun Z Z f=>f.elim) hm);refine BL q1 fun hj1 x2=>?_;revert x2;intro q1;have F1:=F.ext q1.ext;refine Aq (hr A zz s₁ zy hj1 g o F1) fun c s2 q2=>?_;refine Aq (HV (n:=n) ha hb A s2 zy u c g (F1.ext q2.ext).toBase (q1.val.ext (AK zy q2.ext)) q2.val) fun v s3 q3=>?_;have:=E6 q3.val;rw[he] at this;subst this;exact wpAny_truthy_bool (((q1.trans q2).trans q3).trans (Pu.here rfl))
 refine wpAny_execs_cons (wpAny_If (Ah key (fun c s₁ q=>?_) fun Z Z f=>f));refine BL q fun hj1 x2=>?_;revert x2;intro q;have e:=q.val;subst e;refine wpAny_execs_nil ?_;have q':GPf H0 s zy zz zx (Ck zw) (Ek σ zx) Flow.next s₁:=by
  obtain⟨h',tk,rfl,ex,_⟩:=q;exact⟨h',tk,zy,σ,zx,rfl,.of_but (ex.keep _) O,F.ext ex,fun Z m=>m,fun Z m=>.inl m,fun p m=>.inl (mem_map_of_mem m),rfl,rfl,rfl⟩
 exact q'.then F K O fun zy1 σ₁ zx₁ F1 K1 O1 p1 Z=>by refine CZ p1 fun Z x2 x3=>?_;try clear p1;subst x2;subst x3;exact h A zz zw s₁ zy1 hj1 g o F1 K1 O1
theorem Tn{e2:Expr}{y c:Str}{k:Nat}{py pos p1 p2:Pos}{rest:List Stmt}{d:PyData}{Φ:Ba}(h2:Am V w H0 n sc σ zx e2 (.d d))(hr:UF 1 x V w H0 n sc ((y,.d (.list [.str c,d]))::σ) zx rest Φ)(hy:Az sc y)
  (hs:∀zz,EnvOk sc zz->swapsWith (.List [.Constant (.str c) k p1,e2] p2) (some (.Name y py)) pos.line zz=pure false)(hw:∀zz,EnvOk sc zz->swappedStores [.Name y py] (.List [.Constant (.str c) k p1,e2] p2) zz=pure none)
  (hb:∀zz,backTo p2 (starEach [.Constant (.str c) k p1,e2] zz)=[(false,eval (.Constant (.str c) k p1) zz),(false,eval e2 zz)]):
  HX x V w H0 n sc σ zx (.Assign [.Name y py] (.List [.Constant (.str c) k p1,e2] p2) pos::rest) Φ:=by
 revert h2 hr hy hs hw hb;revert Φ;revert rest d;revert V w H0 n sc σ zx x e2 y c k py pos p1 p2;refine no_implicit_lambda% (FM (by exact((((default,w0),default),default),default)) ?_);generalize CF _ _=t9;generalize t9.1.1.1.1=V,t9.1.1.1.2=w,t9.1.1.2.1=H0,t9.1.1.2.2=n,t9.1.2.1.1=sc,t9.1.2.1.2=σ,t9.1.2.2.1=zx,t9.1.2.2.2=x,t9.2.1.1.1=e2,t9.2.1.1.2=y,t9.2.1.2.1=c,t9.2.1.2.2=k,t9.2.2.1.1=py,t9.2.2.1.2=pos,t9.2.2.2.1=p1,t9.2.2.2.2=p2;refine no_implicit_lambda% (I8 (by exact(default,.none)) ?_);generalize Ip _ _=t9;generalize t9.1=rest,t9.2=d;refine no_implicit_lambda% (Io (default) ?_);generalize HR _ _=Φ;intro h2 hr hy hs hw hb;intro A zz zw s zy g o F K O;have key:wpAny (model V w) A (exec (.Assign [.Name y py] (.List [.Constant (.str c) k p1,e2] p2) pos) zz) (fun fl s'=>1≤s'.toks∧GPf H0 s zy zz zx (Ck zw) (Ek ((y,.d (.list [.str c,d]))::σ) zx) fl s') CO s:=by
  show wpAny _ A (standAt pos >>=fun Z=>swapsWithSole [.Name y py] (.List [.Constant (.str c) k p1,e2] p2) pos.line zz >>=fun b=>if b=true then _ else _) _ _ s;refine Ac (wpAny_standAt (Ac ?_));show wpAny _ A (swapsWith (.List [.Constant (.str c) k p1,e2] p2) (some (.Name y py)) pos.line zz) _ _ s;rw[hs zz o];refine Ag ?_;rw[if_neg Bool.false_ne_true];refine Ac (List_ ?_);rw[hb];refine spliced_cons (Constant_str (spliced_cons (Ah (Bv (k:=1) (succ_le_succ (zero_le s.toks)) (h2 A zz {s with toks:=s.toks+1} zy g o F)) (fun v s₁ q=>?_) fun Z Z f=>f.elim)));refine BL q fun hj1 x2=>?_;revert x2;intro q;have F1:Fm H0 zy zx zz σ s₁.heap:=F.ext q.ext;refine spliced_nil (Ah (Bv hj1 (Ka (vs:=[.str c s.toks,v]) (ds:=[.str c,d]) F1.toBase (.cons (BO _ _ _) (.cons q.val .nil)) (by show(2:Nat)≤sizeLine;decide))) (fun u s2 q2=>?_) fun Z Z f=>f.elim);refine BL q2 fun hj2 x2=>?_;revert x2;intro q2;have F2:=F1.ext q2.ext;refine Ac ?_;rw[hw zz o];refine Ag ?_;show wpAny _ A (assignAll u [assign (.Name y py) zz] >>=fun Z=>pure Flow.next) _ _ s2;refine Ac ?_;show wpAny _ A (assign (.Name y py) zz u) _ _ s2;refine Ah (Bv hj2 (Af (V:=V) (w:=w) (H0:=H0) (n:=n) (e:=.d (.list [.str c,d])) hy A zz s2 zy zx σ u g o F2 q2.val)) (fun Z s3 q3=>Ag ?_) fun Z Z f=>f;obtain⟨hj3,h₃,t3,rfl,k3,F3⟩:=q3;have ex:Ext s.heap s2.heap:=fun b ob eb=>q2.ext b ob (q.ext b ob eb);obtain⟨h₁,t₁,rfl,_⟩:=q;obtain⟨h₂,t2,rfl,_⟩:=q2;exact⟨hj3,GP.toF O ⟨h₃,t3,zy,_,zx,rfl,(ex.keep _).trans (k3.more (AL zz zx _)),F3,fun Z m=>m,fun Z m=>.inl m,fun p m=>.inl (mem_map_of_mem m),rfl,rfl,rfl⟩⟩
 refine wpAny_execs_cons (Ah key (fun fl s₁ q=>?_) fun Z Z f=>f);refine BL q fun hj1 x2=>?_;revert x2;intro q;have e:fl=.next:=by obtain⟨_,_,_,_,_,_,_,_,_,_,_,p⟩:=q;exact p.1
 subst e;exact q.then F K O fun zy1 σ₁ zx₁ F1 K1 O1 p₁ Z=>by refine CZ p₁ fun Z x2 x3=>?_;try clear p₁;subst x2;subst x3;exact hr A zz zw s₁ zy1 hj1 g o F1 K1 O1
theorem RO{y:Str}{p pos:Pos}{args:List Expr}{f:Value}{xs:List Ent}{L rest:Aw}{Ψ:Heap->Value->Aw->Prop}(hf:Am V w H0 n sc σ zx (.Name y p) (.v f))(hc:Cn H0 f)(ha:Ey V w H0 n sc σ zx pos args xs)(hcall:FnF true V w H0 n f xs L Ψ)(hL:Cf L zx)(hr:∀p∈rest,p∈zx∧p.1∉L.map (·.1))
  (hb:∀zz,(backTo pos (starEach args zz)).any (·.1)=false):MJ true V w H0 n sc σ zx (eval (.Call (.Name y p) args [] pos)) (fun g v σ' zx'=>σ'=σ∧∃L',Ψ g v L'∧zx'=L'++rest):=by
 intro A zz zw s zy g o F Kf O;refine Call_Name rfl (Ah (hf A zz s zy g o F) (fun v s₁ q=>?_) fun Z Z f=>f.elim);have e1:=q.val;subst e1;have F1:=F.ext q.ext;refine JO (zz:=zz) F1.toBase.h0 hc (hb zz) (ha A zz s₁ zy g o F1) fun vs s2 q2=>?_;have F2:=F1.ext q2.ext;have qq:=(q.mono (P':=fun Z Z=>True) fun Z Z=>trivial).trans (q2.mono (P':=fun Z Z=>True) fun Z Z=>trivial);have K2:FrOk A zz zw zy s2.heap:=Fk.move (x:=true) Kf (fun Z m=>m) (.of_but (qq.ext.keep _) O);refine wpAny_call (codeAny_mono (hcall A (zz::zw) s2 zy vs g F2.toBase ⟨fun p hp=>F2.ledh p (hL p hp),fun p hp=>F2.ledg p (hL p hp)⟩ (FkC.of F2 K2) (JP F2 O hL) q2.val) fun r s' z=>?_);rcases r with e|(v|_|_|_)<;> first|exact z.elim|skip
 have lo:=K2.low;have gp:=GPf.of_cpf F2 (fun b m=>(lo b m).1) O hL hr z;obtain⟨h2,t2,rfl,ex2,_⟩:=qq;have lo0:=Fk.low (x:=true) Kf;exact GPf.glue (h₁:=h2) (t₁:=t2) F (fun b m=>⟨(lo0 b m).1,let⟨_,o,e,_⟩:=lo0 b m;⟨o,e⟩⟩) (.of_but (ex2.keep _) O) F2 (fun Z m=>m) (fun Z m=>.inl m) (fun p m=>.inl (mem_map_of_mem m)) gp
theorem NV{e:Expr}{t1 t2:Str}{p1 p2 p4 pos:Pos}{k:Nat}{Ψ:Addr->Bool->Aw->Prop}(h:MJ x V w H0 n sc σ zx (eval e) (fun g v σ' zx'=>∃l a b,v=.ref l∧g.IsList l #[.ref a,.bool b]∧σ'=σ∧Ψ a b zx'))(h1:Az sc t1)(h2:Az sc t2)
  (hs:∀zz,EnvOk sc zz->swapsWith e (some (.Tuple [.Name t1 p1,.Name t2 p2] k p4)) pos.line zz=pure false)(hw:∀zz,EnvOk sc zz->swappedStores [.Tuple [.Name t1 p1,.Name t2 p2] k p4] e zz=pure none):
  HT x V w H0 n sc σ zx (.Assign [.Tuple [.Name t1 p1,.Name t2 p2] k p4] e pos) (fun Z fl σ' zx'=>fl=.next∧∃a b,Ψ a b zx'∧σ'=(t2,.d (.bool b))::(t1,.v (.ref a))::σ):=by
 intro A zz zw s zy g o F Kf O;show wpAny _ A (standAt pos >>=fun Z=>swapsWithSole [.Tuple [.Name t1 p1,.Name t2 p2] k p4] e pos.line zz >>=fun b=>if b=true then _ else _) _ _ s;refine Ac (wpAny_standAt (Ac ?_));show wpAny _ A (swapsWith e (some (.Tuple [.Name t1 p1,.Name t2 p2] k p4)) pos.line zz) _ _ s;rw[hs zz o];refine Ag ?_;rw[if_neg Bool.false_ne_true];refine Ac (Ah (h A zz zw s zy g o F Kf O) (fun v s₁ q=>?_) fun Z Z f=>f);refine q.then F Kf O fun zy1 σ₁ zx₁ F1 K1 O1 p₁ Z=>?_;refine GQ p₁ fun l a b x4 hl x6 x7=>?_;try clear p₁;revert x7;intro p₁;subst x4;subst x6
 refine Ac ?_;rw[hw zz o];refine Ag ?_;show wpAny _ A (assignAll (.ref l) [assign (.Tuple [.Name t1 p1,.Name t2 p2] k p4) zz] >>=fun Z=>pure Flow.next) _ _ _;refine Ac ?_;show wpAny _ A (assign (.Tuple [.Name t1 p1,.Name t2 p2] k p4) zz (.ref l)) _ _ _;have hu:MQ V w H0 n (.p (fun g v=>g.IsList l #[.ref a,.bool b]∧v=.ref l) (fun g g' v ex q=>⟨Bq ex q.1,q.2⟩)) [.v (.ref a),.d (.bool b)]:=by
  intro A s zy v g B ra;refine BL ra fun hl x2=>?_;try clear ra;subst x2
  have e:([.v (.ref a),.d (.bool b)]:List Ent).length=(#[Value.ref a,Value.bool b]).size:=rfl;rw[e];refine kun_itemsOf g.hh (Bq (Bp _ _) hl) fun h' he=>⟨h',s.toks,rfl,DC he,rfl,⟨[],.bool _⟩,trivial⟩
 refine Ah (DZ (b1:=[(t1,.v (.ref a))]) (b2:=[(t2,.d (.bool b))]) hu (Af h1) (Af h2) (fun Z=>rfl) A zz s₁ zy1 zx₁ σ₁ (.ref l) g o F1 ⟨hl,rfl⟩) (fun Z s2 q2=>Ag ?_) fun Z Z f=>f;refine Bh q2 fun h₂ t₂ x3 k2 F2=>?_;try clear q2;subst x3
 exact GP.toF O1 ⟨h₂,t₂,zy1,_,zx₁,rfl,k2.more (AL zz zx₁ _),F2,fun Z m=>m,fun Z m=>.inl m,fun p m=>.inl (mem_map_of_mem m),rfl,a,b,p₁,rfl⟩
end
def DefK(H0:Heap)(name:Str)(k:Nat)(ps:List Str):Prop:=∃f fd,GIs H0 name (.ref f)∧DefIs H0 f fd (Ap (B7 k)) ps (AD (B7 k))
structure LawK(V:Program)(w:World)(H0:Heap)(K:Frag)(c:Cls2)(C:Addr):Prop where
 hK:K.In H0
 ck:ClsK K c
 nk:NodeK V w H0 K c
 sk:SortK V w H0 K c
 ak:AddK H0 K c
 pk:PrepK H0 K c C
 prk:U7 K H0 c
 rk:RdK H0 K c
 mg:∃o,H0.get? mainGlobals=some o
 min:GIs H0 (S "min") (.builtin "min")
 sum:GIs H0 (S "sum") (.builtin "sum")
 zip:GIs H0 (S "zip") (.type "zip")
 range:GIs H0 (S "range") (.type "range")
 list:GIs H0 (S "list") (.type "list")
 sorted:GIs H0 (S "sorted") (.builtin "sorted")
 type:GIs H0 (S "type") (.type "type")
 isi:GIs H0 (S "isinstance") (.builtin "isinstance")
 str:GIs H0 (S "str") (.type "str")
 case:∃t,GIs H0 (S "_CASE_COST") (.int 1 t)
 move:∃t,GIs H0 (S "_MOVE_COST") (.int 2 t)
 max:∃t,GIs H0 (S "_MAX_STRING_SIZE") (.int 40 t)
 tab:∃d f,Ol w V d f H0∧GIs H0 (S "_special_chars_map") (.ref d)∧f 97=none∧f 98=none
 d5:DefK H0 (S "escape") 5 [S "pattern"]
 d7:DefK H0 (S "_translate") 7 [S "pat",S "STAR",S "QUESTION_MARK"]
 d18:DefK H0 (S "_substitution_cost") 18 [S "ch_a",S "ch_b"]
 d19:DefK H0 (S "_levenshtein_distance") 19 [S "a",S "b",S "max_cost"]
 d21:DefK H0 (S "_law_name") 21 [S "x"]
 d22:DefK H0 (S "_law_pattern") 22 [S "x"]
 d23:DefK H0 (S "_law_jobs") 23 [S "numbers",S "many"]
 d24:DefK H0 (S "_law_takes") 24 [S "parts",S "name"]
 d25:DefK H0 (S "_law_fits") 25 [S "pattern",S "name"]
 d26:DefK H0 (S "_law_price") 26 [S "one",S "two"]
 d27:DefK H0 (S "_law_sorter") 27 [S "jobs"]
 d28:DefK H0 (S "_law_needs") 28 [S "jobs"]
 d29:DefK H0 (S "_law_rounds") 29 [S "sorter"]
 d30:DefK H0 (S "_law_due_rounds") 30 [S "needs"]
 d31:DefK H0 (S "_law_thread") 31 [S "rounds",S "parts"]
 d32:DefK H0 (S "_law_all") 32 [S "rounds",S "pattern"]
section
variable{V:Program}{w:World}{H0:Heap}{n:Nat}{K:Frag}{c:Cls2}{C:Addr}
theorem LawK.len(k:LawK V w H0 K c C):GIs H0 (S "len") (.builtin "len"):=k.rk.len
theorem DefK.has{name:Str}{i:Nat}{ps:List Str}{xs:List PyData}{x:PyData}(D:DefK H0 name i ps)(hsc:Fa (Ap (B7 i)) ps=true)(hl:xs.length=ps.length)(h:II V w H0 n (Ap (B7 i)) (ps.zip (xs.map .d)) [] (AD (B7 i)) (.ret (.d x))):CB V w H0 name (n+1) xs x:=by
 refine B8 D fun f fd hg x4=>?_;revert x4;intro D;exact⟨_,hg,D.callee,K9 (xs:=xs.map .d) D hsc (by rw[length_map];exact hl) h⟩
theorem IG{l:List Nat}(h:Ay l):EK l:=fun c m=>by
 rcases h.2.2 c m with rfl|rfl|rfl<;> decide
theorem Uw(k:LawK V w H0 K c C)(x:Int):CB V w H0 (S "_law_name") (n+1) [.int x] (.str (Cw x)):=k.d21.has rfl rfl (OQ x)
theorem Va(k:LawK V w H0 K c C)(x:Int):CB V w H0 (S "_law_pattern") (n+1) [.int x] (.str (Hs x)):=k.d22.has rfl rfl (Qb x)
theorem Ux(k:LawK V w H0 K c C)(xs:List Int):CB V w H0 (S "_law_jobs") (n+2) [.list (xs.map .int),.int 8] (BY (Kn xs)):=k.d23.has rfl rfl (OR k.len (fun x=>Uw k x) (fun x=>Va k x) xs)
theorem KR{p:List Nat}(h:∀c∈p,AJ c):Gr (AY p):=by
 unfold AY;split
 ·intro s m;exact nomatch m
 ·intro s m
  refine Ad (Ct m) fun c hc e=>?_;rcases h c hc with rfl|rfl|rfl|rfl
  ·injection e with e;rw[←e];decide +kernel
  ·injection e with e;rw[←e];decide +kernel
  ·injection e with e;rw[←e];decide +kernel
  ·exact nomatch e
theorem NW(p:List Nat):(AY p).length≤p.length:=by
 unfold AY;split
 ·next h=>rw[h];decide
 ·rw[length_map];exact le_refl _
theorem OF(k:LawK V w H0 K c C){a b:Nat}{l:List Nat}(ha:AJ a)(hb:AJ b)(hl:Ay l):CB V w H0 (S "_law_takes") 5 [AM (AY [a,b]),.str (tx l)] (.bool (BS (AY [a,b]) l)):=by
 refine B8 k.d24 fun f fd hg D=>?_;have h1:=NW [a,b];have h2:=hl.2.1;refine OS hg D 4 _ l ?_ (KR fun c m=>?_) (IG hl) ?_ ?_
 ·simp at h1;exact add_le_add h1 h2
 ·rcases BF m with rfl|m
  ·exact ha
  ·rw[AU m];exact hb
 ·simp at h1;exact le_trans h1 (by decide)
 ·exact le_trans h2 (by decide)
theorem RP(k:LawK V w H0 K c C){a b:Nat}{l:List Nat}(ha:AJ a)(hb:AJ b)(hl:Ay l):CB V w H0 (S "_law_fits") (n+1) [.str (tx [a,b]),.str (tx l)] (.bool (Jp (a,b) l)):=by
 refine B8 (O0 hl) fun c0 r x3 hr=>?_;subst x3;exact k.d25.has rfl rfl (OT k.len ha hb (IG hl) hr)
theorem To(k:LawK V w H0 K c C){x y:List Nat}(hx:Ay x)(hy:Ay y):CB V w H0 (S "_law_price") (n+2) [.str (tx x),.str (tx y)] (.int (Dp x y)):=
 k.d26.has rfl rfl (M2 k.len k.min k.sum k.zip hx.2.2 hy.2.2 hx.2.1 hy.2.1 hx.1 hy.1)
theorem Uy(k:LawK V w H0 K c C){a b:Nat}(ha:AB a)(hb:AB b):CB V w H0 (S "_substitution_cost") (n+1) [.str (sg a),.str (sg b)] (.int (Cd a b)):=by
 refine ex1 k.case fun t h1=>?_;refine ex1 k.move fun t' h2=>?_;exact k.d18.has rfl rfl (Pb h1 h2 ha hb)
theorem Vb(k:LawK V w H0 K c C){x y:List Nat}(hx:Ay x)(hy:Ay y):CB V w H0 (S "_levenshtein_distance") (n+2) [.str (tx x),.str (tx y),.int 9] (.int (Es x y)):=by
 refine ex1 k.move fun t' h2=>?_;refine ex1 k.max fun t h3=>?_;refine B8 k.d19 fun f fd hg D=>?_;refine⟨_,hg,D.callee,Of (fun g g' v ex q=>Rd.ext q ex) (I0 (n:=n+1) (xs:=[.d (.str (tx x)),.d (.str (tx y)),.d (.int 9)]) D rfl rfl (AV (QG (fun a b ha hb=>Uy k ha hb) k.len k.min k.range k.list h2 h3 hx.2.2 hy.2.2 hx.2.1 hy.2.1) fun g fl σ' zx' q=>?_))⟩;refine Ad q fun v x2 x3=>?_;try clear q;revert x3;intro q;subst x2
 exact q
theorem Vc(k:LawK V w H0 K c C)(a:Nat)(h:a=97∨a=98):CB V w H0 (S "escape") (n+1) [.str (sg a)] (.str (sg a)):=by
 refine ex2 k.tab fun d f h9=>?_;refine JX h9 fun hm ht f1 f2=>?_;clear h9;exact k.d5.has rfl rfl (QS h (by rcases h with rfl|rfl<;> assumption) hm ht k.isi k.str)
theorem MG{p:List Nat}(h:Js p):(∀c∈p,AJ c)∧p.length≤8:=by
 rcases h with rfl|⟨a,b,rfl,ha,hb⟩
 ·exact⟨(fun c m=>nomatch m),zero_le _⟩
 ·refine⟨fun c m=>?_,by simp⟩
  rcases BF m with rfl|m
  ·exact ha
  ·rw[AU m];exact hb
theorem OG(k:LawK V w H0 K c C)(p:List Nat)(h:Js p):CB V w H0 (S "_translate") (n+2) [.str (tx p),.none,.str (S "any")] (AM (AY p)):=by
 refine B8 k.d7 fun f fd hg D=>?_;refine BL (MG h) fun h1 h2=>?_;refine⟨_,hg,D.callee,Pk (ds:=(AY p).map BD) (I0 (n:=n+1) (xs:=[.d (.str (tx p)),.d .none,.d (.str (S "any"))]) D rfl rfl (AV (Nq (fun c hc=>Vc k c hc) k.len h1 h2) fun g fl σ' zx' q=>?_))⟩;refine Ad q fun v x2 x3=>?_;try clear q;revert x3;intro q;subst x2
 rw[Pm h] at q;exact q
theorem Vw(k:LawK V w H0 K c C):SoK V w H0 (1+4) where
 tr:=fun p h=>(OG (n:=0) k p h).le (by decide)
 tk:=fun a b l ha hb hl=>by rw[←Jz ha hb hl];exact OF k ha hb hl
theorem RQ(k:LawK V w H0 K c C){js:NJ}(ok:JobsOk js):∃f,GIs H0 (S "_law_sorter") f∧Cn H0 f∧FnF true V w H0 6 f [.d (BY (js.map Ga))] [] (TK V w c js):=by
 refine B8 k.d27 fun f fd hg D=>?_;refine⟨_,hg,D.callee,Ew (x:=true) (n:=5) (ps:=[S "jobs"]) (xs':=[.d (BY (js.map Ga))]) D.g (Cb D.bind rfl) rfl rfl (ET (Te (n:=1) ok k.hK k.ck k.nk k.sk k.ak k.pk k.prk (Vw k)) fun g fl σ' zx' q=>?_)⟩;refine Ad q fun v x2 x3=>?_;try clear q;revert x3;intro q;subst x2
 exact q
theorem RS(k:LawK V w H0 K c C){Kw:Nat->Rep->List (List NM)->Prop}(kv:TurnsOk Kw){m0:Nat}{r:Rep}{L:Aw}(h0:Kw m0 r [])(h:RepOk V w c r L):
  ∃f,GIs H0 (S "_law_rounds") f∧Cn H0 f∧TA V w H0 6 f [.v (.ref (r.at' .S))] L (fun g v Z=>∃m r' rs,Kw m r' rs∧r'.ready=some []∧Rd (Aj rs) g v):=by
 refine B8 k.d29 fun f fd hg D=>?_;refine⟨_,hg,D.callee,I0 (n:=5) (xs:=[.v (.ref (r.at' .S))]) D rfl rfl (AV (Tg (n:=4) kv h0 k.hK k.ck k.rk k.sorted k.type h) fun g fl σ' zx' q=>?_)⟩;refine Ad q fun v x2 x3=>?_;try clear q;revert x3;intro q;subst x2
 exact q
theorem KS{js:NJ}(ok:JobsOk js):NeedsOk (BU js) where
 len:=by unfold BU;rw[length_map];exact ok.len
 names:=fun p hp=>by
  refine Ad (Ct hp) fun j hj x3=>?_;subst x3;exact ok.names j hj
 needs:=fun p hp=>by
  refine Ad (Ct hp) fun j hj x3=>?_;subst x3;refine⟨le_trans (Ii js j) ok.len,fun q hq=>?_⟩;refine Ad (Ct (Ih js j q hq)) fun j' hj' x3=>?_;subst x3;exact ok.names j' hj'
 nodup:=by
  unfold BU;rw[map_map];exact ok.nodup
theorem Tp(k:LawK V w H0 K c C){js:NJ}(ok:JobsOk js):Has V w H0 (S "_law_needs") (n+2) [.d (BY (js.map Ga))] (fun g v=>Means g v (IJ V w (CN (BU js)))):=by
 refine B8 k.d28 fun f fd hg D=>?_;exact⟨_,hg,D.callee,K9 (xs:=[.d (BY (js.map Ga))]) D rfl rfl (M5 (n:=n+1) k.mg ok fun a b l ha hb hl=>RP k ha hb hl)⟩
theorem Vd(k:LawK V w H0 K c C){js:NJ}(ok:JobsOk js):Has V w H0 (S "_law_due_rounds") (n+1) [IJ V w (CN (BU js))] (Rd (Aj (Lf (BU js)))):=by
 refine B8 k.d30 fun f fd hg D=>?_;refine⟨_,hg,D.callee,Of (fun g g' v ex q=>Rd.ext q ex) (I0 (n:=n) (xs:=[IJ V w (CN (BU js))]) D rfl rfl (AV (Qr k.sorted (KS ok)) fun g fl σ' zx' q=>?_))⟩;refine Ad q fun v x2 x3=>?_;try clear q;revert x3;intro q;subst x2
 exact q
theorem RT(k:LawK V w H0 K c C){rs:RR}(ok:RoundsOk rs){a b:Nat}(ha:AJ a)(hb:AJ b):CB V w H0 (S "_law_thread") 6 [Aj rs,AM (AY [a,b])] (DV (HE Es rs (AY [a,b]))):=
 k.d31.has (n:=5) rfl rfl (L9 (n:=4) k.min ok (fun x hx=>OF k ha hb hx) fun x y hx hy=>(Vb (n:=0) k hx hy).le (by decide))
theorem Ve(k:LawK V w H0 K c C){rs:RR}(ok:RoundsOk rs){a b:Nat}(ha:AJ a)(hb:AJ b):CB V w H0 (S "_law_all") 6 [Aj rs,.str (tx [a,b])] (DV (Gd rs [a,b])):=
 k.d32.has (n:=5) rfl rfl (Qt (n:=4) k.len k.min k.sum k.range ok rfl ha hb (fun a b l ha hb hl=>RP k ha hb hl) fun x y hx hy=>(To (n:=0) k hx hy).le (by decide))
end
noncomputable def IM (xs:List Int):NJ:=KD (xs.take 5++tail8)
noncomputable def Bw (xs:List Int):RR:=Lf (BU (IM xs))
noncomputable def D6 (xs:List Int) (k:Nat):Nat:=Pf (((7+(xs.take 5).sum).fdiv ((4:Int) ^ k)).fmod 4)
noncomputable def BJ (xs:List Int):List (List Nat):=[[42,42],[D6 xs 0,D6 xs 1]]
noncomputable def PR (p:List Nat):List Nat:=if p=[42,42] then [42] else p
theorem TM(xs:List Int):JobsOk (IM xs):=Mf _
theorem NX(xs:List Int):(IM xs).length=8:=Nl _
theorem GE(xs:List Int)(k:Nat):AJ (D6 xs k):=H9 _
theorem E0{xs:List Int}{p:List Nat}(h:p∈BJ xs):∃a b,p=[a,b]∧AJ a∧AJ b:=by
 rcases BF h with rfl|h
 ·exact⟨42,42,rfl,by unfold AJ;decide,by unfold AJ;decide⟩
 ·rw[AU h]
  exact⟨_,_,rfl,GE xs 0,GE xs 1⟩
theorem RU(p:List Nat):AY p=(PR p).map D4:=by
 unfold AY PR;split
 ·rfl
 ·rfl
theorem PS:(pats16.all fun p=>Txt.replace (tx p) (S "**") (S "*")==tx (PR p))=true:=by kernel_rfl
theorem NY{a b:Nat}(ha:AJ a)(hb:AJ b):Txt.replace (tx [a,b]) (S "**") (S "*")=tx (PR [a,b]):=by
 have:=all_eq_true.mp PS _ (Nm ha hb);exact eq_of_beq this
theorem Uz:(pats16.all fun p=>Txt.join (S "") (p.map sg)==tx p)=true:=by exact rfl
theorem RV{a b:Nat}(ha:AJ a)(hb:AJ b):Txt.join (S "") [sg a,sg b]=tx [a,b]:=by
 have:=all_eq_true.mp Uz _ (Nm ha hb);exact eq_of_beq this
theorem Il{ns:NN}(ok:NeedsOk ns):∀(k:Nat) (come:List (List Nat)),∀g∈Er ns k come,∀x∈g,Ay x:=by
 intro k
 induction k with
 |zero=>
  intro Z Z h;exact BK h
 |succ k Il=>
  intro come g h;rw[Fr] at h;split at h
  ·exact BK h
  ·rcases BF h with rfl|h
   ·intro x hx
    refine Dz (Gb hx) fun p hp x3 Z=>?_;subst x3;exact ok.names p hp
   ·exact Il _ g h
theorem PT{xs:List Int}(h:(Bw xs).length≤(IM xs).length∧((Bw xs).map List.length).sum≤(IM xs).length):RoundsOk (Bw xs) where
 total:=by rw[NX] at h;exact h.2
 len:=by rw[NX] at h;exact h.1
 names:=Il (KS (TM xs)) _ _
theorem MH{rs:RR}(h:∀g∈rs,∀x∈g,Ay x):Cp (Aj rs)=true:=by
 unfold Cp Aj;have:=Ee rs;rw[Eb,HD h,PyData.depth,Bool.true_and,decide_eq_true_eq];exact lt_of_le_of_lt this (by decide)
theorem JU{rs:RR}(ok:RoundsOk rs)(pat:List Nat):D7 (DV (Gd rs pat))=true∧(DV (Gd rs pat)).depth≤4:=by
 unfold Gd EL;split
 ·next h=>
  have hm:=HF (length_pos_iff.mpr h.1);have W:=DW (pat:=pat) ok.names rs.length (le_refl _);rw[take_length] at W;generalize FJ (B5 (rs.foldl (Ch pat) [[]]))=m at hm;refine Ad (Ct hm) fun v hv x3=>?_;subst x3;have hn:=(W.ok v hv).1;refine⟨?_,?_⟩
  ·show D7 (IA _)=true
   rw[IA,Eb,AX,AX,Ej,N5,Bj (Co hn)];rfl
  ·show(IA _).depth≤4
   rw[IA,PyData.depth,PyData.depthAll,PyData.depthAll,PyData.depthAll,Gh,PyData.depth]
   decide
 ·exact⟨rfl,zero_le _⟩
theorem JV{rs:RR}(ok:RoundsOk rs)(ps:List (List Nat)):Cp (.list (ps.map fun p=>DV (Gd rs p)))=true:=by
 have h1:Bt (ps.map fun p=>DV (Gd rs p))=true:=by
  induction ps with
  |nil=>rfl
  |cons p r ih=>rw[map_cons,AX,ih,(JU ok p).1];rfl
 have h2:PyData.depthAll (ps.map fun p=>DV (Gd rs p))≤4:=by
  clear h1
  induction ps with
  |nil=>exact zero_le _
  |cons p r ih=>rw[map_cons,PyData.depthAll];exact max_le.mpr ⟨(JU ok p).2,ih⟩
 unfold Cp;rw[Eb,h1,PyData.depth,Bool.true_and,decide_eq_true_eq];exact lt_of_le_of_lt h2 (by decide)
theorem IH{ps:List (List Nat)}(h:∀p∈ps,∀c∈p,AJ c):Cp (.list (ps.map fun p=>AM (AY p)))=true:=by
 have h1:Bt (ps.map fun p=>AM (AY p))=true:=by
  induction ps with
  |nil=>rfl
  |cons p r ih=>rw[map_cons,AX,ih fun q hq=>h q (mem_cons_of_mem _ hq),Bool.and_true];exact Bj (G3 (KR (h p mem_cons_self)))
 have h2:PyData.depthAll (ps.map fun p=>AM (AY p))≤2:=by
  clear h1
  induction ps with
  |nil=>exact zero_le _
  |cons p r ih=>
   rw[map_cons,PyData.depthAll];have:=ih fun q hq=>h q (mem_cons_of_mem _ hq);have h3:(AM (AY p)).depth≤2:=by
    have:∀qs:List (Option Str),PyData.depthAll (qs.map BD)≤1:=fun qs=>by
     induction qs with
     |nil=>exact zero_le _
     |cons q r ih=>rw[map_cons,PyData.depthAll];cases q<;> simp[BD,PyData.depth]<;> assumption
    unfold AM;rw[PyData.depth];have:=this (AY p);exact lt_of_le_of_lt this (by decide)
   lia
 unfold Cp;rw[Eb,h1,PyData.depth,Bool.true_and,decide_eq_true_eq];exact lt_of_le_of_lt h2 (by decide)
section
variable{K:Frag}{c:Cls2}{C:Addr}
theorem Vf(ds:List PyData):Jh ds none (some 5)=ds.take 5:=by
 unfold Jh kms_lo kms_hi;simp only[Int.reduceLT,if_false,List.drop_zero,Nat.sub_zero];show ds.take (min 5 ds.length)=_;rcases Nat.le_total 5 ds.length with h|h
 ·rw[Nat.min_eq_left h]
 ·rw[Nat.min_eq_right h,take_length,List.take_of_length_le h]
theorem OH{e:Expr}{xs:List Int}{k:Nat}{p2 p3 p4:Pos}(hz:xs.length≤1000)(hv:Am V w H0 n sc σ zx e (.d (.list (xs.map .int))))(ht:∀o r,letTemporaryGo e o r=pure ()):
  Am V w H0 n sc σ zx (.Subscript e (.Slice none (some (.Constant (.int 5) k p2)) none p3) p4) (.d (.list ((xs.take 5).map .int))):=by
 have:=GK (p:=p3) (pos:=p4) hv Kg (Kh (Ao (i:=5) (k:=k) (pos:=p2))) (Ai (by rw[length_map];exact le_trans hz (by decide))) ht;rw[Vf,←List.map_take] at this;exact this
noncomputable abbrev Tq:Scope:=Ap (B7 33)
theorem Tr{rs:RR}{scope:Scope}{it:Expr}{p1 p2 p3 p4 p5 pos pos':Pos}(k:LawK V w H0 K c C)(ok:RoundsOk rs)(hv:Am V w H0 (n+1) sc σ zx it (.d (Aj rs)))(hs:∀zz x,foldedSetIterable it zz x=pure x)(hok:BQ sc scope=true)(hxs:∀x∈[S "group"],scope.names.lookup x=some .local∨scope.names.lookup x=some .cell)
  (hset:Az (CR sc scope) (S "group"))(hno:(Cj scope σ).lookup (S "group")=none)(hgl:BA sc (S "sum")=true)(hgl2:BA (CR sc scope) (S "len")=true)(hvar:El (CR sc scope) (S "group")=true):
  Am V w H0 (n+1) sc σ zx (.Call (.Name (S "sum") p1) [.ListComp (.Call (.Name (S "len") p2) [.Name (S "group") p3] [] p4) [⟨.Name (S "group") p5,it,[],0⟩] scope pos] [] pos') (.d (.int (((rs.map List.length).sum:Nat):Int))):=by
 have e2:∀l:RR,((l.map List.length).sum:Nat)=((l.map fun g=>(g.length:Int)).sum:Int):=fun l=>by
  induction l with
  |nil=>rfl
  |cons g r ih=>rw[map_cons,map_cons,sum_cons,sum_cons,←ih];exact rfl
 rw[e2];refine AT (IT (n:=n) k.sum (ks:=rs.map fun g=>(g.length:Int))) (le_refl _) hgl (Bk ?_ fun Z=>rfl) fun Z=>rfl;have e1:PyData.list ((rs.map fun g=>(g.length:Int)).map .int)=.list (rs.filterMap fun g=>some (PyData.int (g.length:Int))):=by rw[filterMap_eq_map',map_map];rfl
 rw[e1];refine FA (items:=rs) (enc:=fun g=>.d (Ae g)) (fun g=>some (PyData.int (g.length:Int))) (xs:=[S "group"]) (x:=.d (Aj rs)) (.inl ⟨_,_,rfl⟩) hok hxs hs hv Gg (Ai (by have:=ok.len;exact le_trans this (by decide))) fun g hg=>?_;have hz:((g.map tx).map PyData.str).length≤sizeLine:=Ai (by
  rw[length_map,length_map];refine ex1 (List.getElem?_of_mem hg) fun i hi=>?_;have h1:=Jv hi;have h2:=Gf rs (i+1);have:=ok.total
  lia)
 have e8:PyData.int (g.length:Int)=.int ((g.map tx).map PyData.str).length:=by rw[length_map,length_map]
 refine⟨[(S "group",.d (Ae g))],true,Af hset,rfl,fun y hy=>by rw[AU hy];exact hno,BW,fun Z=>⟨_,rfl,?_⟩,E3⟩;rw[e8];exact AT (Fn (n:=n+1) k.len hz) (le_refl _) hgl2 (Bk (show Am _ _ _ _ _ _ _ _ (.d (Ae g)) from Aa (by rw[cons_append,lookup_cons,show(S "group"==S "group")=true from beq_self_eq_true _]) hvar) fun Z=>rfl) fun Z=>rfl
end
section
variable{K:Frag}{c:Cls2}{C:Addr}
theorem UA{x:Bool}{e:Expr}{y:Str}{py pos:Pos}{rest:List Stmt}{z:Ent}{Φ:Ba}(h:Am V w H0 n sc σ zx e z)(hr:HX x V w H0 n sc ((y,z)::σ) zx rest Φ)(hy:Az sc y)(hs:∀zz,EnvOk sc zz->swapsWith e (some (.Name y py)) pos.line zz=pure false)(hw:∀zz,EnvOk sc zz->swappedStores [.Name y py] e zz=pure none):
  HX x V w H0 n sc σ zx (.Assign [.Name y py] e pos::rest) Φ:=IR (CS (BX (Av h (Af hy) hs hw fun Z=>rfl))) hr
theorem OI{x:Str}{pos:Pos}{e:Ent}(h:El sc x=true):Am V w H0 n sc ((x,e)::σ) zx (.Name x pos) e:=Aa (by rw[lookup_cons,beq_self_eq_true]) h
set_option maxHeartbeats 1000000 in
theorem RW(k:LawK V w H0 K c C)(xs:List Int)(hz:xs.length≤63)(ok:RoundsOk (Bw xs)){zx:Aw}:
  HX true V w H0 6 Tq [(S "told",.d (Aj (Bw xs))),(S "due",.d (Aj (Bw xs))),(S "script",.d (.list (xs.map .int)))] zx ((AD (B7 33)).drop 4) (fun g fl Z Z=>∃v,fl=.ret v∧Rd (.bool true) g v):=by
 revert k hz ok;revert V w H0 K c C xs zx;refine no_implicit_lambda% (HS (by exact(((default,w0),default),((⟨0,0⟩,default),default))) ?_);generalize FK _ _=t9;generalize t9.1.1.1=V,t9.1.1.2=w,t9.1.2.1=H0,t9.1.2.2=K,t9.2.1.1=c,t9.2.1.2=C,t9.2.2.1=xs,t9.2.2.2=zx;intro k hz ok;have s0:=GE xs 0;have s1:=GE xs 1;refine Tn (d:=.str (tx [D6 xs 0,D6 xs 1])) ?_ ?_ (Ab rfl) (fun Z Z=>rfl) (fun Z Z=>rfl) fun Z=>rfl
 ·have e0:Txt.join (S "") ([D6 xs 0,D6 xs 1].map sg)=tx [D6 xs 0,D6 xs 1]:=RV s0 s1
  rw[←e0];refine RI ?_ ?_ ?_ (fun Z=>rfl) (by decide) fun Z=>rfl
  ·have e1:PyData.list (([D6 xs 0,D6 xs 1].map sg).map .str)=.list ((List.range ((2:Int) - 0).toNat).filterMap fun i=>some (PyData.str (sg (D6 xs i)))):=rfl
   rw[e1];refine FA (items:=List.range ((2:Int) - 0).toNat) (enc:=fun i:Nat=>.d (.int (0+(i:Int)))) (fun i=>some (PyData.str (sg (D6 xs i)))) (xs:=[S "k"]) (x:=Qs 0 2 1) ?_ ?_ ?_ ?_ ?_ (IU (by decide) (by decide) (by decide) (by decide)) (by decide) fun i hi=>?_
   ·exact .inl ⟨_,_,rfl⟩
   ·decide +kernel
   ·decide +kernel
   ·exact fun Z Z=>rfl
   ·exact AT (G8 (n:=6) k.range) (le_refl _) rfl (Bk Ao fun Z=>rfl) fun Z=>rfl
   ·refine⟨[(S "k",.d (.int (0+(i:Int))))],true,Af (Ab rfl),rfl,fun y hy=>by rw[AU hy];rfl,BW,fun Z=>⟨_,rfl,?_⟩,E3⟩
    have hi2:i=0∨i=1:=by have:=mem_range.mp hi;lia
    have e2:(0+(i:Int)).toNat=i:=Vq i;have hne:(4:Int) ^ i≠0:=by rcases hi2 with rfl|rfl<;> decide
    have hlt:((4:Int) ^ i).natAbs<1073741824:=by rcases hi2 with rfl|rfl<;> decide
    have hp:Bm V w H0 6 (binaryOp .Pow) (.d (.int 4)) (.d (.int (0+(i:Int)))) (Rd (.int ((4:Int) ^ i))):=by
     have:=Tl (V:=V) (w:=w) (H0:=H0) (n:=6) (a:=4) (k:=0+(i:Int)) (by lia) (by rcases hi2 with rfl|rfl<;> decide +kernel)
     rwa [e2] at this
    have h4:=Hr (x:=(7+(xs.take 5).sum).fdiv ((4:Int) ^ i)) (k:=4) (by decide);exact Bf Bz (AO (x:=.d (.int ((7+(xs.take 5).sum).fdiv ((4:Int) ^ i)))) (AO (x:=.d (.int (7+(xs.take 5).sum))) (y:=.d (.int ((4:Int) ^ i))) (AO Ao (AT (IT (n:=5) k.sum (ks:=xs.take 5)) (le_refl _) rfl (Bk (OH (le_trans hz (by decide)) (Aa rfl rfl) fun Z Z=>rfl) fun Z=>rfl) fun Z=>rfl) Ea) (AO Ao (Aa rfl rfl) hp) (Go hne hlt)) Ao (E7 (by decide))) (D0 h4.1 (TQ h4.2)) (La h4.1 h4.2) (fun Z Z=>rfl)
  ·rfl
  ·rw[e0];exact Ai (by show 2≤1000000;decide)
 have sg2:∀p∈BJ xs,∀c∈p,AJ c:=fun p hp=>by
  refine Bh (E0 hp) fun a b x3 ha hb=>?_;subst x3;exact fun c m=>by
   rcases BF m with rfl|m
   ·exact ha
   ·rw[AU m];exact hb
 have ep:PyData.list [.str (S "**"),.str (tx [D6 xs 0,D6 xs 1])]=.list ((BJ xs).map fun p=>.str (tx p)):=rfl;have hsp:DS V w H0 6 (.d (.list [.str (S "**"),.str (tx [D6 xs 0,D6 xs 1])])) ((BJ xs).map fun p=>.d (.str (tx p))):=by
  have:=BG (V:=V) (w:=w) (H0:=H0) (n:=6) (ds:=(BJ xs).map fun p=>.str (tx p));rw[map_map] at this;exact this
 have ea:PyData.list ((BJ xs).map fun p=>AM (AY p))=.list ((BJ xs).filterMap fun p=>some (AM (AY p))):=by rw[filterMap_eq_map']
 refine RM (σ₁:=(S "parts",.d (.list ((BJ xs).map fun p=>AM (AY p))))::[(S "patterns",.d (.list [.str (S "**"),.str (tx [D6 xs 0,D6 xs 1])])),(S "told",.d (Aj (Bw xs))),(S "due",.d (Aj (Bw xs))),(S "script",.d (.list (xs.map .int)))]) (CS (BX ?_)) ?_
 ·rw[ea]
  refine Dj (items:=BJ xs) (enc:=fun p=>.d (.str (tx p))) (fun p=>some (AM (AY p))) (xs:=[S "pattern"]) (x:=.d (.list [.str (S "**"),.str (tx [D6 xs 0,D6 xs 1])])) ?_ ?_ ?_ ?_ ?_ ?_ ?_ hsp (by show 2≤sizeLine;decide) fun p hp=>?_
  ·exact .inl ⟨_,_,rfl⟩
  ·decide +kernel
  ·decide +kernel
  ·exact fun Z Z=>rfl
  ·exact fun zz o=>by have q:=o.scope;cases zz;simp only at q;subst q;rfl
  ·exact Ab rfl
  ·exact Aa rfl rfl
  ·refine Bh (E0 hp) fun a b x3 ha hb=>?_;subst x3
   refine⟨[(S "pattern",.d (.str (tx [a,b])))],true,Af (Ab rfl),rfl,fun y hy=>by rw[AU hy];rfl,BW,fun Z=>⟨_,rfl,?_⟩,E3⟩;exact Fo (xs:=[.str (tx [a,b]),.none,.str (S "any")]) ((OG (n:=4) k [a,b] (.inr ⟨a,b,rfl,ha,hb⟩)).le (le_refl _)) (le_refl _) rfl (BM (Aa rfl rfl) (Bo BV Bz (fun Z=>rfl) fun Z=>rfl) fun Z=>rfl) fun Z=>rfl
 refine RN (a:=.list ((BJ xs).map fun p=>AM (AY p))) (b:=.list ((BJ xs).map fun p=>AM (AY p))) (Aa rfl rfl) ?_ (IH sg2) (IH sg2) (PySem.Spec.same_self _) rfl (Uv ?_)
 ·have ef:(fun p=>AM (AY p))=fun p=>PyData.list ((PR p).map fun c=>BD (D4 c)):=by
   funext p
   rw[RU,AM,map_map];rfl
  rw[ef];refine RK (items:=BJ xs) (enc:=fun p=>.d (.str (tx p))) (fun p=>PyData.list ((PR p).map fun c=>BD (D4 c))) ?_ ?_ ?_ (RJ (x:=.d (.list [.str (S "**"),.str (tx [D6 xs 0,D6 xs 1])])) (RL (Aa rfl rfl)) hsp (.inl ⟨_,_,rfl⟩)) (by show 2≤sizeLine;decide) ?_ rfl fun p hp=>?_
  ·decide +kernel
  ·exact .inl rfl
  ·exact fun Z Z=>rfl
  ·exact Ab rfl
  ·refine Bh (E0 hp) fun a b x3 ha hb=>?_;subst x3
   have hsq:∀c∈PR [a,b],AJ c:=fun c m=>by
    unfold PR at m;split at m
    ·rw[AU m];unfold AJ;decide
    ·exact sg2 _ hp c m
   have hsrc:DS V w H0 6 (.d (.str (Txt.replace (tx [a,b]) (S "**") (S "*")))) ((PR [a,b]).map fun c=>.d (.str (sg c))):=by
    rw[NY ha hb];have:=IS (V:=V) (w:=w) (H0:=H0) (n:=6) (x:=tx (PR [a,b])) (by
     rw[←Array.all_toList];refine all_eq_true.mpr fun c m=>decide_eq_true ?_;have m:c∈PR [a,b]:=by simpa [tx] using m
     rcases hsq c m with rfl|rfl|rfl|rfl<;> decide)
    unfold G1 at this;rw[map_map] at this;exact this
   refine RK (items:=PR [a,b]) (enc:=fun c=>.d (.str (sg c))) (fun c=>BD (D4 c)) ?_ ?_ ?_ (RJ (x:=.d (.str (Txt.replace (tx [a,b]) (S "**") (S "*")))) (ME (Aa rfl rfl) rfl ?_ (fun Z=>rfl) (by decide)) hsrc (.inl ⟨_,_,rfl⟩)) ?_ ?_ ?_ fun c hc=>?_
   ·decide +kernel
   ·exact .inl rfl
   ·exact fun Z Z=>rfl
   ·show 2+(2+1)*1≤16777216;decide
   ·refine Ai ?_
    unfold PR;split
    ·exact succ_pos _
    ·simp
   ·exact Ab rfl
   ·rfl
   ·refine RL (P:=Rd (BD (D4 c))) ?_
    have dg:=fun e1 e2 D pa pos dp p1 p2 p3 p4 k1 k2 k3 k4 sc σ=>Tm (V:=V) (w:=w) (H0:=H0) (n:=6) (zx:=zx) (sc:=sc) (σ:=σ) (e1:=e1) (e2:=e2) (D:=D) (pa:=pa) (pos:=pos) (dp:=dp) (p1:=p1) (p2:=p2) (p3:=p3) (p4:=p4) (k1:=k1) (k2:=k2) (k3:=k3) (k4:=k4) (c:=c) k.pk.sm (hsq c hc);refine dg _ _ _ _ _ _ _ _ _ _ _ _ _ _ _ _ ?_ ?_ rfl ?_ ?_ ?_
    ·exact OI rfl
    ·exact OI rfl
    ·exact fun Z=>rfl
    ·decide
    ·exact fun Z=>rfl
 have hnm:=ok.names;have eb:∀f:List Nat->PyData,PyData.list ((BJ xs).map f)=.list ((BJ xs).filterMap fun p=>some (f p)):=fun f=>by rw[filterMap_eq_map']
 refine DU (Gq (AV (DD (P:=Rd (.bool true)) ?_) fun g fl σ' zx' q=>q.1) fun g σ' zx' q=>by refine Ad q fun v e Z=>?_;exact ML e);have hop:Bm V w H0 6 (compareOp .Eq) (.d (.list ((BJ xs).map fun p=>DV (Gd (Bw xs) p)))) (.d (.list ((BJ xs).map fun p=>DV (Gd (Bw xs) p)))) (Rd (.bool true)):=by
  have:=Jc (V:=V) (w:=w) (H0:=H0) (n:=6) (JV ok (BJ xs)) (JV ok (BJ xs));rwa [PySem.Spec.same_self] at this
 refine DX (x:=.d (.list ((BJ xs).map fun p=>DV (Gd (Bw xs) p)))) (y:=.d (.list ((BJ xs).map fun p=>DV (Gd (Bw xs) p)))) ?_ ?_ hop rfl
 ·rw[eb]
  refine FA (items:=BJ xs) (enc:=fun p=>.d (AM (AY p))) (fun p=>some (DV (Gd (Bw xs) p))) (xs:=[S "one"]) (x:=.d (.list ((BJ xs).map fun p=>AM (AY p)))) ?_ ?_ ?_ ?_ ?_ ?_ (by show 2≤sizeLine;decide) fun p hp=>?_
  ·exact .inl ⟨_,_,rfl⟩
  ·decide +kernel
  ·decide +kernel
  ·exact fun Z Z=>rfl
  ·exact Aa rfl rfl
  ·have:=BG (V:=V) (w:=w) (H0:=H0) (n:=6) (ds:=(BJ xs).map fun p=>AM (AY p))
   rw[map_map] at this;exact this
  ·refine Bh (E0 hp) fun a b x3 ha hb=>?_;subst x3
   refine⟨[(S "one",.d (AM (AY [a,b])))],true,Af (Ab rfl),rfl,fun y hy=>by rw[AU hy];rfl,BW,fun Z=>⟨_,rfl,?_⟩,E3⟩;rw[←Nn (parts:=AY [a,b]) (fun x hx=>Jz ha hb hx) hnm];exact Fo (xs:=[Aj (Bw xs),AM (AY [a,b])]) (RT k ok ha hb) (le_refl _) rfl (Bo (Aa rfl rfl) (Aa rfl rfl) (fun Z=>rfl) fun Z=>rfl) fun Z=>rfl
 ·rw[eb]
  refine FA (items:=BJ xs) (enc:=fun p=>.d (.str (tx p))) (fun p=>some (DV (Gd (Bw xs) p))) (xs:=[S "pattern"]) (x:=.d (.list [.str (S "**"),.str (tx [D6 xs 0,D6 xs 1])])) ?_ ?_ ?_ ?_ ?_ hsp (by show 2≤sizeLine;decide) fun p hp=>?_
  ·exact .inl ⟨_,_,rfl⟩
  ·decide +kernel
  ·decide +kernel
  ·exact fun Z Z=>rfl
  ·exact Aa rfl rfl
  ·refine Bh (E0 hp) fun a b x3 ha hb=>?_;subst x3
   refine⟨[(S "pattern",.d (.str (tx [a,b])))],true,Af (Ab rfl),rfl,fun y hy=>by rw[AU hy];rfl,BW,fun Z=>⟨_,rfl,?_⟩,E3⟩;exact Fo (xs:=[Aj (Bw xs),.str (tx [a,b])]) (Ve k ok ha hb) (le_refl _) rfl (Bo (Aa rfl rfl) (Aa rfl rfl) (fun Z=>rfl) fun Z=>rfl) fun Z=>rfl
end
section
variable{K:Frag}{c:Cls2}{C:Addr}
theorem UB{a b:Bool}:Bm V w H0 n (compareOp .NotEq) (.d (.bool a)) (.d (.bool b)) (Rd (.bool (a !=b))):=by
 intro A s zy u v g B ra rb;have e1:=E6 ra;have e2:=E6 rb;subst e1 e2;exact PyProof.Rows.ne_bool (Pu.here (BB _ _))
theorem MI{t1 t2:Str}{p1 p2 p4 p5 pos:Pos}{k k2:Nat}{es:List Expr}{Θ:List Ent->AN->Aw->Prop}{d1 d2:PyData}(h:UE V w H0 n sc σ zx p5 es Θ)(h1:Az sc t1)(h2:Az sc t2)(hlen:∀xs σ' zx',Θ xs σ' zx'->xs=[.d d1,.d d2])
  (hs:∀zz,EnvOk sc zz->swapsWith (.Tuple es k2 p5) (some (.Tuple [.Name t1 p1,.Name t2 p2] k p4)) pos.line zz=pure false)
  (hw:∀zz,EnvOk sc zz->swappedStores [.Tuple [.Name t1 p1,.Name t2 p2] k p4] (.Tuple es k2 p5) zz=pure none):
  GT V w H0 n sc σ zx (.Assign [.Tuple [.Name t1 p1,.Name t2 p2] k p4] (.Tuple es k2 p5) pos) (fun Z fl σ' zx'=>fl=.next∧∃σ₁,Θ [.d d1,.d d2] σ₁ zx'∧σ'=(t2,.d d2)::(t1,.d d1)::σ₁):=by
 revert h h1 h2 hlen hs hw;revert es Θ d1 d2;revert V w H0 n sc σ zx t1 t2 p1 p2 p4 p5 pos k k2;refine no_implicit_lambda% (FM (by exact((((default,w0),default),default),default)) ?_);generalize CF _ _=t9;generalize t9.1.1.1.1=V,t9.1.1.1.2=w,t9.1.1.2.1=H0,t9.1.1.2.2=n,t9.1.2.1.1=sc,t9.1.2.1.2=σ,t9.1.2.2.1=zx,t9.1.2.2.2=t1,t9.2.1.1.1=t2,t9.2.1.1.2=p1,t9.2.1.2.1=p2,t9.2.1.2.2=p4,t9.2.2.1.1=p5,t9.2.2.1.2=pos,t9.2.2.2.1=k,t9.2.2.2.2=k2;refine no_implicit_lambda% (JZ (by exact(default,(.none,.none))) ?_);generalize Iq _ _=t9;generalize t9.1.1=es,t9.1.2=Θ,t9.2.1=d1,t9.2.2=d2;intro h h1 h2 hlen hs hw;intro A zz s zy g o F;show wpAny _ A (standAt pos >>=fun Z=>swapsWithSole [.Tuple [.Name t1 p1,.Name t2 p2] k p4] (.Tuple es k2 p5) pos.line zz >>=fun b=>if b=true then _ else _) _ _ s;refine Ac (wpAny_standAt (Ac ?_));show wpAny _ A (swapsWith (.Tuple es k2 p5) (some (.Tuple [.Name t1 p1,.Name t2 p2] k p4)) pos.line zz) _ _ s;rw[hs zz o];refine Ag ?_;rw[if_neg Bool.false_ne_true];refine Ac (wpAny_Tuple_spliced (Ah (h A zz s zy g o F) (fun vs s₁ q=>?_) fun Z Z f=>f.elim));refine GQ (GP.back (α:=Flow) F q) fun zy1 σ₁ zx₁ F1 x5 Z back1=>?_;rcases x5 with ⟨xs,mxs,p₁⟩;have e:=hlen _ _ _ p₁;subst e;refine OJ (Uq mxs rfl) fun v1 v2 x1 x2 h9=>?_;refine BL h9 fun x5 e=>?_;clear h9;subst x5;cases e;refine CZ mxs fun m1 m2 Z=>?_;refine⟨by show(2:Nat)≤sizeLine;decide,?_⟩;refine Ac ?_;rw[hw zz o];refine Ag ?_;have ex:Ext s₁.heap (s₁.heap.push {cls:=.type "tuple",data:=.seq [v1,v2].toArray}):=An _ _;have F2:=F1.ext ex;have mt:Means (vis (s₁.heap.push {cls:=.type "tuple",data:=.seq [v1,v2].toArray}) zy1) (.ref s₁.heap.objs.size) (.d (.tuple [d1,d2])):=
  Hj ⟨_,De F1.toBase _,rfl,0,rfl⟩ (.cons (Rd.ext m1 (AK zy1 ex)) (.cons (Rd.ext m2 (AK zy1 ex)) .nil))
 show wpAny _ A (assignAll (.ref s₁.heap.objs.size) [assign (.Tuple [.Name t1 p1,.Name t2 p2] k p4) zz] >>=fun Z=>pure Flow.next) _ _ _;refine Ac ?_;show wpAny _ A (assign (.Tuple [.Name t1 p1,.Name t2 p2] k p4) zz (.ref s₁.heap.objs.size)) _ _ _;refine Ah (DZ (b1:=[(t1,.d d1)]) (b2:=[(t2,.d d2)]) (C9 (ds:=[d1,d2])) (Af h1) (Af h2) (fun Z=>rfl) A zz _ zy1 zx₁ σ₁ (.ref s₁.heap.objs.size) g o F2 mt) (fun Z s2 q2=>Ag ?_) fun Z Z f=>f;refine Bh q2 fun h₂ t₂ x3 k₂ F3=>?_;try clear q2;subst x3
 exact back1 _ _ _ ⟨h₂,t₂,zy1,_,zx₁,rfl,(ex.keep _).trans (k₂.more (AL zz zx₁ _)),F3,fun Z m=>m,fun Z m=>.inl m,fun p m=>.inl (mem_map_of_mem m),rfl,σ₁,p₁,rfl⟩
set_option maxHeartbeats 2000000 in
theorem RX(k:LawK V w H0 K c C)(xs:List Int)(hz:xs.length≤63):
  HX true V w H0 6 Tq [(S "script",.d (.list (xs.map .int)))] [] (AD (B7 33)) (fun g fl Z Z=>∃v,fl=.ret v∧Rd (.bool true) g v):=by
 revert k hz;revert xs;revert c C;revert V w H0 K;refine no_implicit_lambda% (JZ (by exact((default,w0),default)) ?_);generalize Iq _ _=t9;generalize t9.1.1=V,t9.1.2=w,t9.2.1=H0,t9.2.2=K;refine no_implicit_lambda% (I8 (by exact(⟨0,0⟩,default)) ?_);generalize Ip _ _=t9;generalize t9.1=c,t9.2=C;refine no_implicit_lambda% (Io (default) ?_);generalize HR _ _=xs;intro k hz;have hj:Kn (xs.take 5++tail8)=(IM xs).map Ga:=QK _;have e0:PyData.list ((xs.take 5++tail8).map .int)=.list ((xs.take 5).map .int++tail8.map .int):=by rw[map_append]
 have ok:=TM xs;refine UA (z:=.d (BY ((IM xs).map Ga))) ?_ ?_ (Ab rfl) (fun Z Z=>rfl) (fun Z Z=>rfl)
 ·rw[←hj]
  refine Fo (xs:=[.list ((xs.take 5++tail8).map .int),.int 8]) (Ux (n:=4) k (xs.take 5++tail8)) (le_refl _) rfl (Bo ?_ Ao (fun Z=>rfl) fun Z=>rfl) fun Z=>rfl;rw[e0];exact AO (OH (le_trans hz (by decide)) (Aa rfl rfl) fun Z Z=>rfl) (AE (ds:=tail8.map .int) (BM Ao (BM Ao (BM Ao (BM Ao (BM Ao (BM Ao (Bo Ao Ao (fun Z=>rfl) fun Z=>rfl) fun Z=>rfl) fun Z=>rfl) fun Z=>rfl) fun Z=>rfl) fun Z=>rfl) fun Z=>rfl) (by decide)) (EB (Ai (by rw[length_map,length_take];have:(tail8.map PyData.int).length=8:=rfl;lia)))
 refine Dz (RQ k ok) fun fS gS cS callS=>?_;refine B3 (NV (Ψ:=fun a b zx'=>∃(r:Rep) (ad:Addr),r.abs=Abs.all (IM xs)∧r.passed=0∧r.fin=0∧RepOk V w c (r.begin ad) zx'∧a=r.at' .S∧(b=false->IL r.succ r.names)∧(b=true->Dx r.succ r.names)) (ET (RO (rest:=[]) (DA gS rfl) cS (Bk (Aa rfl rfl) fun Z=>rfl) callS (fun p m=>BK m) (fun p m=>BK m) fun Z=>rfl) fun g v σ' zx' q=>?_) (Ab rfl) (Ab rfl) (fun Z Z=>rfl) fun zz o=>by have q:=o.scope;cases zz;simp only at q;subst q;rfl) fun g σ' zx' q=>?_
 ·obtain⟨rfl,L',⟨r,a,b,l,h1,h2,h3,h4,rfl,hl,h5,h6⟩,rfl⟩:=q
  rw[append_nil];exact⟨l,r.at' .S,b,rfl,hl,rfl,r,a,h1,h2,h3,h4,rfl,h5,h6⟩
 refine B8 q fun a b x3 x4=>?_;try clear q;rcases x3 with ⟨r,ad,h1,h2,h3,h4,rfl,h5,h6⟩;subst x4
 refine Bh (LK ok (a:=ad) h1 h2 h3) fun Kw m0 kv hk0 hend=>?_;refine Dz (RS k kv hk0 h4) fun fR gR cR callR=>?_;have hfacts:∀g v,(∃m r' rs,Kw m r' rs∧r'.ready=some []∧Rd (Aj rs) g v)->Rd (Aj (Bw xs)) g v∧RoundsOk (Bw xs)∧b=decide (((Bw xs).map List.length).sum<8):=fun g v q=>by
  refine PW q fun m r' rs h9=>?_;refine CZ h9 fun q1 q2 q3=>?_;clear h9;refine JX (hend m r' rs q1 q2) fun x1 z1 z2 z3=>?_;subst x1;refine⟨q3,PT z1,?_⟩;have z2:IL r.succ r.names->((Bw xs).map List.length).sum=(IM xs).length:=z2;have z3:Dx r.succ r.names->((Bw xs).map List.length).sum<(IM xs).length:=z3;rw[NX] at z2 z3;cases b with
  |false=>exact(decide_eq_false (by have:=z2 (h5 rfl);lia)).symm
  |true=>exact(decide_eq_true (z3 (h6 rfl))).symm
 refine B3 (CS (MI (d1:=Aj (Bw xs)) (d2:=Aj (Bw xs)) (Θ:=fun ys σ' zx'=>ys=[.d (Aj (Bw xs)),.d (Aj (Bw xs))]∧σ'=[(S "ring",.d (.bool b)),(S "sorter",.v (.ref (r.at' .S))),(S "jobs",.d (BY ((IM xs).map Ga))),(S "script",.d (.list (xs.map .int)))]∧RoundsOk (Bw xs)∧b=decide (((Bw xs).map List.length).sum<8))
  (Ex (Ψ:=fun y σ' zx'=>y=.d (Aj (Bw xs))∧σ'=[(S "ring",.d (.bool b)),(S "sorter",.v (.ref (r.at' .S))),(S "jobs",.d (BY ((IM xs).map Ga))),(S "script",.d (.list (xs.map .int)))]∧RoundsOk (Bw xs)∧b=decide (((Bw xs).map List.length).sum<8)) (AV (QZ (rest:=[]) (DA gR rfl) cR (Bk (Aa rfl rfl) fun Z=>rfl) callR (fun p m=>m) (fun p m=>BK m) fun Z=>rfl) fun g v σ2 zx2 q=>?_) (fun y σ2 zx2 q=>Ex (NL (x:=.d (Aj (Bw xs))) ?_) (fun y σ3 zx3 q3=>LH ?_) fun Z=>rfl) fun Z=>rfl)
  (Ab rfl) (Ab rfl) (fun ys σ' zx' q=>q.1) (fun Z Z=>rfl) fun zz o=>by have q:=o.scope;cases zz;simp only at q;subst q;rfl)) fun g σ2 zx2 q=>?_
 ·obtain⟨rfl,L',q,rfl⟩:=q
  refine CZ (hfacts g v q) fun z1 z2 z3=>?_;exact⟨.d (Aj (Bw xs)),z1,rfl,rfl,z2,z3⟩
 ·refine CZ q fun x1 x2 Z=>?_;try clear q;subst x1;subst x2
  exact AT (Vd (n:=5) k ok) (le_refl _) rfl (Bk (AT (Tp (n:=4) k ok) (le_refl _) rfl (Bk (Aa rfl rfl) fun Z=>rfl) fun Z=>rfl) fun Z=>rfl) fun Z=>rfl
 ·refine JX q fun x1 x2 z2 z3=>?_;try clear q;subst x1;subst x2
  refine CZ q3 fun x1 x2 x3=>?_;try clear q3;subst x1;subst x2;subst x3
  exact⟨rfl,rfl,z2,z3⟩
 refine Ad q fun σ3 x2 x3=>?_;try clear q;rcases x2 with ⟨_,rfl,okr,hb⟩;subst x3
 have hfr:=MH okr.names;have hne:Bm V w H0 6 (compareOp .NotEq) (.d (Aj (Bw xs))) (.d (Aj (Bw xs))) (Rd (.bool false)):=by
  have:=HV (V:=V) (w:=w) (H0:=H0) (n:=6) hfr hfr;rwa [PySem.Spec.same_self] at this
 have hne2:Bm V w H0 6 (compareOp .NotEq) (.d (.bool b)) (.d (.bool (decide (((Bw xs).map List.length).sum<8)))) (Rd (.bool false)):=by
  rw[←hb];have:=UB (V:=V) (w:=w) (H0:=H0) (n:=6) (a:=b) (b:=b);rwa [show(b !=b)=false by cases b<;> rfl] at this
 refine IR (CS (BR (b:=false ||false) (AH (DB (Ar (Aa rfl rfl) (Aa rfl rfl) hne rfl) fun Z=>DK (Ar (Aa rfl rfl) (DX (P:=Rd (.bool (decide (((Bw xs).map List.length).sum<8)))) (Tr (n:=5) k okr (Aa rfl rfl) (fun Z Z=>rfl) rfl (by decide +kernel) (Ab rfl) rfl rfl rfl rfl) Ao (by
  have:=Ei (V:=V) (w:=w) (H0:=H0) (n:=6) (a:=((((Bw xs).map List.length).sum:Nat):Int)) (b:=8);have e:decide (((((Bw xs).map List.length).sum:Nat):Int)<8)=decide (((Bw xs).map List.length).sum<8):=decide_eq_decide.mpr UJ;rwa [e] at this) rfl) hne2 rfl))) (fun q=>absurd q (by decide)) fun Z=>AC fun g=>⟨rfl,rfl,rfl⟩)) ?_
 exact TY (RW k xs hz okr) (Bl rfl)
end
noncomputable def HP (K:Frag) (f:Addr):Obj:=(K.lookup f).getD {cls:=.none,data:=.plain}
noncomputable def Cs (K:Frag) (f:Addr) (d:FuncData):FuncData:=match(HP K f).data with|.func fd=>fd|_=>d
def DefAt(K:Frag)(d:FuncData)(f:Addr)(st:Stmt):Prop:=
 (K.lookup f,(HP K f).data,codeIn K (Cs K f d).code (Cs K f d).qualname,(Cs K f d).body,(Cs K f d).closure,(Cs K f d).scope,(Cs K f d).globals,(Cs K f d).builtins)=(some (HP K f),.func (Cs K f d),true,.stmts (AD st),[],Ap st,mainGlobals,builtinsNs)
section
variable{K:Frag}{d:FuncData}{f:Addr}{st:Stmt}{H:Heap}{p:Program}{loose:List Str}{mg mb:Str->Option Value}{x:Str}{v:Value}{V:Program}{w:World}
theorem DefAt.g(D:DefAt K d f st)(X:K.In H)(T:TopRead p loose mg mb H):DefG H f (Cs K f d) (Ap st) (AD st):=by
 injection D with e1 D;injection D with e0 D;injection D with e2 D;injection D with e3 D;injection D with e4 D;injection D with e5 D;injection D with e6 e7;exact⟨⟨_,X _ _ e1,e0⟩,T.nolimit,codeRec_of X e2,e3,e4,e5,e6,e7⟩
theorem DefAt.is'{ps:List Str}(D:DefAt K d f st)(X:K.In H)(T:TopRead p loose mg mb H)(hb:∀vs:List Value,vs.length=ps.length->bindArgs (Cs K f d) ⟨vs,[]⟩=pure (ps.zip vs)):DefIs H f (Cs K f d) (Ap st) ps (AD st):=
 let g:=D.g X T
 ⟨g.obj,g.lim,g.rec',g.body,g.clo,g.scope,g.glob,g.bi,hb⟩
theorem Dy(X:K.In H)(T:TopRead p loose mg mb H)(e:nsIn K mainGlobals x=some (some v)):GIs H x v:=⟨mg,T.g,.inl (mg_of X T.g e)⟩
theorem BC(X:K.In H)(T:TopRead p loose mg mb H)(e:nsIn K mainGlobals x=some none)(hb:bootBuiltins x=some v)(hn:x≠"__name__"):GIs H x v:=⟨mg,T.g,.inr ⟨ns_none_of X T.g e,mb,T.b,(T.builtins x hn).trans hb⟩⟩
theorem FG{fd:FuncData}{a:Str}(h:∀u,bindArgs fd ⟨[u],[]⟩=pure [(a,u)]):∀vs:List Value,vs.length=[a].length->bindArgs fd ⟨vs,[]⟩=pure ([a].zip vs):=fun vs hl=>by
 refine ex1 (length_eq_one_iff.mp hl) fun u x2=>?_;subst x2;exact h u
theorem HQ{fd:FuncData}{a b:Str}(h:∀u v,bindArgs fd ⟨[u,v],[]⟩=pure [(a,u),(b,v)]):∀vs:List Value,vs.length=[a,b].length->bindArgs fd ⟨vs,[]⟩=pure ([a,b].zip vs):=fun vs hl=>by
 refine ex2 (J9 hl) fun u v x3=>?_;subst x3;exact h u v
theorem TN{fd:FuncData}{a b c:Str}(h:∀u v z,bindArgs fd ⟨[u,v,z],[]⟩=pure [(a,u),(b,v),(c,z)]):∀vs:List Value,vs.length=[a,b,c].length->bindArgs fd ⟨vs,[]⟩=pure ([a,b,c].zip vs):=fun vs hl=>by
 refine PW (PY hl) fun u v z x4=>?_;subst x4;exact h u v z
theorem GJ{name:Str}{k:Nat}{ps:List Str}(D:DefAt K d f (B7 k))(X:K.In H)(T:TopRead p loose mg mb H)(e:nsIn K mainGlobals name=some (some (.ref f)))(hb:∀vs:List Value,vs.length=ps.length->bindArgs (Cs K f d) ⟨vs,[]⟩=pure (ps.zip vs)):DefK H name k ps:=⟨f,_,Dy X T e,D.is' X T hb⟩
theorem JW{c:Cls2}{name:Str}(D:DefAt K d f st)(X:K.In H)(T:TopRead p loose mg mb H)(e:findIn K (.ref c.C1) name=some (some (.ref f)))(ht:typeIn K (.ref f)=some (.type "function")):MethK K H c name st f (Cs K f d):=⟨e,ht,D.g X T⟩
noncomputable def Ts (es:List DictEntry):Bool:=es.all fun e=>match e.key with|.int k _=>e.hash==hashInt k|_=>false
noncomputable def PU:Data->Array DictEntry×Nat
 |.dict es n=>(es,n)
 |_=>(#[],0)
def RY(K:Frag)(a:Addr):Prop:=
 (K.lookup a,Ts (PU (HP K a).data).1.toList,findBy Value.isInt (PU (HP K a).data).1 97,findBy Value.isInt (PU (HP K a).data).1 98)=(some ⟨.type "dict",none,.dict (PU (HP K a).data).1 (PU (HP K a).data).2,#[]⟩,true,none,none)
theorem UC{a:Addr}(X:K.In H)(e:RY K a)(lo:(a==sysModules)=false):∃f,Ol w V a f H∧f 97=none∧f 98=none:=by
 injection e with e0 e;injection e with e1 e;injection e with e2 e3;refine⟨fun k=>findBy Value.isInt (PU (HP K a).data).1 k,⟨lo,_,_,_,X _ _ e0,⟨rfl,rfl,rfl⟩,rfl,fun d hd=>?_,fun Z=>rfl⟩,e2,e3⟩;have:=all_eq_true.mp e1 d (Array.mem_toList_iff.mpr hd);generalize d.key=k at this ⊢;cases k with
 |int k t=>exact⟨k,beq_self_eq_true k,eq_of_beq this⟩
 |_=>exact Bool.noConfusion this
end
theorem NZ{fd:FuncData}{a c:Str}(h:∀u ws,bindArgs fd ⟨u::ws,[]⟩=(newTuple ws >>=fun t=>pure [(a,u),(c,t)])):∀vs ws:List Value,vs.length=[a].length->bindArgs fd ⟨vs++ws,[]⟩=(newTuple ws >>=fun t=>pure (([a]++[c]).zip (vs++[t]))):=fun vs ws hl=>by
 refine ex1 (length_eq_one_iff.mp hl) fun u x2=>?_;subst x2;exact h u ws
theorem N0{fd:FuncData}{a b c:Str}(h:∀u v ws,bindArgs fd ⟨u::v::ws,[]⟩=(newTuple ws >>=fun t=>pure [(a,u),(b,v),(c,t)])):∀vs ws:List Value,vs.length=[a,b].length->bindArgs fd ⟨vs++ws,[]⟩=(newTuple ws >>=fun t=>pure (([a,b]++[c]).zip (vs++[t]))):=fun vs ws hl=>by
 refine ex2 (J9 hl) fun u v x3=>?_;subst x3;exact h u v ws
noncomputable abbrev RZ:Cls2:=⟨178,81⟩
theorem Vx{V:Program}{w:World}{H:Heap}{p:Program}{loose:List Str}{mg mb:Str->Option Value}{K:Frag}{d:FuncData}(X:Frag.In K H)(T:TopRead p loose mg mb H)
 (at5:DefAt K d 55 (B7 5))
 (b5:∀u,bindArgs (Cs K 55 d) ⟨[u],[]⟩=pure [(S "pattern",u)])
 (n5:nsIn K mainGlobals (S "escape")=some (some (.ref 55)))
 (at7:DefAt K d 62 (B7 7))
 (b7:∀u v z,bindArgs (Cs K 62 d) ⟨[u,v,z],[]⟩=pure [(S "pat",u),(S "STAR",v),(S "QUESTION_MARK",z)])
 (n7:nsIn K mainGlobals (S "_translate")=some (some (.ref 62)))
 (at18:DefAt K d 189 (B7 18))
 (b18:∀u v,bindArgs (Cs K 189 d) ⟨[u,v],[]⟩=pure [(S "ch_a",u),(S "ch_b",v)])
 (n18:nsIn K mainGlobals (S "_substitution_cost")=some (some (.ref 189)))
 (at19:DefAt K d 196 (B7 19))
 (b19:∀u v z,bindArgs (Cs K 196 d) ⟨[u,v,z],[]⟩=pure [(S "a",u),(S "b",v),(S "max_cost",z)])
 (n19:nsIn K mainGlobals (S "_levenshtein_distance")=some (some (.ref 196)))
 (at21:DefAt K d 203 (B7 21))
 (b21:∀u,bindArgs (Cs K 203 d) ⟨[u],[]⟩=pure [(S "x",u)])
 (n21:nsIn K mainGlobals (S "_law_name")=some (some (.ref 203)))
 (at22:DefAt K d 210 (B7 22))
 (b22:∀u,bindArgs (Cs K 210 d) ⟨[u],[]⟩=pure [(S "x",u)])
 (n22:nsIn K mainGlobals (S "_law_pattern")=some (some (.ref 210)))
 (at23:DefAt K d 215 (B7 23))
 (b23:∀u v,bindArgs (Cs K 215 d) ⟨[u,v],[]⟩=pure [(S "numbers",u),(S "many",v)])
 (n23:nsIn K mainGlobals (S "_law_jobs")=some (some (.ref 215)))
 (at24:DefAt K d 222 (B7 24))
 (b24:∀u v,bindArgs (Cs K 222 d) ⟨[u,v],[]⟩=pure [(S "parts",u),(S "name",v)])
 (n24:nsIn K mainGlobals (S "_law_takes")=some (some (.ref 222)))
 (at25:DefAt K d 229 (B7 25))
 (b25:∀u v,bindArgs (Cs K 229 d) ⟨[u,v],[]⟩=pure [(S "pattern",u),(S "name",v)])
 (n25:nsIn K mainGlobals (S "_law_fits")=some (some (.ref 229)))
 (at26:DefAt K d 234 (B7 26))
 (b26:∀u v,bindArgs (Cs K 234 d) ⟨[u,v],[]⟩=pure [(S "one",u),(S "two",v)])
 (n26:nsIn K mainGlobals (S "_law_price")=some (some (.ref 234)))
 (at27:DefAt K d 239 (B7 27))
 (b27:∀u,bindArgs (Cs K 239 d) ⟨[u],[]⟩=pure [(S "jobs",u)])
 (n27:nsIn K mainGlobals (S "_law_sorter")=some (some (.ref 239)))
 (at28:DefAt K d 244 (B7 28))
 (b28:∀u,bindArgs (Cs K 244 d) ⟨[u],[]⟩=pure [(S "jobs",u)])
 (n28:nsIn K mainGlobals (S "_law_needs")=some (some (.ref 244)))
 (at29:DefAt K d 251 (B7 29))
 (b29:∀u,bindArgs (Cs K 251 d) ⟨[u],[]⟩=pure [(S "sorter",u)])
 (n29:nsIn K mainGlobals (S "_law_rounds")=some (some (.ref 251)))
 (at30:DefAt K d 256 (B7 30))
 (b30:∀u,bindArgs (Cs K 256 d) ⟨[u],[]⟩=pure [(S "needs",u)])
 (n30:nsIn K mainGlobals (S "_law_due_rounds")=some (some (.ref 256)))
 (at31:DefAt K d 261 (B7 31))
 (b31:∀u v,bindArgs (Cs K 261 d) ⟨[u,v],[]⟩=pure [(S "rounds",u),(S "parts",v)])
 (n31:nsIn K mainGlobals (S "_law_thread")=some (some (.ref 261)))
 (at32:DefAt K d 266 (B7 32))
 (b32:∀u v,bindArgs (Cs K 266 d) ⟨[u,v],[]⟩=pure [(S "rounds",u),(S "pattern",v)])
 (n32:nsIn K mainGlobals (S "_law_all")=some (some (.ref 266)))
 (mt0:DefAt K d 114 (Cv 13 0))
 (mf0:findIn K (.ref 178) (S "__init__")=some (some (.ref 114)))
 (my0:typeIn K (.ref 114)=some (.type "function"))
 (mt1:DefAt K d 121 (Cv 13 1))
 (mb1:∀u v,bindArgs (Cs K 121 d) ⟨[u,v],[]⟩=pure [(S "self",u),(S "node",v)])
 (mf1:findIn K (.ref 178) (S "_get_nodeinfo")=some (some (.ref 121)))
 (my1:typeIn K (.ref 121)=some (.type "function"))
 (mt2:DefAt K d 128 (Cv 13 2))
 (mf2:findIn K (.ref 178) (S "add")=some (some (.ref 128)))
 (my2:typeIn K (.ref 128)=some (.type "function"))
 (mt3:DefAt K d 133 (Cv 13 3))
 (mb3:∀u,bindArgs (Cs K 133 d) ⟨[u],[]⟩=pure [(S "self",u)])
 (mf3:findIn K (.ref 178) (S "prepare")=some (some (.ref 133)))
 (my3:typeIn K (.ref 133)=some (.type "function"))
 (mt4:DefAt K d 140 (Cv 13 4))
 (mb4:∀u,bindArgs (Cs K 140 d) ⟨[u],[]⟩=pure [(S "self",u)])
 (mf4:findIn K (.ref 178) (S "get_ready")=some (some (.ref 140)))
 (my4:typeIn K (.ref 140)=some (.type "function"))
 (mt5:DefAt K d 147 (Cv 13 5))
 (mb5:∀u,bindArgs (Cs K 147 d) ⟨[u],[]⟩=pure [(S "self",u)])
 (mf5:findIn K (.ref 178) (S "is_active")=some (some (.ref 147)))
 (my5:typeIn K (.ref 147)=some (.type "function"))
 (mt7:DefAt K d 161 (Cv 13 7))
 (mf7:findIn K (.ref 178) (S "done")=some (some (.ref 161)))
 (my7:typeIn K (.ref 161)=some (.type "function"))
 (mt8:DefAt K d 168 (Cv 13 8))
 (mb8:∀u,bindArgs (Cs K 168 d) ⟨[u],[]⟩=pure [(S "self",u)])
 (mf8:findIn K (.ref 178) (S "_find_cycle")=some (some (.ref 168)))
 (my8:typeIn K (.ref 168)=some (.type "function"))
 (nt1:DefAt K d 77 (Cv 11 1))
 (nb1:∀u v,bindArgs (Cs K 77 d) ⟨[u,v],[]⟩=pure [(S "self",u),(S "node",v)])
 (nf1:findIn K (.ref 81) (S "__init__")=some (some (.ref 77)))
 (ny1:typeIn K (.ref 77)=some (.type "function"))
 (ckls:ClsK K RZ)
 (exc96:excIn K 96 [.type "ValueError",.type "Exception",.type "BaseException",.type "object"] "ValueError.__new__"=true)
 (nexc:nsIn K mainGlobals (S "CycleError")=some (some (.ref 96)))
 (nC1:nsIn K mainGlobals (S "TopologicalSorter")=some (some (.ref 178)))
 (nC2:nsIn K mainGlobals (S "_NodeInfo")=some (some (.ref 81)))
 (mk1:makesIn K 178=true)
 (mk2:makesIn K 81=true)
 (tab45:RY K 45)
 (ntab:nsIn K mainGlobals (S "_special_chars_map")=some (some (.ref 45)))
 (i_CASE_COST:nsIn K mainGlobals (S "_CASE_COST")=some (some (.int 1 691)))
 (i_MOVE_COST:nsIn K mainGlobals (S "_MOVE_COST")=some (some (.int 2 689)))
 (i_MAX_STRING_SIZE:nsIn K mainGlobals (S "_MAX_STRING_SIZE")=some (some (.int 40 687)))
 (i_NODE_OUT:nsIn K mainGlobals (S "_NODE_OUT")=some (some (.int (-1) 506)))
 (i_NODE_DONE:nsIn K mainGlobals (S "_NODE_DONE")=some (some (.int (-2) 509)))
 (g_len:nsIn K mainGlobals (S "len")=some none)
 (g_min:nsIn K mainGlobals (S "min")=some none)
 (g_sum:nsIn K mainGlobals (S "sum")=some none)
 (g_sorted:nsIn K mainGlobals (S "sorted")=some none)
 (g_isinstance:nsIn K mainGlobals (S "isinstance")=some none)
 (g_iter:nsIn K mainGlobals (S "iter")=some none)
 (g_zip:nsIn K mainGlobals (S "zip")=some none)
 (g_range:nsIn K mainGlobals (S "range")=some none)
 (g_list:nsIn K mainGlobals (S "list")=some none)
 (g_type:nsIn K mainGlobals (S "type")=some none)
 (g_str:nsIn K mainGlobals (S "str")=some none)
 (g_tuple:nsIn K mainGlobals (S "tuple")=some none)
 (g_bool:nsIn K mainGlobals (S "bool")=some none)
 (g_set:nsIn K mainGlobals (S "set")=some none)
 (g_StopIteration:nsIn K mainGlobals (S "StopIteration")=some none)
 (initPeek:∀(a:Addr) (U:Setting),peek K U (bindArgs (Cs K 114 d) ⟨[.ref a],[]⟩)=some [(S "self",.ref a),(S "graph",.none)])
 (addP:∀(u v:Value) (ws:List Value),bindArgs (Cs K 128 d) ⟨u::v::ws,[]⟩=(newTuple ws >>=fun t=>pure [(S "self",u),(S "node",v),(S "predecessors",t)]))
 (doneP:∀(u:Value) (ws:List Value),bindArgs (Cs K 161 d) ⟨u::ws,[]⟩=(newTuple ws >>=fun t=>pure [(S "self",u),(S "nodes",t)])):LawK V w H K RZ 96:=by
 have hmg:∃o,H.get? mainGlobals=some o:=let⟨o,_,_,e,_⟩:=T.g;⟨o,e⟩;have gn:Vi K H RZ:=⟨121,_,JW mt1 X T mf1 my1,HQ mb1⟩;exact{
  hK:=X
  ck:=ckls
  nk:=⟨mk2,⟨77,_,nf1,ny1,nt1.g X T,HQ nb1⟩,Dy X T nC2⟩
  sk:=⟨mk1,hmg,⟨114,_,mf0,my0,mt0.g X T,fun a A s zy vs B m=>by
   obtain⟨v,rfl,e⟩:=C7 m;obtain rfl:v=.ref a:=e;exact kp_binds (X.keeps B.h0) (fun U=>initPeek a U) _ _ _ _ (Pu.here ⟨[.ref a,.none],rfl,rfl,⟨[],.none⟩,trivial⟩)⟩,Dy X T nC1⟩
  ak:=⟨⟨128,_,JW mt2 X T mf2 my2,N0 addP⟩,gn,BC X T g_len rfl (by decide +kernel)⟩
  pk:=⟨⟨168,_,JW mt8 X T mf8 my8,FG mb8⟩,⟨BC X T g_set rfl (by decide +kernel),BC X T g_iter rfl (by decide +kernel),BC X T g_len rfl (by decide +kernel),BC X T g_StopIteration rfl (by decide +kernel)⟩,hmg,⟨⟨mg,T.g,own_of_in X T nexc exc96⟩,PySem.F.excBase_ValueError⟩⟩
  prk:=⟨133,_,JW mt3 X T mf3 my3,FG mb3⟩
  rk:={
   act:=⟨147,_,JW mt5 X T mf5 my5,FG mb5⟩
   got:=⟨140,_,JW mt4 X T mf4 my4,FG mb4⟩
   done:=⟨161,_,JW mt7 X T mf7 my7,NZ doneP⟩
   len:=BC X T g_len rfl (by decide +kernel)
   tup:=BC X T g_tuple rfl (by decide +kernel)
   bool:=BC X T g_bool rfl (by decide +kernel)
   out:=⟨506,Dy X T i_NODE_OUT⟩
   dn:=⟨509,Dy X T i_NODE_DONE⟩}
  mg:=hmg
  min:=BC X T g_min rfl (by decide +kernel)
  sum:=BC X T g_sum rfl (by decide +kernel)
  zip:=BC X T g_zip rfl (by decide +kernel)
  range:=BC X T g_range rfl (by decide +kernel)
  list:=BC X T g_list rfl (by decide +kernel)
  sorted:=BC X T g_sorted rfl (by decide +kernel)
  type:=BC X T g_type rfl (by decide +kernel)
  isi:=BC X T g_isinstance rfl (by decide +kernel)
  str:=BC X T g_str rfl (by decide +kernel)
  case:=⟨691,Dy X T i_CASE_COST⟩
  move:=⟨689,Dy X T i_MOVE_COST⟩
  max:=⟨687,Dy X T i_MAX_STRING_SIZE⟩
  tab:=by
   refine Dz (UC (V:=V) (w:=w) X tab45 rfl) fun tf h1 h2 h3=>?_;exact⟨45,tf,h1,Dy X T ntab,h2,h3⟩
  d5:=GJ at5 X T n5 (FG b5)
  d7:=GJ at7 X T n7 (TN b7)
  d18:=GJ at18 X T n18 (HQ b18)
  d19:=GJ at19 X T n19 (TN b19)
  d21:=GJ at21 X T n21 (FG b21)
  d22:=GJ at22 X T n22 (FG b22)
  d23:=GJ at23 X T n23 (HQ b23)
  d24:=GJ at24 X T n24 (HQ b24)
  d25:=GJ at25 X T n25 (HQ b25)
  d26:=GJ at26 X T n26 (HQ b26)
  d27:=GJ at27 X T n27 (FG b27)
  d28:=GJ at28 X T n28 (FG b28)
  d29:=GJ at29 X T n29 (FG b29)
  d30:=GJ at30 X T n30 (FG b30)
  d31:=GJ at31 X T n31 (HQ b31)
  d32:=GJ at32 X T n32 (HQ b32)
 }
theorem Im{R:WRecords}:∀{xs:List WData},WShape.hasItems R xs .int=true->∃ns:List Int,xs=ns.map .int:=by
 intro xs
 induction xs with
 |nil=>
  intro Z;exact⟨[],rfl⟩
 |cons x xs Im=>
  intro h;rw[WShape.hasItems,Bool.and_eq_true] at h;refine ex1 (hasW_int h.1) fun i x2=>?_;subst x2;refine ex1 (Im h.2) fun ns x2=>?_;subst x2;exact⟨i::ns,rfl⟩
theorem Hi{R:WRecords}{cl:Str->Option Addr}{h g:Heap}:∀{ns:List Int} {vs:List Value} {as:List Addr},ReadsAllW R cl h vs (ns.map .int) as->F2 (fun v d=>Rd d g v) vs (ns.map PyData.int):=by
 intro ns
 induction ns with
 |nil=>
  intro vs as r;rw[(readsAllW_nil_inv r).1];exact .nil
 |cons i ns Hi=>
  intro vs as r;refine OJ (readsAllW_cons_inv r) fun v vs Z Z h9=>?_;refine JX h9 fun x5 Z a b=>?_;clear h9;subst x5;refine Ad (readsW_int_inv a) fun t x2 Z=>?_;subst x2;exact .cons (BN _ _ _) (Hi b)
theorem R0{args:List WData}(h:PySem.Challenge.rw_rx0086_01.row.toRowW.claim.pre args=true):∃ns:List Int,args=[.list (ns.map .int)]∧ns.length≤63:=by
 obtain⟨h1,h2⟩:=pre_splitW h;have e:PySem.Challenge.rw_rx0086_01.row.toRowW.args=[.list .int]:=rfl;rw[e] at h1;obtain⟨d,r,rfl,a,b⟩:=hasAllW_cons h1;have:=hasAllW_nil b;subst this;obtain⟨xs,rfl,hx⟩:=hasW_list a;obtain⟨ns,rfl⟩:=Im hx;refine⟨ns,rfl,?_⟩;have e2:PySem.Challenge.rw_rx0086_01.row.toRowW.pre=.and (.not (.lt (.lit (.int 63)) (.len (.arg 0)))) (.lit (.bool true)):=rfl;rw[e2] at h2;obtain⟨h3,_⟩:=holds_andW h2;have key:∀b:Bool,WTm.holds PySem.Challenge.rw_rx0086_01.row.toRowW.records (.not (.lit (.bool b))) {args:=[.list (ns.map WData.int)],res:=none,after:=[]}=true->b=false:=fun b h=>by
  cases b
  ·rfl
  ·exact EP h
 have h4:¬(63:Int)<((ns.map WData.int).length:Int):=of_decide_eq_false (key (decide ((63:Int)<((ns.map WData.int).length:Int))) h3);rw[length_map] at h4
 lia
theorem R2(args ds:List WData):PySem.Challenge.rw_rx0086_01.row.toRowW.claim.post args (.bool true) ds=true:=by
 have e1:WShape.has PySem.Challenge.rw_rx0086_01.row.records (.bool true) .bool=true:=by rfl
 have e2:WTm.holds PySem.Challenge.rw_rx0086_01.row.records (.eq .res (.lit (.bool true))) {args:=args,res:=some (.bool true),after:=ds}=true:=by kernel_rfl!
 exact(Bool.and_eq_true ..).mpr ⟨e1,e2⟩
noncomputable def VH:FuncData:=docDef (S "") {posonlyargs:=[],args:=[],vararg:=none,kwonlyargs:=[],kw_defaults:=[],kwarg:=none,defaults:=[]} [] Tq .none .none .none
section
variable{V:Program}{w:World}{K:Frag}{c:Cls2}{C:Addr}{s₁:Shared}
theorem PV(h:Heap):Base h [] h:=⟨fun b o e=>AQ e (BK),fun a m=>BK m⟩
theorem R3(k:LawK V w s₁.heap K c C){a:Addr}{fd:FuncData}(D:DefG s₁.heap a fd Tq (AD (B7 33)))(hb:∀vs:List Value,vs.length=[S "script"].length->bindArgs fd ⟨vs,[]⟩=pure ([S "script"].zip vs)){ns:List Int}(hz:ns.length≤63){v:Value}(hv:Rd (.list (ns.map .int)) (vis s₁.heap []) v):
  wpAny (model V w) callerA (call (.ref a) [v]) (fun u s'=>u=.bool true∧(∀b o,s₁.heap.get? b=some o->s'.heap.get? b=some o)∧s'.os=s₁.os∧s'.gens=s₁.gens) CO s₁:=by
 have F:FnF true V w s₁.heap 7 (.ref a) [.d (.list (ns.map .int))] [] (fun g u Z=>Rd (.bool true) g u):=Ew (x:=true) (n:=6) (ps:=[S "script"]) (xs':=[.d (.list (ns.map .int))]) D (Cb hb rfl) rfl rfl (ET (RX k ns hz) fun g fl σ' zx' q=>by
  refine Ad q fun u x2 x3=>?_;try clear q;revert x3;intro q;subst x2
  exact q)
 have good:Good 7 callerA:=⟨rfl,by show 1+claimMargin+7<recursionLimit;decide,by show 4+8*7+200<cLine;decide⟩;refine wpAny_call (codeAny_mono (F callerA [] s₁ [] [v] good (PV _) ⟨(fun p m=>BK m),(fun p m=>BK m)⟩ (show _∧_∧_ from⟨rfl,(fun e m=>BK m),(fun b m=>BK m)⟩) (fun b m=>BK m) ⟨hv,trivial⟩) fun r s' z=>?_);rcases r with e|(u|_|_|_)<;> first|exact z.elim|skip
 obtain⟨h',tk,zy',L',rfl,ku,_,_,_,_,_,q⟩:=z;exact⟨E6 q,fun b o e=>ku.1 b o (BK) (BK) e,rfl,rfl⟩
end
end Mine.Internal
namespace Mine
open Mine.Internal
namespace main
theorem tw10047389527955405517:1=1:=rfl
theorem tw10094358506670053839:1=1:=rfl
theorem tw10140136200207757160:1=1:=rfl
theorem tw10159738436595150677:1=1:=rfl
theorem tw10177057350305019805:1=1:=rfl
theorem tw10199874654664476236:1=1:=rfl
theorem tw10204856939554784155:1=1:=rfl
theorem tw10234815189450012239:1=1:=rfl
theorem tw10298723112805639129:1=1:=rfl
theorem tw10363585996791799541:1=1:=rfl
theorem tw104360540948158410:1=1:=rfl
theorem tw10450603732522932521:1=1:=rfl
theorem tw1054321117371714560:1=1:=rfl
theorem tw10609540516017602915:1=1:=rfl
theorem tw10625486282989778954:1=1:=rfl
theorem tw10642606787283503386:1=1:=rfl
theorem tw10669944970481658594:1=1:=rfl
theorem tw10707853282979444102:1=1:=rfl
theorem tw10825838108423173272:1=1:=rfl
theorem tw1084114956928915155:1=1:=rfl
theorem tw10876375607700338302:1=1:=rfl
theorem tw10877679251791092727:1=1:=rfl
theorem tw10896356407431480244:1=1:=rfl
theorem tw1099256609624015869:1=1:=rfl
theorem tw11003572833241299968:1=1:=rfl
theorem tw11101190512080308003:1=1:=rfl
theorem tw11156056980113079860:1=1:=rfl
theorem tw11182973995046164717:1=1:=rfl
theorem tw11403851563620829512:1=1:=rfl
theorem tw11461230924637031220:1=1:=rfl
theorem tw11501822485730972192:1=1:=rfl
theorem tw1157997071576566072:1=1:=rfl
theorem tw11646826074482590764:1=1:=rfl
theorem tw11710404883906591787:1=1:=rfl
theorem tw11752208632293872130:1=1:=rfl
theorem tw1178595665728414349:1=1:=rfl
theorem tw11857135199678951331:1=1:=rfl
theorem tw11982392923317675503:1=1:=rfl
theorem tw12077450504624328385:1=1:=rfl
theorem tw12205347405646519318:1=1:=rfl
theorem tw12247328531587918298:1=1:=rfl
theorem tw12252054271945606052:1=1:=rfl
theorem tw12277023271486646383:1=1:=rfl
theorem tw12298629886278197574:1=1:=rfl
theorem tw1236483940969888574:1=1:=rfl
theorem tw12431561837914552411:1=1:=rfl
theorem tw12455012482086183272:1=1:=rfl
theorem tw12518504611687188807:1=1:=rfl
theorem tw12590340796369385619:1=1:=rfl
theorem tw12623159325031504133:1=1:=rfl
theorem tw12646911602827044314:1=1:=rfl
theorem tw12670839924663504800:1=1:=rfl
theorem tw1270039299266317192:1=1:=rfl
theorem tw12839114828313443825:1=1:=rfl
theorem tw12872379398031375081:1=1:=rfl
theorem tw12885673836220544336:1=1:=rfl
theorem tw12900284412222446716:1=1:=rfl
theorem tw12922898485456448571:1=1:=rfl
theorem tw12927740378394474205:1=1:=rfl
theorem tw12939479104171293914:1=1:=rfl
theorem tw13113777628852026922:1=1:=rfl
theorem tw13219505800766818778:1=1:=rfl
theorem tw13224007501803129859:1=1:=rfl
theorem tw13270728482189477470:1=1:=rfl
theorem tw13293747886898857621:1=1:=rfl
theorem tw13348322127785295214:1=1:=rfl
theorem tw13350764725976880583:1=1:=rfl
theorem tw13355152605343272895:1=1:=rfl
theorem tw13590572293223372214:1=1:=rfl
theorem tw13626721169425172152:1=1:=rfl
theorem tw1363464937288350761:1=1:=rfl
theorem tw13642826006792871662:1=1:=rfl
theorem tw13667920496262714385:1=1:=rfl
theorem tw13676971244355772609:1=1:=rfl
theorem tw13693970394777133609:1=1:=rfl
theorem tw13707940170689118305:1=1:=rfl
theorem tw13724616953566380437:1=1:=rfl
theorem tw13777938177461255882:1=1:=rfl
theorem tw13803360072150633466:1=1:=rfl
theorem tw13838900630717943254:1=1:=rfl
theorem tw13876859957761632879:1=1:=rfl
theorem tw1390771862084280389:1=1:=rfl
theorem tw13962693860625380366:1=1:=rfl
theorem tw14009396871252706886:1=1:=rfl
theorem tw14027531716089632829:1=1:=rfl
theorem tw14061640607465278742:1=1:=rfl
theorem tw14064073609400967072:1=1:=rfl
theorem tw14097447854668400296:1=1:=rfl
theorem tw1409966394225722968:1=1:=rfl
theorem tw1414890596213149585:1=1:=rfl
theorem tw14231279515562504530:1=1:=rfl
theorem tw1429040668314091153:1=1:=rfl
theorem tw14336152960031413752:1=1:=rfl
theorem tw1439166485080882:1=1:=rfl
theorem tw14439473939278146460:1=1:=rfl
theorem tw14457758005677747962:1=1:=rfl
theorem tw14510055921401542917:1=1:=rfl
theorem tw1453356044741674121:1=1:=rfl
theorem tw14625788440519214713:1=1:=rfl
theorem tw14635473669698735251:1=1:=rfl
theorem tw14639212616227390028:1=1:=rfl
theorem tw14672674291997333471:1=1:=rfl
theorem tw14722489848711283861:1=1:=rfl
theorem tw14759895335926876869:1=1:=rfl
theorem tw14793117695081215449:1=1:=rfl
theorem tw14907226015203709474:1=1:=rfl
theorem tw14909365282108701170:1=1:=rfl
theorem tw15015763463395708765:1=1:=rfl
theorem tw15017983477296125989:1=1:=rfl
theorem tw15079240505294077160:1=1:=rfl
theorem tw15109750227778091905:1=1:=rfl
theorem tw15270170921892066516:1=1:=rfl
theorem tw15303317825217679618:1=1:=rfl
theorem tw15342904991969174519:1=1:=rfl
theorem tw15365013842991253249:1=1:=rfl
theorem tw15467891735981029475:1=1:=rfl
theorem tw15491723280356408159:1=1:=rfl
theorem tw15514936471743626214:1=1:=rfl
theorem tw15595112118272840620:1=1:=rfl
theorem tw15622959790217612890:1=1:=rfl
theorem tw15624239662980076321:1=1:=rfl
theorem tw15643365686152983790:1=1:=rfl
theorem tw15695540700222938540:1=1:=rfl
theorem tw15737690656516749961:1=1:=rfl
theorem tw15803610866087392283:1=1:=rfl
theorem tw15806524323241146399:1=1:=rfl
theorem tw1587290215689348708:1=1:=rfl
theorem tw16008252555379753968:1=1:=rfl
theorem tw16008457594558532635:1=1:=rfl
theorem tw16035907590883218939:1=1:=rfl
theorem tw16046730324260685337:1=1:=rfl
theorem tw16049902774474827687:1=1:=rfl
theorem tw16054675910591980869:1=1:=rfl
theorem tw16058785470767179954:1=1:=rfl
theorem tw16123001533466179255:1=1:=rfl
theorem tw16153842264607907944:1=1:=rfl
theorem tw16187894506366716058:1=1:=rfl
theorem tw16193401482309157537:1=1:=rfl
theorem tw16251939892948500945:1=1:=rfl
theorem tw1632041292262086317:1=1:=rfl
theorem tw16356685582667847594:1=1:=rfl
theorem tw16361134009908129286:1=1:=rfl
theorem tw16411370214107742406:1=1:=rfl
theorem tw16480584520131690045:1=1:=rfl
theorem tw16519101796099990279:1=1:=rfl
theorem tw16526465390540125346:1=1:=rfl
theorem tw16629339528299215175:1=1:=rfl
theorem tw16710147508514199302:1=1:=rfl
theorem tw16756631487020416482:1=1:=rfl
theorem tw16826212616301561204:1=1:=rfl
theorem tw16832360635688203351:1=1:=rfl
theorem tw16922381011570985944:1=1:=rfl
theorem tw16923884221124529275:1=1:=rfl
theorem tw16952715711813285254:1=1:=rfl
theorem tw16965079339398995527:1=1:=rfl
theorem tw17052023290607921161:1=1:=rfl
theorem tw17057053908230417247:1=1:=rfl
theorem tw17091655785135471103:1=1:=rfl
theorem tw1714950047550659301:1=1:=rfl
theorem tw17223442867436993403:1=1:=rfl
theorem tw17236958762192778904:1=1:=rfl
theorem tw17286089631180046979:1=1:=rfl
theorem tw17292155258170135553:1=1:=rfl
theorem tw17297283025540448806:1=1:=rfl
theorem tw17336282652733537790:1=1:=rfl
theorem tw17353955331779342651:1=1:=rfl
theorem tw17477492558424962760:1=1:=rfl
theorem tw17510229520200029679:1=1:=rfl
theorem tw17679725944135375923:1=1:=rfl
theorem tw17695171507069755227:1=1:=rfl
theorem tw17708487481403421675:1=1:=rfl
theorem tw17715262827843222689:1=1:=rfl
theorem tw17725498274588495791:1=1:=rfl
theorem tw17731760422528437689:1=1:=rfl
theorem tw17737603089517620647:1=1:=rfl
theorem tw17958375852430007124:1=1:=rfl
theorem tw17974016328880235120:1=1:=rfl
theorem tw18002892410530523996:1=1:=rfl
theorem tw18072910330486901160:1=1:=rfl
theorem tw18134284020713443437:1=1:=rfl
theorem tw18218335207050127959:1=1:=rfl
theorem tw18234761425742761375:1=1:=rfl
theorem tw1826329307503635854:1=1:=rfl
theorem tw18284262389922463811:1=1:=rfl
theorem tw18302796317244248524:1=1:=rfl
theorem tw18315214858253571532:1=1:=rfl
theorem tw18325589031809861271:1=1:=rfl
theorem tw18332899500509843999:1=1:=rfl
theorem tw18403998269306519403:1=1:=rfl
theorem tw18442785490491869365:1=1:=rfl
theorem tw1886488596296156277:1=1:=rfl
theorem tw2007339730380871907:1=1:=rfl
theorem tw2019394398466159022:1=1:=rfl
theorem tw214440937780211681:1=1:=rfl
theorem tw2164743871083121425:1=1:=rfl
theorem tw2190695567426971638:1=1:=rfl
theorem tw2195194259037543316:1=1:=rfl
theorem tw2217372664714993069:1=1:=rfl
theorem tw221909299271738847:1=1:=rfl
theorem tw2225956059507018244:1=1:=rfl
theorem tw223528310411579522:1=1:=rfl
theorem tw2279707942289718827:1=1:=rfl
theorem tw2287757881348798766:1=1:=rfl
theorem tw2354262462317623899:1=1:=rfl
theorem tw2433702464844828792:1=1:=rfl
theorem tw2496676261509829067:1=1:=rfl
theorem tw2524017781993486291:1=1:=rfl
theorem tw2583023086579268501:1=1:=rfl
theorem tw2629084897520917108:1=1:=rfl
theorem tw26460320976224356:1=1:=rfl
theorem tw2702614204127132176:1=1:=rfl
theorem tw2724176850512262202:1=1:=rfl
theorem tw2729793432009153956:1=1:=rfl
theorem tw2759098988195820126:1=1:=rfl
theorem tw2831108078445688533:1=1:=rfl
theorem tw2852251193174398662:1=1:=rfl
theorem tw2895952525429962455:1=1:=rfl
theorem tw2906824675625879941:1=1:=rfl
theorem tw302440914744352476:1=1:=rfl
theorem tw31828345220925962:1=1:=rfl
theorem tw3234112476842188716:1=1:=rfl
theorem tw3299218664060906527:1=1:=rfl
theorem tw3343439749351644125:1=1:=rfl
theorem tw33456957511925785:1=1:=rfl
theorem tw341453280667917650:1=1:=rfl
theorem tw3454311308915712629:1=1:=rfl
theorem tw3466206800631347469:1=1:=rfl
theorem tw3532412968194664532:1=1:=rfl
theorem tw3543165509663861734:1=1:=rfl
theorem tw3550944181758424347:1=1:=rfl
theorem tw3557749057250611081:1=1:=rfl
theorem tw3562595001068472590:1=1:=rfl
theorem tw3583811862363856187:1=1:=rfl
theorem tw3626430660855392483:1=1:=rfl
theorem tw3627144658338631552:1=1:=rfl
theorem tw3779293765908593550:1=1:=rfl
theorem tw3796207824708393856:1=1:=rfl
theorem tw3829396358689915599:1=1:=rfl
theorem tw3848698983108048278:1=1:=rfl
theorem tw3934531018447913466:1=1:=rfl
theorem tw4039676971129161736:1=1:=rfl
theorem tw4044139247061151142:1=1:=rfl
theorem tw4126091431370883743:1=1:=rfl
theorem tw4189750870438640210:1=1:=rfl
theorem tw4261964983698606537:1=1:=rfl
theorem tw4297412468100583042:1=1:=rfl
theorem tw4333880214566435006:1=1:=rfl
theorem tw4349661683990043111:1=1:=rfl
theorem tw4475767826048309731:1=1:=rfl
theorem tw4500915450034043215:1=1:=rfl
theorem tw451873465583785326:1=1:=rfl
theorem tw4544244032028310869:1=1:=rfl
theorem tw4573282807186111410:1=1:=rfl
theorem tw4637267157515435788:1=1:=rfl
theorem tw4775608329324902142:1=1:=rfl
theorem tw4839478117068044826:1=1:=rfl
theorem tw4900431672193113347:1=1:=rfl
theorem tw4990475226369331113:1=1:=rfl
theorem tw5061512775090418087:1=1:=rfl
theorem tw5084117380071580128:1=1:=rfl
theorem tw5091726699305991454:1=1:=rfl
theorem tw5102693214775723256:1=1:=rfl
theorem tw5127751686995613262:1=1:=rfl
theorem tw5160751907100791332:1=1:=rfl
theorem tw5203219222101121401:1=1:=rfl
theorem tw52199770228462824:1=1:=rfl
theorem tw5240536507193477226:1=1:=rfl
theorem tw5240779543111244032:1=1:=rfl
theorem tw5243159528196176124:1=1:=rfl
theorem tw5252631529969781882:1=1:=rfl
theorem tw5401703158475992631:1=1:=rfl
theorem tw5429916682960757874:1=1:=rfl
theorem tw5436791530062809996:1=1:=rfl
theorem tw5473700226181020891:1=1:=rfl
theorem tw5507402815253087181:1=1:=rfl
theorem tw5518243967957118194:1=1:=rfl
theorem tw5532463470591059822:1=1:=rfl
theorem tw5571399437266216444:1=1:=rfl
theorem tw5613160597433933154:1=1:=rfl
theorem tw5649967823195072380:1=1:=rfl
theorem tw5665735395497279834:1=1:=rfl
theorem tw5871769198996169552:1=1:=rfl
theorem tw5986746524968583624:1=1:=rfl
theorem tw6044114016751833949:1=1:=rfl
theorem tw6112859857366181021:1=1:=rfl
theorem tw6161133996638707016:1=1:=rfl
theorem tw6334894449686545209:1=1:=rfl
theorem tw6370693359617921383:1=1:=rfl
theorem tw6385024630547198690:1=1:=rfl
theorem tw6511744376749373798:1=1:=rfl
theorem tw6541472054586571296:1=1:=rfl
theorem tw6545385358150927430:1=1:=rfl
theorem tw6557543464795787104:1=1:=rfl
theorem tw656089360051881306:1=1:=rfl
theorem tw65644731488775911:1=1:=rfl
theorem tw6605519222145581350:1=1:=rfl
theorem tw66260789543402106:1=1:=rfl
theorem tw6635558491612396129:1=1:=rfl
theorem tw6655696309031964122:1=1:=rfl
theorem tw6660377722381337597:1=1:=rfl
theorem tw6696893160125735727:1=1:=rfl
theorem tw6741292078354696603:1=1:=rfl
theorem tw6785657489111691699:1=1:=rfl
theorem tw6816035884023179109:1=1:=rfl
theorem tw6862492499505807319:1=1:=rfl
theorem tw6877560268529008848:1=1:=rfl
theorem tw6886502059237256666:1=1:=rfl
theorem tw6910295442248876197:1=1:=rfl
theorem tw6912675738884088206:1=1:=rfl
theorem tw7083192437325867461:1=1:=rfl
theorem tw7173623326730630234:1=1:=rfl
theorem tw7186131708394509389:1=1:=rfl
theorem tw7214478077546791972:1=1:=rfl
theorem tw7235775444256392728:1=1:=rfl
theorem tw7237411587787531456:1=1:=rfl
theorem tw7293298908176781663:1=1:=rfl
theorem tw73751810991705359:1=1:=rfl
theorem tw7380652910202371479:1=1:=rfl
theorem tw7411558596216406370:1=1:=rfl
theorem tw7436448052282571913:1=1:=rfl
theorem tw750237026923860459:1=1:=rfl
theorem tw7514964652732493775:1=1:=rfl
theorem tw7590696779544312186:1=1:=rfl
theorem tw7698036289167662538:1=1:=rfl
theorem tw7712634645042067442:1=1:=rfl
theorem tw7751025194823839400:1=1:=rfl
theorem tw7761410557224570781:1=1:=rfl
theorem tw776541413106115532:1=1:=rfl
theorem tw8118072479153026202:1=1:=rfl
theorem tw8207831470162742035:1=1:=rfl
theorem tw8211959896082780389:1=1:=rfl
theorem tw832900586485598795:1=1:=rfl
theorem tw834873547066669988:1=1:=rfl
theorem tw8475525182357872103:1=1:=rfl
theorem tw8478376212529829071:1=1:=rfl
theorem tw8557395850702784662:1=1:=rfl
theorem tw8610315236036937458:1=1:=rfl
theorem tw8663697691656813868:1=1:=rfl
theorem tw8748973510418095054:1=1:=rfl
theorem tw8862035390616371223:1=1:=rfl
theorem tw8905464785575363620:1=1:=rfl
theorem tw8930851030842425676:1=1:=rfl
theorem tw8947760058931562597:1=1:=rfl
theorem tw9069182735580402390:1=1:=rfl
theorem tw9121559901702372667:1=1:=rfl
theorem tw9191982752017346530:1=1:=rfl
theorem tw9265829497004654079:1=1:=rfl
theorem tw9361300454564663673:1=1:=rfl
theorem tw9381277316556691805:1=1:=rfl
theorem tw9508770018378322450:1=1:=rfl
theorem tw9512817274939609580:1=1:=rfl
theorem tw9557352009045844224:1=1:=rfl
theorem tw9561784451562097942:1=1:=rfl
theorem tw9563168847844234846:1=1:=rfl
theorem tw961187720498965250:1=1:=rfl
theorem tw9656510801202774680:1=1:=rfl
theorem tw9681375758050803366:1=1:=rfl
theorem tw9756827057097773860:1=1:=rfl
theorem tw979501456738626862:1=1:=rfl
theorem tw9840939614602229412:1=1:=rfl
theorem tw9848185148710128376:1=1:=rfl
theorem tw9897820754763898449:1=1:=rfl
theorem tw9986019674649008433:1=1:=rfl
end main

set_option Elab.async true in
set_option maxHeartbeats 8000000 in
theorem main:PySem.Challenge.rw_rx0086_01.Holds:=by
 w_on;o_law;k_head
 case hw=>w_witness2
 intro w s₀ s₁ mg mb G Y a o pm cd doc dV kV ho hd' hcd hD hmg hg args vals as hpre hlay hrd hwl hlo;have X:=km_in_of Y;have T:=topRead_of G.T;obtain⟨ns,rfl,hz⟩:=R0 hpre;have hdV:dV=.none:=hD.pos_none rfl;subst hdV;obtain⟨v,vs',_,_,rfl,_,r1,r2⟩:=readsAllW_cons_inv hrd;obtain⟨rfl,_⟩:=readsAllW_nil_inv r2;obtain⟨l,ol,vs,nl,ai,rfl,h1,h2,h3,r,_⟩:=readsW_list_open r1;have hv:Rd (.list (ns.map .int)) (vis s₁.heap []) (.ref l):=D9 (vs:=vs.toList) ⟨ol,AQ h1 (fun m=>nomatch m),h2,nl,by simpa using h3⟩ (Hi r);refine Ah (R3 (Vx (V:=PySem.Challenge.pw_rx0086_01) (w:=w) (d:=VH) X T ?at5 ?b5 ?n5 ?at7 ?b7 ?n7 ?at18 ?b18 ?n18 ?at19 ?b19 ?n19 ?at21 ?b21 ?n21 ?at22 ?b22 ?n22 ?at23 ?b23 ?n23 ?at24 ?b24 ?n24 ?at25 ?b25 ?n25 ?at26 ?b26 ?n26 ?at27 ?b27 ?n27 ?at28 ?b28 ?n28 ?at29 ?b29 ?n29 ?at30 ?b30 ?n30 ?at31 ?b31 ?n31 ?at32 ?b32 ?n32 ?mt0 ?mf0 ?my0 ?mt1 ?mb1 ?mf1 ?my1 ?mt2 ?mf2 ?my2 ?mt3 ?mb3 ?mf3 ?my3 ?mt4 ?mb4 ?mf4 ?my4 ?mt5 ?mb5 ?mf5 ?my5 ?mt7 ?mf7 ?my7 ?mt8 ?mb8 ?mf8 ?my8 ?nt1 ?nb1 ?nf1 ?ny1 ?ckls ?exc96 ?nexc ?nC1 ?nC2 ?mk1 ?mk2 ?tab45 ?ntab ?i_CASE_COST ?i_MOVE_COST ?i_MAX_STRING_SIZE ?i_NODE_OUT ?i_NODE_DONE ?g_len ?g_min ?g_sum ?g_sorted ?g_isinstance ?g_iter ?g_zip ?g_range ?g_list ?g_type ?g_str ?g_tuple ?g_bool ?g_set ?g_StopIteration ?initPeek ?addP ?doneP) ⟨⟨o,ho,hd'⟩,T.nolimit,hcd,by kernel_rfl,by kernel_rfl,by kernel_rfl,by kernel_rfl,by kernel_rfl⟩ (FG fun u=>by kernel_rfl) hz hv) (fun u s' q=>?qq) fun _ _ f=>f.elim
 case qq=>
  obtain⟨rfl,q1,q2,q3⟩:=q;exact⟨.inl ⟨.bool true,.bool true,[],rfl,fun cls=>rfl,.bool true,R2 _ _,fun _=>⟨.nil,fun a m=>nomatch m⟩⟩,.of_keep q1,q2,.of_eq (by rw[q3,hg])⟩
 case ckls=>exact{
  c1:=⟨by kernel_rfl,by kernel_rfl,by kernel_rfl,by kernel_rfl,by kernel_rfl⟩
  c2:=⟨by kernel_rfl,by kernel_rfl,by kernel_rfl,by kernel_rfl,by kernel_rfl⟩
  f1:=by unfold B6;kernel_rfl
  f2:=by unfold B6;kernel_rfl
  f3:=by unfold B6;kernel_rfl
  f4:=by unfold B6;kernel_rfl
  s0:=⟨82,by kernel_rfl,by kernel_rfl,by kernel_rfl,by kernel_rfl,by kernel_rfl,by decide⟩
  s1:=⟨83,by kernel_rfl,by kernel_rfl,by kernel_rfl,by kernel_rfl,by kernel_rfl,by decide⟩
  s2:=⟨84,by kernel_rfl,by kernel_rfl,by kernel_rfl,by kernel_rfl,by kernel_rfl,by decide⟩}
 case addP=>intro u v ws;cases ws<;> kernel_rfl
 case doneP=>intro u ws;cases ws<;> kernel_rfl
 all_goals (intros;(try unfold DefAt);(try unfold RY);kernel_rfl)
end Mine
theorem PySem.Challenge.cw_rx0086_01_holds : PySem.Challenge.rw_rx0086_01.Holds :=
 Mine.main

